import PyProof.Rows.All
import Wide.All
import OpenK.AllK
import Wide.FinOn
import PySem.Challenge.RW_ux0021_01
open PySem PySem.W PyProof.Rows
set_option Elab.async false
set_option maxRecDepth 100000

section
namespace Mine

/-! the mini-values and the relation to the machine -/

inductive At where
  | ch (c : Nat)
  | dr (k : Nat)

inductive MV where
  | none
  | bool (b : Bool)
  | int (i : Int)
  | ti (i : Int)
  | sm (k : Nat)
  | cl (k : Nat) (x : Int)
  | str (s : List At)
  | ref (i : Nat)
  | fn (a : Nat)
  | scr

/-- the lists of a state: a tree, read by the bits of the number -/
inductive HT where
  | leaf
  | node (x : List MV) (l r : HT)
structure Hp where
  n : Nat
  t : HT
noncomputable def HT.get : HT → Nat → Option (List MV)
  | .leaf, _ => none
  | .node x l r, i => cond (Nat.beq i 0) (some x) (cond (Nat.beq (Nat.mod i 2) 1) (l.get (Nat.div (Nat.pred i) 2)) (r.get (Nat.div (Nat.pred i) 2)))
noncomputable def HT.put (y : List MV) : HT → Nat → HT
  | .leaf, _ => .node y .leaf .leaf
  | .node x l r, i => cond (Nat.beq i 0) (.node y l r) (cond (Nat.beq (Nat.mod i 2) 1) (HT.node x (HT.put y l (Nat.div (Nat.pred i) 2)) r) (HT.node x l (HT.put y r (Nat.div (Nat.pred i) 2))))
noncomputable def HT.Full : HT → Nat → Prop
  | .leaf, n => n = 0
  | .node _ l r, n => ∃ m, n = m + 1 ∧ l.Full ((m + 1) / 2) ∧ r.Full (m / 2)
noncomputable def hget (h : Hp) (r : Nat) : Option (List MV) := h.t.get r
noncomputable def hset (h : Hp) (r : Nat) (x : List MV) : Hp := ⟨h.n, h.t.put x r⟩
noncomputable def hpush (h : Hp) (x : List MV) : Hp := ⟨h.n + 1, h.t.put x h.n⟩
noncomputable def hlen (h : Hp) : Nat := h.n
noncomputable def hnil : Hp := ⟨0, .leaf⟩
noncomputable def HOk (h : Hp) : Prop := h.t.Full h.n

theorem HT.idx {i : Nat} (h : i ≠ 0) : Nat.beq i 0 = false := by cases i with | zero => exact absurd rfl h | succ n => rfl
theorem HT.odd {k : Nat} : Nat.beq (Nat.mod (2 * k + 1) 2) 1 = true ∧ Nat.div (Nat.pred (2 * k + 1)) 2 = k := by
  refine ⟨?_, ?_⟩
  · show Nat.beq ((2 * k + 1) % 2) 1 = true
    rw [show (2 * k + 1) % 2 = 1 by omega]; rfl
  · show (2 * k) / 2 = k
    omega
theorem HT.even {k : Nat} : Nat.beq (Nat.mod (2 * k + 2) 2) 1 = false ∧ Nat.div (Nat.pred (2 * k + 2)) 2 = k := by
  refine ⟨?_, ?_⟩
  · show Nat.beq ((2 * k + 2) % 2) 1 = false
    rw [show (2 * k + 2) % 2 = 0 by omega]; rfl
  · show (2 * k + 1) / 2 = k
    omega
theorem HT.cases3 (i : Nat) : i = 0 ∨ (∃ k, i = 2 * k + 1) ∨ ∃ k, i = 2 * k + 2 := by
  by_cases h : i = 0
  · exact .inl h
  · by_cases h2 : i % 2 = 1
    · exact .inr (.inl ⟨i / 2, by omega⟩)
    · exact .inr (.inr ⟨(i - 1) / 2, by omega⟩)
theorem HT.get_zero {x : List MV} {l r : HT} : (HT.node x l r).get 0 = some x := rfl
theorem HT.get_odd {x : List MV} {l r : HT} {k : Nat} : (HT.node x l r).get (2 * k + 1) = l.get k := by
  show cond (Nat.beq (2 * k + 1) 0) (some x) (cond (Nat.beq (Nat.mod (2 * k + 1) 2) 1) (l.get (Nat.div (Nat.pred (2 * k + 1)) 2)) (r.get (Nat.div (Nat.pred (2 * k + 1)) 2))) = _
  rw [HT.idx (by omega), HT.odd.1, HT.odd.2]; rfl
theorem HT.get_even {x : List MV} {l r : HT} {k : Nat} : (HT.node x l r).get (2 * k + 2) = r.get k := by
  show cond (Nat.beq (2 * k + 2) 0) (some x) (cond (Nat.beq (Nat.mod (2 * k + 2) 2) 1) (l.get (Nat.div (Nat.pred (2 * k + 2)) 2)) (r.get (Nat.div (Nat.pred (2 * k + 2)) 2))) = _
  rw [HT.idx (by omega), HT.even.1, HT.even.2]; rfl
theorem HT.put_zero {x y : List MV} {l r : HT} : HT.put y (HT.node x l r) 0 = .node y l r := rfl
theorem HT.put_odd {x y : List MV} {l r : HT} {k : Nat} : HT.put y (HT.node x l r) (2 * k + 1) = .node x (HT.put y l k) r := by
  show cond (Nat.beq (2 * k + 1) 0) _ (cond (Nat.beq (Nat.mod (2 * k + 1) 2) 1) (HT.node x (HT.put y l (Nat.div (Nat.pred (2 * k + 1)) 2)) r) (HT.node x l (HT.put y r (Nat.div (Nat.pred (2 * k + 1)) 2)))) = _
  rw [HT.idx (by omega), HT.odd.1, HT.odd.2]; rfl
theorem HT.put_even {x y : List MV} {l r : HT} {k : Nat} : HT.put y (HT.node x l r) (2 * k + 2) = .node x l (HT.put y r k) := by
  show cond (Nat.beq (2 * k + 2) 0) _ (cond (Nat.beq (Nat.mod (2 * k + 2) 2) 1) (HT.node x (HT.put y l (Nat.div (Nat.pred (2 * k + 2)) 2)) r) (HT.node x l (HT.put y r (Nat.div (Nat.pred (2 * k + 2)) 2)))) = _
  rw [HT.idx (by omega), HT.even.1, HT.even.2]; rfl

theorem HT.Full.has : ∀ {t : HT} {n i : Nat}, t.Full n → i < n → ∃ x, t.get i = some x
  | .leaf, n, i, h, hi => by
    have h : n = 0 := h
    omega
  | .node x l r, n, i, ⟨m, h1, h2, h3⟩, hi => by
    rcases HT.cases3 i with rfl | ⟨k, rfl⟩ | ⟨k, rfl⟩
    · exact ⟨x, rfl⟩
    · rw [HT.get_odd]; exact h2.has (by omega)
    · rw [HT.get_even]; exact h3.has (by omega)
theorem HT.Full.lt : ∀ {t : HT} {n i : Nat} {x : List MV}, t.Full n → t.get i = some x → i < n
  | .leaf, n, i, x, h, e => by cases e
  | .node y l r, n, i, x, ⟨m, h1, h2, h3⟩, e => by
    rcases HT.cases3 i with rfl | ⟨k, rfl⟩ | ⟨k, rfl⟩
    · omega
    · rw [HT.get_odd] at e
      have := h2.lt e
      omega
    · rw [HT.get_even] at e
      have := h3.lt e
      omega
theorem HT.Full.set : ∀ {t : HT} {n i : Nat} {y : List MV}, t.Full n → i < n → (HT.put y t i).Full n
  | .leaf, n, i, y, h, hi => by
    have h : n = 0 := h
    omega
  | .node x l r, n, i, y, ⟨m, h1, h2, h3⟩, hi => by
    rcases HT.cases3 i with rfl | ⟨k, rfl⟩ | ⟨k, rfl⟩
    · exact ⟨m, h1, h2, h3⟩
    · rw [HT.put_odd]; exact ⟨m, h1, h2.set (by omega), h3⟩
    · rw [HT.put_even]; exact ⟨m, h1, h2, h3.set (by omega)⟩
theorem HT.Full.push : ∀ {t : HT} {n : Nat} {y : List MV}, t.Full n → (HT.put y t n).Full (n + 1)
  | .leaf, n, y, h => by
    have h : n = 0 := h
    subst h
    exact ⟨0, rfl, rfl, rfl⟩
  | .node x l r, n, y, ⟨m, h1, h2, h3⟩ => by
    subst h1
    by_cases hm : m % 2 = 0
    · obtain ⟨k, hk⟩ : ∃ k, m + 1 = 2 * k + 1 := ⟨m / 2, by omega⟩
      rw [hk, HT.put_odd]
      have e1 : (m + 1) / 2 = k := by omega
      have e2 : m / 2 = k := by omega
      rw [e1] at h2; rw [e2] at h3
      refine ⟨2 * k + 1, by omega, ?_, ?_⟩
      · rw [show (2 * k + 1 + 1) / 2 = k + 1 by omega]; exact h2.push
      · rw [show (2 * k + 1) / 2 = k by omega]; exact h3
    · obtain ⟨k, hk⟩ : ∃ k, m + 1 = 2 * k + 2 := ⟨m / 2, by omega⟩
      rw [hk, HT.put_even]
      have e1 : (m + 1) / 2 = k + 1 := by omega
      have e2 : m / 2 = k := by omega
      rw [e1] at h2; rw [e2] at h3
      refine ⟨2 * k + 2, by omega, ?_, ?_⟩
      · rw [show (2 * k + 2 + 1) / 2 = k + 1 by omega]; exact h2
      · rw [show (2 * k + 2) / 2 = k + 1 by omega]; exact h3.push
theorem HT.get_put : ∀ {t : HT} {n i : Nat} {y : List MV}, t.Full n → i ≤ n → (HT.put y t i).get i = some y
  | .leaf, n, i, y, h, hi => by
    have h : n = 0 := h
    have : i = 0 := by omega
    subst this; rfl
  | .node x l r, n, i, y, ⟨m, h1, h2, h3⟩, hi => by
    rcases HT.cases3 i with rfl | ⟨k, rfl⟩ | ⟨k, rfl⟩
    · rfl
    · rw [HT.put_odd, HT.get_odd]; exact HT.get_put h2 (by omega)
    · rw [HT.put_even, HT.get_even]; exact HT.get_put h3 (by omega)
theorem HT.get_put_ne : ∀ {t : HT} {n i j : Nat} {y : List MV}, t.Full n → i ≤ n → i ≠ j → (HT.put y t i).get j = t.get j
  | .leaf, n, i, j, y, h, hi, hij => by
    have h : n = 0 := h
    have : i = 0 := by omega
    subst this
    rcases HT.cases3 j with rfl | ⟨k, rfl⟩ | ⟨k, rfl⟩
    · exact absurd rfl hij
    · show (HT.node y .leaf .leaf).get _ = _
      rw [HT.get_odd]; rfl
    · show (HT.node y .leaf .leaf).get _ = _
      rw [HT.get_even]; rfl
  | .node x l r, n, i, j, y, ⟨m, h1, h2, h3⟩, hi, hij => by
    rcases HT.cases3 i with rfl | ⟨k, rfl⟩ | ⟨k, rfl⟩ <;> rcases HT.cases3 j with rfl | ⟨q, rfl⟩ | ⟨q, rfl⟩
    · exact absurd rfl hij
    · rw [HT.put_zero, HT.get_odd, HT.get_odd]
    · rw [HT.put_zero, HT.get_even, HT.get_even]
    · rw [HT.put_odd]; rfl
    · rw [HT.put_odd, HT.get_odd, HT.get_odd]; exact HT.get_put_ne h2 (by omega) (by omega)
    · rw [HT.put_odd, HT.get_even, HT.get_even]
    · rw [HT.put_even]; rfl
    · rw [HT.put_even, HT.get_odd, HT.get_odd]
    · rw [HT.put_even, HT.get_even, HT.get_even]; exact HT.get_put_ne h3 (by omega) (by omega)

theorem HOk.nil : HOk hnil := rfl
theorem HOk.has {h : Hp} (k : HOk h) {i : Nat} (hi : i < hlen h) : ∃ x, hget h i = some x := HT.Full.has k hi
theorem HOk.lt {h : Hp} (k : HOk h) {i : Nat} {x : List MV} (e : hget h i = some x) : i < hlen h := HT.Full.lt k e
theorem HOk.set {h : Hp} (k : HOk h) {i : Nat} {x : List MV} (hi : i < hlen h) : HOk (hset h i x) := HT.Full.set k hi
theorem HOk.push {h : Hp} (k : HOk h) {x : List MV} : HOk (hpush h x) := HT.Full.push k
theorem hlen_push (h : Hp) (x : List MV) : hlen (hpush h x) = hlen h + 1 := rfl
theorem hlen_set (h : Hp) (i : Nat) (x : List MV) : hlen (hset h i x) = hlen h := rfl
theorem HOk.get_push {h : Hp} (k : HOk h) {x : List MV} : hget (hpush h x) (hlen h) = some x := HT.get_put k (Nat.le_refl _)
theorem HOk.get_push_lt {h : Hp} (k : HOk h) {x : List MV} {i : Nat} (hi : i < hlen h) : hget (hpush h x) i = hget h i := HT.get_put_ne k (Nat.le_refl _) (Nat.ne_of_gt hi)
theorem HOk.get_set {h : Hp} (k : HOk h) {x : List MV} {i : Nat} (hi : i < hlen h) : hget (hset h i x) i = some x := HT.get_put k (Nat.le_of_lt hi)
theorem HOk.get_set_ne {h : Hp} (k : HOk h) {x : List MV} {i j : Nat} (hi : i < hlen h) (hij : i ≠ j) : hget (hset h i x) j = hget h j := HT.get_put_ne k (Nat.le_of_lt hi) hij
noncomputable abbrev LV := List (Option MV)

structure Val where
  sv : Nat → Int
  dt : Nat → List Nat
  scr : Addr
  gk : List (Nat × GenState)
  lcd : Addr

noncomputable def flat (W : Val) : List At → List Nat
  | [] => []
  | .ch c :: r => c :: flat W r
  | .dr k :: r => W.dt k ++ flat W r

/-- the ghost of a state: where the lists lie, and which token stands for which number -/
structure Phi where
  l : List Addr
  tk : List (Nat × Int)
  tp : Bool
noncomputable def Phi.add (φ : Phi) (a : Addr) : Phi := ⟨φ.l ++ [a], φ.tk, φ.tp⟩
noncomputable def Phi.born (φ : Phi) (t : Nat) (i : Int) : Phi := ⟨φ.l, (t, i) :: φ.tk, φ.tp⟩
/-- the counter is known to have moved -/
noncomputable def Phi.on (φ : Phi) : Phi := ⟨φ.l, φ.tk, true⟩
noncomputable def Pre (φ φ' : Phi) : Prop := φ.l <+: φ'.l ∧ (∀ p ∈ φ.tk, p ∈ φ'.tk) ∧ (φ.tp = true → φ'.tp = true)
theorem Pre.add {φ : Phi} {a : Addr} : Pre φ (φ.add a) := ⟨⟨[a], rfl⟩, fun _ h => h, fun h => h⟩
theorem Pre.born {φ : Phi} {t : Nat} {i : Int} : Pre φ (φ.born t i) := ⟨List.prefix_refl _, fun _ h => List.mem_cons_of_mem _ h, fun h => h⟩
theorem Pre.on {φ : Phi} : Pre φ φ.on := ⟨List.prefix_refl _, fun _ h => h, fun _ => rfl⟩

noncomputable def VRel (W : Val) (φ : Phi) : MV → Value → Prop
  | .none, v => v = .none
  | .bool b, v => v = .bool b
  | .int i, v => ∃ t, v = .int i t
  | .ti i, v => ∃ t, v = .int i t ∧ (t, i) ∈ φ.tk
  | .sm k, v => ∃ t, v = .int (W.sv k) t
  | .cl k x, v => ∃ t, v = .int (x + W.sv k) t
  | .str s, v => ∃ y t, v = .str y t ∧ y.cps.toList = flat W s
  | .ref i, v => ∃ a, φ.l[i]? = some a ∧ v = .ref a
  | .fn a, v => v = .ref a
  | .scr, v => v = .ref W.scr

noncomputable def All2 (R : MV → Value → Prop) : List MV → List Value → Prop
  | [], [] => True
  | a :: as, b :: bs => R a b ∧ All2 R as bs
  | _, _ => False

noncomputable def LObj (W : Val) (φ : Phi) (items : List MV) (o : Obj) : Prop :=
  ∃ vs n, o = ({ cls := .type "list", data := .seq vs n } : Obj) ∧ All2 (VRel W φ) items vs.toList

noncomputable abbrev Res := Addr × (Obj → Prop)

structure Rel (W : Val) (g : Heap) (os0 : OsState) (φ : Phi) (σ : Hp) (X : List Res) (s : Shared) : Prop where
  keep : ∀ b o, g.get? b = some o → s.heap.get? b = some o
  len : φ.l.length = (hlen σ)
  hok : HOk σ
  lists : ∀ (i : Nat) (a : Addr) (items : List MV), φ.l[i]? = some a → (hget σ i) = some items → ∃ o, s.heap.get? a = some o ∧ LObj W φ items o
  xs : ∀ p ∈ X, ∃ o, s.heap.get? p.1 = some o ∧ p.2 o
  nd : (φ.l ++ X.map (·.1)).Nodup
  fresh : ∀ a ∈ φ.l ++ X.map (·.1), g.get? a = none
  os : s.os = os0
  bare : AllBare s.gens
  tpos : φ.tp = true → 1 ≤ s.toks
  tlt : ∀ p ∈ φ.tk, p.1 ≠ 0 ∧ p.1 < s.toks
  tfun : ∀ t i j, (t, i) ∈ φ.tk → (t, j) ∈ φ.tk → i = j
  gk : ∀ p ∈ W.gk, s.gens[p.1]? = some p.2

/-! monotony -/
theorem VRel.mono {W : Val} {φ φ' : Phi} (h : Pre φ φ') {m : MV} {v : Value} (r : VRel W φ m v) : VRel W φ' m v := by
  cases m <;> try exact r
  · obtain ⟨t, e, k⟩ := r
    exact ⟨t, e, h.2.1 _ k⟩
  obtain ⟨a, e, rfl⟩ := r
  obtain ⟨⟨l, h⟩, _⟩ := h
  refine ⟨a, ?_, rfl⟩
  have : _ < φ.l.length := (List.getElem?_eq_some_iff.mp e).1
  rw [← h, List.getElem?_append_left this]; exact e

theorem All2.mono {R R' : MV → Value → Prop} (h : ∀ m v, R m v → R' m v) : ∀ {ms : List MV} {vs : List Value}, All2 R ms vs → All2 R' ms vs
  | [], [], _ => trivial
  | _ :: _, _ :: _, ⟨a, b⟩ => ⟨h _ _ a, All2.mono h b⟩
  | [], _ :: _, x => x.elim
  | _ :: _, [], x => x.elim

theorem All2.length {R : MV → Value → Prop} : ∀ {ms : List MV} {vs : List Value}, All2 R ms vs → ms.length = vs.length
  | [], [], _ => rfl
  | _ :: _, _ :: _, ⟨_, b⟩ => by rw [List.length_cons, List.length_cons, All2.length b]
  | [], _ :: _, x => x.elim
  | _ :: _, [], x => x.elim

theorem All2.get {R : MV → Value → Prop} : ∀ {ms : List MV} {vs : List Value}, All2 R ms vs → ∀ {i : Nat} {m : MV}, ms[i]? = some m → ∃ v, vs[i]? = some v ∧ R m v
  | [], [], _, i, m, e => by simp at e
  | x :: ms, y :: vs, ⟨a, b⟩, 0, m, e => by
    simp at e; subst e; exact ⟨y, by simp, a⟩
  | x :: ms, y :: vs, ⟨a, b⟩, i + 1, m, e => by
    simp at e; simpa using b.get e
  | [], _ :: _, x, _, _, _ => x.elim
  | _ :: _, [], x, _, _, _ => x.elim

theorem All2.one {R : MV → Value → Prop} {a : MV} : ∀ {vs : List Value}, All2 R [a] vs → ∃ x, vs = [x] ∧ R a x
  | [x], ⟨h, _⟩ => ⟨x, rfl, h⟩
  | [], h => h.elim
  | _ :: _ :: _, ⟨_, h⟩ => h.elim
theorem All2.two {R : MV → Value → Prop} {a b : MV} : ∀ {vs : List Value}, All2 R [a, b] vs → ∃ x y, vs = [x, y] ∧ R a x ∧ R b y
  | _ :: _, ⟨h, h'⟩ => let ⟨y, e, k⟩ := h'.one; ⟨_, y, by rw [e], h, k⟩
  | [], h => h.elim
theorem All2.three {R : MV → Value → Prop} {a b c : MV} : ∀ {vs : List Value}, All2 R [a, b, c] vs → ∃ x y z, vs = [x, y, z] ∧ R a x ∧ R b y ∧ R c z
  | _ :: _, ⟨h, h'⟩ => let ⟨y, z, e, k⟩ := h'.two; ⟨_, y, z, by rw [e], h, k⟩
  | [], h => h.elim

theorem All2.append {R : MV → Value → Prop} : ∀ {ms ms' : List MV} {vs vs' : List Value}, All2 R ms vs → All2 R ms' vs' → All2 R (ms ++ ms') (vs ++ vs')
  | [], _, [], _, _, h => h
  | _ :: _, _, _ :: _, _, ⟨a, b⟩, h => ⟨a, b.append h⟩
  | [], _, _ :: _, _, x, _ => x.elim
  | _ :: _, _, [], _, x, _ => x.elim

theorem All2.set {R : MV → Value → Prop} : ∀ {ms : List MV} {vs : List Value} {m : MV} {v : Value} (i : Nat), All2 R ms vs → R m v → All2 R (ms.set i m) (vs.set i v)
  | [], [], _, _, _, _, _ => trivial
  | _ :: _, _ :: _, _, _, 0, ⟨_, b⟩, h => ⟨h, b⟩
  | _ :: _, _ :: _, _, _, i + 1, ⟨a, b⟩, h => ⟨a, b.set i h⟩
  | [], _ :: _, _, _, _, x, _ => x.elim
  | _ :: _, [], _, _, _, x, _ => x.elim

theorem All2.reverse {R : MV → Value → Prop} : ∀ {ms : List MV} {vs : List Value}, All2 R ms vs → All2 R ms.reverse vs.reverse
  | [], [], _ => trivial
  | x :: ms, y :: vs, ⟨a, b⟩ => by
    rw [List.reverse_cons, List.reverse_cons]
    exact All2.append (All2.reverse b) ⟨a, trivial⟩
  | [], _ :: _, x => x.elim
  | _ :: _, [], x => x.elim

theorem All2.take {R : MV → Value → Prop} : ∀ {ms : List MV} {vs : List Value} (i : Nat), All2 R ms vs → All2 R (ms.take i) (vs.take i)
  | _, _, 0, _ => by simp [All2]
  | [], [], i + 1, _ => by simp [All2]
  | _ :: _, _ :: _, i + 1, ⟨a, b⟩ => ⟨a, b.take i⟩
  | [], _ :: _, _ + 1, x => x.elim
  | _ :: _, [], _ + 1, x => x.elim
theorem All2.drop {R : MV → Value → Prop} : ∀ {ms : List MV} {vs : List Value} (i : Nat), All2 R ms vs → All2 R (ms.drop i) (vs.drop i)
  | _, _, 0, h => by simpa using h
  | [], [], i + 1, _ => by simp [All2]
  | _ :: _, _ :: _, i + 1, ⟨a, b⟩ => by simpa using b.drop i
  | [], _ :: _, _ + 1, x => x.elim
  | _ :: _, [], _ + 1, x => x.elim

theorem nodup_inj {l : List Addr} (h : l.Nodup) {i j : Nat} (hi : i < l.length) (hj : j < l.length) (e : l[i] = l[j]) : i = j := by
  have hp := List.pairwise_iff_getElem.mp h
  rcases Nat.lt_trichotomy i j with q | q | q
  · exact absurd e (hp i j hi hj q)
  · exact q
  · exact absurd e.symm (hp j i hj hi q)

theorem LObj.mono {W : Val} {φ φ' : Phi} (h : Pre φ φ') {items : List MV} {o : Obj} (r : LObj W φ items o) : LObj W φ' items o :=
  let ⟨vs, n, e, a⟩ := r; ⟨vs, n, e, a.mono fun _ _ => VRel.mono h⟩

section
variable {W : Val} {g : Heap} {os0 : OsState} {φ : Phi} {σ : Hp} {X X' : List Res} {s s' : Shared}

theorem Rel.ext (R : Rel W g os0 φ σ X s) (hk : ∀ b o, s.heap.get? b = some o → s'.heap.get? b = some o) (ho : s'.os = s.os := by rfl) (hg : s'.gens = s.gens := by rfl) (ht : s.toks ≤ s'.toks := by first | exact Nat.le_refl _ | exact Nat.le_succ _ | exact Nat.le_add_right _ _) : Rel W g os0 φ σ X s' where
  keep := fun b o e => hk _ _ (R.keep b o e)
  len := R.len
  hok := R.hok
  lists := fun i a items e1 e2 => let ⟨o, h1, h2⟩ := R.lists i a items e1 e2; ⟨o, hk _ _ h1, h2⟩
  xs := fun p hp => let ⟨o, h1, h2⟩ := R.xs p hp; ⟨o, hk _ _ h1, h2⟩
  nd := R.nd
  fresh := R.fresh
  os := ho.trans R.os
  bare := hg ▸ R.bare
  tpos := fun q => Nat.le_trans (R.tpos q) ht
  tlt := fun p hp => ⟨(R.tlt p hp).1, Nat.lt_of_lt_of_le (R.tlt p hp).2 ht⟩
  tfun := R.tfun
  gk := fun p hp => by rw [hg]; exact R.gk p hp

theorem Rel.perm (R : Rel W g os0 φ σ X s) (p : X.Perm X') : Rel W g os0 φ σ X' s where
  keep := R.keep
  len := R.len
  hok := R.hok
  lists := R.lists
  xs := fun q hq => R.xs q (p.mem_iff.mpr hq)
  nd := (List.Perm.nodup_iff ((List.Perm.append_left φ.l (p.map (·.1))))).mp R.nd
  fresh := fun a ha => R.fresh a (by
    rcases List.mem_append.mp ha with h | h
    · exact List.mem_append_left _ h
    · exact List.mem_append_right _ ((p.map (·.1)).mem_iff.mpr h))
  os := R.os
  bare := R.bare
  tpos := R.tpos
  tlt := R.tlt
  tfun := R.tfun
  gk := R.gk

theorem Rel.drop {x : Res} (R : Rel W g os0 φ σ (x :: X) s) : Rel W g os0 φ σ X s where
  keep := R.keep
  len := R.len
  hok := R.hok
  lists := R.lists
  xs := fun q hq => R.xs q (List.mem_cons_of_mem _ hq)
  nd := by
    have := R.nd
    rw [List.map_cons, List.nodup_append] at this
    rw [List.nodup_append]
    exact ⟨this.1, (List.nodup_cons.mp this.2.1).2, fun a ha b hb => this.2.2 a ha b (List.mem_cons_of_mem _ hb)⟩
  fresh := fun a ha => R.fresh a (by
    rcases List.mem_append.mp ha with h | h
    · exact List.mem_append_left _ h
    · exact List.mem_append_right _ (List.mem_cons_of_mem _ h))
  os := R.os
  bare := R.bare
  tpos := R.tpos
  tlt := R.tlt
  tfun := R.tfun
  gk := R.gk

theorem Rel.drops : ∀ {Y : List Res}, Rel W g os0 φ σ (Y ++ X) s → Rel W g os0 φ σ X s
  | [], R => R
  | _ :: _, R => Rel.drops (Rel.drop R)

theorem Rel.size (R : Rel W g os0 φ σ X s) {a : Addr} (ha : a ∈ φ.l ++ X.map (·.1)) : a < s.heap.objs.size := by
  rcases List.mem_append.mp ha with h | h
  · obtain ⟨i, hi, e⟩ := List.mem_iff_getElem.mp h
    have e1 : φ.l[i]? = some a := by rw [List.getElem?_eq_getElem hi, e]
    have hi' : i < (hlen σ) := R.len ▸ hi
    obtain ⟨xs, hxs⟩ := R.hok.has hi'
    obtain ⟨o, h1, _⟩ := R.lists i a xs e1 hxs
    exact Heap.lt_size h1
  · obtain ⟨p, hp, rfl⟩ := List.mem_map.mp h
    obtain ⟨o, h1, _⟩ := R.xs p hp
    exact Heap.lt_size h1

/-- a new resource -/
theorem Rel.push {a : Addr} {P : Obj → Prop} {o : Obj} (R : Rel W g os0 φ σ X s) (hk : ∀ b o, s.heap.get? b = some o → s'.heap.get? b = some o)
    (ha : s.heap.objs.size ≤ a) (h1 : s'.heap.get? a = some o) (h2 : P o) (ho : s'.os = s.os := by rfl) (hg : s'.gens = s.gens := by rfl) (ht : s.toks ≤ s'.toks := by first | exact Nat.le_refl _ | exact Nat.le_succ _ | exact Nat.le_add_right _ _) : Rel W g os0 φ σ ((a, P) :: X) s' := by
  have R' := R.ext hk ho hg ht
  have hn : a ∉ φ.l ++ X.map (·.1) := fun q => Nat.lt_irrefl _ (Nat.lt_of_lt_of_le (R.size q) ha)
  have hg' : g.get? a = none := by
    cases q : g.get? a with
    | none => rfl
    | some o' => exact absurd (Nat.lt_of_lt_of_le (Heap.lt_size (R.keep _ _ q)) ha) (Nat.lt_irrefl _)
  exact {
    keep := R'.keep
    len := R'.len
    hok := R'.hok
    lists := R'.lists
    xs := fun p hp => by
      rcases List.mem_cons.mp hp with rfl | hp
      · exact ⟨o, h1, h2⟩
      · exact R'.xs p hp
    nd := (List.perm_middle.nodup_iff).mpr (List.nodup_cons.mpr ⟨hn, R.nd⟩)
    fresh := fun b hb => by
      rcases List.mem_append.mp hb with h | h
      · exact R.fresh b (List.mem_append_left _ h)
      · rcases List.mem_cons.mp h with rfl | h
        · exact hg'
        · exact R.fresh b (List.mem_append_right _ h)
    os := R'.os
    bare := R'.bare
    tpos := R'.tpos
    tlt := R'.tlt
    tfun := R'.tfun
    gk := R'.gk }

theorem Rel.pushList {a : Addr} {items : List MV} {o : Obj} (R : Rel W g os0 φ σ X s) (hk : ∀ b o, s.heap.get? b = some o → s'.heap.get? b = some o)
    (ha : s.heap.objs.size ≤ a) (h1 : s'.heap.get? a = some o) (h2 : LObj W (φ.add a) items o) (ho : s'.os = s.os := by rfl) (hg : s'.gens = s.gens := by rfl) (ht : s.toks ≤ s'.toks := by first | exact Nat.le_refl _ | exact Nat.le_succ _ | exact Nat.le_add_right _ _) :
    Rel W g os0 (φ.add a) (hpush σ items) X s' := by
  have R' := R.push (P := fun _ => True) hk ha h1 trivial ho hg ht
  exact {
    keep := R'.keep
    len := by show (φ.l ++ [a]).length = _; rw [List.length_append, R.len]; rfl
    hok := R.hok.push
    lists := fun i b its e1 e2 => by
      have e1 : (φ.l ++ [a])[i]? = some b := e1
      by_cases hi : i < φ.l.length
      · rw [List.getElem?_append_left hi] at e1
        rw [R.hok.get_push_lt (R.len ▸ hi)] at e2
        obtain ⟨o', q1, q2⟩ := R'.lists i b its e1 e2
        exact ⟨o', q1, q2.mono Pre.add⟩
      · have hi' : i = φ.l.length := by
          have := (List.getElem?_eq_some_iff.mp e1).1
          rw [List.length_append] at this
          simp at this; omega
        subst hi'
        simp at e1; subst e1
        rw [R.len, R.hok.get_push] at e2; cases e2
        exact ⟨o, h1, h2⟩
    xs := fun p hp => R'.xs p (List.mem_cons_of_mem _ hp)
    nd := by
      have := R'.nd
      show ((φ.l ++ [a]) ++ X.map (·.1)).Nodup
      rw [List.append_assoc]
      simpa using this
    fresh := fun b hb => R'.fresh b (by
      have hb : b ∈ (φ.l ++ [a]) ++ X.map (·.1) := hb
      simpa using hb)
    os := R'.os
    bare := R'.bare
    tpos := R'.tpos
    tlt := R'.tlt
    tfun := R'.tfun
    gk := R'.gk }

/-- a resource changes -/
theorem Rel.upd {a : Addr} {P P' : Obj → Prop} {o : Obj} (R : Rel W g os0 φ σ ((a, P) :: X) s) (hk : Heap.ExtBut a s.heap s'.heap)
    (h1 : s'.heap.get? a = some o) (h2 : P' o) (ho : s'.os = s.os := by rfl) (hg : s'.gens = s.gens := by rfl) (ht : s.toks ≤ s'.toks := by first | exact Nat.le_refl _ | exact Nat.le_succ _ | exact Nat.le_add_right _ _) : Rel W g os0 φ σ ((a, P') :: X) s' := by
  have nd := (List.perm_middle.nodup_iff).mp R.nd
  have hn : a ∉ φ.l ++ X.map (·.1) := (List.nodup_cons.mp nd).1
  exact {
    keep := fun b o e => hk b o (fun q => by
      have := R.fresh a (List.mem_append_right _ (by simp))
      rw [q, this] at e; cases e) (R.keep b o e)
    len := R.len
    hok := R.hok
    lists := fun i b its e1 e2 => by
      obtain ⟨o', q1, q2⟩ := R.lists i b its e1 e2
      exact ⟨o', hk b o' (fun q => hn (List.mem_append_left _ (q ▸ List.mem_of_getElem? e1))) q1, q2⟩
    xs := fun p hp => by
      rcases List.mem_cons.mp hp with rfl | hp
      · exact ⟨o, h1, h2⟩
      · obtain ⟨o', q1, q2⟩ := R.xs p (List.mem_cons_of_mem _ hp)
        exact ⟨o', hk _ _ (fun q => hn (List.mem_append_right _ (q ▸ List.mem_map_of_mem hp))) q1, q2⟩
    nd := R.nd
    fresh := R.fresh
    os := ho.trans R.os
    bare := hg ▸ R.bare
    tpos := fun q => Nat.le_trans (R.tpos q) ht
    tlt := fun p hp => ⟨(R.tlt p hp).1, Nat.lt_of_lt_of_le (R.tlt p hp).2 ht⟩
    tfun := R.tfun
    gk := fun p hp => by rw [hg]; exact R.gk p hp }

/-- a resource is lost (its object may be anything) -/
theorem Rel.lose {a : Addr} {P : Obj → Prop} (R : Rel W g os0 φ σ ((a, P) :: X) s) (hk : Heap.ExtBut a s.heap s'.heap)
    (ho : s'.os = s.os := by rfl) (hg : s'.gens = s.gens := by rfl) (ht : s.toks ≤ s'.toks := by first | exact Nat.le_refl _ | exact Nat.le_succ _ | exact Nat.le_add_right _ _) : Rel W g os0 φ σ X s' := by
  have nd := (List.perm_middle.nodup_iff).mp R.nd
  have hn : a ∉ φ.l ++ X.map (·.1) := (List.nodup_cons.mp nd).1
  exact {
    keep := fun b o e => hk b o (fun q => by
      have := R.fresh a (List.mem_append_right _ (by simp))
      rw [q, this] at e; cases e) (R.keep b o e)
    len := R.len
    hok := R.hok
    lists := fun i b its e1 e2 => by
      obtain ⟨o', q1, q2⟩ := R.lists i b its e1 e2
      exact ⟨o', hk b o' (fun q => hn (List.mem_append_left _ (q ▸ List.mem_of_getElem? e1))) q1, q2⟩
    xs := fun p hp => by
      obtain ⟨o', q1, q2⟩ := R.xs p (List.mem_cons_of_mem _ hp)
      exact ⟨o', hk _ _ (fun q => hn (List.mem_append_right _ (q ▸ List.mem_map_of_mem hp))) q1, q2⟩
    nd := (List.nodup_cons.mp nd).2
    fresh := fun b hb => R.fresh b (by
      rcases List.mem_append.mp hb with h | h
      · exact List.mem_append_left _ h
      · exact List.mem_append_right _ (List.mem_cons_of_mem _ h))
    os := ho.trans R.os
    bare := hg ▸ R.bare
    tpos := fun q => Nat.le_trans (R.tpos q) ht
    tlt := fun p hp => ⟨(R.tlt p hp).1, Nat.lt_of_lt_of_le (R.tlt p hp).2 ht⟩
    tfun := R.tfun
    gk := fun p hp => by rw [hg]; exact R.gk p hp }

theorem Rel.updList {i : Nat} {a : Addr} {items : List MV} {o : Obj} (R : Rel W g os0 φ σ X s) (hi : φ.l[i]? = some a) (hk : Heap.ExtBut a s.heap s'.heap)
    (h1 : s'.heap.get? a = some o) (h2 : LObj W φ items o) (ho : s'.os = s.os := by rfl) (hg : s'.gens = s.gens := by rfl) (ht : s.toks ≤ s'.toks := by first | exact Nat.le_refl _ | exact Nat.le_succ _ | exact Nat.le_add_right _ _) : Rel W g os0 φ (hset σ i items) X s' := by
  have nd := R.nd
  rw [List.nodup_append] at nd
  have nd1 := nd.1
  have hm := List.mem_of_getElem? hi
  exact {
    keep := fun b o e => hk b o (fun q => by
      have := R.fresh a (List.mem_append_left _ hm)
      rw [q, this] at e; cases e) (R.keep b o e)
    len := R.len
    hok := R.hok.set (R.len ▸ (List.getElem?_eq_some_iff.mp hi).1)
    lists := fun j b its e1 e2 => by
      by_cases hj : i = j
      · subst hj
        rw [hi] at e1; cases e1
        rw [R.hok.get_set (R.len ▸ (List.getElem?_eq_some_iff.mp hi).1)] at e2
        cases e2
        exact ⟨o, h1, h2⟩
      · rw [R.hok.get_set_ne (R.len ▸ (List.getElem?_eq_some_iff.mp hi).1) hj] at e2
        obtain ⟨o', q1, q2⟩ := R.lists j b its e1 e2
        refine ⟨o', hk b o' (fun q => hj ?_) q1, q2⟩
        subst q
        obtain ⟨l1, l2⟩ := List.getElem?_eq_some_iff.mp hi
        obtain ⟨l3, l4⟩ := List.getElem?_eq_some_iff.mp e1
        exact nodup_inj nd1 l1 l3 (l2.trans l4.symm)
    xs := fun p hp => by
      obtain ⟨o', q1, q2⟩ := R.xs p hp
      exact ⟨o', hk _ _ (fun q => nd.2.2 a hm p.1 (List.mem_map_of_mem hp) q.symm) q1, q2⟩
    nd := R.nd
    fresh := R.fresh
    os := ho.trans R.os
    bare := hg ▸ R.bare
    tpos := fun q => Nat.le_trans (R.tpos q) ht
    tlt := fun p hp => ⟨(R.tlt p hp).1, Nat.lt_of_lt_of_le (R.tlt p hp).2 ht⟩
    tfun := R.tfun
    gk := fun p hp => by rw [hg]; exact R.gk p hp }

theorem Rel.getList {i : Nat} {items : List MV} (R : Rel W g os0 φ σ X s) (e : (hget σ i) = some items) : ∃ a vs, φ.l[i]? = some a ∧ s.heap.PlainList a vs ∧ All2 (VRel W φ) items vs.toList := by
  have hi : i < φ.l.length := R.len ▸ R.hok.lt e
  obtain ⟨o, h1, vs, n, rfl, h2⟩ := R.lists i φ.l[i] items (List.getElem?_eq_getElem hi) e
  exact ⟨φ.l[i], vs, List.getElem?_eq_getElem hi, ⟨n, h1⟩, h2⟩

theorem Rel.toks (R : Rel W g os0 φ σ X s) (t : Nat) (ht : s.toks ≤ t := by first | exact Nat.le_refl _ | exact Nat.le_succ _ | exact Nat.le_add_right _ _) : Rel W g os0 φ σ X { s with toks := t } := R.ext (fun _ _ e => e) rfl rfl ht
/-- a number is born with the fresh token -/
theorem Rel.bornTok (R : Rel W g os0 φ σ X s) (hon : φ.tp = true) (i : Int) : Rel W g os0 (φ.born s.toks i) σ X { s with toks := s.toks + 1 } :=
  have R' := R.toks (s.toks + 1)
  { keep := R'.keep
    len := R'.len
    hok := R'.hok
    lists := fun j a items e1 e2 => let ⟨o, q1, q2⟩ := R'.lists j a items e1 e2; ⟨o, q1, q2.mono Pre.born⟩
    xs := R'.xs
    nd := R'.nd
    fresh := R'.fresh
    os := R'.os
    bare := R'.bare
    tpos := R'.tpos
    tlt := fun p hp => by
      rcases List.mem_cons.mp hp with rfl | hp
      · exact ⟨fun q => absurd (R.tpos hon) (by rw [show s.toks = 0 from q]; decide), Nat.lt_succ_self _⟩
      · exact R'.tlt p hp
    tfun := fun t a b ha hb => by
      rcases List.mem_cons.mp ha with ea | ha <;> rcases List.mem_cons.mp hb with eb | hb
      · injection ea with _ e1; injection eb with _ e2; rw [e1, e2]
      · injection ea with e1 _; subst e1; exact absurd (R.tlt _ hb).2 (Nat.lt_irrefl _)
      · injection eb with e1 _; subst e1; exact absurd (R.tlt _ ha).2 (Nat.lt_irrefl _)
      · exact R.tfun t a b ha hb
    gk := R'.gk }
theorem VRel.onTo {m : MV} {v : Value} (h : VRel W φ m v) : VRel W φ.on m v := h.mono Pre.on
theorem Rel.turnOn (R : Rel W g os0 φ σ X s) (h : 1 ≤ s.toks) : Rel W g os0 φ.on σ X s :=
  { keep := R.keep, len := R.len, hok := R.hok, lists := fun j a items e1 e2 => let ⟨o, q1, q2⟩ := R.lists j a items e1 e2; ⟨o, q1, q2.mono Pre.on⟩, xs := R.xs, nd := R.nd, fresh := R.fresh, os := R.os, bare := R.bare, tpos := fun _ => h, tlt := R.tlt, tfun := R.tfun, gk := R.gk }
/-- other generators -/
theorem Rel.gens (R : Rel W g os0 φ σ X s) {gs : Array GenState} (hb : AllBare gs) (hk : ∀ p ∈ W.gk, gs[p.1]? = some p.2) : Rel W g os0 φ σ X { s with gens := gs } :=
  { keep := R.keep, len := R.len, hok := R.hok, lists := R.lists, xs := R.xs, nd := R.nd, fresh := R.fresh, os := R.os, bare := hb, tpos := R.tpos, tlt := R.tlt, tfun := R.tfun, gk := hk }
/-- what stands for a number -/
noncomputable def MV.un : MV → MV
  | .ti i => .int i
  | m => m
theorem VRel.un {m : MV} {v : Value} (h : VRel W φ m v) : VRel W φ m.un v := by
  cases m <;> try exact h
  obtain ⟨t, e, _⟩ := h
  exact ⟨t, e⟩
theorem All2.un : ∀ {ms : List MV} {vs : List Value}, All2 (VRel W φ) ms vs → All2 (VRel W φ) (ms.map MV.un) vs
  | [], [], _ => trivial
  | _ :: _, _ :: _, ⟨a, b⟩ => ⟨a.un, All2.un b⟩
  | [], _ :: _, x => x.elim
  | _ :: _, [], x => x.elim
end

end Mine
end

section
namespace Mine

structure Cx where
  prog : Program
  w : World
  W : Val
  g : Heap
  mg : Str → Option Value
  mb : Str → Option Value
  os0 : OsState
  hg : g.Ns mainGlobals mg
  hb : g.Ns builtinsNs mb
  hbb : ∀ x : Str, x ≠ "__name__" → mb x = bootBuiltins x
  nolim : g.NoLimit

noncomputable abbrev Cx.M (C : Cx) : Model := model C.prog C.w
noncomputable abbrev Cx.R (C : Cx) (φ : Phi) (σ : Hp) (X : List Res) (s : Shared) : Prop := Rel C.W C.g C.os0 φ σ X s

structure OkA (A : Around) (d : Nat) : Prop where
  hd : A.handled = none
  dep : A.depth + d < recursionLimit
  un : A.units + 8 * d < cLine

theorem OkA.mono {A : Around} {d d' : Nat} (h : OkA A d) (hd : d' ≤ d) : OkA A d' := ⟨h.hd, by have := h.dep; omega, by have := h.un; omega⟩
theorem OkA.deeper {A : Around} {d : Nat} (h : OkA A (d + 1)) (env : Env) : OkA (A.deeper env) d := ⟨h.hd, by have := h.dep; show A.depth + 1 + d < _; omega, by have := h.un; show A.units + 3 + 8 * d < _; omega⟩
theorem OkA.in1 {A : Around} {d : Nat} (h : OkA A (d + 1)) : OkA A.in1 d := ⟨h.hd, by have := h.dep; show A.depth + d < _; omega, by have := h.un; show A.units + 1 + 8 * d < _; omega⟩
theorem OkA.room {A : Around} {d : Nat} (h : OkA A d) : A.depth < recursionLimit := by have := h.dep; omega
theorem OkA.units {A : Around} {d : Nat} (h : OkA A d) : A.units < cLine := by have := h.un; omega

noncomputable abbrev Nm := List (Str × NameKind)

noncomputable def NsO (o : Obj) (m : Str → Option Value) : Prop := ∃ es ep, o.data = .dict es ep ∧ StrKeys es ∧ ∀ name, nsFind es name = m name
theorem NsO.ns {h : Heap} {a : Addr} {o : Obj} {m : Str → Option Value} (e : h.get? a = some o) (x : NsO o m) : h.Ns a m :=
  let ⟨es, ep, r⟩ := x; ⟨o, es, ep, e, r⟩
theorem NsO.of {h : Heap} {a : Addr} {m : Str → Option Value} (x : h.Ns a m) : ∃ o, h.get? a = some o ∧ NsO o m :=
  let ⟨o, es, ep, e, r⟩ := x; ⟨o, e, es, ep, r⟩

noncomputable def PLoc (W : Val) (nm : Nm) (lv : LV) (φ : Phi) (o : Obj) : Prop :=
  ∃ m, NsO o m ∧ ∀ (i : Nat) (x : Str) (mv : MV), nm[i]? = some (x, .local) → lv[i]? = some (some mv) → ∃ v, m x = some v ∧ VRel W φ mv v
noncomputable def PCell (W : Val) (ov : Option (Option MV)) (φ : Phi) (o : Obj) : Prop :=
  ∃ cv, o.data = .cell cv ∧ ∀ mv, ov = some (some mv) → ∃ v, cv = some v ∧ VRel W φ mv v
theorem PLoc.mono {W : Val} {nm : Nm} {lv : LV} {φ φ' : Phi} (h : Pre φ φ') {o : Obj} (x : PLoc W nm lv φ o) : PLoc W nm lv φ' o :=
  let ⟨m, n, k⟩ := x; ⟨m, n, fun i x mv e1 e2 => let ⟨v, a, b⟩ := k i x mv e1 e2; ⟨v, a, b.mono h⟩⟩
theorem PCell.mono {W : Val} {ov : Option (Option MV)} {φ φ' : Phi} (h : Pre φ φ') {o : Obj} (x : PCell W ov φ o) : PCell W ov φ' o :=
  let ⟨cv, n, k⟩ := x; ⟨cv, n, fun mv e => let ⟨v, a, b⟩ := k mv e; ⟨v, a, b.mono h⟩⟩

structure EnvOk (W : Val) (env : Env) (nm : Nm) (ci : List (Nat × Addr)) (lv : LV) (φ : Phi) (X : List Res) : Prop where
  kind : env.scope.kind = .function
  names : env.scope.names = nm
  gl : env.globals = mainGlobals
  bi : env.builtins = builtinsNs
  ndn : (nm.map (·.1)).Nodup
  ndc : (ci.map (·.1)).Nodup
  cell : ∀ i c, (i, c) ∈ ci → ∃ x, nm[i]? = some (x, .cell) ∧ env.cells.lookup x = some c
  free : ∀ (i : Nat) (x : Str) (k : NameKind), nm[i]? = some (x, k) → (k = .cell ∨ k = .free) →
    (∃ c, (i, c) ∈ ci) ∨ ∃ c P, env.cells.lookup x = some c ∧ (c, P) ∈ X ∧ ∀ o, P o → PCell W lv[i]? φ o
  cd : nm[0]? = some (Str.ofString "script", .cell) → env.code = .ref W.lcd

theorem EnvOk.mono {W : Val} {env : Env} {nm : Nm} {ci : List (Nat × Addr)} {lv : LV} {φ φ' : Phi} {X : List Res} (h : Pre φ φ') (x : EnvOk W env nm ci lv φ X) : EnvOk W env nm ci lv φ' X :=
  { x with free := fun i y k e1 e2 => (x.free i y k e1 e2).imp id fun ⟨c, P, a, b, r⟩ => ⟨c, P, a, b, fun o ho => (r o ho).mono h⟩ }

noncomputable def vres (W : Val) (env : Env) (nm : Nm) (ci : List (Nat × Addr)) (lv : LV) (φ : Phi) : List Res :=
  (env.locals, PLoc W nm lv φ) :: ci.map fun p => (p.2, PCell W lv[p.1]? φ)

inductive RImp : List Res → List Res → Prop
  | nil : RImp [] []
  | cons {a : Addr} {P P' : Obj → Prop} {X X' : List Res} : (∀ o, P o → P' o) → RImp X X' → RImp ((a, P) :: X) ((a, P') :: X')
theorem RImp.refl : ∀ X : List Res, RImp X X
  | [] => .nil
  | _ :: X => .cons (fun _ h => h) (RImp.refl X)
theorem RImp.append {X X' Y Y' : List Res} (h : RImp X X') (k : RImp Y Y') : RImp (X ++ Y) (X' ++ Y') := by
  induction h with
  | nil => exact k
  | cons p _ ih => exact .cons p ih
theorem RImp.map {X X' : List Res} (h : RImp X X') : X'.map (·.1) = X.map (·.1) := by
  induction h with
  | nil => rfl
  | cons p _ ih => simp [ih]
theorem RImp.mem {X X' : List Res} (h : RImp X X') : ∀ p' ∈ X', ∃ P, (p'.1, P) ∈ X ∧ ∀ o, P o → p'.2 o := by
  induction h with
  | nil => intro p' hp; cases hp
  | cons p _ ih =>
    intro p' hp
    rcases List.mem_cons.mp hp with rfl | hp
    · exact ⟨_, List.mem_cons_self, p⟩
    · obtain ⟨P, a, b⟩ := ih p' hp
      exact ⟨P, List.mem_cons_of_mem _ a, b⟩
theorem Rel.imp {W : Val} {g : Heap} {os0 : OsState} {φ : Phi} {σ : Hp} {X X' : List Res} {s : Shared} (R : Rel W g os0 φ σ X s) (h : RImp X X') : Rel W g os0 φ σ X' s where
  keep := R.keep
  len := R.len
  hok := R.hok
  lists := R.lists
  xs := fun p hp => by
    obtain ⟨P, a, b⟩ := h.mem p hp
    obtain ⟨o, q1, q2⟩ := R.xs _ a
    exact ⟨o, q1, b o q2⟩
  nd := by rw [h.map]; exact R.nd
  fresh := by rw [h.map]; exact R.fresh
  os := R.os
  bare := R.bare
  tpos := R.tpos
  tlt := R.tlt
  tfun := R.tfun
  gk := R.gk

theorem vres_imp {W : Val} {env : Env} {nm : Nm} {lv : LV} {φ φ' : Phi} (h : Pre φ φ') : ∀ ci : List (Nat × Addr), RImp (vres W env nm ci lv φ) (vres W env nm ci lv φ') := by
  intro ci
  unfold vres
  refine .cons (fun o => PLoc.mono h) ?_
  induction ci with
  | nil => exact .nil
  | cons p r ih => exact .cons (fun o => PCell.mono h) ih

structure Good (C : Cx) (env : Env) (nm : Nm) (ci : List (Nat × Addr)) (X : List Res) (lv : LV) (φ : Phi) (σ : Hp) (s : Shared) : Prop where
  ok : EnvOk C.W env nm ci lv φ X
  rel : C.R φ σ (vres C.W env nm ci lv φ ++ X) s

section
variable {C : Cx} {env : Env} {nm : Nm} {ci : List (Nat × Addr)} {X : List Res} {lv : LV} {φ φ' : Phi} {σ σ' : Hp} {s s' : Shared}
theorem Good.next (G : Good C env nm ci X lv φ σ s) (h : Pre φ φ') (R : C.R φ' σ' (vres C.W env nm ci lv φ ++ X) s') : Good C env nm ci X lv φ' σ' s' :=
  ⟨G.ok.mono h, R.imp ((vres_imp h ci).append (RImp.refl X))⟩
theorem Good.ext (G : Good C env nm ci X lv φ σ s) (hk : ∀ b o, s.heap.get? b = some o → s'.heap.get? b = some o) (ho : s'.os = s.os := by rfl) (hg : s'.gens = s.gens := by rfl) (ht : s.toks ≤ s'.toks := by first | exact Nat.le_refl _ | exact Nat.le_succ _ | exact Nat.le_add_right _ _) : Good C env nm ci X lv φ σ s' :=
  ⟨G.ok, G.rel.ext hk ho hg ht⟩
theorem Good.toks (G : Good C env nm ci X lv φ σ s) (t : Nat) (ht : s.toks ≤ t := by first | exact Nat.le_refl _ | exact Nat.le_succ _ | exact Nat.le_add_right _ _) : Good C env nm ci X lv φ σ { s with toks := t } := ⟨G.ok, G.rel.toks t ht⟩
end

theorem pre_refl (φ : Phi) : Pre φ φ := ⟨List.prefix_refl φ.l, fun _ h => h, fun h => h⟩
theorem pre_trans {a b c : Phi} (h : Pre a b) (k : Pre b c) : Pre a c := ⟨List.IsPrefix.trans h.1 k.1, fun p x => k.2.1 p (h.2.1 p x), fun x => k.2.2 (h.2.2 x)⟩

/-- what an operation on values yields -/
noncomputable abbrev F1 := List MV → Hp → Option (MV × Hp)
noncomputable def OpN (C : Cx) (d : Nat) (t : List Value → Sem Value) (F : F1) : Prop :=
  ∀ (A : Around) (φ : Phi) (σ : Hp) (X : List Res) (s : Shared) (ms : List MV) (vs : List Value) (v : MV) (σ' : Hp) (Q : Value → Shared → Prop) (E : Value → Shared → Prop),
    OkA A d → C.R φ σ X s → All2 (VRel C.W φ) ms vs → F ms σ = some (v, σ') →
    (∀ (φ' : Phi) (s' : Shared) (r : Value), Pre φ φ' → C.R φ' σ' X s' → VRel C.W φ' v r → Q r s') → wpAny C.M A (t vs) Q E s

noncomputable abbrev EF := LV → Hp → Option (MV × Hp)
noncomputable def SE (C : Cx) (d : Nat) (nm : Nm) (e : Expr) (f : EF) : Prop :=
  ∀ (A : Around) (env : Env) (ci : List (Nat × Addr)) (X : List Res) (lv : LV) (φ : Phi) (σ : Hp) (s : Shared) (v : MV) (σ' : Hp) (Q : Value → Shared → Prop) (E : Value → Shared → Prop),
    OkA A d → Good C env nm ci X lv φ σ s → f lv σ = some (v, σ') →
    (∀ (φ' : Phi) (s' : Shared) (r : Value), Pre φ φ' → Good C env nm ci X lv φ' σ' s' → VRel C.W φ' v r → Q r s') → wpAny C.M A (eval e env) Q E s
noncomputable def NoStar : List Expr → Prop
  | [] => True
  | e :: es => (∀ env, starEach (e :: es) env = (false, eval e env) :: starEach es env) ∧ NoStar es
theorem NoStar.any : ∀ {es : List Expr}, NoStar es → ∀ (env : Env) (pos : Pos), (backTo pos (starEach es env)).any (·.1) = false
  | [], _, _, _ => rfl
  | e :: es, h, env, pos => by
    rw [h.1 env]
    show (false || (backTo pos (starEach es env)).any (·.1)) = false
    rw [NoStar.any h.2 env pos]; rfl
noncomputable abbrev LF := LV → Hp → Option (List MV × Hp)
noncomputable def SL' (C : Cx) (d : Nat) (nm : Nm) (es : List Expr) (f : LF) : Prop :=
  ∀ (A : Around) (env : Env) (ci : List (Nat × Addr)) (X : List Res) (lv : LV) (φ : Phi) (σ : Hp) (s : Shared) (v : List MV) (σ' : Hp) (pos : Pos) (Q : List Value → Shared → Prop) (E : Value → Shared → Prop),
    OkA A d → Good C env nm ci X lv φ σ s → f lv σ = some (v, σ') →
    (∀ (φ' : Phi) (s' : Shared) (r : List Value), Pre φ φ' → Good C env nm ci X lv φ' σ' s' → All2 (VRel C.W φ') v r → Q r s') → wpAny C.M A (spliced (backTo pos (starEach es env))) Q E s
theorem spliced_nil_inv {M : Model} {A : Around} {env : Env} {pos : Pos} {s : Shared} {P : List Value → Shared → Prop} {E : Value → Shared → Prop} (k : wpAny M A (spliced (backTo pos (starEach [] env))) P E s) : wpAny M A (pure [] : Sem (List Value)) P E s := k
structure SL (C : Cx) (d : Nat) (nm : Nm) (es : List Expr) (f : LF) : Prop where
  plain : NoStar es
  run : SL' C d nm es f
theorem SL.args {C : Cx} {d : Nat} {nm : Nm} {es : List Expr} {f : LF} (h₁ : SL C d nm es f) {A : Around} {env : Env} {ci : List (Nat × Addr)} {X : List Res} {lv : LV} {φ : Phi} {σ σ' : Hp} {s : Shared} {v : List MV} {pos : Pos} {fv : Value} {Q : Args → Shared → Prop} {E : Value → Shared → Prop}
    (hA : OkA A d) (G : Good C env nm ci X lv φ σ s) (hf : f lv σ = some (v, σ'))
    (h : ∀ (φ' : Phi) (s' : Shared) (r : List Value), Pre φ φ' → Good C env nm ci X lv φ' σ' s' → All2 (VRel C.W φ') v r → Q ⟨r, []⟩ s') : wpAny C.M A (evalArgs fv true (backTo pos (starEach es env)) []) Q E s := by
  have k := h₁.run A env ci X lv φ σ s v σ' pos (fun r s' => Q ⟨r, []⟩ s') E hA G hf h
  cases es with
  | nil =>
    show wpAny C.M A (evalArgs fv true [] []) Q E s
    unfold evalArgs
    show wpAny C.M A (spliced [] >>= _) Q E s
    refine wpAny_bind (wpAny_mono (Q := fun r s' => Q ⟨r, []⟩ s') k (fun r s' q => ?_) fun _ _ x => x)
    refine wpAny_bind (wpAny_pure ?_)
    refine wpAny_holding ?_
    exact wpAny_bind (wpAny_pure (wpAny_bind (wpAny_pure (wpAny_pure q))))
  | cons e es =>
    rw [h₁.plain.1 env] at k ⊢
    exact Calls.evalArgs_plain k
noncomputable abbrev TF := LV → Hp → Option (Bool × Hp)
noncomputable def ST (C : Cx) (d : Nat) (nm : Nm) (e : Expr) (f : TF) : Prop :=
  ∀ (A : Around) (env : Env) (ci : List (Nat × Addr)) (X : List Res) (lv : LV) (φ : Phi) (σ : Hp) (s : Shared) (v : Bool) (σ' : Hp) (Q : Bool → Shared → Prop) (E : Value → Shared → Prop),
    OkA A d → Good C env nm ci X lv φ σ s → f lv σ = some (v, σ') →
    (∀ (φ' : Phi) (s' : Shared), Pre φ φ' → Good C env nm ci X lv φ' σ' s' → Q v s') → wpAny C.M A (isTrue e env (eval e env)) Q E s

/-! names -/
theorem lookup_of {nm : Nm} (hn : (nm.map (·.1)).Nodup) : ∀ {i : Nat} {x : Str} {k : NameKind}, nm[i]? = some (x, k) → nm.lookup x = some k := by
  induction nm with
  | nil => intro i x k e; simp at e
  | cons y r ih =>
    intro i x k e
    obtain ⟨y1, y2⟩ := y
    rw [List.map_cons, List.nodup_cons] at hn
    cases i with
    | zero => simp at e; obtain ⟨rfl, rfl⟩ := e; simp [List.lookup]
    | succ i =>
      simp at e
      have hne : (x == y1) = false := by
        rw [beq_eq_false_iff_ne]
        intro q
        subst q
        exact hn.1 (List.mem_map.mpr ⟨_, List.mem_of_getElem? e, rfl⟩)
      rw [List.lookup_cons, hne]
      exact ih hn.2 e

theorem EnvOk.kindOf {W : Val} {env : Env} {nm : Nm} {ci : List (Nat × Addr)} {lv : LV} {φ : Phi} {X : List Res} (x : EnvOk W env nm ci lv φ X) {i : Nat} {y : Str} {k : NameKind} (e : nm[i]? = some (y, k)) :
    env.kindOf y = some k := by
  unfold Env.kindOf
  rw [x.names]; exact lookup_of x.ndn e

noncomputable def eVar (i : Nat) : EF := fun lv σ => match lv[i]? with
  | some (some v) => some (v, σ)
  | _ => none

theorem load_var {C : Cx} {A : Around} {env : Env} {nm : Nm} {ci : List (Nat × Addr)} {X : List Res} {lv : LV} {φ : Phi} {σ : Hp} {s : Shared} {i : Nat} {x : Str} {k : NameKind} {mv : MV} {Q E : Value → Shared → Prop}
    (G : Good C env nm ci X lv φ σ s) (hi : nm[i]? = some (x, k)) (hk : k = .local ∨ k = .cell ∨ k = .free) (hv : lv[i]? = some (some mv)) (hc : (x == ("__classdict__" : Str)) = false)
    (h : ∀ v, VRel C.W φ mv v → Q v s) : wpAny C.M A (loadName env x) Q E s := by
  have hkind := G.ok.kindOf hi
  rcases hk with rfl | hk
  · obtain ⟨o, ho, m, hm, hl⟩ := G.rel.xs (env.locals, PLoc C.W nm lv φ) (by simp [vres])
    obtain ⟨v, e1, e2⟩ := hl i x mv hi hv
    exact wpAny_loadName_local G.ok.kind hkind (hm.ns ho) e1 (h v e2)
  · have key : ∃ c v, env.cells.lookup x = some c ∧ s.heap.IsCell c (some v) ∧ VRel C.W φ mv v := by
      rcases G.ok.free i x k hi hk with ⟨c, hc⟩ | ⟨c, P, hl, hm, hP⟩
      · obtain ⟨y, e1, e2⟩ := G.ok.cell i c hc
        rw [hi] at e1; cases e1
        obtain ⟨o, ho, cv, hd, hv'⟩ := G.rel.xs (c, PCell C.W lv[i]? φ) (by
          refine List.mem_append_left _ (List.mem_cons_of_mem _ ?_)
          exact List.mem_map.mpr ⟨(i, c), hc, rfl⟩)
        obtain ⟨v, rfl, hr⟩ := hv' mv hv
        exact ⟨c, v, e2, ⟨o, ho, hd⟩, hr⟩
      · obtain ⟨o, ho, hp⟩ := G.rel.xs (c, P) (List.mem_append_right _ hm)
        obtain ⟨cv, hd, hv'⟩ := hP o hp
        obtain ⟨v, rfl, hr⟩ := hv' mv hv
        exact ⟨c, v, hl, ⟨o, ho, hd⟩, hr⟩
    obtain ⟨c, v, e1, e2, e3⟩ := key
    rcases hk with rfl | rfl
    · exact wpAny_loadName_cell G.ok.kind hkind e1 e2 (h v e3)
    · exact wpAny_loadName_free G.ok.kind hkind e1 e2 (h v e3) hc

theorem SE_name {C : Cx} {d : Nat} {nm : Nm} (i : Nat) (x : Str) (k : NameKind) (pos : Pos) (hi : nm[i]? = some (x, k)) (hk : k = .local ∨ k = .cell ∨ k = .free)
    (hc : (x == ("__classdict__" : Str)) = false) (hd : (x == ("__debug__" : Str)) = false) : SE C d nm (.Name x pos) (eVar i) := by
  intro A env ci X lv φ σ s v σ' Q E _ G hf h
  unfold eVar at hf
  split at hf
  · rename_i mv hv
    cases hf
    exact wpAny_Name (load_var G hi hk hv hc fun r hr => h φ s r (pre_refl φ) G hr) hd
  · cases hf

theorem SE_glob {C : Cx} {d : Nat} {nm : Nm} (x : Str) (pos : Pos) (a : Nat) (hm : C.mg x = some (.ref a)) (hx : nm.lookup x = some .globalImplicit) (hd : (x == ("__debug__" : Str)) = false) :
    SE C d nm (.Name x pos) (fun _ σ => some (.fn a, σ)) := by
  intro A env ci X lv φ σ s v σ' Q E _ G hf h
  cases hf
  have hg : s.heap.Ns env.globals C.mg := by rw [G.ok.gl]; exact C.hg.keeps G.rel.keep
  exact Calls.Name_function_global G.ok.kind (by unfold Env.kindOf; rw [G.ok.names]; exact hx) (Calls.loadGlobal_global hg hm (h φ s _ (pre_refl φ) G rfl)) hd

theorem name_builtin {C : Cx} {A : Around} {env : Env} {nm : Nm} {ci : List (Nat × Addr)} {X : List Res} {lv : LV} {φ : Phi} {σ : Hp} {s : Shared} {x : Str} {pos : Pos} {v : Value} {Q E : Value → Shared → Prop}
    (G : Good C env nm ci X lv φ σ s) (hm : C.mg x = none) (hx : nm.lookup x = some .globalImplicit) (hd : (x == ("__debug__" : Str)) = false) (hn : x ≠ "__name__") (hb : bootBuiltins x = some v)
    (h : Q v s) : wpAny C.M A (eval (.Name x pos) env) Q E s := by
  have hg : s.heap.Ns env.globals C.mg := by rw [G.ok.gl]; exact C.hg.keeps G.rel.keep
  have hb' : s.heap.Ns env.builtins C.mb := by rw [G.ok.bi]; exact C.hb.keeps G.rel.keep
  exact Calls.Name_function_global G.ok.kind (by unfold Env.kindOf; rw [G.ok.names]; exact hx) (Calls.loadGlobal_builtin hg hm hb' ((C.hbb x hn).trans hb) h) hd

/-! constants -/
theorem SE_int {C : Cx} {d : Nat} {nm : Nm} (i : Int) (k : Nat) (pos : Pos) : SE C d nm (.Constant (.int i) k pos) (fun _ σ => some (.int i, σ)) := by
  intro A env ci X lv φ σ s v σ' Q E _ G hf h
  cases hf
  exact wpAny_Constant_int (h φ _ _ (pre_refl φ) (G.toks _) ⟨_, rfl⟩)
theorem SE_none {C : Cx} {d : Nat} {nm : Nm} (k : Nat) (pos : Pos) : SE C d nm (.Constant .none k pos) (fun _ σ => some (.none, σ)) := by
  intro A env ci X lv φ σ s v σ' Q E _ G hf h
  cases hf
  exact wpAny_Constant_none (h φ _ _ (pre_refl φ) G rfl)
theorem SE_bool {C : Cx} {d : Nat} {nm : Nm} (b : Bool) (k : Nat) (pos : Pos) : SE C d nm (.Constant (.bool b) k pos) (fun _ σ => some (.bool b, σ)) := by
  intro A env ci X lv φ σ s v σ' Q E _ G hf h
  cases hf
  exact wpAny_Constant_bool (h φ _ _ (pre_refl φ) G rfl)
theorem flat_ch (W : Val) : ∀ l : List Nat, flat W (l.map At.ch) = l
  | [] => rfl
  | c :: r => by show c :: flat W (r.map At.ch) = _; rw [flat_ch W r]
theorem SE_str {C : Cx} {d : Nat} {nm : Nm} (x : Str) (l : List Nat) (k : Nat) (pos : Pos) (hx : x.cps.toList = l) : SE C d nm (.Constant (.str x) k pos) (fun _ σ => some (.str (l.map At.ch), σ)) := by
  intro A env ci X lv φ σ s v σ' Q E _ G hf h
  cases hf
  exact Calls.Constant_str (h φ _ _ (pre_refl φ) (G.toks _) ⟨_, _, rfl, by rw [flat_ch]; exact hx⟩)

/-! binary operations, comparisons -/
noncomputable abbrev B2 := MV → MV → Hp → Option (MV × Hp)
noncomputable def Op2 (C : Cx) (d : Nat) (t : Value → Value → Sem Value) (F : B2) : Prop :=
  ∀ (A : Around) (φ : Phi) (σ : Hp) (X : List Res) (s : Shared) (a b : MV) (x y : Value) (v : MV) (σ' : Hp) (Q : Value → Shared → Prop) (E : Value → Shared → Prop),
    OkA A d → C.R φ σ X s → VRel C.W φ a x → VRel C.W φ b y → F a b σ = some (v, σ') →
    (∀ (φ' : Phi) (s' : Shared) (r : Value), Pre φ φ' → C.R φ' σ' X s' → VRel C.W φ' v r → Q r s') → wpAny C.M A (t x y) Q E s

noncomputable def eBin (F : B2) (f₁ f₂ : EF) : EF := fun lv σ => match f₁ lv σ with
  | some (a, σ₁) => match f₂ lv σ₁ with
    | some (b, σ₂) => F a b σ₂
    | none => none
  | none => none

theorem eBin_some {F : B2} {f₁ f₂ : EF} {lv : LV} {σ σ' : Hp} {v : MV} (h : eBin F f₁ f₂ lv σ = some (v, σ')) : ∃ a σ₁ b σ₂, f₁ lv σ = some (a, σ₁) ∧ f₂ lv σ₁ = some (b, σ₂) ∧ F a b σ₂ = some (v, σ') := by
  unfold eBin at h
  split at h
  · rename_i a σ₁ h1
    split at h
    · rename_i b σ₂ h2
      exact ⟨a, σ₁, b, σ₂, h1, h2, h⟩
    · cases h
  · cases h

theorem SE_bin {C : Cx} {d : Nat} {nm : Nm} {op : Operator} {F : B2} {l r : Expr} {pos : Pos} {f₁ f₂ : EF} (ho : Op2 C d (binaryOp op) F) (h₁ : SE C d nm l f₁) (h₂ : SE C d nm r f₂) : SE C d nm (.BinOp l op r pos) (eBin F f₁ f₂) := by
  intro A env ci X lv φ σ s v σ' Q E hA G hf h
  obtain ⟨a, σ₁, b, σ₂, e1, e2, e3⟩ := eBin_some hf
  refine wpAny_BinOp (h₁ A env ci X lv φ σ s a σ₁ _ E hA G e1 fun φ₁ s₁ x p1 G1 r1 => h₂ A env ci X lv φ₁ σ₁ s₁ b σ₂ _ E hA G1 e2 fun φ₂ s₂ y p2 G2 r2 => ?_)
  exact ho A φ₂ σ₂ _ s₂ a b x y v σ' _ E hA G2.rel (r1.mono p2) r2 e3 fun φ₃ s₃ r p3 R3 r3 => h φ₃ s₃ r (pre_trans p1 (pre_trans p2 p3)) (G2.next p3 R3) r3

theorem SE_cmp {C : Cx} {d : Nat} {nm : Nm} {op : CmpOp} {F : B2} {l r : Expr} {pos : Pos} {f₁ f₂ : EF} (ho : Op2 C d (compareOp op) F) (h₁ : SE C d nm l f₁) (h₂ : SE C d nm r f₂) (hm : behindInMarks op r = false := by with_unfolding_all rfl) :
    SE C d nm (.Compare l [op] [r] pos) (eBin F f₁ f₂) := by
  intro A env ci X lv φ σ s v σ' Q E hA G hf h
  obtain ⟨a, σ₁, b, σ₂, e1, e2, e3⟩ := eBin_some hf
  refine wpAny_Compare1 (h₁ A env ci X lv φ σ s a σ₁ _ E hA G e1 fun φ₁ s₁ x p1 G1 r1 => h₂ A env ci X lv φ₁ σ₁ s₁ b σ₂ _ E hA G1 e2 fun φ₂ s₂ y p2 G2 r2 => ?_) hm
  exact ho A φ₂ σ₂ _ s₂ a b x y v σ' _ E hA G2.rel (r1.mono p2) r2 e3 fun φ₃ s₃ r p3 R3 r3 => h φ₃ s₃ r (pre_trans p1 (pre_trans p2 p3)) (G2.next p3 R3) r3

noncomputable def tOf (f : EF) : TF := fun lv σ => match f lv σ with
  | some (.bool b, σ') => some (b, σ')
  | _ => none
theorem tOf_some {f : EF} {lv : LV} {σ σ' : Hp} {b : Bool} (h : tOf f lv σ = some (b, σ')) : f lv σ = some (.bool b, σ') := by
  unfold tOf at h
  split at h
  · rename_i e; cases h; exact e
  · cases h

theorem ST_cmp {C : Cx} {d : Nat} {nm : Nm} {op : CmpOp} {F : B2} {l r : Expr} {pos : Pos} {f₁ f₂ : EF} (ho : Op2 C d (compareOp op) F) (h₁ : SE C d nm l f₁) (h₂ : SE C d nm r f₂) (hm : behindInMarks op r = false := by with_unfolding_all rfl) :
    ST C d nm (.Compare l [op] [r] pos) (tOf (eBin F f₁ f₂)) := by
  intro A env ci X lv φ σ s v σ' Q E hA G hf h
  obtain ⟨a, σ₁, b, σ₂, e1, e2, e3⟩ := eBin_some (tOf_some hf)
  refine wpAny_isTrue_Compare1 (h₁ A env ci X lv φ σ s a σ₁ _ E hA G e1 fun φ₁ s₁ x p1 G1 r1 => h₂ A env ci X lv φ₁ σ₁ s₁ b σ₂ _ E hA G1 e2 fun φ₂ s₂ y p2 G2 r2 => ?_) hm
  refine ho A φ₂ σ₂ _ s₂ a b x y _ σ' _ E hA G2.rel (r1.mono p2) r2 e3 fun φ₃ s₃ r p3 R3 r3 => ?_
  obtain rfl : r = .bool v := r3
  exact wpAny_truthy_bool (h φ₃ s₃ (pre_trans p1 (pre_trans p2 p3)) (G2.next p3 R3))

end Mine
end

section
namespace Mine

section
variable {C : Cx} {A : Around} {env : Env} {nm : Nm} {ci : List (Nat × Addr)} {X : List Res} {lv : LV} {φ φ' : Phi} {σ σ' : Hp} {s s' : Shared}

theorem set_ne {lv : LV} {i j : Nat} {m : Option MV} (h : i ≠ j) : (lv.set i m)[j]? = lv[j]? := List.getElem?_set_ne h

theorem cells_imp {W : Val} {lv : LV} {i : Nat} {m : Option MV} {φ : Phi} : ∀ {ci : List (Nat × Addr)}, (∀ p ∈ ci, p.1 ≠ i) → RImp (ci.map fun p => (p.2, PCell W lv[p.1]? φ)) (ci.map fun p => (p.2, PCell W (lv.set i m)[p.1]? φ))
  | [], _ => .nil
  | p :: r, h => .cons (fun o q => by rw [set_ne (fun e => h p (by simp) e.symm)]; exact q) (cells_imp fun q hq => h q (List.mem_cons_of_mem _ hq))

theorem EnvOk.set {W : Val} (x : EnvOk W env nm ci lv φ X) {i : Nat} {y : Str} {k : NameKind} {m : Option MV} (hi : nm[i]? = some (y, k)) (hk : k = .local ∨ (k = .cell ∧ ∃ c, (i, c) ∈ ci)) : EnvOk W env nm ci (lv.set i m) φ X :=
  have hfree : ∀ (j : Nat) (z : Str) (k' : NameKind), nm[j]? = some (z, k') → (k' = .cell ∨ k' = .free) →
      (∃ c, (j, c) ∈ ci) ∨ ∃ c P, env.cells.lookup z = some c ∧ (c, P) ∈ X ∧ ∀ o, P o → PCell W (lv.set i m)[j]? φ o := by
    intro j z k' e1 e2
    by_cases hj : i = j
    · subst hj
      rw [hi] at e1; cases e1
      rcases hk with rfl | ⟨_, c, hc⟩
      · rcases e2 with e | e <;> cases e
      · exact .inl ⟨c, hc⟩
    · rcases x.free j z k' e1 e2 with h | ⟨c, P, a, b, r⟩
      · exact .inl h
      · exact .inr ⟨c, P, a, b, fun o ho => by rw [set_ne hj]; exact r o ho⟩
  { x with free := hfree }

theorem Good.store {i : Nat} {x : Str} {k : NameKind} {mv : MV} {v : Value} {Q : Unit → Shared → Prop} {E : Value → Shared → Prop} (G : Good C env nm ci X lv φ σ s) (hi : nm[i]? = some (x, k)) (hk : k = .local ∨ (k = .cell ∧ ∃ c, (i, c) ∈ ci)) (r : VRel C.W φ mv v)
    (h : ∀ s', Good C env nm ci X (lv.set i (some mv)) φ σ s' → Q () s') : wpAny C.M A (storeName env x v) Q E s := by
  have hkind := G.ok.kindOf hi
  have E' := G.ok.set (m := some mv) hi hk
  rcases hk with rfl | ⟨rfl, c, hc⟩
  · obtain ⟨o, ho, m, hm, hl⟩ := G.rel.xs (env.locals, PLoc C.W nm lv φ) (by simp [vres])
    refine wpAny_storeName_local hkind (hm.ns ho) (fun h' hn hs => h _ ⟨E', ?_⟩) (by rw [G.ok.kind]; rfl)
    obtain ⟨o', ho', hm'⟩ := NsO.of hn
    have R1 := Rel.upd (P' := PLoc C.W nm (lv.set i (some mv)) φ) (s' := { s with heap := h', toks := s.toks + 1 }) G.rel hs.extBut ho' ⟨_, hm', fun j y mv' e1 e2 => by
      by_cases hj : i = j
      · subst hj
        rw [hi] at e1; cases e1
        have hlt : i < lv.length := by
          have := (List.getElem?_eq_some_iff.mp e2).1
          simpa using this
        rw [List.getElem?_set_self hlt] at e2
        cases e2
        exact ⟨v, by simp, r⟩
      · rw [set_ne hj] at e2
        obtain ⟨v', q1, q2⟩ := hl j y mv' e1 e2
        have hne : y ≠ x := fun q => by
          subst q
          have k1 := (List.getElem?_eq_some_iff.mp hi)
          have k2 := (List.getElem?_eq_some_iff.mp e1)
          obtain ⟨l1, e1'⟩ := k1
          obtain ⟨l2, e2'⟩ := k2
          have hp := List.pairwise_iff_getElem.mp G.ok.ndn
          rcases Nat.lt_trichotomy i j with q | q | q
          · have := hp i j (by simpa using l1) (by simpa using l2) q
            simp [e1', e2'] at this
          · exact hj q
          · have := hp j i (by simpa using l2) (by simpa using l1) q
            simp [e1', e2'] at this
        exact ⟨v', by simp [hne, q1], q2⟩⟩
    refine R1.imp (.cons (fun _ q => q) (RImp.append (cells_imp fun p hp e => ?_) (RImp.refl X)))
    obtain ⟨y, q1, _⟩ := G.ok.cell p.1 p.2 hp
    rw [e, hi] at q1; cases q1
  · obtain ⟨y, q1, q2⟩ := G.ok.cell i c hc
    rw [hi] at q1; cases q1
    obtain ⟨pre, post, hsp⟩ := List.append_of_mem hc
    have hnd := G.ok.ndc
    rw [hsp, List.map_append, List.map_cons, List.nodup_append] at hnd
    have hpre : ∀ p ∈ pre, p.1 ≠ i := fun p hp e => hnd.2.2 p.1 (List.mem_map_of_mem hp) i (by simp) e
    have hpost : ∀ p ∈ post, p.1 ≠ i := fun p hp e => (List.nodup_cons.mp hnd.2.1).1 (List.mem_map.mpr ⟨p, hp, e⟩)
    have perm : ∀ lv' : LV, (vres C.W env nm ci lv' φ ++ X).Perm ((c, PCell C.W lv'[i]? φ) :: ((env.locals, PLoc C.W nm lv' φ) :: ((pre.map fun p => (p.2, PCell C.W lv'[p.1]? φ)) ++ ((post.map fun p => (p.2, PCell C.W lv'[p.1]? φ)) ++ X)))) := fun lv' => by
      unfold vres
      rw [hsp, List.map_append, List.map_cons]
      simp only [List.cons_append, List.append_assoc]
      refine List.Perm.trans (List.Perm.cons _ List.perm_middle) (List.Perm.swap ..)
    have R0 := G.rel.perm (perm lv)
    obtain ⟨o, ho, cv, hd, _⟩ := R0.xs _ List.mem_cons_self
    refine wpAny_storeName_cell G.ok.kind hkind q2 ⟨o, ho, hd⟩ fun h' hv hs => h _ ⟨E', ?_⟩
    obtain ⟨o', ho', hd'⟩ := hv
    have R1 := Rel.upd (P' := PCell C.W (lv.set i (some mv))[i]? φ) (s' := { s with heap := h' }) R0 hs.extBut ho' ⟨_, hd', fun mv' e => by
      have hlt : i < lv.length := by
        have := (List.getElem?_eq_some_iff.mp e).1
        simpa using this
      rw [List.getElem?_set_self hlt] at e
      cases e
      exact ⟨v, rfl, r⟩⟩
    refine Rel.perm (R1.imp (.cons (fun _ q => q) (.cons (fun o q => ?_) (RImp.append (cells_imp hpre) (RImp.append (cells_imp hpost) (RImp.refl X)))))) (perm _).symm
    obtain ⟨m, n, k⟩ := q
    refine ⟨m, n, fun j y mv' e1 e2 => ?_⟩
    have hj : i ≠ j := fun e => by subst e; rw [hi] at e1; cases e1
    rw [set_ne hj] at e2
    exact k j y mv' e1 e2
end

/-! targets -/
noncomputable abbrev GF := MV → LV → Hp → Option (LV × Hp)
noncomputable def TG (C : Cx) (d : Nat) (nm : Nm) (t : Expr) (f : MV → LV → Option LV) : Prop :=
  ∀ (A : Around) (env : Env) (ci : List (Nat × Addr)) (X : List Res) (lv : LV) (φ : Phi) (σ : Hp) (s : Shared) (mv : MV) (v : Value) (lv' : LV) (Q : Unit → Shared → Prop) (E : Value → Shared → Prop),
    OkA A d → Good C env nm ci X lv φ σ s → VRel C.W φ mv v → f mv lv = some lv' →
    (∀ (s' : Shared), Good C env nm ci X lv' φ σ s' → Q () s') → wpAny C.M A (assign t env v) Q E s

noncomputable def gVar (i : Nat) : MV → LV → Option LV := fun mv lv => some (lv.set i (some mv))

/-- own: the cells of the frame are its own (a def's frame) -/
theorem TG_loc {C : Cx} {d : Nat} {nm : Nm} (i : Nat) (x : Str) (pos : Pos) (hi : nm[i]? = some (x, .local)) : TG C d nm (.Name x pos) (gVar i) := by
  intro A env ci X lv φ σ s mv v lv' Q E _ G r hf h
  cases hf
  rw [arm_assign_Name]
  exact wpAny_bind (wpAny_standAt (wpAny_bindName (G.store hi (.inl rfl) r h)))

theorem TG_cel {C : Cx} {nm : Nm} {A : Around} {env : Env} {ci : List (Nat × Addr)} {X : List Res} {lv : LV} {φ : Phi} {σ : Hp} {s : Shared} {mv : MV} {v : Value} {Q : Unit → Shared → Prop} {E : Value → Shared → Prop}
    (i : Nat) (x : Str) (hi : nm[i]? = some (x, .cell)) (hc : ∃ c, (i, c) ∈ ci) (G : Good C env nm ci X lv φ σ s) (r : VRel C.W φ mv v) (h : ∀ (s' : Shared), Good C env nm ci X (lv.set i (some mv)) φ σ s' → Q () s') :
    wpAny C.M A (storeName env x v) Q E s := G.store hi (.inr ⟨rfl, hc⟩) r h

/-! statements -/
inductive Fl where
  | next
  | ret (v : MV)
noncomputable def FlRel (W : Val) (φ : Phi) : Fl → Flow → Prop
  | .next, f => f = .next
  | .ret m, f => ∃ v, f = .ret v ∧ VRel W φ m v

noncomputable abbrev XF := LV → Hp → Option (Fl × LV × Hp)
/-- 'own': every cell of the names is the frame's own -/
noncomputable def Own (nm : Nm) (ci : List (Nat × Addr)) : Prop := ∀ (i : Nat) (x : Str), nm[i]? = some (x, .cell) → ∃ c, (i, c) ∈ ci

noncomputable def SX (C : Cx) (d : Nat) (nm : Nm) (t : Env → Sem Flow) (f : XF) : Prop :=
  ∀ (A : Around) (env : Env) (ci : List (Nat × Addr)) (X : List Res) (lv : LV) (φ : Phi) (σ : Hp) (s : Shared) (fl : Fl) (lv' : LV) (σ' : Hp) (Q : Flow → Shared → Prop) (E : Value → Shared → Prop),
    OkA A d → Own nm ci → Good C env nm ci X lv φ σ s → f lv σ = some (fl, lv', σ') →
    (∀ (φ' : Phi) (s' : Shared) (r : Flow), Pre φ φ' → Good C env nm ci X lv' φ' σ' s' → FlRel C.W φ' fl r → Q r s') → wpAny C.M A (t env) Q E s
noncomputable abbrev SS (C : Cx) (d : Nat) (nm : Nm) (st : Stmt) (f : XF) : Prop := SX C d nm (fun env => exec st env) f
noncomputable abbrev SB (C : Cx) (d : Nat) (nm : Nm) (b : List Stmt) (f : XF) : Prop := SX C d nm (fun env => execs b env) f

noncomputable def xNil : XF := fun lv σ => some (.next, lv, σ)
noncomputable def xSeq (f g : XF) : XF := fun lv σ => match f lv σ with
  | some (.next, lv', σ') => g lv' σ'
  | r => r

theorem SB_nil {C : Cx} {d : Nat} {nm : Nm} : SB C d nm [] xNil := by
  intro A env ci X lv φ σ s fl lv' σ' Q E _ _ G hf h
  cases hf
  exact wpAny_execs_nil (h φ s _ (pre_refl φ) G rfl)

theorem SB_cons {C : Cx} {d : Nat} {nm : Nm} {st : Stmt} {rest : List Stmt} {f g : XF} (h₁ : SS C d nm st f) (h₂ : SB C d nm rest g) : SB C d nm (st :: rest) (xSeq f g) := by
  intro A env ci X lv φ σ s fl lv' σ' Q E hA hO G hf h
  unfold xSeq at hf
  split at hf
  · rename_i lv₁ σ₁ e1
    refine wpAny_execs_cons (h₁ A env ci X lv φ σ s .next lv₁ σ₁ _ E hA hO G e1 fun φ₁ s₁ r p1 G1 r1 => ?_)
    obtain rfl : r = .next := r1
    exact h₂ A env ci X lv₁ φ₁ σ₁ s₁ fl lv' σ' Q E hA hO G1 hf fun φ₂ s₂ r p2 G2 r2 => h φ₂ s₂ r (pre_trans p1 p2) G2 r2
  · rename_i hne
    refine wpAny_execs_cons (h₁ A env ci X lv φ σ s fl lv' σ' _ E hA hO G hf fun φ₁ s₁ r p1 G1 r1 => ?_)
    cases fl with
    | next => exact absurd hf (hne lv' σ')
    | ret m =>
      obtain ⟨v, rfl, rv⟩ := r1
      exact h φ₁ s₁ _ p1 G1 ⟨v, rfl, rv⟩

noncomputable def xIf (t : TF) (f g : XF) : XF := fun lv σ => match t lv σ with
  | some (true, σ') => f lv σ'
  | some (false, σ') => g lv σ'
  | none => none
theorem SS_if {C : Cx} {d : Nat} {nm : Nm} {test : Expr} {body orelse : List Stmt} {pos : Pos} {t : TF} {f g : XF} (ht : ST C d nm test t) (h₁ : SB C d nm body f) (h₂ : SB C d nm orelse g) : SS C d nm (.If test body orelse pos) (xIf t f g) := by
  intro A env ci X lv φ σ s fl lv' σ' Q E hA hO G hf h
  unfold xIf at hf
  split at hf
  · rename_i σ₁ e1
    exact wpAny_If (ht A env ci X lv φ σ s true σ₁ _ E hA G e1 fun φ₁ s₁ p1 G1 => h₁ A env ci X lv φ₁ σ₁ s₁ fl lv' σ' Q E hA hO G1 hf fun φ₂ s₂ r p2 G2 r2 => h φ₂ s₂ r (pre_trans p1 p2) G2 r2)
  · rename_i σ₁ e1
    exact wpAny_If (ht A env ci X lv φ σ s false σ₁ _ E hA G e1 fun φ₁ s₁ p1 G1 => h₂ A env ci X lv φ₁ σ₁ s₁ fl lv' σ' Q E hA hO G1 hf fun φ₂ s₂ r p2 G2 r2 => h φ₂ s₂ r (pre_trans p1 p2) G2 r2)
  · cases hf

noncomputable def xRet (f : EF) : XF := fun lv σ => match f lv σ with
  | some (v, σ') => some (.ret v, lv, σ')
  | none => none
theorem SS_ret {C : Cx} {d : Nat} {nm : Nm} {e : Expr} {pos : Pos} {f : EF} (h₁ : SE C d nm e f) : SS C d nm (.Return (some e) pos) (xRet f) := by
  intro A env ci X lv φ σ s fl lv' σ' Q E hA hO G hf h
  unfold xRet at hf
  split at hf
  · rename_i v σ₁ e1
    cases hf
    exact wpAny_Return_some (h₁ A env ci X lv φ σ s v _ _ E hA G e1 fun φ₁ s₁ x p1 G1 r1 => h φ₁ s₁ _ p1 G1 ⟨x, rfl, r1⟩)
  · cases hf

/-- a value that is no list is dropped -/
noncomputable def xDrop (f : EF) : XF := fun lv σ => match f lv σ with
  | some (.none, σ') => some (.next, lv, σ')
  | _ => none
theorem interactive_fn {env : Env} (h : env.scope.kind = .function) : interactive env = false := by
  unfold interactive; rw [h]; rfl
theorem SS_expr {C : Cx} {d : Nat} {nm : Nm} {e : Expr} {pos : Pos} {f : EF} (h₁ : SE C d nm e f) (hs : ∀ env, swapsWith e none pos.line env = pure false := by intro _; rfl) : SS C d nm (.Expr e pos) (xDrop f) := by
  intro A env ci X lv φ σ s fl lv' σ' Q E hA hO G hf h
  unfold xDrop at hf
  split at hf
  · rename_i σ₁ e1
    cases hf
    refine wpAny_Expr (h₁ A env ci X lv φ σ s _ _ _ E hA G e1 fun φ₁ s₁ x p1 G1 r1 => ?_) (interactive_fn G.ok.kind) (hs env)
    obtain rfl : x = .none := r1
    exact h φ₁ s₁ _ p1 G1 rfl
  · cases hf

noncomputable def xSet (i : Nat) (f : EF) : XF := fun lv σ => match f lv σ with
  | some (v, σ') => some (.next, lv.set i (some v), σ')
  | none => none

theorem own_kind {nm : Nm} {ci : List (Nat × Addr)} {i : Nat} {x : Str} {k : NameKind} (hO : Own nm ci) (hi : nm[i]? = some (x, k)) (hk : k = .local ∨ k = .cell) : k = .local ∨ (k = .cell ∧ ∃ c, (i, c) ∈ ci) := by
  rcases hk with rfl | rfl
  · exact .inl rfl
  · exact .inr ⟨rfl, hO i x hi⟩

theorem SS_assign {C : Cx} {d : Nat} {nm : Nm} {e : Expr} {x : Str} {pos pos' : Pos} {f : EF} (i : Nat) (k : NameKind) (hi : nm[i]? = some (x, k)) (hk : k = .local ∨ k = .cell) (h₁ : SE C d nm e f)
    (hs : ∀ env : Env, env.scope.names = nm → env.kindOf x = some k → swapsWith e (some (.Name x pos')) pos.line env = pure false) : SS C d nm (.Assign [.Name x pos'] e pos) (xSet i f) := by
  intro A env ci X lv φ σ s fl lv' σ' Q E hA hO G hf h
  unfold xSet at hf
  split at hf
  · rename_i v σ₁ e1
    cases hf
    exact wpAny_Assign_Name (h₁ A env ci X lv φ σ s v _ _ E hA G e1 fun φ₁ s₁ y p1 G1 r1 => G1.store hi (own_kind hO hi hk) r1 fun s' G' => h φ₁ s' _ p1 G' rfl) (hs env G.ok.names (G.ok.kindOf hi))
  · cases hf

/-! lists of expressions -/
noncomputable def lNil : LF := fun _ σ => some ([], σ)
noncomputable def lCons (f : EF) (g : LF) : LF := fun lv σ => match f lv σ with
  | some (v, σ₁) => match g lv σ₁ with
    | some (vs, σ₂) => some (v :: vs, σ₂)
    | none => none
  | none => none
theorem SL_nil {C : Cx} {d : Nat} {nm : Nm} : SL C d nm [] lNil := by
  refine ⟨trivial, ?_⟩
  intro A env ci X lv φ σ s v σ' pos Q E _ G hf h
  cases hf
  exact Calls.spliced_nil (h φ s [] (pre_refl φ) G trivial)
theorem SL_cons {C : Cx} {d : Nat} {nm : Nm} {e : Expr} {es : List Expr} {f : EF} {g : LF} (h₁ : SE C d nm e f) (h₂ : SL C d nm es g) (he : ∀ env, starEach (e :: es) env = (false, eval e env) :: starEach es env := by intro _; rfl) :
    SL C d nm (e :: es) (lCons f g) := by
  refine ⟨⟨he, h₂.plain⟩, ?_⟩
  intro A env ci X lv φ σ s v σ' pos Q E hA G hf h
  unfold lCons at hf
  split at hf
  · rename_i m σ₁ e1
    split at hf
    · rename_i ms σ₂ e2
      cases hf
      rw [he env]
      show wpAny C.M A (spliced ((false, eval e env) :: backTo pos (starEach es env))) Q E s
      refine Calls.spliced_cons (h₁ A env ci X lv φ σ s m σ₁ _ E hA G e1 fun φ₁ s₁ x p1 G1 r1 => h₂.run A env ci X lv φ₁ σ₁ s₁ ms _ pos _ E hA G1 e2 fun φ₂ s₂ xs p2 G2 r2 => ?_)
      exact h φ₂ s₂ _ (pre_trans p1 p2) G2 ⟨r1.mono p2, r2⟩
    · cases hf
  · cases hf

/-! a list display -/
noncomputable def eList (f : LF) : EF := fun lv σ => match f lv σ with
  | some (vs, σ') => if vs.length ≤ 1000 then some (.ref (hlen σ'), hpush σ' vs) else none
  | none => none

theorem sizeLine_ge : (1000 : Nat) ≤ sizeLine := by unfold sizeLine; decide

theorem Rel.newList {W : Val} {g : Heap} {os0 : OsState} {φ : Phi} {σ : Hp} {X : List Res} {s : Shared} (R : Rel W g os0 φ σ X s) {ms : List MV} {vs : Array Value} (h : All2 (VRel W φ) ms vs.toList) :
    Rel W g os0 (φ.add s.heap.objs.size) (hpush σ ms) X { s with heap := s.heap.push { cls := .type "list", data := .seq vs } } :=
  R.pushList (fun b o e => Heap.get?_push_of_some _ e) (Nat.le_refl _) (Heap.get?_push_size _ rfl) ⟨vs, 0, rfl, h.mono fun _ _ => VRel.mono Pre.add⟩

theorem newRef {W : Val} {φ : Phi} {σ : Hp} {a : Addr} (h : φ.l.length = (hlen σ)) : VRel W (φ.add a) (.ref (hlen σ)) (.ref a) := ⟨a, by show (φ.l ++ [a])[_]? = _; rw [← h]; simp, rfl⟩

theorem SE_list {C : Cx} {d : Nat} {nm : Nm} {es : List Expr} {pos : Pos} {f : LF} (h₁ : SL C d nm es f) : SE C d nm (.List es pos) (eList f) := by
  intro A env ci X lv φ σ s v σ' Q E hA G hf h
  unfold eList at hf
  split at hf
  · rename_i ms σ₁ e1
    split at hf
    · rename_i hlen
      cases hf
      rw [arm_eval_List]
      refine wpAny_bind (wpAny_standAt (wpAny_bind (h₁.run A env ci X lv φ σ s ms σ₁ pos _ E hA G e1 fun φ₁ s₁ vs p1 G1 r1 => ?_)))
      have hl := r1.length
      refine wpAny_newList (h _ _ _ (pre_trans p1 Pre.add) (G1.next Pre.add (G1.rel.newList (vs := vs.toArray) (by simpa using r1))) (newRef G1.rel.len)) (Nat.le_trans (by omega) sizeLine_ge)
    · cases hf
  · cases hf

end Mine
end

section
namespace Mine

inductive IS where
  | rng (x step : Int) (left : Nat)
  | lst (r i : Nat)
  | enu (r i : Nat)
inductive IH where
  | rng (a : Addr)
  | lst (a l : Addr)
  | enu (e it l : Addr)
noncomputable def IH.addr : IH → Addr
  | .rng a => a
  | .lst a _ => a
  | .enu e _ _ => e
inductive IV where
  | one (m : MV)
  | two (i : Nat) (m : MV)

noncomputable def nextIS : IS → Hp → Option (Option (IV × IS))
  | .rng _ _ 0, _ => some none
  | .rng x st (n + 1), _ => some (some (.one (.ti x), .rng (x + st) st n))
  | .lst r i, σ => match (hget σ r) with
    | none => none
    | some items => match items[i]? with
      | none => some none
      | some m => some (some (.one m, .lst r (i + 1)))
  | .enu r i, σ => match (hget σ r) with
    | none => none
    | some items => match items[i]? with
      | none => some none
      | some m => some (some (.two i m, .enu r (i + 1)))

noncomputable def rngO (x left step : Int) : Obj := { cls := .type "range_iterator", dict := none, data := .fields #[rawInt x, rawInt left, rawInt step], slots := #[] }
noncomputable def LitO (l : Addr) (i : Nat) (o : Obj) : Prop := o.cls = .type "list_iterator" ∧ o.data = .fields #[.ref l, .int i 0]
noncomputable def EnuO (it : Addr) (i : Nat) (o : Obj) : Prop := ∃ old, o = ({ cls := .type "enumerate", dict := none, data := .fields #[.none, .bool false, .ref it, rawInt i, .none, old], slots := #[] } : Obj)

noncomputable def ires : IH → IS → List Res
  | .rng a, .rng x st n => [(a, fun o => o = rngO x n st)]
  | .lst a l, .lst _ i => [(a, LitO l i)]
  | .enu e it l, .enu _ i => [(e, EnuO it i), (it, LitO l i)]
  | _, _ => []
noncomputable def IOk (φ : Phi) : IH → IS → Prop
  | .rng _, .rng .. => φ.tp = true
  | .lst _ l, .lst r _ => φ.l[r]? = some l
  | .enu _ _ l, .enu r _ => φ.l[r]? = some l
  | _, _ => False
theorem pre_get {φ φ' : Phi} (h : Pre φ φ') {r : Nat} {l : Addr} (e : φ.l[r]? = some l) : φ'.l[r]? = some l := by
  obtain ⟨⟨t, h⟩, _⟩ := h
  rw [← h, List.getElem?_append_left (List.getElem?_eq_some_iff.mp e).1]; exact e
theorem IOk.mono {φ φ' : Phi} (h : Pre φ φ') {ih : IH} {is : IS} (x : IOk φ ih is) : IOk φ' ih is := by
  cases ih <;> cases is <;> first | exact x | exact pre_get h x | exact h.2.2 x

/-! dropping what stands ahead of the frames' own -/
theorem Good.back {C : Cx} {env : Env} {nm : Nm} {ci : List (Nat × Addr)} {Z X : List Res} {lv lv0 : LV} {φ φ0 : Phi} {σ : Hp} {s : Shared}
    (E0 : EnvOk C.W env nm ci lv0 φ0 X) (G : Good C env nm ci (Z ++ X) lv φ σ s) : EnvOk C.W env nm ci lv φ X := by
  have hfree : ∀ (i : Nat) (x : Str) (k : NameKind), nm[i]? = some (x, k) → (k = .cell ∨ k = .free) →
    (∃ c, (i, c) ∈ ci) ∨ ∃ c P, env.cells.lookup x = some c ∧ (c, P) ∈ X ∧ ∀ o, P o → PCell C.W lv[i]? φ o := by
    intro i x k hi hk
    rcases G.ok.free i x k hi hk with h | ⟨c, P, hl, hm, hP⟩
    · exact .inl h
    · rcases E0.free i x k hi hk with h | ⟨c0, P0, hl0, hm0, _⟩
      · exact .inl h
      · rw [hl] at hl0; cases hl0
        rcases List.mem_append.mp hm with hz | hx
        · exfalso
          have nd := G.rel.nd
          rw [List.nodup_append] at nd
          have nd2 := nd.2.1
          rw [List.map_append, List.map_append, List.nodup_append] at nd2
          have nd3 := nd2.2.1
          rw [List.nodup_append] at nd3
          exact nd3.2.2 c (List.mem_map.mpr ⟨_, hz, rfl⟩) c (List.mem_map.mpr ⟨_, hm0, rfl⟩) rfl
        · exact .inr ⟨c, P, hl, hx, hP⟩
  exact { G.ok with free := hfree }

theorem EnvOk.weak {W : Val} {env : Env} {nm : Nm} {ci : List (Nat × Addr)} {lv : LV} {φ : Phi} {X X' : List Res} (x : EnvOk W env nm ci lv φ X) (h : ∀ p ∈ X, p ∈ X') : EnvOk W env nm ci lv φ X' :=
  { x with free := fun i y k e1 e2 => (x.free i y k e1 e2).imp id fun ⟨c, P, a, b, r⟩ => ⟨c, P, a, h _ b, r⟩ }

theorem mid_perm {α : Type} (V Z X : List α) : (V ++ (Z ++ X)).Perm (Z ++ (V ++ X)) := by
  rw [← List.append_assoc, ← List.append_assoc]
  exact List.Perm.append_right X List.perm_append_comm

section
variable {C : Cx} {A : Around} {env : Env} {nm : Nm} {ci : List (Nat × Addr)} {X : List Res} {lv : LV} {φ φ' : Phi} {σ σ' : Hp} {s s' : Shared} {d : Nat}

/-- targets of a loop -/
noncomputable abbrev GT := IV → LV → Hp → Option LV
noncomputable abbrev gOne (i : Nat) : GT := fun iv lv _ => match iv with | .one m => some (lv.set i (some m)) | _ => none
noncomputable abbrev gTwo (i j : Nat) : GT := fun iv lv _ => match iv with | .two n m => some ((lv.set i (some (.int n))).set j (some m)) | _ => none
noncomputable abbrev gLst2 (i j : Nat) : GT := fun iv lv σ => match iv with
        | .one (.ref r) => match (hget σ r) with | some [m1, m2] => some ((lv.set i (some m1)).set j (some m2)) | _ => none
        | _ => none
inductive TGT (nm : Nm) (own : Bool) : Expr → GT → Prop
  | one (i : Nat) (x : Str) (pos : Pos) (hi : nm[i]? = some (x, .local)) : TGT nm own (.Name x pos) (gOne i)
  | oneC (i : Nat) (x : Str) (pos : Pos) (hi : nm[i]? = some (x, .cell)) (ho : own = true) : TGT nm own (.Name x pos) (gOne i)
  | two (i j : Nat) (x y : Str) (k : Nat) (p1 p2 pos : Pos) (hi : nm[i]? = some (x, .local)) (hj : nm[j]? = some (y, .local)) :
      TGT nm own (.Tuple [.Name x p1, .Name y p2] k pos) (gTwo i j)
  | lst2 (i j : Nat) (x y : Str) (k : Nat) (p1 p2 pos : Pos) (hi : nm[i]? = some (x, .local)) (hj : nm[j]? = some (y, .local)) :
      TGT nm own (.Tuple [.Name x p1, .Name y p2] k pos) (gLst2 i j)

theorem letOwned_lit {elts : List Expr} {k : Nat} {pos : Pos} {it a l : Addr} {i : Nat} {o : Obj} {Q : Unit → Shared → Prop} {E : Value → Shared → Prop} (ho : s.heap.get? it = some o) (hl : LitO l i o) (h : Q () s) :
    wpAny C.M A (letOwnedTupleGo (.Tuple elts k pos) (.ref it) (.ref a)) Q E s := by
  unfold letOwnedTupleGo
  refine wpAny_bind (wpAny_load ho ?_)
  rw [hl.1, hl.2]
  show wpAny C.M A (if (["enumerate", "zip", "dict_itemiterator", "dict_reverseitemiterator", "odict_iterator", "itertools.zip_longest", "itertools.pairwise"].contains "list_iterator" && _) = true then _ else _) Q E s
  rw [if_neg (by simp)]
  exact wpAny_pure h

theorem letOwned_name {x : Str} {pos : Pos} (it v : Value) : letOwnedTupleGo (.Name x pos) it v = pure () := rfl

theorem Rel.upd2 {W : Val} {g : Heap} {os0 : OsState} {a b : Addr} {P P' Q Q' : Obj → Prop} {o o' : Obj} (R : Rel W g os0 φ σ ((a, P) :: (b, Q) :: X) s) (hk : ∀ c ob, c ≠ a → c ≠ b → s.heap.get? c = some ob → s'.heap.get? c = some ob)
    (h1 : s'.heap.get? a = some o) (h2 : P' o) (h3 : s'.heap.get? b = some o') (h4 : Q' o') (ho : s'.os = s.os := by rfl) (hg : s'.gens = s.gens := by rfl) (ht : s.toks ≤ s'.toks := by first | exact Nat.le_refl _ | exact Nat.le_succ _ | exact Nat.le_add_right _ _) : Rel W g os0 φ σ ((a, P') :: (b, Q') :: X) s' := by
  have nd : (a :: b :: (φ.l ++ X.map (·.1))).Nodup := by
    have h1 := (List.perm_middle.nodup_iff).mp R.nd
    rw [List.nodup_cons] at h1 ⊢
    have h2 := (List.perm_middle.nodup_iff).mp h1.2
    refine ⟨fun h => h1.1 ?_, h2⟩
    rcases List.mem_cons.mp h with rfl | h
    · simp
    · rcases List.mem_append.mp h with h | h
      · exact List.mem_append_left _ h
      · exact List.mem_append_right _ (List.mem_cons_of_mem _ h)
  have ha : a ∉ φ.l ++ X.map (·.1) := fun h => (List.nodup_cons.mp nd).1 (List.mem_cons_of_mem _ h)
  have hb : b ∉ φ.l ++ X.map (·.1) := fun h => (List.nodup_cons.mp (List.nodup_cons.mp nd).2).1 h
  exact {
    keep := fun c ob e => hk c ob (fun q => by
      have := R.fresh a (List.mem_append_right _ (by simp))
      rw [q, this] at e; cases e) (fun q => by
      have := R.fresh b (List.mem_append_right _ (by simp))
      rw [q, this] at e; cases e) (R.keep c ob e)
    len := R.len
    hok := R.hok
    lists := fun i c its e1 e2 => by
      obtain ⟨o', q1, q2⟩ := R.lists i c its e1 e2
      exact ⟨o', hk c o' (fun q => ha (List.mem_append_left _ (q ▸ List.mem_of_getElem? e1))) (fun q => hb (List.mem_append_left _ (q ▸ List.mem_of_getElem? e1))) q1, q2⟩
    xs := fun p hp => by
      rcases List.mem_cons.mp hp with rfl | hp
      · exact ⟨o, h1, h2⟩
      · rcases List.mem_cons.mp hp with rfl | hp
        · exact ⟨o', h3, h4⟩
        · obtain ⟨o', q1, q2⟩ := R.xs p (List.mem_cons_of_mem _ (List.mem_cons_of_mem _ hp))
          exact ⟨o', hk _ _ (fun q => ha (List.mem_append_right _ (q ▸ List.mem_map_of_mem hp))) (fun q => hb (List.mem_append_right _ (q ▸ List.mem_map_of_mem hp))) q1, q2⟩
    nd := R.nd
    fresh := R.fresh
    os := ho.trans R.os
    bare := hg ▸ R.bare
    tpos := fun q => Nat.le_trans (R.tpos q) ht
    tlt := fun p hp => ⟨(R.tlt p hp).1, Nat.lt_of_lt_of_le (R.tlt p hp).2 ht⟩
    tfun := R.tfun
    gk := fun p hp => by rw [hg]; exact R.gk p hp }

theorem Rel.add {W : Val} {g : Heap} {os0 : OsState} {a : Addr} {P : Obj → Prop} {o : Obj} (R : Rel W g os0 φ σ X s) (hn : a ∉ φ.l ++ X.map (·.1)) (hg' : g.get? a = none) (h1 : s.heap.get? a = some o) (h2 : P o) :
    Rel W g os0 φ σ ((a, P) :: X) s where
  keep := R.keep
  len := R.len
  hok := R.hok
  lists := R.lists
  xs := fun p hp => by
    rcases List.mem_cons.mp hp with rfl | hp
    · exact ⟨o, h1, h2⟩
    · exact R.xs p hp
  nd := (List.perm_middle.nodup_iff).mpr (List.nodup_cons.mpr ⟨hn, R.nd⟩)
  fresh := fun b hb => by
    rcases List.mem_append.mp hb with h | h
    · exact R.fresh b (List.mem_append_left _ h)
    · rcases List.mem_cons.mp h with rfl | h
      · exact hg'
      · exact R.fresh b (List.mem_append_right _ h)
  os := R.os
  bare := R.bare
  tpos := R.tpos
  tlt := R.tlt
  tfun := R.tfun
  gk := R.gk

theorem extFresh {h h' : Heap} (x : Heap.ExtBut h.objs.size h h') : ∀ b o, h.get? b = some o → h'.get? b = some o :=
  fun b o e => x b o (Nat.ne_of_lt (Heap.lt_size e)) e

theorem Good.mk' {Z' : List Res} (K : EnvOk C.W env nm ci lv φ X) (R : C.R φ σ (Z' ++ (vres C.W env nm ci lv φ ++ X)) s) : Good C env nm ci (Z' ++ X) lv φ σ s :=
  ⟨K.weak fun _ h => List.mem_append_right _ h, R.perm (mid_perm _ _ _).symm⟩

theorem turn {target : Expr} {gt : GT} {ih : IH} {is : IS} {r0 : Option (IV × IS)} {Qn : Shared → Prop} {Qs : Shared → Prop} {E E1 E2 : Value → Shared → Prop} (hA : OkA A d) {own : Bool} (hO : own = true → ∀ (i : Nat) (x : Str), nm[i]? = some (x, .cell) → ∃ c, (i, c) ∈ ci) (T : TGT nm own target gt)
    (K : EnvOk C.W env nm ci lv φ X) (R0 : C.R φ σ (vres C.W env nm ci lv φ ++ (ires ih is ++ X)) s) (hi : IOk φ ih is) (hn : nextIS is σ = some r0)
    (hnone : r0 = none → ∀ s', C.R φ σ (vres C.W env nm ci lv φ ++ X) s' → Qn s')
    (hsome : ∀ iv is', r0 = some (iv, is') → ∀ lv', gt iv lv σ = some lv' → ∀ (φ' : Phi) s', Pre φ φ' → Good C env nm ci (ires ih is' ++ X) lv' φ' σ s' → IOk φ' ih is' → Qs s')
    (hgt : ∀ iv is', r0 = some (iv, is') → ∃ lv', gt iv lv σ = some lv') :
    wpAny C.M A (pyNext (.ref ih.addr)) (fun r s₁ => match r with
      | none => Qn s₁
      | some v => wpAny C.M A (letOwnedTupleGo target (.ref ih.addr) v) (fun _ s₁' => wpAny C.M A (assign target env v) (fun _ s₂ => Qs s₂) E2 s₁') E1 s₁) E s := by
  have R := R0.perm (mid_perm _ _ _)
  cases ih with
  | rng a =>
    cases is with
    | rng x st n =>
      obtain ⟨o, ho, rfl⟩ := R.xs _ List.mem_cons_self
      cases n with
      | zero =>
        cases hn
        refine wpAny_pyNext_range_end hA.hd ho (by simp) fun h' hs' => hnone rfl _ (R.lose hs')
      | succ n =>
        cases hn
        obtain ⟨lv', hg⟩ := hgt _ _ rfl
        refine wpAny_pyNext_range_item ho (by simp only [Int.natCast_add]; omega) fun h' hit hs' => ?_
        have hit' : h'.get? a = some (rngO (x + st) n st) := by
          rw [show ((n + 1 : Nat) : Int) - 1 = (n : Int) by omega] at hit; exact hit
        have G0 : Good C env nm ci (ires (.rng a) (.rng (x + st) st n) ++ X) lv φ σ { s with heap := h' } := Good.mk' K (Rel.upd R hs'.extBut hit' rfl)
        have G' : Good C env nm ci (ires (.rng a) (.rng (x + st) st n) ++ X) lv (φ.born s.toks x) σ { s with heap := h', toks := s.toks + 1 } := G0.next Pre.born (G0.rel.bornTok hi x)
        cases T with
        | one i y pos hi' =>
          show wpAny C.M A (letOwnedTupleGo _ _ _) _ _ _
          rw [letOwned_name]
          exact wpAny_pure (TG_loc (d := d) i y pos hi' A env ci _ lv _ σ _ (.ti x) _ lv' _ _ hA G' ⟨_, rfl, List.mem_cons_self⟩ hg fun s' G'' => hsome _ _ rfl lv' hg _ s' Pre.born G'' hi)
        | oneC i y pos hi' ho =>
          show wpAny C.M A (letOwnedTupleGo _ _ _) _ _ _
          rw [letOwned_name]
          cases hg
          rw [arm_assign_Name]
          exact wpAny_pure (wpAny_bind (wpAny_standAt (wpAny_bindName (G'.store (mv := .ti x) hi' (.inr ⟨rfl, hO ho i y hi'⟩) ⟨_, rfl, List.mem_cons_self⟩ fun s' G'' => hsome _ _ rfl _ rfl _ s' Pre.born G'' hi))))
        | two => cases hg
        | lst2 => cases hg
    | lst => exact hi.elim
    | enu => exact hi.elim
  | lst a l =>
    cases is with
    | rng => exact hi.elim
    | enu => exact hi.elim
    | lst r i =>
      obtain ⟨o, ho, hc, hd⟩ := R.xs _ List.mem_cons_self
      have hit : s.heap.IsListIter a l i := ⟨o, ho, hc, hd⟩
      simp only [nextIS] at hn
      split at hn
      · cases hn
      · rename_i items hit2
        obtain ⟨l', vs, e1, e2, e3⟩ := R.getList hit2
        have hl : l' = l := by have h2 : φ.l[r]? = some l := hi; rw [h2] at e1; cases e1; rfl
        subst hl
        split at hn
        · rename_i hnn
          cases hn
          have hz : vs[i]? = none := by
            have h1 := e3.length
            have h2 := List.getElem?_eq_none_iff.mp hnn
            rw [Array.getElem?_eq_none_iff]
            rw [← Array.length_toList]; omega
          refine wpAny_pyNext_list_end hA.hd hit e2.isList hz fun h' hs' => hnone rfl _ (R.lose hs')
        · rename_i m hm
          cases hn
          obtain ⟨lv', hg⟩ := hgt _ _ rfl
          obtain ⟨v, hv, rv⟩ := e3.get hm
          have hv' : vs[i]? = some v := by rw [← Array.getElem?_toList]; exact hv
          refine wpAny_pyNext_list_item hit e2.isList hv' fun h' hit' hs' => ?_
          obtain ⟨o', ho', hc', hd'⟩ := hit'
          have G' : Good C env nm ci (ires (.lst a l') (.lst r (i + 1)) ++ X) lv φ σ { s with heap := h' } := Good.mk' K (Rel.upd R hs'.extBut ho' ⟨hc', hd'⟩)
          cases T with
          | one j y pos hi' =>
            show wpAny C.M A (letOwnedTupleGo _ _ _) _ _ _
            rw [letOwned_name]
            exact wpAny_pure (TG_loc (d := d) j y pos hi' A env ci _ lv φ σ _ m _ lv' _ _ hA G' rv hg fun s' G'' => hsome _ _ rfl lv' hg _ s' (pre_refl φ) G'' hi)
          | oneC j y pos hi' ho =>
            show wpAny C.M A (letOwnedTupleGo _ _ _) _ _ _
            rw [letOwned_name]
            cases hg
            rw [arm_assign_Name]
            exact wpAny_pure (wpAny_bind (wpAny_standAt (wpAny_bindName (G'.store (mv := m) hi' (.inr ⟨rfl, hO ho j y hi'⟩) rv fun s' G'' => hsome _ _ rfl _ rfl _ s' (pre_refl φ) G'' hi))))
          | two => cases hg
          | lst2 j k y z n p1 p2 pos hj hk' =>
            have hg0 := hg
            cases m with
            | ref r' =>
              unfold gLst2 at hg
              dsimp only at hg
              split at hg
              · rename_i m1 m2 hm2
                cases hg
                obtain ⟨a', ha', rfl⟩ := rv
                refine letOwned_lit ho' ⟨hc', hd'⟩ ?_
                obtain ⟨a2, vs2, q1, q2, q3⟩ := G'.rel.getList hm2
                rw [ha'] at q1; cases q1
                obtain ⟨v1, v2, hvs, rv1, rv2⟩ := q3.two
                rw [arm_assign_Tuple]
                refine wpAny_bind (wpAny_standAt ?_)
                unfold unpack
                have hsz : vs2.size = 2 := by rw [← Array.length_toList, hvs]; rfl
                show wpAny C.M A (do assignInOrder [assign (.Name y p1) env, assign (.Name z p2) env] (← holding [.ref a'] (unpackItems (.ref a') 2 none))) _ _ _
                rw [← hsz]
                refine wpAny_bind (wpAny_holding (kun_itemsOf hA.hd q2.isList fun h3 hx => ?_))
                rw [hvs]
                have G3 := Good.ext (s' := { s with heap := h3 }) G' (extFresh hx)
                simp only [assignInOrder]
                refine wpAny_bind (wpAny_holding (TG_loc (d := d) j y p1 hj A env ci _ lv φ σ _ m1 _ _ _ _ hA G3 rv1 rfl fun s4 G4 => ?_))
                refine wpAny_bind (wpAny_holding (TG_loc (d := d) k z p2 hk' A env ci _ _ φ σ _ m2 _ _ _ _ hA G4 rv2 rfl fun s5 G5 => ?_))
                exact wpAny_pure (hsome _ _ rfl _ hg0 _ s5 (pre_refl φ) G5 hi)
              · cases hg
            | _ => cases hg
  | enu e it l =>
    cases is with
    | rng => exact hi.elim
    | lst => exact hi.elim
    | enu r i =>
      obtain ⟨oe, hoe, old, rfl⟩ := R.xs (e, EnuO it i) (by simp [ires])
      obtain ⟨oi, hoi, hc, hd⟩ := R.xs (it, LitO l i) (by simp [ires])
      have hit : s.heap.IsListIter it l i := ⟨oi, hoi, hc, hd⟩
      have hei : e ≠ it := by
        intro q
        have nd := R.nd
        rw [List.nodup_append] at nd
        have := nd.2.1
        simp [ires, q] at this
      simp only [nextIS] at hn
      split at hn
      · cases hn
      · rename_i items hit2
        obtain ⟨l', vs, e1, e2, e3⟩ := R.getList hit2
        have hl : l' = l := by have h2 : φ.l[r]? = some l := hi; rw [h2] at e1; cases e1; rfl
        subst hl
        split at hn
        · rename_i hnn
          cases hn
          have hz : vs[i]? = none := by
            have h1 := e3.length
            have h2 := List.getElem?_eq_none_iff.mp hnn
            rw [Array.getElem?_eq_none_iff]
            rw [← Array.length_toList]; omega
          refine wpAny_pyNext_enum_end hA.hd hoe hit e2.isList hz fun h' hs' => hnone rfl _ ?_
          have R2 := R.drop
          exact R2.lose hs'
        · rename_i m hm
          cases hn
          obtain ⟨lv', hg⟩ := hgt _ _ rfl
          obtain ⟨v, hv, rv⟩ := e3.get hm
          have hv' : vs[i]? = some v := by rw [← Array.getElem?_toList]; exact hv
          refine wpAny_pyNext_enum_item hoe hit e2.isList hv' hei fun h' he' hit' htup hsz hk => ?_
          cases T with
          | one => cases hg
          | oneC => cases hg
          | lst2 => cases hg
          | two j k y z n p1 p2 pos hj hk' =>
            refine wpAny_letOwnedTupleGo_enum he' fun h'' he'' hs'' => ?_
            cases hg
            have hte : s.heap.objs.size ≠ e := fun q => Nat.lt_irrefl _ (q ▸ Heap.lt_size hoe : s.heap.objs.size < s.heap.objs.size)
            have htup' : h''.get? s.heap.objs.size = some { cls := .type "tuple", data := .seq #[.int i s.toks, v] } := (hs''.2 _ hte).trans htup
            have R2 : C.R φ σ (ires (.enu e it l') (.enu r (i + 1)) ++ (vres C.W env nm ci lv φ ++ X)) { s with heap := h'', toks := s.toks + 1 } :=
              let ⟨o3, g1, g2, g3⟩ := hit'
              Rel.upd2 R (fun c ob h1 h2 e => (hs''.2 c h1).trans (hk c ob h1 h2 e)) he'' ⟨v, rfl⟩ ((hs''.2 _ (Ne.symm hei)).trans g1) ⟨g2, g3⟩
            have G' : Good C env nm ci (ires (.enu e it l') (.enu r (i + 1)) ++ X) lv φ σ { s with heap := h'', toks := s.toks + 1 } := Good.mk' K R2
            rw [arm_assign_Tuple]
            refine wpAny_bind (wpAny_standAt (wpAny_unpack_tuple hA.hd ⟨_, htup', rfl, 0, rfl⟩ rfl rfl fun h3 hx => ?_))
            have G3 := Good.ext (s' := { s with heap := h3, toks := s.toks + 1 }) G' (extFresh hx)
            show wpAny C.M A (assignInOrder [assign (.Name y p1) env, assign (.Name z p2) env] [.int i s.toks, v]) _ _ _
            simp only [assignInOrder]
            refine wpAny_bind (wpAny_holding (TG_loc (d := d) j y p1 hj A env ci _ lv φ σ _ (.int i) _ _ _ _ hA G3 ⟨_, rfl⟩ rfl fun s4 G4 => ?_))
            refine wpAny_bind (wpAny_holding (TG_loc (d := d) k z p2 hk' A env ci _ _ φ σ _ m _ _ _ _ hA G4 rv rfl fun s5 G5 => ?_))
            exact wpAny_pure (hsome _ _ rfl _ rfl _ s5 (pre_refl φ) G5 hi)
end

/-! sources -/
noncomputable abbrev SF := LV → Hp → Option (IS × Hp)
noncomputable def SI (C : Cx) (d : Nat) (nm : Nm) (iter : Expr) (f : SF) : Prop :=
  ∀ (A : Around) (env : Env) (ci : List (Nat × Addr)) (X : List Res) (lv : LV) (φ : Phi) (σ : Hp) (s : Shared) (is : IS) (σ' : Hp) (Q : Value → Shared → Prop) (E E' : Value → Shared → Prop),
    OkA A d → Good C env nm ci X lv φ σ s → f lv σ = some (is, σ') →
    (∀ (φ' : Phi) (s' : Shared) (ih : IH), Pre φ φ' → Good C env nm ci X lv φ' σ' s' → C.R φ' σ' (vres C.W env nm ci lv φ' ++ (ires ih is ++ X)) s' → IOk φ' ih is → Q (.ref ih.addr) s') →
    wpAny C.M A (eval iter env) (fun x s₁ => wpAny C.M A (pyIter x) Q E s₁) E' s

noncomputable def sList (f : EF) : SF := fun lv σ => match f lv σ with
  | some (.ref r, σ') => some (.lst r 0, σ')
  | _ => none
theorem SI_list {C : Cx} {d : Nat} {nm : Nm} {e : Expr} {f : EF} (h₁ : SE C d nm e f) : SI C d nm e (sList f) := by
  intro A env ci X lv φ σ s is σ' Q E E' hA G hf h
  unfold sList at hf
  split at hf
  · rename_i r σ₁ e1
    cases hf
    refine h₁ A env ci X lv φ σ s (.ref r) σ' _ _ hA G e1 fun φ₁ s₁ x p1 G1 r1 => ?_
    obtain ⟨a, ha, rfl⟩ := r1
    obtain ⟨o, ho, vs, n, rfl, hv⟩ : ∃ o, s₁.heap.get? a = some o ∧ ∃ vs n, o = ({ cls := .type "list", data := .seq vs n } : Obj) ∧ True := by
      have hr : r < (hlen σ') := G1.rel.len ▸ (List.getElem?_eq_some_iff.mp ha).1
      obtain ⟨its_hr, hits_hr⟩ := G1.rel.hok.has hr
      obtain ⟨o, h1, vs, n, h2, _⟩ := G1.rel.lists r a its_hr ha hits_hr
      exact ⟨o, h1, vs, n, h2, trivial⟩
    refine wpAny_pyIter_list (items := vs) ⟨_, ho, rfl, n, rfl⟩ ?_
    have R2 := G1.rel.push (s' := { s₁ with heap := s₁.heap.push { cls := .type "list_iterator", data := .fields #[.ref a, .int 0 0] } }) (P := LitO a 0) (fun b o e => Heap.get?_push_of_some _ e) (Nat.le_refl _) (Heap.get?_push_size _ rfl) ⟨rfl, rfl⟩
    exact h φ₁ _ (.lst s₁.heap.objs.size a) p1 (G1.ext fun b o e => Heap.get?_push_of_some _ e) (R2.perm (List.perm_middle (l₁ := vres C.W env nm ci lv φ₁)).symm) ha
  · cases hf

namespace F3
theorem typeCall_range_3 (a b c : Value) : checkTypeCall "range" ⟨[a, b, c], []⟩ = pure () := by kernel_rfl
theorem newCall_range_3 (a b c : Value) : checkBuiltinCall "range.__new__" ⟨[.type "range", a, b, c], []⟩ = pure () := by kernel_rfl
theorem initArgs_range_3 (obj a b c : Value) : argsOk "object.__init__" ⟨[obj, a, b, c], []⟩ := by
  unfold argsOk; rw [signature?_of (id := "object.__init__") (n := ['_', '_', 't', 'i', 'n', 'i', '_', '_']) (o := ['t', 'c', 'e', 'j', 'b', 'o']) (by kernel_rfl) F.owner_object]; kernel_rfl
end F3
theorem call_range_3 {prog : Program} {w : World} {A : Around} {E : Value → Shared → Prop} {s : Shared} {a b c : Int} {t u v : Tok} {Q : Value → Shared → Prop} (hc : c ≠ 0) (hc' : c.natAbs < 1073741824)
    (h : Q (.ref s.heap.objs.size) { s with heap := s.heap.push { cls := .type "range", data := .fields #[.int a t, .int b u, .int c v] } }) :
    wpAny (model prog w) A (call (.type "range") [.int a t, .int b u, .int c v]) Q E s :=
  callType_new F.called_range (by decide) (F3.typeCall_range_3 _ _ _) (F3.newCall_range_3 _ _ _) (fun obj => F3.initArgs_range_3 obj _ _ _) F.entry_range_new
    (AutoRange.range___new___type_int_int_int_1 a b c t u v F.called_range.sub (by simpa using hc)) ⟨PyProof.noPylong_small hc', ⟨_, Heap.get?_push_size _ rfl, rfl⟩, h⟩

noncomputable def rngOf (a b c : Int) : Option IS :=
  if Builtin.Range.small a b c then
    if c = 0 ∨ ¬ c.natAbs < 1073741824 then none else
    if Builtin.Range.rangeSize a b c = (Builtin.Range.rangeSize a b c).toNat then some (.rng a c (Builtin.Range.rangeSize a b c).toNat) else none
  else none
noncomputable def unL (x : Option (List MV × Hp)) : Option (List MV × Hp) := match x with
  | some (ms, σ) => some (ms.map MV.un, σ)
  | none => none
theorem unL_some {x : Option (List MV × Hp)} {ms : List MV} {σ : Hp} (h : unL x = some (ms, σ)) : ∃ ns, x = some (ns, σ) ∧ ns.map MV.un = ms := by
  unfold unL at h
  split at h
  · cases h; exact ⟨_, rfl, rfl⟩
  · cases h
noncomputable def sRange (f : LF) : SF := fun lv σ => match unL (f lv σ) with
  | some ([.int n], σ') => (rngOf 0 n 1).map (·, σ')
  | some ([.int a, .int b], σ') => (rngOf a b 1).map (·, σ')
  | _ => none
noncomputable def sRange3 (f : LF) : SF := fun lv σ => match unL (f lv σ) with
  | some ([.int a, .int b, .int c], σ') => (rngOf a b c).map (·, σ')
  | _ => none
/-- arguments of which the last is a written number -/
noncomputable def SLp (C : Cx) (d : Nat) (nm : Nm) (es : List Expr) (f : LF) : Prop := NoStar es ∧
  ∀ (A : Around) (env : Env) (ci : List (Nat × Addr)) (X : List Res) (lv : LV) (φ : Phi) (σ : Hp) (s : Shared) (v : List MV) (σ' : Hp) (pos : Pos) (Q : List Value → Shared → Prop) (E : Value → Shared → Prop),
    OkA A d → Good C env nm ci X lv φ σ s → f lv σ = some (v, σ') →
    (∀ (φ' : Phi) (s' : Shared) (r : List Value), Pre φ φ' → Good C env nm ci X lv φ' σ' s' → 1 ≤ s'.toks → All2 (VRel C.W φ') v r → Q r s') → wpAny C.M A (spliced (backTo pos (starEach es env))) Q E s
theorem SLp_last {C : Cx} {d : Nat} {nm : Nm} (i : Int) (k : Nat) (p : Pos) : SLp C d nm [.Constant (.int i) k p] (lCons (fun _ σ => some (.int i, σ)) lNil) := by
  refine ⟨⟨fun _ => rfl, trivial⟩, ?_⟩
  intro A env ci X lv φ σ s v σ' pos Q E hA G hf h
  cases hf
  show wpAny C.M A (spliced ((false, eval (.Constant (.int i) k p) env) :: backTo pos (starEach [] env))) Q E s
  refine Calls.spliced_cons (wpAny_Constant_int (Calls.spliced_nil ?_))
  exact h φ _ _ (pre_refl φ) (G.toks _) (Nat.le_add_left 1 _) ⟨⟨_, rfl⟩, trivial⟩
theorem SLp_cons {C : Cx} {d : Nat} {nm : Nm} {e : Expr} {es : List Expr} {f : EF} {g : LF} (h₁ : SE C d nm e f) (h₂ : SLp C d nm es g) (he : ∀ env, starEach (e :: es) env = (false, eval e env) :: starEach es env := by intro _; rfl) :
    SLp C d nm (e :: es) (lCons f g) := by
  refine ⟨⟨he, h₂.1⟩, ?_⟩
  intro A env ci X lv φ σ s v σ' pos Q E hA G hf h
  unfold lCons at hf
  split at hf
  · rename_i m σ₁ e1
    split at hf
    · rename_i ms σ₂ e2
      cases hf
      rw [he env]
      show wpAny C.M A (spliced ((false, eval e env) :: backTo pos (starEach es env))) Q E s
      refine Calls.spliced_cons (h₁ A env ci X lv φ σ s m σ₁ _ E hA G e1 fun φ₁ s₁ x p1 G1 r1 => h₂.2 A env ci X lv φ₁ σ₁ s₁ ms _ pos _ E hA G1 e2 fun φ₂ s₂ xs p2 G2 ht r2 => ?_)
      exact h φ₂ s₂ _ (pre_trans p1 p2) G2 ht ⟨r1.mono p2, r2⟩
    · cases hf
  · cases hf

theorem range_done {C : Cx} {A : Around} {env : Env} {nm : Nm} {ci : List (Nat × Addr)} {X : List Res} {lv : LV} {φ : Phi} {σ : Hp} {s : Shared} {a b c : Int} {t u v : Tok} {tk : Nat} {is : IS} {Q E : Value → Shared → Prop}
    (G : Good C env nm ci X lv φ σ s) (hr : rngOf a b c = some is) (htk : s.toks ≤ tk) (htk1 : 1 ≤ tk)
    (h : ∀ (s' : Shared) (ih : IH), Good C env nm ci X lv φ.on σ s' → C.R φ.on σ (vres C.W env nm ci lv φ.on ++ (ires ih is ++ X)) s' → IOk φ.on ih is → Q (.ref ih.addr) s') :
    wpAny C.M A (pyIter (.ref s.heap.objs.size)) Q E { s with heap := s.heap.push { cls := .type "range", data := .fields #[.int a t, .int b u, .int c v] }, toks := tk } := by
  unfold rngOf at hr
  split at hr
  · rename_i hs
    split at hr
    · cases hr
    · split at hr
      · rename_i hn
        cases hr
        refine wpAny_pyIter_range (IsRange.new s.heap a b c t u v) hs ?_
        have G0 := G.ext (s' := { s with heap := s.heap.push { cls := .type "range", data := .fields #[.int a t, .int b u, .int c v] }, toks := tk }) (fun b o e => Heap.get?_push_of_some _ e) rfl rfl htk
        have G1 : Good C env nm ci X lv φ.on σ { s with heap := s.heap.push { cls := .type "range", data := .fields #[.int a t, .int b u, .int c v] }, toks := tk } := G0.next Pre.on (G0.rel.turnOn htk1)
        have R2 := G1.rel.push (s' := { s with heap := (s.heap.push { cls := .type "range", data := .fields #[.int a t, .int b u, .int c v] }).push { cls := .type "range_iterator", data := .fields #[rawInt a, rawInt (Builtin.Range.rangeSize a b c), rawInt c] }, toks := tk })
          (P := fun o => o = rngO a (Builtin.Range.rangeSize a b c).toNat c) (fun b o e => Heap.get?_push_of_some _ e) (Nat.le_refl _) (Heap.get?_push_size _ rfl) (by rw [← hn]; rfl)
        exact h _ (.rng _) (G1.ext fun b o e => Heap.get?_push_of_some _ e) (R2.perm (List.perm_middle (l₁ := vres C.W env nm ci lv φ.on)).symm) rfl
      · cases hr
  · cases hr

theorem SI_range {C : Cx} {d : Nat} {nm : Nm} {es : List Expr} {p pos : Pos} {f : LF} (hm : C.mg "range" = none) (hx : nm.lookup ("range" : Str) = some .globalImplicit) (h₁ : SL C d nm es f) :
    SI C d nm (.Call (.Name "range" p) es [] pos) (sRange f) := by
  intro A env ci X lv φ σ s is σ' Q E E' hA G hf h
  refine wpAny_Call_NameR (name_builtin (v := .type "range") G hm hx (by decide) (by decide) (by rfl) ?_)
  refine PySem.callWith_type (h₁.plain.any env pos) ?_
  unfold sRange at hf
  split at hf
  · rename_i n σ₁ e1
    obtain ⟨is', hr, hh⟩ := Option.map_eq_some_iff.mp hf
    cases hh
    obtain ⟨ns, e1, hns⟩ := unL_some e1
    refine h₁.args hA G e1 fun φ₁ s₁ r p1 G1 r1 => ?_
    have r1 := r1.un; rw [hns] at r1
    obtain ⟨_, rfl, ⟨t, rfl⟩⟩ := r1.one
    exact call_range_1 (range_done G1 hr (Nat.le_add_right _ 2) (Nat.le_add_left 1 _) fun s' ih G2 R2 i2 => h φ₁.on s' ih (pre_trans p1 Pre.on) G2 R2 i2)
  · rename_i a b σ₁ e1
    obtain ⟨is', hr, hh⟩ := Option.map_eq_some_iff.mp hf
    cases hh
    obtain ⟨ns, e1, hns⟩ := unL_some e1
    refine h₁.args hA G e1 fun φ₁ s₁ r p1 G1 r1 => ?_
    have r1 := r1.un; rw [hns] at r1
    obtain ⟨_, _, rfl, ⟨t, rfl⟩, ⟨u, rfl⟩⟩ := r1.two
    exact call_range_2 (range_done G1 hr (Nat.le_succ _) (Nat.le_add_left 1 _) fun s' ih G2 R2 i2 => h φ₁.on s' ih (pre_trans p1 Pre.on) G2 R2 i2)
  · cases hf

theorem evalArgs_of_spliced {C : Cx} {A : Around} {es : List Expr} {env : Env} {pos : Pos} {fv : Value} {s : Shared} {Q : Args → Shared → Prop} {E : Value → Shared → Prop} {e : Expr} (hn : NoStar (e :: es))
    (k : wpAny C.M A (spliced (backTo pos (starEach (e :: es) env))) (fun r s' => Q ⟨r, []⟩ s') E s) : wpAny C.M A (evalArgs fv true (backTo pos (starEach (e :: es) env)) []) Q E s := by
  rw [hn.1 env] at k ⊢
  exact Calls.evalArgs_plain k
theorem SI_range3 {C : Cx} {d : Nat} {nm : Nm} {e : Expr} {es : List Expr} {p pos : Pos} {f : LF} (hm : C.mg "range" = none) (hx : nm.lookup ("range" : Str) = some .globalImplicit) (h₁ : SLp C d nm (e :: es) f) :
    SI C d nm (.Call (.Name "range" p) (e :: es) [] pos) (sRange3 f) := by
  intro A env ci X lv φ σ s is σ' Q E E' hA G hf h
  refine wpAny_Call_NameR (name_builtin (v := .type "range") G hm hx (by decide) (by decide) (by rfl) ?_)
  refine PySem.callWith_type (h₁.1.any env pos) ?_
  unfold sRange3 at hf
  split at hf
  · rename_i a b c σ₁ e1
    obtain ⟨is', hr, hh⟩ := Option.map_eq_some_iff.mp hf
    cases hh
    obtain ⟨ns, e1, hns⟩ := unL_some e1
    refine evalArgs_of_spliced h₁.1 (h₁.2 A env ci X lv φ σ s ns _ pos _ _ hA G e1 fun φ₁ s₁ r p1 G1 ht r1 => ?_)
    have r1 := r1.un; rw [hns] at r1
    obtain ⟨_, _, _, rfl, ⟨t, rfl⟩, ⟨u, rfl⟩, ⟨v, rfl⟩⟩ := r1.three
    have hc : ¬ (c = 0 ∨ ¬ c.natAbs < 1073741824) := by
      intro q
      unfold rngOf at hr
      split at hr
      · cases hr
      · cases hr
    exact call_range_3 (fun q => hc (.inl q)) (Decidable.not_not.mp fun q => hc (.inr q)) (range_done (tk := s₁.toks) G1 hr (Nat.le_refl _) ht fun s' ih G2 R2 i2 => h φ₁.on s' ih (pre_trans p1 Pre.on) G2 R2 i2)
  · cases hf

noncomputable def sEnum (f : LF) : SF := fun lv σ => match f lv σ with
  | some ([.ref r], σ') => some (.enu r 0, σ')
  | _ => none
theorem SI_enum {C : Cx} {d : Nat} {nm : Nm} {es : List Expr} {p pos : Pos} {f : LF} (hm : C.mg "enumerate" = none) (hx : nm.lookup ("enumerate" : Str) = some .globalImplicit) (h₁ : SL C d nm es f) :
    SI C d nm (.Call (.Name "enumerate" p) es [] pos) (sEnum f) := by
  intro A env ci X lv φ σ s is σ' Q E E' hA G hf h
  refine wpAny_Call_NameR (name_builtin (v := .type "enumerate") G hm hx (by decide) (by decide) (by rfl) ?_)
  refine PySem.callWith_type (h₁.plain.any env pos) ?_
  unfold sEnum at hf
  split at hf
  · rename_i r σ₁ e1
    cases hf
    refine h₁.args hA G e1 fun φ₁ s₁ r1 p1 G1 r1 => ?_
    obtain ⟨_, rfl, ⟨a, ha, rfl⟩⟩ := r1.one
    · have hr : r < (hlen σ') := G1.rel.len ▸ (List.getElem?_eq_some_iff.mp ha).1
      obtain ⟨its_hr, hits_hr⟩ := G1.rel.hok.has hr
      obtain ⟨o, h1, vs, n, rfl, _⟩ := G1.rel.lists r a its_hr ha hits_hr
      refine call_enumerate_list (items := vs) ⟨_, h1, rfl, n, rfl⟩ fun h' he hit hsz hk => ?_
      refine wpAny_pyIter_enum he ?_
      obtain ⟨oi, g1, g2, g3⟩ := hit
      have hsz' : s₁.heap.objs.size ≤ s₁.heap.objs.size + 1 := Nat.le_succ _
      have R1 := G1.rel.push (s' := { s₁ with heap := h' }) (P := LitO a 0) hk (Nat.le_refl _) g1 ⟨g2, g3⟩
      have R2 := R1.add (a := s₁.heap.objs.size + 1) (P := EnuO s₁.heap.objs.size 0) (fun q => by
        rcases List.mem_append.mp q with q | q
        · exact absurd (G1.rel.size (List.mem_append_left _ q)) (Nat.not_lt.mpr (Nat.le_succ _))
        · rcases List.mem_cons.mp q with q | q
          · exact absurd q (Nat.succ_ne_self _)
          · exact absurd (G1.rel.size (List.mem_append_right _ q)) (Nat.not_lt.mpr (Nat.le_succ _))) (by
        cases q : C.g.get? (s₁.heap.objs.size + 1) with
        | none => rfl
        | some o' => exact absurd (Heap.lt_size (G1.rel.keep _ _ q)) (Nat.not_lt.mpr (Nat.le_succ _))) he ⟨_, rfl⟩
      refine h φ₁ _ (.enu (s₁.heap.objs.size + 1) s₁.heap.objs.size a) p1 (G1.ext hk) (R2.perm ?_) ha
      exact (mid_perm (vres C.W env nm ci lv φ₁) (ires (.enu (s₁.heap.objs.size + 1) s₁.heap.objs.size a) (.enu r 0)) X).symm
  · cases hf

end Mine
end

section
namespace Mine

/-! for -/
noncomputable def xFor (gt : GT) (body oe : XF) : Nat → IS → XF
  | 0, _ => fun _ _ => none
  | n + 1, is => fun lv σ => match nextIS is σ with
    | none => none
    | some none => oe lv σ
    | some (some (iv, is')) => match gt iv lv σ with
      | none => none
      | some lv' => match body lv' σ with
        | some (.next, lv'', σ'') => xFor gt body oe n is' lv'' σ''
        | r => r
noncomputable def xForS (src : SF) (gt : GT) (body oe : XF) (fuel : Nat) : XF := fun lv σ => match src lv σ with
  | some (is, σ') => xFor gt body oe fuel is lv σ'
  | none => none

theorem SS_for {C : Cx} {d : Nat} {nm : Nm} {target iter : Expr} {body orelse : List Stmt} {pos : Pos} {src : SF} {gt : GT} {f oe : XF} (fuel : Nat) (T : TGT nm true target gt) (hi : SI C d nm iter src) (hb : SB C d nm body f) (ho : SB C d nm orelse oe)
    (hs : ∀ (env : Env) (x : Value), foldedSetIterable iter env x = pure x := by intros; rfl) : SS C d nm (.For target iter body orelse pos) (xForS src gt f oe fuel) := by
  intro A env ci X lv φ σ s fl lv' σ' Q E hA hO G hf h
  unfold xForS at hf
  split at hf
  · rename_i is0 σ₀ e0
    refine wpAny_For (hi A env ci X lv φ σ s is0 σ₀ _ _ _ hA G e0 fun φ₀ s₀ ih p0 G0 R0 i0 => ?_) (hs env)
    refine codeAny_forLoop_any (fun n s => ∃ is lv₁ φ₁ σ₁, Pre φ₀ φ₁ ∧ EnvOk C.W env nm ci lv₁ φ₁ X ∧ C.R φ₁ σ₁ (vres C.W env nm ci lv₁ φ₁ ++ (ires ih is ++ X)) s ∧ IOk φ₁ ih is ∧ xFor gt f oe n is lv₁ σ₁ = some (fl, lv', σ')) ?_ fuel
      ⟨is0, lv, φ₀, σ₀, pre_refl _, G0.ok, R0, i0, hf⟩
    rintro n s₁ ⟨is, lv₁, φ₁, σ₁, p1, K1, R1, i1, e1⟩
    cases n with
    | zero => cases e1
    | succ n =>
      unfold xFor at e1
      split at e1
      · cases e1
      · rename_i hn
        refine turn (lv := lv₁) hA (fun _ i x h => hO i x h) T K1 R1 i1 hn (fun _ s₂ R2 => ?_) (fun iv is' q => by cases q) (fun iv is' q => by cases q)
        exact ho A env ci X lv₁ φ₁ σ₁ s₂ fl lv' σ' _ _ hA hO ⟨K1, R2⟩ e1 fun φ₂ s₃ r p2 G2 r2 => h φ₂ s₃ r (pre_trans p0 (pre_trans p1 p2)) G2 r2
      · rename_i iv is' hn
        split at e1
        · cases e1
        · rename_i lv₂ hg
          refine turn (lv := lv₁) hA (fun _ i x h => hO i x h) T K1 R1 i1 hn (fun q => by cases q) (fun iv' is'' q lv₃ hg' φt s₂ pt G2 i2 => ?_) (fun iv' is'' q => by cases q; exact ⟨_, hg⟩)
          cases q
          rw [hg] at hg'; cases hg'
          split at e1
          · rename_i lv₄ σ₄ e4
            refine hb A env ci _ lv₂ φt σ₁ s₂ .next lv₄ σ₄ _ _ hA hO G2 e4 fun φ₃ s₃ r p3 G3 r3 => ?_
            obtain rfl : r = .next := r3
            exact ⟨n, Nat.lt_succ_self n, is', lv₄, φ₃, σ₄, pre_trans p1 (pre_trans pt p3), Good.back (lv0 := lv₁) K1 G3, G3.rel, i2.mono p3, e1⟩
          · rename_i hne
            refine hb A env ci _ lv₂ φt σ₁ s₂ fl lv' σ' _ _ hA hO G2 e1 fun φ₃ s₃ r p3 G3 r3 => ?_
            cases fl with
            | next => exact absurd e1 (hne _ _)
            | ret m =>
              obtain ⟨v, rfl, rv⟩ := r3
              exact h φ₃ s₃ _ (pre_trans p0 (pre_trans p1 (pre_trans pt p3))) ⟨Good.back (lv0 := lv₁) K1 G3, (G3.rel.perm (mid_perm _ _ _)).drops⟩ ⟨v, rfl, rv⟩
  · cases hf

/-! while -/
noncomputable def xWhile (t : TF) (body oe : XF) : Nat → XF
  | 0 => fun _ _ => none
  | n + 1 => fun lv σ => match t lv σ with
    | none => none
    | some (false, σ') => oe lv σ'
    | some (true, σ') => match body lv σ' with
      | some (.next, lv', σ'') => xWhile t body oe n lv' σ''
      | r => r

theorem SS_while {C : Cx} {d : Nat} {nm : Nm} {test : Expr} {body orelse : List Stmt} {pos : Pos} {t : TF} {f oe : XF} (fuel : Nat) (ht : ST C d nm test t) (hb : SB C d nm body f) (ho : SB C d nm orelse oe) :
    SS C d nm (.While test body orelse pos) (xWhile t f oe fuel) := by
  intro A env ci X lv φ σ s fl lv' σ' Q E hA hO G hf h
  refine wpAny_While (codeAny_whileLoop (fun n s => ∃ lv₁ φ₁ σ₁, Pre φ φ₁ ∧ Good C env nm ci X lv₁ φ₁ σ₁ s ∧ xWhile t f oe n lv₁ σ₁ = some (fl, lv', σ')) ?_ fuel ⟨lv, φ, σ, pre_refl _, G, hf⟩)
  rintro n s₁ ⟨lv₁, φ₁, σ₁, p1, G1, e1⟩
  cases n with
  | zero => cases e1
  | succ n =>
    unfold xWhile at e1
    split at e1
    · cases e1
    · rename_i σ₂ e2
      refine ht A env ci X lv₁ φ₁ σ₁ s₁ false σ₂ _ _ hA G1 e2 fun φ₂ s₂ p2 G2 => ?_
      exact ho A env ci X lv₁ φ₂ σ₂ s₂ fl lv' σ' _ _ hA hO G2 e1 fun φ₃ s₃ r p3 G3 r3 => h φ₃ s₃ r (pre_trans p1 (pre_trans p2 p3)) G3 r3
    · rename_i σ₂ e2
      refine ht A env ci X lv₁ φ₁ σ₁ s₁ true σ₂ _ _ hA G1 e2 fun φ₂ s₂ p2 G2 => ?_
      rw [if_pos rfl]
      split at e1
      · rename_i lv₄ σ₄ e4
        refine hb A env ci X lv₁ φ₂ σ₂ s₂ .next lv₄ σ₄ _ _ hA hO G2 e4 fun φ₃ s₃ r p3 G3 r3 => ?_
        obtain rfl : r = .next := r3
        exact ⟨n, Nat.lt_succ_self n, lv₄, φ₃, σ₄, pre_trans p1 (pre_trans p2 p3), G3, e1⟩
      · rename_i hne
        refine hb A env ci X lv₁ φ₂ σ₂ s₂ fl lv' σ' _ _ hA hO G2 e1 fun φ₃ s₃ r p3 G3 r3 => ?_
        cases fl with
        | next => exact absurd e1 (hne _ _)
        | ret m =>
          obtain ⟨v, rfl, rv⟩ := r3
          exact h φ₃ s₃ _ (pre_trans p1 (pre_trans p2 p3)) G3 ⟨v, rfl, rv⟩

/-! comprehensions -/
noncomputable abbrev CF := LV → Hp → Option (LV × Hp)
noncomputable def cEmit (f : EF) (r : Nat) : CF := fun lv σ => match f lv σ with
  | some (v, σ') => match (hget σ' r) with
    | some items => if items.length ≤ 1000 then some (lv, hset σ' r (items ++ [v])) else none
    | none => none
  | none => none
noncomputable def cLoop (gt : GT) (t : TF) (inner : CF) : Nat → IS → CF
  | 0, _ => fun _ _ => none
  | n + 1, is => fun lv σ => match nextIS is σ with
    | none => none
    | some none => some (lv, σ)
    | some (some (iv, is')) => match gt iv lv σ with
      | none => none
      | some lv' => match t lv' σ with
        | none => none
        | some (false, σ') => cLoop gt t inner n is' lv' σ'
        | some (true, σ') => match inner lv' σ' with
          | some (lv'', σ'') => cLoop gt t inner n is' lv'' σ''
          | none => none
noncomputable def cNest (src : SF) (loop : IS → CF) : CF := fun lv σ => match src lv σ with
  | some (is, σ') => loop is lv σ'
  | none => none

/-- what a turn of a comprehension does when its tests hold -/
noncomputable def compAct (elt : Expr) (gens : List Comprehension) (scope : Scope) (pos : Pos) (depth : Nat) (acc : Value) (env : Env) : Sem Unit :=
  match gens[depth + 1]? with
  | some g' => eval g'.iter env >>= fun x => standAt g'.iter.pos >>= fun _ => foldedSetIterable g'.iter env x >>= fun x => holding [x] (pyIter x) >>= fun it =>
      runOwn (.compStart (.ListComp elt gens scope pos) (depth + 1) it acc env) env >>= fun _ => pure ()
  | none => eval elt env >>= fun v => call (.builtin "list.append") [acc, v] >>= fun _ => pure ()

noncomputable def SA (C : Cx) (d : Nat) (nm : Nm) (act : Value → Env → Sem Unit) (F : Nat → CF) : Prop :=
  ∀ (A : Around) (env : Env) (X : List Res) (lv : LV) (φ : Phi) (σ : Hp) (s : Shared) (r : Nat) (a : Addr) (lv' : LV) (σ' : Hp) (Q : Unit → Shared → Prop) (E : Value → Shared → Prop),
    OkA A d → Good C env nm [] X lv φ σ s → φ.l[r]? = some a → F r lv σ = some (lv', σ') →
    (∀ (φ' : Phi) (s' : Shared), Pre φ φ' → Good C env nm [] X lv' φ' σ' s' → Q () s') → wpAny C.M A (act (.ref a) env) Q E s

theorem append_list {C : Cx} {A : Around} {env : Env} {nm : Nm} {ci : List (Nat × Addr)} {X : List Res} {lv : LV} {φ : Phi} {σ : Hp} {s : Shared} {r : Nat} {a : Addr} {items : List MV} {m : MV} {v : Value} {Q E : Value → Shared → Prop}
    (G : Good C env nm ci X lv φ σ s) (ha : φ.l[r]? = some a) (hi : (hget σ r) = some items) (hl : items.length ≤ 1000) (rv : VRel C.W φ m v)
    (h : ∀ s', Good C env nm ci X lv φ (hset σ r (items ++ [m])) s' → Q .none s') : wpAny C.M A (call (.builtin "list.append") [.ref a, v]) Q E s := by
  obtain ⟨a', vs, e1, e2, e3⟩ := G.rel.getList hi
  rw [ha] at e1; cases e1
  have hlen := e3.length
  refine wpAny_list_append_plain e2 (fun h' hp hs => h _ ⟨G.ok, ?_⟩) (by
    rw [← Array.length_toList, ← hlen]; exact Nat.le_trans hl sizeLine_ge)
  obtain ⟨n, hp⟩ := hp
  refine G.rel.updList ha hs.extBut hp ⟨_, n, rfl, ?_⟩
  rw [Array.toList_push]
  exact e3.append ⟨rv, trivial⟩

theorem SA_emit {C : Cx} {d : Nat} {nm : Nm} {elt : Expr} {gens : List Comprehension} {scope : Scope} {pos : Pos} {depth : Nat} {f : EF} (hd : gens[depth + 1]? = none) (h₁ : SE C d nm elt f) : SA C d nm (compAct elt gens scope pos depth) (cEmit f) := by
  intro A env X lv φ σ s r a lv' σ' Q E hA G ha hf h
  unfold cEmit at hf
  split at hf
  · rename_i v σ₁ e1
    split at hf
    · rename_i items e2
      split at hf
      · rename_i hl
        cases hf
        unfold compAct
        rw [hd]
        refine wpAny_bind (h₁ A env [] X lv φ σ s v σ₁ _ _ hA G e1 fun φ₁ s₁ x p1 G1 r1 => wpAny_bind (append_list G1 (pre_get p1 ha) e2 hl r1 fun s₂ G2 => wpAny_pure (h φ₁ s₂ p1 G2)))
      · cases hf
    · cases hf
  · cases hf

inductive Tests (C : Cx) (d : Nat) (nm : Nm) : List Expr → TF → Prop
  | nil : Tests C d nm [] (fun _ σ => some (true, σ))
  | one {e : Expr} {t : TF} : ST C d nm e t → Tests C d nm [e] t

theorem compStart_ok {prog : Program} {w : World} {A : Around} {R : Result → Shared → Prop} {s : Shared} {elt : Expr} {gens : List Comprehension} {scope : Scope} {pos : Pos} {depth : Nat} {target iter : Expr} {ifs : List Expr} {it acc : Value} {env : Env}
    (hg : gens[depth]? = some ⟨target, iter, ifs, 0⟩)
    (h0 : codeAny (model prog w) A (.compLoop (.ListComp elt gens scope pos) depth it acc env) R s)
    (h : wpAny (model prog w) A (pyIter it) (fun it' s' => codeAny (model prog w) A (.compLoop (.ListComp elt gens scope pos) depth it' acc env) R s') (notedBy (model prog w) A env fun x s' => R (.error x) s') s) :
    codeAny (model prog w) A (.compStart (.ListComp elt gens scope pos) depth it acc env) R s := by
  refine codeAny_of_tree ?_
  show wpAny _ _ ((compStart (.ListComp elt gens scope pos) depth it acc env).onRaise (fun x => do noteFrame x env; standAt theWindowsPlace)) _ _ s
  refine wpAny_notedAt ?_
  unfold compStart
  simp only [clausesOf, hg]
  show wpAny _ _ (ask >>= _) _ _ s
  refine wpAny_bind (wpAny_askSetting (wpAny_ite ?_))
  split
  · first
      | exact wpAny_bind (wpAny_pure (wpAny_pure (And.intro rfl h0)))
      | exact wpAny_pure (And.intro rfl h0)
  · refine wpAny_bind (wpAny_rule ?_)
    show wpAny _ _ (standAt iter.pos >>= _) _ _ s
    exact wpAny_bind (wpAny_standAt (wpAny_bind (wpAny_mono h (fun it' s' h' => wpAny_pure (And.intro rfl h')) fun _ _ x => x)))

theorem compTurn_ok {M : Model} {A : Around} {s : Shared} {Q : Fin → Shared → Prop} {E : Value → Shared → Prop} {elt : Expr} {gens : List Comprehension} {scope : Scope} {pos : Pos} {depth : Nat} {target iter : Expr} {ifs : List Expr} {it acc : Value} {env : Env}
    (hg : gens[depth]? = some ⟨target, iter, ifs, 0⟩) (hna : ∀ g', gens[depth + 1]? = some g' → g'.is_async = 0)
    (h : wpAny M A (pyNext it) (fun r s₁ => match r with
      | none => Q (.done .next) s₁
      | some v => wpAny M A (letOwnedTupleGo target it v) (fun _ s₂ => wpAny M A (assign target env v) (fun _ s₃ =>
          wpAny M A (forIn ifs true fun c r => if r = true then do let ok ← isTrue c env (eval c env); pure (ForInStep.yield ok) else pure (ForInStep.yield r)) (fun ok s₄ =>
            if ok = true then wpAny M A (compAct elt gens scope pos depth acc env) (fun _ s₅ => Q (.again (.compLoop (.ListComp elt gens scope pos) depth it acc env)) s₅) E s₄
            else Q (.again (.compLoop (.ListComp elt gens scope pos) depth it acc env)) s₄) E s₃) E s₂) E s₁) E s) :
    wpAny M A (compTurn (.ListComp elt gens scope pos) depth it acc env) Q E s := by
  unfold compTurn
  simp only [hg]
  refine wpAny_bind (wpAny_standAt (wpAny_bind (wpAny_mono h (fun r s₁ h₁ => ?_) fun _ _ x => x)))
  cases r with
  | none => exact wpAny_pure h₁
  | some v =>
    refine wpAny_bind (wpAny_mono h₁ (fun _ s₂ h₂ => wpAny_bind (wpAny_mono h₂ (fun _ s₃ h₃ => wpAny_bind (wpAny_mono h₃ (fun ok s₄ h₄ => ?_) fun _ _ x => x)) fun _ _ x => x)) fun _ _ x => x)
    cases ok with
    | false =>
      simp only [Bool.false_eq_true, if_false] at h₄ ⊢
      exact wpAny_pure h₄
    | true =>
      simp only [if_true] at h₄ ⊢
      have h₅ : wpAny M A (compAct elt gens scope pos depth acc env >>= fun _ => (again (.compLoop (.ListComp elt gens scope pos) depth it acc env) : Sem Fin)) Q E s₄ := wpAny_bind (wpAny_mono h₄ (fun _ _ q => wpAny_pure q) fun _ _ x => x)
      unfold compAct at h₅
      split at h₅
      · rename_i g' hg'
        simp only [hg', hna g' hg']
        simp only [bind_assoc, pure_bind] at h₅
        exact h₅
      · rename_i hg'
        simp only [hg']
        simp only [bind_assoc, pure_bind] at h₅ ⊢
        exact h₅

theorem pyIter_self {prog : Program} {w : World} {A : Around} {s : Shared} {Q E : Value → Shared → Prop} {C : Cx} {φ : Phi} {σ : Hp} {X : List Res} {ih : IH} {is : IS} (R : C.R φ σ (ires ih is ++ X) s) (hi : IOk φ ih is) (h : Q (.ref ih.addr) s) :
    wpAny (model prog w) A (pyIter (.ref ih.addr)) Q E s := by
  cases ih with
  | rng a =>
    cases is with
    | rng x st n =>
      obtain ⟨o, ho, rfl⟩ := R.xs _ List.mem_cons_self
      exact wpAny_pyIter_rangeiter ho h
    | lst => exact hi.elim
    | enu => exact hi.elim
  | lst a l =>
    cases is with
    | lst r i =>
      obtain ⟨o, ho, hc, hd⟩ := R.xs _ List.mem_cons_self
      exact wpAny_pyIter_listiter ⟨o, ho, hc, hd⟩ h
    | rng => exact hi.elim
    | enu => exact hi.elim
  | enu e it l =>
    cases is with
    | enu r i =>
      obtain ⟨o, ho, old, rfl⟩ := R.xs _ List.mem_cons_self
      exact wpAny_pyIter_enum ho h
    | lst => exact hi.elim
    | rng => exact hi.elim

theorem tests_ok {C : Cx} {d : Nat} {nm : Nm} {ifs : List Expr} {t : TF} (T : Tests C d nm ifs t) {A : Around} {env : Env} {ci : List (Nat × Addr)} {X : List Res} {lv : LV} {φ : Phi} {σ : Hp} {s : Shared} {v : Bool} {σ' : Hp} {Q : Bool → Shared → Prop} {E : Value → Shared → Prop}
    (hA : OkA A d) (G : Good C env nm ci X lv φ σ s) (hf : t lv σ = some (v, σ'))
    (h : ∀ (φ' : Phi) (s' : Shared), Pre φ φ' → Good C env nm ci X lv φ' σ' s' → Q v s') :
    wpAny C.M A (forIn ifs true fun c r => if r = true then do let ok ← isTrue c env (eval c env); pure (ForInStep.yield ok) else pure (ForInStep.yield r)) Q E s := by
  cases T with
  | nil =>
    cases hf
    rw [List.forIn_nil]
    exact wpAny_pure (h φ s (pre_refl φ) G)
  | one ht =>
    rw [List.forIn_cons]
    simp only [if_true]
    refine wpAny_bind (wpAny_bind (ht A env ci X lv φ σ s v σ' _ _ hA G hf fun φ₁ s₁ p1 G1 => wpAny_pure ?_))
    show wpAny C.M A (forIn [] v _) Q E s₁
    rw [List.forIn_nil]
    exact wpAny_pure (h φ₁ s₁ p1 G1)

theorem compLoop_ok {C : Cx} {d : Nat} {nm : Nm} {elt : Expr} {gens : List Comprehension} {scope : Scope} {pos : Pos} {depth : Nat} {target iter : Expr} {ifs : List Expr} {gt : GT} {t : TF} {inner : Nat → CF}
    (hg : gens[depth]? = some ⟨target, iter, ifs, 0⟩) (hna : ∀ g', gens[depth + 1]? = some g' → g'.is_async = 0) (T : TGT nm false target gt) (ht : Tests C d nm ifs t) (ha : SA C d nm (compAct elt gens scope pos depth) inner)
    {A : Around} {env : Env} {X : List Res} {lv lv' : LV} {φ : Phi} {σ σ' : Hp} {s : Shared} {r : Nat} {a : Addr} {fuel : Nat} {ih : IH} {is : IS} {R : Result → Shared → Prop} (hA : OkA A d)
    (K : EnvOk C.W env nm [] lv φ X) (R0 : C.R φ σ (vres C.W env nm [] lv φ ++ (ires ih is ++ X)) s) (hi : IOk φ ih is) (hr : φ.l[r]? = some a) (hf : cLoop gt t (inner r) fuel is lv σ = some (lv', σ'))
    (h : ∀ (φ' : Phi) (s' : Shared), Pre φ φ' → Good C env nm [] X lv' φ' σ' s' → R (.ok .next) s') :
    codeAny C.M A (.compLoop (.ListComp elt gens scope pos) depth (.ref ih.addr) (.ref a) env) R s := by
  refine codeAny_loop rfl (fun n s => ∃ is lv₁ φ₁ σ₁, Pre φ φ₁ ∧ EnvOk C.W env nm [] lv₁ φ₁ X ∧ C.R φ₁ σ₁ (vres C.W env nm [] lv₁ φ₁ ++ (ires ih is ++ X)) s ∧ IOk φ₁ ih is ∧ cLoop gt t (inner r) n is lv₁ σ₁ = some (lv', σ')) ?_ fuel
    ⟨is, lv, φ, σ, pre_refl _, K, R0, hi, hf⟩
  rintro n s₁ ⟨is, lv₁, φ₁, σ₁, p1, K1, R1, i1, e1⟩
  show wpAny _ A ((compTurn (.ListComp elt gens scope pos) depth (.ref ih.addr) (.ref a) env).onRaise (fun x => do noteFrame x env; theTreesLotGoes x)) _ _ s₁
  refine wpAny_noted (compTurn_ok hg hna ?_)
  cases n with
  | zero => cases e1
  | succ n =>
    unfold cLoop at e1
    split at e1
    · cases e1
    · rename_i hn
      cases e1
      exact turn (lv := lv') hA (fun h => by cases h) T K1 R1 i1 hn (fun _ s₂ R2 => h φ₁ s₂ p1 ⟨K1, R2⟩) (fun iv is' q => by cases q) (fun iv is' q => by cases q)
    · rename_i iv is' hn
      split at e1
      · cases e1
      · rename_i lv₂ hgt
        refine turn (lv := lv₁) hA (fun h => by cases h) T K1 R1 i1 hn (fun q => by cases q) (fun iv' is'' q lv₃ hg' φt s₂ pt G2 i2 => ?_) (fun iv' is'' q => by cases q; exact ⟨_, hgt⟩)
        cases q
        rw [hgt] at hg'; cases hg'
        split at e1
        · cases e1
        · rename_i σ₃ e3
          refine tests_ok ht hA G2 e3 fun φ₃ s₃ p3' G3 => ?_
          have p3 := pre_trans pt p3'
          rw [if_neg Bool.false_ne_true]
          exact ⟨rfl, n, Nat.lt_succ_self n, is', lv₂, φ₃, σ₃, pre_trans p1 p3, Good.back (lv0 := lv₁) K1 G3, G3.rel, i2.mono p3', e1⟩
        · rename_i σ₃ e3
          refine tests_ok ht hA G2 e3 fun φ₃ s₃ p3' G3 => ?_
          have p3 := pre_trans pt p3'
          rw [if_pos rfl]
          split at e1
          · rename_i lv₄ σ₄ e4
            refine ha A env _ lv₂ φ₃ σ₃ s₃ r a lv₄ σ₄ _ _ hA G3 (pre_get (pre_trans p1 p3) hr) e4 fun φ₄ s₄ p4 G4 => ?_
            exact ⟨rfl, n, Nat.lt_succ_self n, is', lv₄, φ₄, σ₄, pre_trans p1 (pre_trans p3 p4), Good.back (lv0 := lv₁) K1 G4, G4.rel, i2.mono (pre_trans p3' p4), e1⟩
          · cases e1

theorem SA_nest {C : Cx} {d : Nat} {nm : Nm} {elt : Expr} {gens : List Comprehension} {scope : Scope} {pos : Pos} {depth : Nat} {target iter : Expr} {ifs : List Expr} {gt : GT} {t : TF} {inner : Nat → CF} {src : SF} (fuel : Nat)
    (hg : gens[depth + 1]? = some ⟨target, iter, ifs, 0⟩) (hna : ∀ g', gens[depth + 1 + 1]? = some g' → g'.is_async = 0) (hs : SI C d nm iter src) (T : TGT nm false target gt) (ht : Tests C d nm ifs t) (ha : SA C d nm (compAct elt gens scope pos (depth + 1)) inner)
    (hfs : ∀ (env : Env) (x : Value), foldedSetIterable iter env x = pure x := by intros; rfl) :
    SA C d nm (compAct elt gens scope pos depth) (fun r => cNest src (cLoop gt t (inner r) fuel)) := by
  intro A env X lv φ σ s r a lv' σ' Q E hA G hr hf h
  change cNest src (cLoop gt t (inner r) fuel) lv σ = some (lv', σ') at hf
  unfold cNest at hf
  split at hf
  · rename_i is0 σ₀ e0
    unfold compAct
    simp only [hg]
    have key := hs A env [] X lv φ σ s is0 σ₀ (fun it s' => wpAny C.M A (runOwn (.compStart (.ListComp elt gens scope pos) (depth + 1) it (.ref a) env) env >>= fun _ => pure ()) Q E s') E E hA G e0 fun φ₀ s₀ ih p0 G0 R0 i0 => ?_
    · refine wpAny_bind (wpAny_mono key (fun x s₁ h₁ => wpAny_bind (wpAny_standAt ?_)) fun _ _ x => x)
      rw [hfs env x]
      exact wpAny_bind (wpAny_pure (wpAny_bind (wpAny_holding h₁)))
    · refine wpAny_bind (wpAny_runOwn ?_)
      have R0' := R0.perm (mid_perm _ _ _)
      have hl : ∀ s₂ : Shared, s₂ = s₀ → codeAny C.M A (.compLoop (.ListComp elt gens scope pos) (depth + 1) (.ref ih.addr) (.ref a) env)
          (fun r s' => match r with | .ok f => wpAny C.M A (pure ()) Q E s' | .error e => cameBackBy C.M A env E e s') s₂ := by
        rintro s₂ rfl
        exact compLoop_ok hg hna T ht ha hA G0.ok R0 i0 (pre_get p0 hr) hf fun φ₁ s₁ p1 G1 => wpAny_pure (h φ₁ s₁ (pre_trans p0 p1) G1)
      exact compStart_ok hg (hl _ rfl) (pyIter_self R0' i0 (hl _ rfl))
  · cases hf

/-! a comprehension as a value -/
noncomputable def relNm (nmC nm : Nm) : Nm := nmC.map fun (n, k) => if (k == .free && nm.lookup n == some .cell) then (n, .cell) else (n, k)
noncomputable def compLv (mp : List (Option Nat)) (lv : LV) : LV := mp.map fun o => match o with
  | some i => match lv[i]? with | some v => v | none => none
  | none => none
/-- mp tells for each name of the comprehension that is free, where it stands outside -/
noncomputable def mapOk (mp : List (Option Nat)) (nmC nm : Nm) : Bool :=
  mp.length == nmC.length && (List.range nmC.length).all fun j => match nmC[j]?, mp[j]? with
    | some (n, .free), some (some i) => (match nm[i]? with | some (n', k) => n' == n && (k == .cell || k == .free) | none => false)
    | some (_, .free), _ => false
    | some (_, .cell), _ => false
    | _, some none => true
    | _, _ => false

noncomputable def eComp (src : SF) (mp : List (Option Nat)) (body : Nat → IS → CF) : EF := fun lv σ => match src lv σ with
  | some (is, σ₁) => match body (hlen σ₁) is (compLv mp lv) (hpush σ₁ []) with
    | some (_, σ') => some (.ref (hlen σ₁), σ')
    | none => none
  | none => none

noncomputable def clOf (env : Env) : Nm → List (Str × Addr) → List (Str × Addr)
  | [], acc => acc
  | (n, k) :: r, acc => clOf env r (if k = .free then (n, (env.cells.lookup n).getD 0) :: acc else acc)
theorem clOf_lookup {env : Env} {n : Str} : ∀ {l : Nm} {acc : List (Str × Addr)}, ((n, NameKind.free) ∈ l ∨ acc.lookup n = some ((env.cells.lookup n).getD 0)) → (clOf env l acc).lookup n = some ((env.cells.lookup n).getD 0)
  | [], acc, h => by
    rcases h with h | h
    · cases h
    · exact h
  | (m, k) :: r, acc, h => by
    unfold clOf
    refine clOf_lookup ?_
    by_cases hk : k = .free
    · subst hk
      by_cases hn : n = m
      · subst hn; right; simp
      · rcases h with h | h
        · rcases List.mem_cons.mp h with h | h
          · cases h; exact absurd rfl hn
          · exact .inl h
        · right
          have : (n == m) = false := beq_eq_false_iff_ne.mpr hn
          simp [List.lookup_cons, this, h]
    · rcases h with h | h
      · rcases List.mem_cons.mp h with h | h
        · cases h; exact absurd rfl hk
        · exact .inl h
      · right; rw [if_neg hk]; exact h
theorem closureFor_eq {scope : Scope} {env : Env} (h : ∀ n, (n, NameKind.free) ∈ scope.names → ∃ c, env.cells.lookup n = some c) : closureFor scope env = pure (clOf env scope.names []) := by
  unfold closureFor
  have key : ∀ (f : Str × NameKind → List (Str × Addr) → Sem (ForInStep (List (Str × Addr)))), (∀ n k cs, f (n, k) cs = if (k == NameKind.free) = true then (do let a ← cellOf env n; pure (ForInStep.yield ((n, a) :: cs))) else pure (ForInStep.yield cs)) →
      ∀ (l : Nm) (acc : List (Str × Addr)), (∀ n, (n, NameKind.free) ∈ l → ∃ c, env.cells.lookup n = some c) → (forIn l acc f : Sem (List (Str × Addr))) = pure (clOf env l acc) := by
    intro f hf l
    induction l with
    | nil => intro acc _; rw [List.forIn_nil]; rfl
    | cons y r ih =>
      intro acc hl
      obtain ⟨n, k⟩ := y
      rw [List.forIn_cons, hf]
      have hr : ∀ n, (n, NameKind.free) ∈ r → ∃ c, env.cells.lookup n = some c := fun m hm => hl m (List.mem_cons_of_mem _ hm)
      by_cases hk : k = .free
      · subst hk
        obtain ⟨c, hc⟩ := hl n List.mem_cons_self
        simp only [beq_self_eq_true, if_true, cellOf, hc, pure_bind]
        rw [ih _ hr]
        simp [clOf, hc]
      · have : (k == NameKind.free) = false := by simpa using hk
        simp only [this, Bool.false_eq_true, if_false, pure_bind]
        rw [ih _ hr]
        simp [clOf, hk]
  refine Eq.trans (congrArg (· >>= fun r => pure r) (key _ (fun n k cs => by cases k <;> rfl) scope.names [] h)) ?_
  rfl

theorem relNm_get {nmC nm : Nm} {j : Nat} {x : Str} {k : NameKind} (h : (relNm nmC nm)[j]? = some (x, k)) : ∃ k', nmC[j]? = some (x, k') ∧ (k = k' ∨ (k' = .free ∧ k = .cell)) := by
  unfold relNm at h
  rw [List.getElem?_map] at h
  cases e : nmC[j]? with
  | none => rw [e] at h; cases h
  | some y =>
    obtain ⟨n, k'⟩ := y
    rw [e] at h
    simp only [Option.map_some, Option.some.injEq] at h
    split at h
    · rename_i hc
      cases h
      simp at hc
      exact ⟨k', rfl, .inr ⟨hc.1, rfl⟩⟩
    · cases h; exact ⟨k, rfl, .inl rfl⟩

theorem mapOk_get {mp : List (Option Nat)} {nmC nm : Nm} (h : mapOk mp nmC nm = true) {j : Nat} {x : Str} {k : NameKind} (hj : nmC[j]? = some (x, k)) :
    (k = .free ∧ ∃ i k', mp[j]? = some (some i) ∧ nm[i]? = some (x, k') ∧ (k' = .cell ∨ k' = .free)) ∨ (k ≠ .free ∧ k ≠ .cell ∧ mp[j]? = some none) := by
  unfold mapOk at h
  simp only [Bool.and_eq_true] at h
  have h2 := List.all_eq_true.mp h.2 j (List.mem_range.mpr (List.getElem?_eq_some_iff.mp hj).1)
  rw [hj] at h2
  by_cases hk : k = .free
  · subst hk
    left
    refine ⟨rfl, ?_⟩
    cases e : mp[j]? with
    | none => rw [e] at h2; cases h2
    | some o =>
      cases o with
      | none => rw [e] at h2; cases h2
      | some i =>
        rw [e] at h2
        simp only at h2
        cases e2 : nm[i]? with
        | none => rw [e2] at h2; cases h2
        | some y =>
          obtain ⟨n', k'⟩ := y
          rw [e2] at h2
          simp at h2
          obtain ⟨rfl, h3⟩ := h2
          exact ⟨i, k', rfl, e2, h3⟩
  · by_cases hk2 : k = .cell
    · subst hk2; simp at h2
    · right
      refine ⟨hk, hk2, ?_⟩
      cases e : mp[j]? with
      | none => rw [e] at h2; cases k <;> simp_all
      | some o =>
        cases o with
        | none => rfl
        | some i => rw [e] at h2; cases k <;> simp_all

/-- where a comprehension's loop ends -/
noncomputable def CEnd (C : Cx) (A : Around) (E : Value → Shared → Prop) (use : Option (Value → Sem Unit)) (Q : Value → Shared → Prop) (env : Env) (nm : Nm) (ci : List (Nat × Addr)) (X : List Res) (lv : LV) (φ₀ : Phi) (r : Nat) (σ' : Hp) : Prop :=
  ∀ (φ₁ : Phi) (s₁ : Shared) (a c : Addr) (P : Obj → Prop), Pre φ₀ φ₁ → EnvOk C.W env nm ci lv φ₁ X → C.R φ₁ σ' ((c, P) :: (vres C.W env nm ci lv φ₁ ++ X)) s₁ → (∀ o, P o → ∃ m, NsO o m) → φ₁.l[r]? = some a → compPost C.M A E use Q (.ref a) c (.ok .next) s₁

theorem comp_core {C : Cx} {d : Nat} {nm : Nm} {elt : Expr} {rest : List Comprehension} {scope : Scope} {pos : Pos} {target iter : Expr} {ifs : List Expr} {gt : GT} {t : TF} {inner : Nat → CF} {src : SF} (fuel : Nat) (nmC nmC' : Nm) (mp : List (Option Nat))
    (hsn : scope.names = nmC) (hsk : scope.kind = .function) (hrel : relNm nmC nm = nmC') (hnd : (nmC'.map (·.1)).Nodup) (hm : mapOk mp nmC nm = true)
    (hna : ∀ g', (⟨target, iter, ifs, 0⟩ :: rest)[0 + 1]? = some g' → g'.is_async = 0) (hs : SI C d nm iter src) (T : TGT nmC' false target gt) (ht : Tests C d nmC' ifs t) (ha : SA C d nmC' (compAct elt (⟨target, iter, ifs, 0⟩ :: rest) scope pos 0) inner)
    (hfs : ∀ (env : Env) (x : Value), foldedSetIterable iter env x = pure x := by intros; rfl) (h0 : nmC'[0]? ≠ some (Str.ofString "script", .cell) := by decide) :
    ∀ (A : Around) (env : Env) (ci : List (Nat × Addr)) (X : List Res) (lv : LV) (φ : Phi) (σ : Hp) (s : Shared) (v : MV) (σ' : Hp) (Q : Value → Shared → Prop) (E : Value → Shared → Prop) (use : Option (Value → Sem Unit)) (pos' : Pos),
    OkA A d → Good C env nm ci X lv φ σ s → eComp src mp (fun r is => cLoop gt t (inner r) fuel is) lv σ = some (v, σ') →
    (∀ r, v = .ref r → CEnd C A E use Q env nm ci X lv φ r σ') →
    wpAny C.M A (comprehension (.ListComp elt (⟨target, iter, ifs, 0⟩ :: rest) scope pos) scope env pos' (newList []) false (eval iter env) use) Q E s := by
  intro A env ci X lv φ σ s v σ' Q E use pos' hA G hf h
  unfold eComp at hf
  split at hf
  · rename_i is0 σ₁ e0
    split at hf
    · rename_i lvZ σZ e1
      cases hf
      -- the closure
      have hcl : ∀ n, (n, NameKind.free) ∈ scope.names → ∃ c, env.cells.lookup n = some c ∧ ∃ P, (c, P) ∈ vres C.W env nm ci lv φ ++ X ∧ True := by
        intro n hn
        rw [hsn] at hn
        obtain ⟨j, hj, ej⟩ := List.mem_iff_getElem.mp hn
        have ej' : nmC[j]? = some (n, .free) := by rw [List.getElem?_eq_getElem hj, ej]
        rcases mapOk_get hm ej' with ⟨_, i, k', _, e3, e4⟩ | ⟨q, _⟩
        · rcases G.ok.free i n k' e3 e4 with ⟨c, hc⟩ | ⟨c, P, hc, hP, _⟩
          · obtain ⟨y, q1, q2⟩ := G.ok.cell i c hc
            rw [e3] at q1; cases q1
            exact ⟨c, q2, _, List.mem_append_left _ (List.mem_cons_of_mem _ (List.mem_map.mpr ⟨_, hc, rfl⟩)), trivial⟩
          · exact ⟨c, hc, P, List.mem_append_right _ hP, trivial⟩
        · exact absurd rfl q
      have hclos := closureFor_eq (scope := scope) (env := env) fun n hn => let ⟨c, hc, _⟩ := hcl n hn; ⟨c, hc⟩
      have hnames : ∀ x ∈ scope.names, x.2 = NameKind.local → scope.names.lookup x.1 = some NameKind.local := by
        intro x hx hl
        rw [hsn] at hx ⊢
        obtain ⟨j, hj, ej⟩ := List.mem_iff_getElem.mp hx
        have hnd' : (nmC.map (·.1)).Nodup := by
          have : nmC'.map (·.1) = nmC.map (·.1) := by
            rw [← hrel]; unfold relNm
            rw [List.map_map]
            apply List.map_congr_left
            intro a _
            obtain ⟨n, k⟩ := a
            simp only [Function.comp]
            split <;> rfl
          rw [← this]; exact hnd
        have := lookup_of hnd' (i := j) (x := x.1) (k := x.2) (by rw [List.getElem?_eq_getElem hj, ej])
        rw [hl] at this; exact this
      refine wpAny_comprehension_free (use := use) rfl (hfs env) hclos hsk hnames ?_
      refine hs A env ci X lv φ σ s is0 σ₁ _ _ _ hA G e0 fun φ₀ s₀ ih p0 G0 R0 i0 => ?_
      refine wpAny_newList ?_ (Nat.zero_le _)
      have R1 := Rel.newList (ms := []) (vs := ([] : List Value).toArray) R0 trivial
      have p1 : Pre φ₀ (φ₀.add s₀.heap.objs.size) := Pre.add
      have hra : (φ₀.l ++ [s₀.heap.objs.size])[(hlen σ₁)]? = some s₀.heap.objs.size := by rw [← G0.rel.len]; simp
      refine wpAny_newFunctionEnv (fun x hx => ?_) (fun x hx => by cases hx) (fun h' hns hsb => ?_) hsk
      · rw [hsn] at hx
        obtain ⟨j, hj, ej⟩ := List.mem_iff_getElem.mp hx
        rcases mapOk_get hm (j := j) (x := x.1) (k := x.2) (by rw [List.getElem?_eq_getElem hj, ej]) with ⟨q, _⟩ | ⟨_, q, _⟩
        · rw [q]; decide
        · exact q
      · dsimp only at hns hsb ⊢
        have keep1 : ∀ b o, (s₀.heap.push { cls := .type "list", data := .seq ([] : List Value).toArray }).get? b = some o → h'.get? b = some o :=
          fun b o e => hsb.extBut b o (Nat.ne_of_lt (Heap.lt_size e)) (Heap.get?_push_of_some _ e)
        obtain ⟨oN, hoN, hNs⟩ := NsO.of hns
        have R2 := Rel.push (s' := { s₀ with heap := h', toks := s₀.toks + ([] : List (Str × Value)).length }) (P := PLoc C.W nmC' (compLv mp lv) (φ₀.add s₀.heap.objs.size)) R1 keep1 (Nat.le_refl _) hoN ⟨_, hNs, fun j x mv e3 e4 => by
          exfalso
          rw [← hrel] at e3
          obtain ⟨k', e5, e6⟩ := relNm_get e3
          rcases e6 with rfl | ⟨_, q⟩
          · rcases mapOk_get hm e5 with ⟨q, _⟩ | ⟨_, _, q⟩
            · cases q
            · unfold compLv at e4
              rw [List.getElem?_map, q] at e4
              cases e4
          · cases q⟩
        generalize hce : ({ scope := relabel scope env, locals := (s₀.heap.push { cls := .type "list", data := .seq ([] : List Value).toArray }).objs.size, globals := env.globals, cells := clOf env scope.names [], qual := env.qual, func := none, code := env.code, frame := env.frame, builtins := env.builtins } : Env) = cenv
        have hnmr : (relabel scope env).names = nmC' := by
          rw [← hrel]
          unfold relabel relNm
          simp only [hsn, G.ok.kind, beq_self_eq_true, Bool.and_true, Env.kindOf, G.ok.names]
        have hloc : cenv.locals = (s₀.heap.push { cls := .type "list", data := .seq ([] : List Value).toArray }).objs.size := by rw [← hce]
        have KC : EnvOk C.W cenv nmC' [] (compLv mp lv) (φ₀.add s₀.heap.objs.size) (vres C.W env nm ci lv φ₀ ++ X) := by
          refine ⟨by rw [← hce]; exact hsk, by rw [← hce]; exact hnmr, by rw [← hce]; exact G.ok.gl, by rw [← hce]; exact G.ok.bi, hnd, List.nodup_nil, (fun i c h => by cases h), ?_, fun q => absurd q h0⟩
          intro j x k e3 e4
          right
          rw [← hrel] at e3
          obtain ⟨k', e5, e6⟩ := relNm_get e3
          rcases mapOk_get hm e5 with ⟨rfl, i, k2, q1, q2, q3⟩ | ⟨q1, q2, _⟩
          · have hmem : (x, NameKind.free) ∈ scope.names := by rw [hsn]; exact List.mem_of_getElem? e5
            obtain ⟨c, hc, _⟩ := hcl x hmem
            have hlk : cenv.cells.lookup x = some c := by
              rw [← hce]
              show (clOf env scope.names []).lookup x = some c
              rw [clOf_lookup (.inl hmem), hc]; rfl
            have hval : ∀ P : Obj → Prop, (∀ o, P o → PCell C.W lv[i]? φ₀ o) → ∀ o, P o → PCell C.W (compLv mp lv)[j]? (φ₀.add s₀.heap.objs.size) o := by
              intro P hP o ho
              obtain ⟨cv, g1, g2⟩ := (hP o ho).mono p1
              refine ⟨cv, g1, fun mv hmv => g2 mv ?_⟩
              unfold compLv at hmv
              rw [List.getElem?_map, q1] at hmv
              simp only [Option.map_some] at hmv
              cases e7 : lv[i]? with
              | none => rw [e7] at hmv; cases hmv
              | some w => rw [e7] at hmv; exact hmv
            rcases G0.ok.free i x k2 q2 q3 with ⟨c', hc'⟩ | ⟨c', P, hc', hP, hPC⟩
            · obtain ⟨y, g1, g2⟩ := G0.ok.cell i c' hc'
              rw [q2] at g1; cases g1
              rw [hc] at g2; cases g2
              exact ⟨c, _, hlk, List.mem_append_left _ (List.mem_cons_of_mem _ (List.mem_map.mpr ⟨_, hc', rfl⟩)), hval _ fun o ho => ho⟩
            · rw [hc] at hc'; cases hc'
              exact ⟨c, P, hlk, List.mem_append_right _ hP, hval P hPC⟩
          · exfalso
            rcases e6 with rfl | ⟨q, _⟩
            · rcases e4 with e | e
              · exact q2 e
              · exact q1 e
            · exact q1 q
        have R3 : C.R (φ₀.add s₀.heap.objs.size) (hpush σ₁ []) (vres C.W cenv nmC' [] (compLv mp lv) (φ₀.add s₀.heap.objs.size) ++ (ires ih is0 ++ (vres C.W env nm ci lv φ₀ ++ X))) { s₀ with heap := h', toks := s₀.toks + ([] : List (Str × Value)).length } := by
          unfold vres
          rw [hloc]
          exact R2.perm (List.Perm.cons _ (mid_perm _ _ _))
        have hl : ∀ s₂ : Shared, s₂ = { s₀ with heap := h', toks := s₀.toks + ([] : List (Str × Value)).length } → codeAny C.M A (.compLoop (.ListComp elt (⟨target, iter, ifs, 0⟩ :: rest) scope pos) 0 (.ref ih.addr) (.ref s₀.heap.objs.size) cenv)
            (compPost C.M A E use Q (.ref s₀.heap.objs.size) cenv.locals) s₂ := by
          rintro s₂ rfl
          refine compLoop_ok (r := (hlen σ₁)) rfl hna T ht ha hA KC R3 (i0.mono p1) hra e1 fun φ₁ s₁ q1 G1 => ?_
          have p3 := pre_trans p0 (pre_trans p1 q1)
          refine h _ rfl φ₁ s₁ s₀.heap.objs.size cenv.locals (PLoc C.W nmC' lvZ φ₁) p3 (G.ok.mono p3) ?_ (fun o ho => ?_) (pre_get q1 hra)
          · have G1r : C.R φ₁ σ' ((cenv.locals, PLoc C.W nmC' lvZ φ₁) :: (vres C.W env nm ci lv φ₀ ++ X)) s₁ := G1.rel
            exact G1r.imp (.cons (fun _ q => q) (RImp.append (vres_imp (pre_trans p1 q1) ci) (RImp.refl X)))
          · obtain ⟨m, hm', _⟩ := ho
            exact ⟨m, hm'⟩
        have hfin := compStart_ok (elt := elt) (gens := ⟨target, iter, ifs, 0⟩ :: rest) (scope := scope) (pos := pos) (depth := 0) rfl (hl _ rfl) (pyIter_self (R3.perm (mid_perm _ _ _)) (i0.mono p1) (hl _ rfl))
        rw [← hce] at hfin
        exact hfin
    · cases hf
  · cases hf

theorem SE_comp {C : Cx} {d : Nat} {nm : Nm} {elt : Expr} {rest : List Comprehension} {scope : Scope} {pos : Pos} {target iter : Expr} {ifs : List Expr} {gt : GT} {t : TF} {inner : Nat → CF} {src : SF} (fuel : Nat) (nmC nmC' : Nm) (mp : List (Option Nat))
    (hsn : scope.names = nmC) (hsk : scope.kind = .function) (hrel : relNm nmC nm = nmC') (hnd : (nmC'.map (·.1)).Nodup) (hm : mapOk mp nmC nm = true)
    (hna : ∀ g', (⟨target, iter, ifs, 0⟩ :: rest)[0 + 1]? = some g' → g'.is_async = 0) (hs : SI C d nm iter src) (T : TGT nmC' false target gt) (ht : Tests C d nmC' ifs t) (ha : SA C d nmC' (compAct elt (⟨target, iter, ifs, 0⟩ :: rest) scope pos 0) inner)
    (hfs : ∀ (env : Env) (x : Value), foldedSetIterable iter env x = pure x := by intros; rfl) (h0 : nmC'[0]? ≠ some (Str.ofString "script", .cell) := by decide) :
    SE C d nm (.ListComp elt (⟨target, iter, ifs, 0⟩ :: rest) scope pos) (eComp src mp fun r is => cLoop gt t (inner r) fuel is) := by
  intro A env ci X lv φ σ s v σ' Q E hA G hf h
  rw [arm_eval_ListComp]
  refine comp_core fuel nmC nmC' mp hsn hsk hrel hnd hm hna hs T ht ha hfs h0 A env ci X lv φ σ s v σ' Q E none _ hA G hf ?_
  rintro r rfl φ₁ s₁ a c P p1 K1 R1 hP hr
  obtain ⟨o, ho, hp⟩ := R1.xs _ List.mem_cons_self
  obtain ⟨m, hm⟩ := hP o hp
  exact ⟨m, hm.ns ho, fun h' hs' => h φ₁ _ _ p1 ⟨K1, R1.lose hs'.extBut⟩ ⟨a, hr, rfl⟩⟩

/-- a comprehension that a statement gives to a name of the frame -/
theorem SS_comp {C : Cx} {d : Nat} {nm : Nm} {elt : Expr} {rest : List Comprehension} {scope : Scope} {pos pos' spos : Pos} {x : Str} {target iter : Expr} {ifs : List Expr} {gt : GT} {t : TF} {inner : Nat → CF} {src : SF} (i : Nat) (hi : nm[i]? = some (x, .local)) (fuel : Nat) (nmC nmC' : Nm) (mp : List (Option Nat))
    (hsn : scope.names = nmC) (hsk : scope.kind = .function) (hrel : relNm nmC nm = nmC') (hnd : (nmC'.map (·.1)).Nodup) (hm : mapOk mp nmC nm = true)
    (hna : ∀ g', (⟨target, iter, ifs, 0⟩ :: rest)[0 + 1]? = some g' → g'.is_async = 0) (hs : SI C d nm iter src) (T : TGT nmC' false target gt) (ht : Tests C d nmC' ifs t) (ha : SA C d nmC' (compAct elt (⟨target, iter, ifs, 0⟩ :: rest) scope pos 0) inner)
    (hsw : ∀ env : Env, env.scope.kind = .function → env.kindOf x = some .local → swapsWith (.ListComp elt (⟨target, iter, ifs, 0⟩ :: rest) scope pos) (some (.Name x pos')) spos.line env = pure true)
    (hfs : ∀ (env : Env) (x : Value), foldedSetIterable iter env x = pure x := by intros; rfl) (h0 : nmC'[0]? ≠ some (Str.ofString "script", .cell) := by decide) :
    SS C d nm (.Assign [.Name x pos'] (.ListComp elt (⟨target, iter, ifs, 0⟩ :: rest) scope pos) spos) (xSet i (eComp src mp fun r is => cLoop gt t (inner r) fuel is)) := by
  intro A env ci X lv φ σ s fl lv' σ' Q E hA hO G hf h
  unfold xSet at hf
  split at hf
  · rename_i v σ₁ e1
    cases hf
    show wpAny C.M A (exec _ env) Q E s
    rw [exec_Assign_Name_used x pos' _ spos (hsw env G.ok.kind (G.ok.kindOf hi))]
    refine wpAny_bind (wpAny_standAt (wpAny_bind ?_))
    show wpAny C.M A (do let _ ← comprehension (.ListComp elt (⟨target, iter, ifs, 0⟩ :: rest) scope pos) scope env _ (newList []) false (eval iter env) (some (assign (.Name x pos') env))) _ _ s
    refine wpAny_bind ?_
    refine comp_core fuel nmC nmC' mp hsn hsk hrel hnd hm hna hs T ht ha hfs h0 A env ci X lv φ σ s v _ _ E (some (assign (.Name x pos') env)) _ hA G e1 ?_
    rintro r rfl φ₁ s₁ a c P p1 K1 R1 hP hr
    have G1 : Good C env nm ci ((c, P) :: X) lv φ₁ σ' s₁ := ⟨K1.weak fun _ hq => List.mem_cons_of_mem _ hq, R1.perm (List.perm_middle (l₁ := vres C.W env nm ci lv φ₁)).symm⟩
    show wpAny C.M A (assign (.Name x pos') env (.ref a)) _ E s₁
    rw [arm_assign_Name]
    refine wpAny_bind (wpAny_standAt (wpAny_bindName (G1.store hi (.inl rfl) (mv := .ref r) ⟨a, hr, rfl⟩ fun s₂ G2 => ?_)))
    have R2 := G2.rel.perm (List.perm_middle (l₁ := vres C.W env nm ci (lv.set i (some (.ref r))) φ₁))
    obtain ⟨o, ho, hp⟩ := R2.xs _ List.mem_cons_self
    obtain ⟨m, hm⟩ := hP o hp
    refine ⟨m, hm.ns ho, fun h' hs' => ?_⟩
    exact wpAny_pure (wpAny_pure (h φ₁ _ _ p1 ⟨K1.set hi (.inl rfl), R2.lose hs'.extBut⟩ rfl))
  · cases hf

end Mine
end

section
namespace Mine

/-! calls of defs -/
noncomputable def initLv (n : Nat) (ms : List MV) : LV := ms.map some ++ List.replicate (n - ms.length) none
/-- a def as a function on mini-values: n names, k parameters -/
noncomputable def mkF (n k : Nat) (body : XF) : F1 := fun ms σ => if ms.length = k then match body (initLv n ms) σ with
  | some (.ret v, _, σ') => some (v, σ')
  | some (.next, _, σ') => some (.none, σ')
  | none => none else none

theorem zip_sub {α β : Type} : ∀ (l : List α) (r : List β), ((l.zip r).map (·.1)).Sublist l
  | [], r => by simp
  | a :: l, [] => by simp
  | a :: l, b :: r => by simpa using zip_sub l r

theorem zip_lookup {nm : Nm} {vs : List Value} (hn : (nm.map (·.1)).Nodup) {i : Nat} {x : Str} {k : NameKind} {v : Value} (hi : nm[i]? = some (x, k)) (hv : vs[i]? = some v) : (((nm.map (·.1)).zip vs).reverse).lookup x = some v := by
  have key : ∀ (l : List (Str × Value)), (l.map (·.1)).Nodup → (x, v) ∈ l → l.lookup x = some v := by
    intro l
    induction l with
    | nil => intro _ h; cases h
    | cons y r ih =>
      intro hnd hm
      rw [List.map_cons, List.nodup_cons] at hnd
      rcases List.mem_cons.mp hm with rfl | hm
      · simp
      · have : (x == y.1) = false := beq_eq_false_iff_ne.mpr fun q => hnd.1 (q ▸ List.mem_map.mpr ⟨_, hm, rfl⟩)
        rw [List.lookup_cons, this]; exact ih hnd.2 hm
  refine key _ ?_ (List.mem_reverse.mpr ?_)
  · rw [List.map_reverse]
    refine (List.reverse_perm _).nodup_iff.mpr ?_
    have hs : (((nm.map (·.1)).zip vs).map (·.1)).Sublist (nm.map (·.1)) := by
      exact zip_sub _ _
    exact hs.nodup hn
  · refine List.mem_of_getElem? (i := i) ?_
    rw [List.getElem?_zip_eq_some]
    exact ⟨by rw [List.getElem?_map, hi]; rfl, hv⟩

theorem initLv_get {n : Nat} {ms : List MV} {i : Nat} {mv : MV} (h : (initLv n ms)[i]? = some (some mv)) : ms[i]? = some mv := by
  unfold initLv at h
  by_cases hi : i < ms.length
  · rw [List.getElem?_append_left (by simpa using hi), List.getElem?_map] at h
    cases e : ms[i]? with
    | none => rw [e] at h; cases h
    | some w => rw [e] at h; cases h; rfl
  · rw [List.getElem?_append_right (by simpa using hi)] at h
    exfalso
    have := List.mem_of_getElem? h
    rw [List.mem_replicate] at this
    cases this.2

structure DefOk (C : Cx) (a : Addr) (fd : FuncData) (body : List Stmt) (nm : Nm) (k : Nat) : Prop where
  obj : ∃ o, C.g.get? a = some o ∧ o.data = .func fd
  body : fd.body = .stmts body
  names : fd.scope.names = nm
  kind : fd.scope.kind = .function
  co : fd.scope.isCoroutine = false
  gen : fd.scope.isGenerator = false
  gl : fd.globals = mainGlobals
  bi : fd.builtins = builtinsNs
  code : C.g.CodeRec fd.code fd.qualname
  nd : (nm.map (·.1)).Nodup
  klen : k ≤ nm.length
  cd : nm[0]? = some (Str.ofString "script", .cell) → fd.code = .ref C.W.lcd

theorem binds_take {nm : Nm} {vs : List Value} (k : Nat) (h : vs.length = k) : (nm.map (·.1)).zip vs = ((nm.take k).map (·.1)).zip vs := by
  subst h
  rw [List.map_take]
  induction vs generalizing nm with
  | nil => simp
  | cons v vs ih =>
    cases nm with
    | nil => simp
    | cons y nm => simp [ih]

/-- a def without cells and free names -/
theorem call_def {C : Cx} {d : Nat} {a : Addr} {fd : FuncData} {body : List Stmt} {nm : Nm} {k : Nat} {f : XF} (D : DefOk C a fd body nm k) (hl : nm.all (fun x => x.2 != .cell && x.2 != .free) = true) (hpar : (nm.take k).all (fun x => x.2 == .local) = true) (hb : SB C d nm body f)
    {A : Around} {φ : Phi} {σ : Hp} {X : List Res} {s : Shared} {ms : List MV} {vs : List Value} {v : MV} {σ' : Hp} {Q E : Value → Shared → Prop} {args : Args} (hA : OkA A (d + 1)) (R : C.R φ σ X s)
    (hbind : BindsTo s fd args ((nm.map (·.1)).zip vs)) (hr : All2 (VRel C.W φ) ms vs) (hf : mkF nm.length k f ms σ = some (v, σ'))
    (h : ∀ (φ' : Phi) (s' : Shared) (r : Value), Pre φ φ' → C.R φ' σ' X s' → VRel C.W φ' v r → Q r s') : wpAny C.M A (call (.ref a) args.pos args.kw) Q E s := by
  unfold mkF at hf
  split at hf
  · rename_i hk
    obtain ⟨o, ho, hd⟩ := D.obj
    have hvl : vs.length = k := by rw [← hr.length]; exact hk
    have hcell : ∀ x ∈ fd.scope.names, x.2 ≠ .cell := fun x hx => by
      rw [D.names] at hx
      have := List.all_eq_true.mp hl x hx
      simp at this; exact this.1
    have hfree : ∀ x ∈ nm, x.2 ≠ .free := fun x hx => by
      have := List.all_eq_true.mp hl x hx
      simp at this; exact this.2
    have hloc : ∀ x ∈ (nm.map (·.1)).zip vs, fd.scope.names.lookup x.1 = some .local := fun x hx => by
      rw [binds_take k hvl] at hx
      obtain ⟨y, hy, he⟩ := List.mem_map.mp (List.of_mem_zip hx).1
      have h1 := List.all_eq_true.mp hpar y hy
      obtain ⟨i, hi, ei⟩ := List.mem_iff_getElem.mp (List.mem_of_mem_take hy)
      have h2 := lookup_of D.nd (i := i) (x := y.1) (k := y.2) (by rw [List.getElem?_eq_getElem hi, ei])
      rw [D.names, ← he, h2]
      simpa using h1
    have hs : ({ pos := args.pos, kw := args.kw } : Args) = args := rfl
    refine wpAny_call (codeAny_call_def hA.room (R.keep _ _ ho) hd (C.nolim.keeps R.keep) (D.code.keeps R.keep) D.body hbind hcell hloc (fun h₀ hns hk₀ => ?_) D.co D.gen D.kind)
    obtain ⟨oN, hoN, hNs⟩ := NsO.of hns
    generalize hce : callEnv fd s.heap.objs.size a = env
    have henv : env.locals = s.heap.objs.size ∧ env.scope = fd.scope ∧ env.globals = fd.globals ∧ env.builtins = fd.builtins := by rw [← hce]; exact ⟨rfl, rfl, rfl, rfl⟩
    obtain ⟨e1, e2, e3, e4⟩ := henv
    have R2 := R.push (s' := { s with heap := h₀, toks := s.toks + ((nm.map (·.1)).zip vs).length }) (P := PLoc C.W nm (initLv nm.length ms) φ) hk₀ (Nat.le_refl _) hoN ⟨_, hNs, fun i x mv q1 q2 => by
      obtain ⟨w, g1, g2⟩ := hr.get (initLv_get q2)
      exact ⟨w, zip_lookup D.nd q1 g1, g2⟩⟩
    have G : Good C env nm [] X (initLv nm.length ms) φ σ { s with heap := h₀, toks := s.toks + ((nm.map (·.1)).zip vs).length } := by
      refine ⟨⟨by rw [e2]; exact D.kind, by rw [e2]; exact D.names, by rw [e3]; exact D.gl, by rw [e4]; exact D.bi, D.nd, List.nodup_nil, (fun i c h => by cases h), ?_, fun q => absurd rfl (hcell (_, .cell) (by rw [D.names]; exact List.mem_of_getElem? q))⟩, ?_⟩
      · intro i x k hi hk
        exfalso
        have hm := List.mem_of_getElem? hi
        rcases hk with rfl | rfl
        · exact hcell _ (by rw [D.names]; exact hm) rfl
        · exact hfree _ hm rfl
      · unfold vres
        rw [e1]; exact R2
    have hO : Own nm [] := fun i x hi => absurd rfl (hcell (x, .cell) (by rw [D.names]; exact List.mem_of_getElem? hi))
    split at hf
    · rename_i w lv' σ₁ ef
      cases hf
      refine hb (A.deeper env) env [] X _ φ σ _ _ lv' _ _ _ (hA.deeper env) hO G ef fun φ' s' r p G' r' => ?_
      obtain ⟨v', rfl, rv⟩ := r'
      exact h φ' s' v' p G'.rel.drop rv
    · rename_i lv' σ₁ ef
      cases hf
      refine hb (A.deeper env) env [] X _ φ σ _ _ lv' _ _ _ (hA.deeper env) hO G ef fun φ' s' r p G' r' => ?_
      obtain rfl : r = .next := r'
      exact h φ' s' .none p G'.rel.drop rfl
    · cases hf
  · cases hf

/-! a def with cells of its own -/
noncomputable def cidx : Nm → Nat → Addr → List (Nat × Addr)
  | [], _, _ => []
  | (_, k) :: r, i, n => if k == .cell then (i, n) :: cidx r (i + 1) (n + 1) else cidx r (i + 1) n
theorem cidx_ge : ∀ {nm : Nm} {i : Nat} {n : Addr} {p : Nat × Addr}, p ∈ cidx nm i n → i ≤ p.1 ∧ n ≤ p.2
  | [], _, _, _, h => by cases h
  | (y, k) :: r, i, n, p, h => by
    unfold cidx at h
    split at h
    · rcases List.mem_cons.mp h with rfl | h
      · exact ⟨Nat.le_refl _, Nat.le_refl _⟩
      · have := cidx_ge h
        exact ⟨Nat.le_of_succ_le this.1, Nat.le_of_succ_le this.2⟩
    · have := cidx_ge h
      exact ⟨Nat.le_of_succ_le this.1, this.2⟩
theorem cidx_nd1 : ∀ (nm : Nm) (i : Nat) (n : Addr), ((cidx nm i n).map (·.1)).Nodup
  | [], _, _ => List.nodup_nil
  | (y, k) :: r, i, n => by
    unfold cidx
    split
    · rw [List.map_cons, List.nodup_cons]
      refine ⟨fun h => ?_, cidx_nd1 r _ _⟩
      obtain ⟨p, hp, e⟩ := List.mem_map.mp h
      have := (cidx_ge hp).1
      exact Nat.not_succ_le_self _ (e ▸ this)
    · exact cidx_nd1 r _ _
theorem cidx_nd2 : ∀ (nm : Nm) (i : Nat) (n : Addr), ((cidx nm i n).map (·.2)).Nodup
  | [], _, _ => List.nodup_nil
  | (y, k) :: r, i, n => by
    unfold cidx
    split
    · rw [List.map_cons, List.nodup_cons]
      refine ⟨fun h => ?_, cidx_nd2 r _ _⟩
      obtain ⟨p, hp, e⟩ := List.mem_map.mp h
      have := (cidx_ge hp).2
      exact Nat.not_succ_le_self _ (e ▸ this)
    · exact cidx_nd2 r _ _
theorem cellsFrom_other {y : Str} : ∀ {nm : Nm} {n : Addr} {acc : List (Str × Addr)}, y ∉ nm.map (·.1) → (cellsFrom n nm acc).lookup y = acc.lookup y
  | [], _, _, _ => rfl
  | (z, k) :: r, n, acc, h => by
    rw [List.map_cons, List.mem_cons, not_or] at h
    unfold cellsFrom
    split
    · rw [cellsFrom_other h.2, List.lookup_cons, beq_eq_false_iff_ne.mpr h.1]
    · exact cellsFrom_other h.2
theorem cidx_lookup : ∀ {nm : Nm} {i0 : Nat} {n : Addr} {acc : List (Str × Addr)} {p : Nat × Addr}, (nm.map (·.1)).Nodup → p ∈ cidx nm i0 n → ∃ x, nm[p.1 - i0]? = some (x, .cell) ∧ (cellsFrom n nm acc).lookup x = some p.2
  | [], _, _, _, _, _, h => by cases h
  | (y, k) :: r, i0, n, acc, p, hn, h => by
    rw [List.map_cons, List.nodup_cons] at hn
    unfold cidx at h
    unfold cellsFrom
    split at h
    · rename_i hk
      rw [if_pos hk]
      rcases List.mem_cons.mp h with rfl | h
      · refine ⟨y, ?_, ?_⟩
        · simp at hk; simp [hk]
        · rw [cellsFrom_other hn.1]; simp
      · obtain ⟨x, e1, e2⟩ := cidx_lookup (acc := (y, n) :: acc) hn.2 h
        have hge := (cidx_ge h).1
        refine ⟨x, ?_, e2⟩
        rw [show p.1 - i0 = (p.1 - (i0 + 1)) + 1 by omega]; simpa using e1
    · rename_i hk
      rw [if_neg hk]
      obtain ⟨x, e1, e2⟩ := cidx_lookup (acc := acc) hn.2 h
      have hge := (cidx_ge h).1
      refine ⟨x, ?_, e2⟩
      rw [show p.1 - i0 = (p.1 - (i0 + 1)) + 1 by omega]; simpa using e1
theorem cidx_mem : ∀ {nm : Nm} {i0 : Nat} {n : Addr} {i : Nat} {x : Str}, nm[i]? = some (x, .cell) → ∃ c, (i0 + i, c) ∈ cidx nm i0 n
  | [], _, _, _, _, h => by simp at h
  | (y, k) :: r, i0, n, 0, x, h => by
    simp at h
    obtain ⟨rfl, rfl⟩ := h
    exact ⟨n, by simp [cidx]⟩
  | (y, k) :: r, i0, n, i + 1, x, h => by
    simp at h
    unfold cidx
    split
    · obtain ⟨c, hc⟩ := cidx_mem (i0 := i0 + 1) (n := n + 1) h
      exact ⟨c, List.mem_cons_of_mem _ (by rw [show i0 + (i + 1) = i0 + 1 + i by omega]; exact hc)⟩
    · obtain ⟨c, hc⟩ := cidx_mem (i0 := i0 + 1) (n := n) h
      exact ⟨c, by rw [show i0 + (i + 1) = i0 + 1 + i by omega]; exact hc⟩

theorem Rel.addMany {W : Val} {g : Heap} {os0 : OsState} {φ : Phi} {σ : Hp} {X : List Res} {s : Shared} (P : Nat × Addr → Obj → Prop) (R : Rel W g os0 φ σ X s) : ∀ (ci : List (Nat × Addr)), (ci.map (·.2)).Nodup → (∀ p ∈ ci, p.2 ∉ φ.l ++ X.map (·.1)) → (∀ p ∈ ci, g.get? p.2 = none) →
    (∀ p ∈ ci, ∃ o, s.heap.get? p.2 = some o ∧ P p o) → Rel W g os0 φ σ (ci.map (fun p => (p.2, P p)) ++ X) s
  | [], _, _, _, _ => R
  | p :: r, hn, h1, h2, h3 => by
    rw [List.map_cons, List.nodup_cons] at hn
    have ih := Rel.addMany P R r hn.2 (fun q hq => h1 q (List.mem_cons_of_mem _ hq)) (fun q hq => h2 q (List.mem_cons_of_mem _ hq)) (fun q hq => h3 q (List.mem_cons_of_mem _ hq))
    obtain ⟨o, ho, hp⟩ := h3 p List.mem_cons_self
    refine ih.add (fun hm => ?_) (h2 p List.mem_cons_self) ho hp
    have h1p := h1 p List.mem_cons_self
    rcases List.mem_append.mp hm with hm | hm
    · exact h1p (List.mem_append_left _ hm)
    · rw [List.map_append] at hm
      rcases List.mem_append.mp hm with hm | hm
      · rw [List.map_map] at hm
        exact hn.1 hm
      · exact h1p (List.mem_append_right _ hm)

theorem bindL_other {K : Str → Option NameKind} {x : Str} : ∀ {binds : List (Str × Value)} {m : Str → Option Value}, x ∉ binds.map (·.1) → bindL K binds m x = m x
  | [], _, _ => rfl
  | (n, v) :: r, m, h => by
    rw [List.map_cons, List.mem_cons, not_or] at h
    unfold bindL
    rw [bindL_other h.2]
    split
    · simp [h.1]
    · rfl
theorem bindL_get {K : Str → Option NameKind} {x : Str} {v : Value} (hk : K x = some .local) : ∀ {binds : List (Str × Value)} {m : Str → Option Value}, (binds.map (·.1)).Nodup → (x, v) ∈ binds → bindL K binds m x = some v
  | [], _, _, h => by cases h
  | (n, w) :: r, m, hn, h => by
    rw [List.map_cons, List.nodup_cons] at hn
    unfold bindL
    rcases List.mem_cons.mp h with h | h
    · cases h
      rw [bindL_other hn.1, if_pos hk]; simp
    · exact bindL_get hk hn.2 h
theorem bindC_other {K : Str → Option NameKind} {x : Str} : ∀ {binds : List (Str × Value)} {m : Str → Option Value}, x ∉ binds.map (·.1) → bindC K binds m x = m x
  | [], _, _ => rfl
  | (n, v) :: r, m, h => by
    rw [List.map_cons, List.mem_cons, not_or] at h
    unfold bindC
    rw [bindC_other h.2]
    split
    · rfl
    · simp [h.1]
theorem bindC_get {K : Str → Option NameKind} {x : Str} {v : Value} (hk : K x ≠ some .local) : ∀ {binds : List (Str × Value)} {m : Str → Option Value}, (binds.map (·.1)).Nodup → (x, v) ∈ binds → bindC K binds m x = some v
  | [], _, _, h => by cases h
  | (n, w) :: r, m, hn, h => by
    rw [List.map_cons, List.nodup_cons] at hn
    unfold bindC
    rcases List.mem_cons.mp h with h | h
    · cases h
      rw [bindC_other hn.1, if_neg hk]; simp
    · exact bindC_get hk hn.2 h

theorem codeAny_call_cellsT {prog : Program} {w : World} {A : Around} {s : Shared} {R : Result → Shared → Prop} {a : Addr} {o : Obj} {fd : FuncData} {body : List Stmt} {vals : List Value} {binds : List (Str × Value)}
    (hroom : A.depth < recursionLimit) (ho : s.heap.get? a = some o) (hdata : o.data = .func fd) (hlim : s.heap.NoLimit) (hcd : s.heap.CodeRec fd.code fd.qualname)
    (hbody : fd.body = .stmts body) (hbind : bindArgs fd ⟨vals, []⟩ = pure binds) (hclo : fd.closure = [])
    (hkind : ∀ x ∈ binds, fd.scope.names.lookup x.1 = some .local ∨ (fd.scope.names.lookup x.1 = some .cell ∧ ((cellsFrom (s.heap.objs.size + 1) fd.scope.names []).lookup x.1).isSome = true))
    (h : ∀ s₁, InCallC s (callEnvC fd s.heap.objs.size a).locals (bindL (callEnvC fd s.heap.objs.size a).kindOf binds fun _ => none) (callEnvC fd s.heap.objs.size a).cells
        (bindC (callEnvC fd s.heap.objs.size a).kindOf binds fun _ => none) s₁ → s.toks ≤ s₁.toks →
      wpAny (model prog w) (A.deeper (callEnvC fd s.heap.objs.size a)) (execs body (callEnvC fd s.heap.objs.size a)) (fun f s' => R (.ok (.ret (match f with | .ret v => v | _ => .none))) s')
        (fun e s' => wpAny (model prog w) (A.deeper (callEnvC fd s.heap.objs.size a)) (leaving (callEnvC fd s.heap.objs.size a) e) (fun _ s'' => R (.error e) s'') (fun e' s'' => R (.error e') s'') s') s₁)
    (hco : fd.scope.isCoroutine = false) (hgen : fd.scope.isGenerator = false) (hk : fd.scope.kind = .function) :
    codeAny (model prog w) A (.call (.ref a) ⟨vals, []⟩) R s := by
  refine codeAny_call_function hroom ho hdata hco hgen hbody hcd ?_
  rw [hbind, hclo]
  refine wpAny_pure (wpAny_with_toks (Nat.le_refl _) (wpAny_newFunctionEnv_cells hk hkind fun env he s' x => ?_))
  subst he
  exact fun ht => ⟨hlim.keeps x.toInCall.keep, codeAny_func (h s' x ht)⟩

/-- entering a frame with cells -/
theorem cells_good {C : Cx} {fd : FuncData} {a : Addr} {nm : Nm} {s s₁ : Shared} {φ : Phi} {σ : Hp} {X : List Res} {ms : List MV} {vs : List Value} (hn : fd.scope.names = nm) (hkind : fd.scope.kind = .function) (hgl : fd.globals = mainGlobals) (hbi : fd.builtins = builtinsNs) (hnd : (nm.map (·.1)).Nodup)
    (hl : nm.all (fun x => x.2 != .free) = true) (R : C.R φ σ X s) (hr : All2 (VRel C.W φ) ms vs)
    (x : InCallC s (callEnvC fd s.heap.objs.size a).locals (bindL (callEnvC fd s.heap.objs.size a).kindOf ((nm.map (·.1)).zip vs) fun _ => none) (callEnvC fd s.heap.objs.size a).cells (bindC (callEnvC fd s.heap.objs.size a).kindOf ((nm.map (·.1)).zip vs) fun _ => none) s₁) (ht : s.toks ≤ s₁.toks) (hcd : nm[0]? = some (Str.ofString "script", .cell) → fd.code = .ref C.W.lcd) :
    Good C (callEnvC fd s.heap.objs.size a) nm (cidx nm 0 (s.heap.objs.size + 1)) X (initLv nm.length ms) φ σ s₁ := by
  generalize hce : callEnvC fd s.heap.objs.size a = env at x ⊢
  have henv : env.locals = s.heap.objs.size ∧ env.scope = fd.scope ∧ env.globals = fd.globals ∧ env.builtins = fd.builtins ∧ env.cells = cellsFrom (s.heap.objs.size + 1) nm [] ∧ env.code = fd.code := by rw [← hce, ← hn]; exact ⟨rfl, rfl, rfl, rfl, rfl, rfl⟩
  obtain ⟨e1, e2, e3, e4, e5, e6⟩ := henv
  obtain ⟨h₁, tk, rfl, hk₁⟩ := x.done
  have hbn : (((nm.map (·.1)).zip vs).map (·.1)).Nodup := (zip_sub _ _).nodup hnd
  have hko : ∀ (i : Nat) (y : Str) (k : NameKind), nm[i]? = some (y, k) → env.kindOf y = some k := fun i y k hi => by
    unfold Env.kindOf; rw [e2, hn]; exact lookup_of hnd hi
  have hmem : ∀ (i : Nat) (y : Str) (k : NameKind) (w : Value), nm[i]? = some (y, k) → vs[i]? = some w → (y, w) ∈ (nm.map (·.1)).zip vs := fun i y k w hi hw => by
    refine List.mem_of_getElem? (i := i) ?_
    rw [List.getElem?_zip_eq_some]
    exact ⟨by rw [List.getElem?_map, hi]; rfl, hw⟩
  have hgn : ∀ c, s.heap.objs.size ≤ c → C.g.get? c = none := fun c hc => by
    cases q : C.g.get? c with
    | none => rfl
    | some o' => exact absurd (Nat.lt_of_lt_of_le (Heap.lt_size (R.keep _ _ q)) hc) (Nat.lt_irrefl _)
  have hnew : ∀ c, s.heap.objs.size ≤ c → c ∉ φ.l ++ X.map (·.1) := fun c hc q => Nat.lt_irrefl _ (Nat.lt_of_lt_of_le (R.size q) hc)
  have R1 : C.R φ σ X { s with heap := h₁, toks := tk } := R.ext hk₁ rfl rfl ht
  have hcx : ∀ p ∈ cidx nm 0 (s.heap.objs.size + 1), ∃ y, nm[p.1]? = some (y, .cell) ∧ env.cells.lookup y = some p.2 := fun p hp => by
    obtain ⟨y, q1, q2⟩ := cidx_lookup (acc := []) hnd hp
    exact ⟨y, by simpa using q1, by rw [e5]; exact q2⟩
  have R2 := R1.addMany (fun p => PCell C.W (initLv nm.length ms)[p.1]? φ) (cidx nm 0 (s.heap.objs.size + 1)) (cidx_nd2 _ _ _)
    (fun p hp => hnew _ (Nat.le_of_succ_le (cidx_ge hp).2)) (fun p hp => hgn _ (Nat.le_of_succ_le (cidx_ge hp).2)) (fun p hp => by
      obtain ⟨y, q1, q2⟩ := hcx p hp
      obtain ⟨o, ho, hd⟩ := x.cell y p.2 q2
      refine ⟨o, ho, _, hd, fun mv hmv => ?_⟩
      obtain ⟨w, g1, g2⟩ := hr.get (initLv_get hmv)
      exact ⟨w, bindC_get (by rw [hko _ _ _ q1]; decide) hbn (hmem _ _ _ _ q1 g1), g2⟩)
  obtain ⟨oN, hoN, hNs⟩ := NsO.of x.toInCall.ns
  have R3 := R2.add (a := env.locals) (P := PLoc C.W nm (initLv nm.length ms) φ) (fun q => by
      rw [e1] at q
      rcases List.mem_append.mp q with q | q
      · exact hnew _ (Nat.le_refl _) (List.mem_append_left _ q)
      · rw [List.map_append] at q
        rcases List.mem_append.mp q with q | q
        · rw [List.map_map] at q
          obtain ⟨p, hp, e⟩ := List.mem_map.mp q
          have h1 := (cidx_ge hp).2
          have e' : p.2 = s.heap.objs.size := e
          rw [e'] at h1
          exact Nat.not_succ_le_self _ h1
        · exact hnew _ (Nat.le_refl _) (List.mem_append_right _ q)) (by rw [e1]; exact hgn _ (Nat.le_refl _)) hoN ⟨_, hNs, fun i y mv q1 q2 => by
      obtain ⟨w, g1, g2⟩ := hr.get (initLv_get q2)
      exact ⟨w, bindL_get (hko _ _ _ q1) hbn (hmem _ _ _ _ q1 g1), g2⟩⟩
  refine ⟨⟨by rw [e2]; exact hkind, by rw [e2]; exact hn, by rw [e3]; exact hgl, by rw [e4]; exact hbi, hnd, cidx_nd1 _ _ _, fun i c h => hcx (i, c) h, ?_, fun q => by rw [e6]; exact hcd q⟩, R3⟩
  intro i y k hi hk
  rcases hk with rfl | rfl
  · left
    obtain ⟨c, hc⟩ := cidx_mem (i0 := 0) (n := s.heap.objs.size + 1) hi
    exact ⟨c, by simpa using hc⟩
  · exfalso
    have := List.all_eq_true.mp hl _ (List.mem_of_getElem? hi)
    simp at this

theorem call_cells {C : Cx} {d : Nat} {a : Addr} {fd : FuncData} {body : List Stmt} {nm : Nm} {k : Nat} {f : XF} (D : DefOk C a fd body nm k) (hclo : fd.closure = []) (hl : nm.all (fun x => x.2 != .free) = true) (hpar : (nm.take k).all (fun x => x.2 == .local || x.2 == .cell) = true) (hb : SB C d nm body f)
    {A : Around} {φ : Phi} {σ : Hp} {X : List Res} {s : Shared} {ms : List MV} {vs : List Value} {v : MV} {σ' : Hp} {Q E : Value → Shared → Prop} (hA : OkA A (d + 1)) (R : C.R φ σ X s)
    (hbind : bindArgs fd ⟨vs, []⟩ = pure ((nm.map (·.1)).zip vs)) (hr : All2 (VRel C.W φ) ms vs) (hf : mkF nm.length k f ms σ = some (v, σ'))
    (h : ∀ (φ' : Phi) (s' : Shared) (r : Value), Pre φ φ' → C.R φ' σ' X s' → VRel C.W φ' v r → Q r s') : wpAny C.M A (call (.ref a) vs) Q E s := by
  unfold mkF at hf
  split at hf
  · rename_i hk
    obtain ⟨o, ho, hd⟩ := D.obj
    have hvl : vs.length = k := by rw [← hr.length]; exact hk
    refine wpAny_call (codeAny_call_cellsT hA.room (R.keep _ _ ho) hd (C.nolim.keeps R.keep) (D.code.keeps R.keep) D.body hbind hclo (fun x hx => ?_) (fun s₁ x ht => ?_) D.co D.gen D.kind)
    · rw [binds_take k hvl] at hx
      obtain ⟨y, hy, he⟩ := List.mem_map.mp (List.of_mem_zip hx).1
      have h1 := List.all_eq_true.mp hpar y hy
      obtain ⟨i, hi, ei⟩ := List.mem_iff_getElem.mp (List.mem_of_mem_take hy)
      have h2 := lookup_of D.nd (i := i) (x := y.1) (k := y.2) (by rw [List.getElem?_eq_getElem hi, ei])
      rw [D.names, ← he, h2]
      simp only [Bool.or_eq_true, beq_iff_eq] at h1
      rcases h1 with h1 | h1
      · exact .inl (by rw [h1])
      · right
        refine ⟨by rw [h1], ?_⟩
        obtain ⟨c, hc⟩ := cidx_mem (i0 := 0) (n := s.heap.objs.size + 1) (nm := nm) (i := i) (x := y.1) (by rw [List.getElem?_eq_getElem hi, ei, ← h1])
        obtain ⟨z, q1, q2⟩ := cidx_lookup (acc := []) D.nd hc
        have q1' : nm[i]? = some (z, .cell) := by simpa using q1
        rw [List.getElem?_eq_getElem hi, ei] at q1'
        rw [show y.1 = z from congrArg Prod.fst (Option.some.inj q1'), q2]; rfl
    · have G := cells_good D.names D.kind D.gl D.bi D.nd hl R hr x ht D.cd
      have hO : Own nm (cidx nm 0 (s.heap.objs.size + 1)) := fun i x hi => by
        obtain ⟨c, hc⟩ := cidx_mem (i0 := 0) (n := s.heap.objs.size + 1) hi
        exact ⟨c, by simpa using hc⟩
      split at hf
      · rename_i w lv' σ₁ ef
        cases hf
        refine hb _ _ _ X _ φ σ _ _ lv' _ _ _ (hA.deeper _) hO G ef fun φ' s' r p G' r' => ?_
        obtain ⟨v', rfl, rv⟩ := r'
        exact h φ' s' v' p G'.rel.drops rv
      · rename_i lv' σ₁ ef
        cases hf
        refine hb _ _ _ X _ φ σ _ _ lv' _ _ _ (hA.deeper _) hO G ef fun φ' s' r p G' r' => ?_
        obtain rfl : r = .next := r'
        exact h φ' s' .none p G'.rel.drops rfl
      · cases hf
  · cases hf

end Mine
end

section
namespace Mine

/-! calls by name -/
noncomputable def eCall (f : LF) (F : F1) : EF := fun lv σ => match f lv σ with
  | some (ms, σ₁) => F ms σ₁
  | none => none
noncomputable abbrev Fun (C : Cx) (d : Nat) (a : Addr) (F : F1) : Prop := OpN C d (fun vs => call (.ref a) vs) F
noncomputable abbrev Bui (C : Cx) (d : Nat) (id : String) (F : F1) : Prop := OpN C d (fun vs => call (.builtin id) vs) F

theorem SE_call {C : Cx} {d : Nat} {nm : Nm} {x : Str} {p pos : Pos} {es : List Expr} {f : LF} {F : F1} (a : Addr) (hm : C.mg x = some (.ref a)) (hx : nm.lookup x = some .globalImplicit) (hd : (x == ("__debug__" : Str)) = false)
    (hfun : ∃ o fd, C.g.get? a = some o ∧ o.data = .func fd) (hF : Fun C d a F) (h₁ : SL C d nm es f) : SE C d nm (.Call (.Name x p) es [] pos) (eCall f F) := by
  intro A env ci X lv φ σ s v σ' Q E hA G hf h
  unfold eCall at hf
  split at hf
  · rename_i ms σ₁ e1
    obtain ⟨o, fd, ho, hdat⟩ := hfun
    refine wpAny_Call_NameR (SE_glob (d := d) x p a hm hx hd A env ci X lv φ σ s _ _ _ _ hA G rfl fun φ₀ s₀ r p0 G0 r0 => ?_)
    obtain rfl : r = .ref a := r0
    refine Calls.callWith_function (o := o) (fd := fd) (h₁.args hA G0 e1 fun φ₁ s₁ xs p1 G1 r1 => ⟨⟨G1.rel.keep _ _ ho, hdat⟩, ?_⟩)
    exact hF A φ₁ σ₁ _ s₁ ms xs v σ' _ _ hA G1.rel r1 hf fun φ₂ s₂ r p2 R2 r2 => h φ₂ s₂ r (pre_trans p0 (pre_trans p1 p2)) (G1.next p2 R2) r2
  · cases hf

theorem SE_callB {C : Cx} {d : Nat} {nm : Nm} {x : Str} {p pos : Pos} {es : List Expr} {f : LF} {F : F1} (id : String) (hm : C.mg x = none) (hx : nm.lookup x = some .globalImplicit) (hd : (x == ("__debug__" : Str)) = false) (hn : x ≠ "__name__")
    (hb : bootBuiltins x = some (.builtin id)) (hF : Bui C d id F) (h₁ : SL C d nm es f) : SE C d nm (.Call (.Name x p) es [] pos) (eCall f F) := by
  intro A env ci X lv φ σ s v σ' Q E hA G hf h
  unfold eCall at hf
  split at hf
  · rename_i ms σ₁ e1
    refine wpAny_Call_NameR (name_builtin G hm hx hd hn hb ?_)
    refine Calls.callWith_builtin (h₁.plain.any env pos) (h₁.args hA G e1 fun φ₁ s₁ xs p1 G1 r1 => ?_)
    exact hF A φ₁ σ₁ _ s₁ ms xs v σ' _ _ hA G1.rel r1 hf fun φ₂ s₂ r p2 R2 r2 => h φ₂ s₂ r (pre_trans p1 p2) (G1.next p2 R2) r2
  · cases hf

/-- a call of a function that a name of the frame holds -/
noncomputable def eCallV (i : Nat) (a : Addr) (f : LF) (F : F1) : EF := fun lv σ => match lv[i]? with
  | some (some (.fn b)) => if a = b then eCall f F lv σ else none
  | _ => none
theorem SE_callV {C : Cx} {d : Nat} {nm : Nm} {x : Str} {p pos : Pos} {es : List Expr} {f : LF} {F : F1} (i : Nat) (k : NameKind) (a : Addr) (hi : nm[i]? = some (x, k)) (hk : k = .local ∨ k = .cell ∨ k = .free) (hc : (x == ("__classdict__" : Str)) = false) (hd : (x == ("__debug__" : Str)) = false)
    (hfun : ∃ o fd, C.g.get? a = some o ∧ o.data = .func fd) (hF : Fun C d a F) (h₁ : SL C d nm es f) : SE C d nm (.Call (.Name x p) es [] pos) (eCallV i a f F) := by
  intro A env ci X lv φ σ s v σ' Q E hA G hf h
  unfold eCallV at hf
  split at hf
  · rename_i b hb
    split at hf
    · rename_i hab
      subst hab
      unfold eCall at hf
      split at hf
      · rename_i ms σ₁ e1
        obtain ⟨o, fd, ho, hdat⟩ := hfun
        refine wpAny_Call_NameR (SE_name (d := d) i x k p hi hk hc hd A env ci X lv φ σ s (.fn a) σ _ _ hA G (by unfold eVar; rw [hb]) fun φ₀ s₀ r p0 G0 r0 => ?_)
        obtain rfl : r = .ref a := r0
        refine Calls.callWith_function (o := o) (fd := fd) (h₁.args hA G0 e1 fun φ₁ s₁ xs p1 G1 r1 => ⟨⟨G1.rel.keep _ _ ho, hdat⟩, ?_⟩)
        exact hF A φ₁ σ₁ _ s₁ ms xs v σ' _ _ hA G1.rel r1 hf fun φ₂ s₂ r p2 R2 r2 => h φ₂ s₂ r (pre_trans p0 (pre_trans p1 p2)) (G1.next p2 R2) r2
      · cases hf
    · cases hf
  · cases hf

/-- a call with one keyword -/
noncomputable abbrev FK := List MV → MV → Hp → Option (MV × Hp)
noncomputable def OpK (C : Cx) (d : Nat) (t : List Value → Value → Sem Value) (F : FK) : Prop :=
  ∀ (A : Around) (φ : Phi) (σ : Hp) (X : List Res) (s : Shared) (ms : List MV) (m : MV) (vs : List Value) (kv : Value) (v : MV) (σ' : Hp) (Q : Value → Shared → Prop) (E : Value → Shared → Prop),
    OkA A d → C.R φ σ X s → All2 (VRel C.W φ) ms vs → VRel C.W φ m kv → F ms m σ = some (v, σ') →
    (∀ (φ' : Phi) (s' : Shared) (r : Value), Pre φ φ' → C.R φ' σ' X s' → VRel C.W φ' v r → Q r s') → wpAny C.M A (t vs kv) Q E s
theorem All2.up {W : Val} {φ φ' : Phi} (h : Pre φ φ') {ms : List MV} {vs : List Value} (r : All2 (VRel W φ) ms vs) : All2 (VRel W φ') ms vs := r.mono fun _ _ => VRel.mono h

noncomputable def eCallK (f : LF) (g : EF) (F : FK) : EF := fun lv σ => match f lv σ with
  | some (ms, σ₁) => match g lv σ₁ with
    | some (m, σ₂) => F ms m σ₂
    | none => none
  | none => none
theorem SE_callK {C : Cx} {d : Nat} {nm : Nm} {x kw : Str} {p pos kp : Pos} {e ke : Expr} {es : List Expr} {f : LF} {g : EF} {F : FK} (a : Addr) (hm : C.mg x = some (.ref a)) (hx : nm.lookup x = some .globalImplicit) (hd : (x == ("__debug__" : Str)) = false)
    (hfun : ∃ o fd, C.g.get? a = some o ∧ o.data = .func fd) (hF : OpK C d (fun vs kv => call (.ref a) vs [(kw, kv)]) F) (h₁ : SL C d nm (e :: es) f) (h₂ : SE C d nm ke g) :
    SE C d nm (.Call (.Name x p) (e :: es) [⟨some kw, ke, kp⟩] pos) (eCallK f g F) := by
  intro A env ci X lv φ σ s v σ' Q E hA G hf h
  unfold eCallK at hf
  split at hf
  · rename_i ms σ₁ e1
    split at hf
    · rename_i m σ₂ e2
      obtain ⟨o, fd, ho, hdat⟩ := hfun
      refine wpAny_Call_Name_kw (SE_glob (d := d) x p a hm hx hd A env ci X lv φ σ s _ _ _ _ hA G rfl fun φ₀ s₀ r p0 G0 r0 => ?_)
      obtain rfl : r = .ref a := r0
      refine callWith_function_kw (o := o) (fd := fd) ?_
      have k := h₁.run A env ci X lv φ₀ σ s₀ ms σ₁ pos (fun vs s₁ => wpAny C.M A (evalAll ((backToKw pos (keywordEach [⟨some kw, ke, kp⟩] env)).map (·.2))) (fun ks s₂ => (s₂.heap.get? a = some o ∧ o.data = .func fd) ∧ wpAny C.M A (call (.ref a) ([] ++ vs) (((backToKw pos (keywordEach [⟨some kw, ke, kp⟩] env)).filterMap (·.1)).zip ks)) Q E s₂) E s₁) E hA G0 e1 fun φ₁ s₁ xs p1 G1 r1 => ?_
      · rw [h₁.plain.1 env] at k ⊢
        exact evalArgs_kw rfl k
      · show wpAny C.M A (evalAll [(do let v ← eval ke env; standAt pos; pure v)]) _ E s₁
        refine wpAny_evalAll_cons (wpAny_bind (h₂ A env ci X lv φ₁ σ₁ s₁ m σ₂ _ _ hA G1 e2 fun φ₂ s₂ kv p2 G2 r2 => wpAny_bind (wpAny_standAt (wpAny_pure (wpAny_evalAll_nil ⟨⟨G2.rel.keep _ _ ho, hdat⟩, ?_⟩)))))
        exact hF A φ₂ σ₂ _ s₂ ms m xs kv v σ' _ _ hA G2.rel (r1.up p2) r2 hf fun φ₃ s₃ r p3 R3 r3 => h φ₃ s₃ r (pre_trans p0 (pre_trans p1 (pre_trans p2 p3))) (G2.next p3 R3) r3
    · cases hf
  · cases hf

/-! methods of lists and strs -/
structure Meth (C : Cx) (d : Nat) (T : String) (name : Str) (id : String) (F : F1) : Prop where
  pa : PlainAttrs T
  slot : Slot T name id
  ty : typeOf (.builtin id) = pure (.type "method_descriptor")
  op : Bui C d id F

theorem VRel.list_type {C : Cx} {φ : Phi} {σ : Hp} {X : List Res} {s : Shared} (R : C.R φ σ X s) {r : Nat} {v : Value} (hv : VRel C.W φ (.ref r) v) : ∃ a vs, v = .ref a ∧ φ.l[r]? = some a ∧ s.heap.PlainList a vs := by
  obtain ⟨a, ha, rfl⟩ := hv
  have hr : r < (hlen σ) := R.len ▸ (List.getElem?_eq_some_iff.mp ha).1
  obtain ⟨its_hr, hits_hr⟩ := R.hok.has hr
  obtain ⟨a', vs, e1, e2, e3⟩ := R.getList hits_hr
  rw [ha] at e1; cases e1
  exact ⟨a, vs, rfl, ha, e2⟩

noncomputable def eMethL (g : EF) (f : LF) (F : F1) : EF := fun lv σ => match g lv σ with
  | some (.ref r, σ₁) => match f lv σ₁ with
    | some (ms, σ₂) => F (.ref r :: ms) σ₂
    | none => none
  | _ => none
theorem SE_methL {C : Cx} {d : Nat} {nm : Nm} {o : Expr} {name : Str} {id : String} {apos pos : Pos} {es : List Expr} {f : LF} {g : EF} {F : F1} (M : Meth C d "list" name id F) (h₀ : SE C d nm o g) (h₁ : SL C d nm es f)
    (hbase : ∀ env, attributeBase o name env (eval o env) = eval o env := by intro _; rfl) (hfew : ∀ env, ((backTo pos (starEach es env)).all (fun x => !x.1) && (backToKw pos (keywordEach [] env)).all (fun x => x.1.isSome)
      && decide (es.length + ([] : List Keyword).length + (if ([] : List Keyword).isEmpty then 0 else 1) < 30)) = true := by intro _; rfl) (hline : (apos.endLine == pos.line) = true := by rfl) :
    SE C d nm (.Call (.Attribute o name apos) es [] pos) (eMethL g f F) := by
  intro A env ci X lv φ σ s v σ' Q E hA G hf h
  unfold eMethL at hf
  split at hf
  · rename_i r σ₁ e1
    split at hf
    · rename_i ms σ₂ e2
      refine wpAny_Call_method (hbase env) (hfew env) hline M.pa M.slot M.ty (h₀ A env ci X lv φ σ s _ σ₁ _ _ hA G e1 fun φ₁ s₁ ov p1 G1 r1 => ?_)
      obtain ⟨a, vs, rfl, ha, n, hl⟩ := VRel.list_type G1.rel r1
      refine ⟨⟨_, hl, rfl⟩, (fun b hb => by cases hb; exact ⟨_, hl, rfl⟩), ?_⟩
      refine Calls.callWith_builtin (h₁.plain.any env pos) (h₁.args hA G1 e2 fun φ₂ s₂ xs p2 G2 r2 => ?_)
      exact M.op A φ₂ σ₂ _ s₂ (.ref r :: ms) (.ref a :: xs) v σ' _ _ hA G2.rel ⟨⟨a, pre_get p2 ha, rfl⟩, r2⟩ hf fun φ₃ s₃ r p3 R3 r3 => h φ₃ s₃ r (pre_trans p1 (pre_trans p2 p3)) (G2.next p3 R3) r3
    · cases hf
  · cases hf

noncomputable def eMethS (g : EF) (f : LF) (F : F1) : EF := fun lv σ => match g lv σ with
  | some (.str x, σ₁) => match f lv σ₁ with
    | some (ms, σ₂) => F (.str x :: ms) σ₂
    | none => none
  | _ => none
theorem SE_methS {C : Cx} {d : Nat} {nm : Nm} {o : Expr} {name : Str} {id : String} {apos pos : Pos} {es : List Expr} {f : LF} {g : EF} {F : F1} (M : Meth C d "str" name id F) (h₀ : SE C d nm o g) (h₁ : SL C d nm es f)
    (hbase : ∀ env, attributeBase o name env (eval o env) = eval o env := by intro _; rfl) (hfew : ∀ env, ((backTo pos (starEach es env)).all (fun x => !x.1) && (backToKw pos (keywordEach [] env)).all (fun x => x.1.isSome)
      && decide (es.length + ([] : List Keyword).length + (if ([] : List Keyword).isEmpty then 0 else 1) < 30)) = true := by intro _; rfl) (hline : (apos.endLine == pos.line) = true := by rfl) :
    SE C d nm (.Call (.Attribute o name apos) es [] pos) (eMethS g f F) := by
  intro A env ci X lv φ σ s v σ' Q E hA G hf h
  unfold eMethS at hf
  split at hf
  · rename_i x σ₁ e1
    split at hf
    · rename_i ms σ₂ e2
      refine wpAny_Call_method (hbase env) (hfew env) hline M.pa M.slot M.ty (h₀ A env ci X lv φ σ s _ σ₁ _ _ hA G e1 fun φ₁ s₁ ov p1 G1 r1 => ?_)
      obtain ⟨y, t, rfl, hy⟩ := r1
      refine ⟨typeIs_str s₁ y t, (fun b hb => by cases hb), ?_⟩
      refine Calls.callWith_builtin (h₁.plain.any env pos) (h₁.args hA G1 e2 fun φ₂ s₂ xs p2 G2 r2 => ?_)
      exact M.op A φ₂ σ₂ _ s₂ (.str x :: ms) (.str y t :: xs) v σ' _ _ hA G2.rel ⟨⟨y, t, rfl, hy⟩, r2⟩ hf fun φ₃ s₃ r p3 R3 r3 => h φ₃ s₃ r (pre_trans p1 (pre_trans p2 p3)) (G2.next p3 R3) r3
    · cases hf
  · cases hf

/-! and, or, if-else -/
noncomputable def STL (C : Cx) (d : Nat) (nm : Nm) (op : BoolOp) (es : List Expr) (f : TF) : Prop :=
  ∀ (A : Around) (env : Env) (ci : List (Nat × Addr)) (X : List Res) (lv : LV) (φ : Phi) (σ : Hp) (s : Shared) (v : Bool) (σ' : Hp) (Q : Bool → Shared → Prop) (E : Value → Shared → Prop),
    OkA A d → Good C env nm ci X lv φ σ s → f lv σ = some (v, σ') →
    (∀ (φ' : Phi) (s' : Shared), Pre φ φ' → Good C env nm ci X lv φ' σ' s' → Q v s') → wpAny C.M A (allTrue op es env) Q E s
noncomputable def tEnd (b : Bool) : TF := fun _ σ => some (b, σ)
noncomputable def tAnd (f g : TF) : TF := fun lv σ => match f lv σ with
  | some (true, σ') => g lv σ'
  | r => r
noncomputable def tOr (f g : TF) : TF := fun lv σ => match f lv σ with
  | some (false, σ') => g lv σ'
  | r => r
theorem STL_andNil {C : Cx} {d : Nat} {nm : Nm} : STL C d nm .And [] (tEnd true) := by
  intro A env ci X lv φ σ s v σ' Q E hA G hf h
  cases hf
  exact wpAny_allTrue_And_nil (h φ s (pre_refl φ) G)
theorem STL_orNil {C : Cx} {d : Nat} {nm : Nm} : STL C d nm .Or [] (tEnd false) := by
  intro A env ci X lv φ σ s v σ' Q E hA G hf h
  cases hf
  exact wpAny_allTrue_Or_nil (h φ s (pre_refl φ) G)
theorem STL_and {C : Cx} {d : Nat} {nm : Nm} {e : Expr} {es : List Expr} {f g : TF} (h₁ : ST C d nm e f) (h₂ : STL C d nm .And es g) : STL C d nm .And (e :: es) (tAnd f g) := by
  intro A env ci X lv φ σ s v σ' Q E hA G hf h
  unfold tAnd at hf
  split at hf
  · rename_i σ₁ e1
    refine wpAny_allTrue_And_cons (h₁ A env ci X lv φ σ s true σ₁ _ _ hA G e1 fun φ₁ s₁ p1 G1 => ?_)
    rw [if_pos rfl]
    exact h₂ A env ci X lv φ₁ σ₁ s₁ v σ' Q E hA G1 hf fun φ₂ s₂ p2 G2 => h φ₂ s₂ (pre_trans p1 p2) G2
  · rename_i hne
    cases v with
    | true => exact absurd hf (hne σ')
    | false =>
      refine wpAny_allTrue_And_cons (h₁ A env ci X lv φ σ s false σ' _ _ hA G hf fun φ₁ s₁ p1 G1 => ?_)
      rw [if_neg Bool.false_ne_true]
      exact h φ₁ s₁ p1 G1
theorem STL_or {C : Cx} {d : Nat} {nm : Nm} {e : Expr} {es : List Expr} {f g : TF} (h₁ : ST C d nm e f) (h₂ : STL C d nm .Or es g) : STL C d nm .Or (e :: es) (tOr f g) := by
  intro A env ci X lv φ σ s v σ' Q E hA G hf h
  unfold tOr at hf
  split at hf
  · rename_i σ₁ e1
    refine wpAny_allTrue_Or_cons (h₁ A env ci X lv φ σ s false σ₁ _ _ hA G e1 fun φ₁ s₁ p1 G1 => ?_)
    rw [if_neg Bool.false_ne_true]
    exact h₂ A env ci X lv φ₁ σ₁ s₁ v σ' Q E hA G1 hf fun φ₂ s₂ p2 G2 => h φ₂ s₂ (pre_trans p1 p2) G2
  · rename_i hne
    cases v with
    | false => exact absurd hf (hne σ')
    | true =>
      refine wpAny_allTrue_Or_cons (h₁ A env ci X lv φ σ s true σ' _ _ hA G hf fun φ₁ s₁ p1 G1 => ?_)
      rw [if_pos rfl]
      exact h φ₁ s₁ p1 G1
theorem ST_bool {C : Cx} {d : Nat} {nm : Nm} {op : BoolOp} {es : List Expr} {pos : Pos} {f : TF} (h₁ : STL C d nm op es f) : ST C d nm (.BoolOp op es pos) f := by
  intro A env ci X lv φ σ s v σ' Q E hA G hf h
  exact wpAny_isTrue_BoolOp (h₁ A env ci X lv φ σ s v σ' Q E hA G hf h)

noncomputable def eOfT (f : TF) : EF := fun lv σ => match f lv σ with
  | some (b, σ') => some (.bool b, σ')
  | none => none
/-- the value of 'x and y' where both are bools -/
noncomputable def eAnd (f g : EF) : EF := fun lv σ => match f lv σ with
  | some (.bool true, σ') => g lv σ'
  | some (.bool false, σ') => some (.bool false, σ')
  | _ => none
theorem SE_and {C : Cx} {d : Nat} {nm : Nm} {e₁ e₂ : Expr} {pos : Pos} {f g : EF} (h₁ : SE C d nm e₁ f) (h₂ : SE C d nm e₂ g) : SE C d nm (.BoolOp .And [e₁, e₂] pos) (eAnd f g) := by
  intro A env ci X lv φ σ s v σ' Q E hA G hf h
  rw [arm_eval_BoolOp]
  show wpAny C.M A (do
    let v ← eval e₁ env
    standAt pos
    let t ← holding [v] (truthy v)
    match BoolOp.And, t with
    | .And, false | .Or, true => pure v
    | _, _ => eval e₂ env) Q E s
  unfold eAnd at hf
  split at hf
  · rename_i σ₁ e1
    refine wpAny_bind (h₁ A env ci X lv φ σ s _ σ₁ _ _ hA G e1 fun φ₁ s₁ r p1 G1 r1 => ?_)
    obtain rfl : r = .bool true := r1
    refine wpAny_bind (wpAny_standAt (wpAny_bind (wpAny_holding (wpAny_truthy_bool ?_))))
    exact h₂ A env ci X lv φ₁ σ₁ s₁ v σ' Q E hA G1 hf fun φ₂ s₂ r p2 G2 r2 => h φ₂ s₂ r (pre_trans p1 p2) G2 r2
  · rename_i σ₁ e1
    cases hf
    refine wpAny_bind (h₁ A env ci X lv φ σ s _ _ _ _ hA G e1 fun φ₁ s₁ r p1 G1 r1 => ?_)
    obtain rfl : r = .bool false := r1
    refine wpAny_bind (wpAny_standAt (wpAny_bind (wpAny_holding (wpAny_truthy_bool ?_))))
    exact wpAny_pure (h φ₁ s₁ _ p1 G1 rfl)
  · cases hf

noncomputable def eIfE (t : TF) (f g : EF) : EF := fun lv σ => match t lv σ with
  | some (true, σ') => f lv σ'
  | some (false, σ') => g lv σ'
  | none => none
theorem SE_ifE {C : Cx} {d : Nat} {nm : Nm} {test e₁ e₂ : Expr} {pos : Pos} {t : TF} {f g : EF} (ht : ST C d nm test t) (h₁ : SE C d nm e₁ f) (h₂ : SE C d nm e₂ g) : SE C d nm (.IfExp test e₁ e₂ pos) (eIfE t f g) := by
  intro A env ci X lv φ σ s v σ' Q E hA G hf h
  unfold eIfE at hf
  split at hf
  · rename_i σ₁ e1
    refine wpAny_IfExp (ht A env ci X lv φ σ s true σ₁ _ _ hA G e1 fun φ₁ s₁ p1 G1 => ?_)
    rw [if_pos rfl]
    exact h₁ A env ci X lv φ₁ σ₁ s₁ v σ' Q E hA G1 hf fun φ₂ s₂ r p2 G2 r2 => h φ₂ s₂ r (pre_trans p1 p2) G2 r2
  · rename_i σ₁ e1
    refine wpAny_IfExp (ht A env ci X lv φ σ s false σ₁ _ _ hA G e1 fun φ₁ s₁ p1 G1 => ?_)
    rw [if_neg Bool.false_ne_true]
    exact h₂ A env ci X lv φ₁ σ₁ s₁ v σ' Q E hA G1 hf fun φ₂ s₂ r p2 G2 r2 => h φ₂ s₂ r (pre_trans p1 p2) G2 r2
  · cases hf

/-! chains of two comparisons -/
noncomputable def eCmp2 (F G : B2) (f g k : EF) : EF := fun lv σ => match f lv σ with
  | some (a, σ₁) => match g lv σ₁ with
    | some (b, σ₂) => match F a b σ₂ with
      | some (.bool true, σ₃) => match k lv σ₃ with
        | some (c, σ₄) => G b c σ₄
        | none => none
      | some (.bool false, σ₃) => some (.bool false, σ₃)
      | _ => none
    | none => none
  | none => none
theorem SE_cmp2 {C : Cx} {d : Nat} {nm : Nm} {op₁ op₂ : CmpOp} {F₁ F₂ : B2} {e₁ e₂ e₃ : Expr} {pos : Pos} {f g k : EF} (o₁ : Op2 C d (compareOp op₁) F₁) (o₂ : Op2 C d (compareOp op₂) F₂) (h₁ : SE C d nm e₁ f) (h₂ : SE C d nm e₂ g) (h₃ : SE C d nm e₃ k)
    (hm : behindInMarks op₂ e₃ = false := by with_unfolding_all rfl) : SE C d nm (.Compare e₁ [op₁, op₂] [e₂, e₃] pos) (eCmp2 F₁ F₂ f g k) := by
  intro A env ci X lv φ σ s v σ' Q E hA G hf h
  rw [arm_eval_Compare]
  show wpAny C.M A (do
    compareChain pos (← eval e₁ env) [op₁, op₂] [eval e₂ env, markedBehindIn op₂ e₃ (eval e₃ env)]) Q E s
  rw [markedBehindIn_of_false hm]
  unfold eCmp2 at hf
  split at hf
  · rename_i a σ₁ e1
    split at hf
    · rename_i b σ₂ e2
      refine wpAny_bind (h₁ A env ci X lv φ σ s a σ₁ _ _ hA G e1 fun φ₁ s₁ x p1 G1 r1 => ?_)
      simp only [compareChain]
      refine wpAny_bind (wpAny_holding (h₂ A env ci X lv φ₁ σ₁ s₁ b σ₂ _ _ hA G1 e2 fun φ₂ s₂ y p2 G2 r2 => wpAny_bind (wpAny_standAt ?_)))
      split at hf
      · rename_i σ₃ e3
        split at hf
        · rename_i c σ₄ e4
          refine wpAny_bind (wpAny_holding (o₁ A φ₂ σ₂ _ s₂ a b x y _ σ₃ _ _ hA G2.rel (r1.mono p2) r2 e3 fun φ₃ s₃ r p3 R3 r3 => ?_))
          obtain rfl : r = .bool true := r3
          have G3 := G2.next p3 R3
          refine wpAny_bind (wpAny_release (wpAny_bind (wpAny_holding (wpAny_truthy_bool ?_))))
          simp only [if_true]
          refine wpAny_bind (wpAny_holding (h₃ A env ci X lv φ₃ σ₃ s₃ c σ₄ _ _ hA G3 e4 fun φ₄ s₄ z p4 G4 r4 => wpAny_bind (wpAny_standAt ?_)))
          refine wpAny_operating (o₂ A φ₄ σ₄ _ s₄ b c y z v σ' _ _ hA G4.rel (r2.mono (pre_trans p3 p4)) r4 hf fun φ₅ s₅ r p5 R5 r5 => ?_)
          exact h φ₅ s₅ r (pre_trans p1 (pre_trans p2 (pre_trans p3 (pre_trans p4 p5)))) (G4.next p5 R5) r5
        · cases hf
      · rename_i σ₃ e3
        cases hf
        refine wpAny_bind (wpAny_holding (o₁ A φ₂ σ₂ _ s₂ a b x y _ _ _ _ hA G2.rel (r1.mono p2) r2 e3 fun φ₃ s₃ r p3 R3 r3 => ?_))
        obtain rfl : r = .bool false := r3
        refine wpAny_bind (wpAny_release (wpAny_bind (wpAny_holding (wpAny_truthy_bool ?_))))
        simp only [Bool.false_eq_true, if_false]
        exact wpAny_pure (h φ₃ s₃ _ (pre_trans p1 (pre_trans p2 p3)) (G2.next p3 R3) rfl)
      · cases hf
    · cases hf
  · cases hf
theorem ST_cmp2 {C : Cx} {d : Nat} {nm : Nm} {op₁ op₂ : CmpOp} {F₁ F₂ : B2} {e₁ e₂ e₃ : Expr} {pos : Pos} {f g k : EF} (o₁ : Op2 C d (compareOp op₁) F₁) (o₂ : Op2 C d (compareOp op₂) F₂) (h₁ : SE C d nm e₁ f) (h₂ : SE C d nm e₂ g) (h₃ : SE C d nm e₃ k)
    (hm : behindInMarks op₂ e₃ = false := by with_unfolding_all rfl) : ST C d nm (.Compare e₁ [op₁, op₂] [e₂, e₃] pos) (tOf (eCmp2 F₁ F₂ f g k)) := by
  intro A env ci X lv φ σ s v σ' Q E hA G hf h
  have hf := tOf_some hf
  rw [arm_isTrue_Compare]
  show wpAny C.M A (do
    testChain pos (← eval e₁ env) [op₁, op₂] [eval e₂ env, markedBehindIn op₂ e₃ (eval e₃ env)]) Q E s
  rw [markedBehindIn_of_false hm]
  unfold eCmp2 at hf
  split at hf
  · rename_i a σ₁ e1
    split at hf
    · rename_i b σ₂ e2
      refine wpAny_bind (h₁ A env ci X lv φ σ s a σ₁ _ _ hA G e1 fun φ₁ s₁ x p1 G1 r1 => ?_)
      simp only [testChain]
      refine wpAny_bind (wpAny_holding (h₂ A env ci X lv φ₁ σ₁ s₁ b σ₂ _ _ hA G1 e2 fun φ₂ s₂ y p2 G2 r2 => wpAny_bind (wpAny_standAt ?_)))
      split at hf
      · rename_i σ₃ e3
        split at hf
        · rename_i c σ₄ e4
          refine wpAny_bind (wpAny_holding (o₁ A φ₂ σ₂ _ s₂ a b x y _ σ₃ _ _ hA G2.rel (r1.mono p2) r2 e3 fun φ₃ s₃ r p3 R3 r3 => ?_))
          obtain rfl : r = .bool true := r3
          have G3 := G2.next p3 R3
          refine wpAny_bind (wpAny_release (wpAny_bind (wpAny_holding (wpAny_truthy_bool ?_))))
          simp only [if_true]
          refine wpAny_bind (wpAny_holding (h₃ A env ci X lv φ₃ σ₃ s₃ c σ₄ _ _ hA G3 e4 fun φ₄ s₄ z p4 G4 r4 => wpAny_bind (wpAny_standAt ?_)))
          refine wpAny_bind (wpAny_operating (o₂ A φ₄ σ₄ _ s₄ b c y z _ σ' _ _ hA G4.rel (r2.mono (pre_trans p3 p4)) r4 hf fun φ₅ s₅ r p5 R5 r5 => ?_))
          obtain rfl : r = .bool v := r5
          exact wpAny_holding (wpAny_truthy_bool (h φ₅ s₅ (pre_trans p1 (pre_trans p2 (pre_trans p3 (pre_trans p4 p5)))) (G4.next p5 R5)))
        · cases hf
      · rename_i σ₃ e3
        cases hf
        refine wpAny_bind (wpAny_holding (o₁ A φ₂ σ₂ _ s₂ a b x y _ _ _ _ hA G2.rel (r1.mono p2) r2 e3 fun φ₃ s₃ r p3 R3 r3 => ?_))
        obtain rfl : r = .bool false := r3
        refine wpAny_bind (wpAny_release (wpAny_bind (wpAny_holding (wpAny_truthy_bool ?_))))
        simp only [Bool.false_eq_true, if_false]
        exact wpAny_pure (h φ₃ s₃ (pre_trans p1 (pre_trans p2 p3)) (G2.next p3 R3))
      · cases hf
    · cases hf
  · cases hf

end Mine
end

section
namespace Mine

/-! an item -/
noncomputable def seqOnly (F : B2) : B2 := fun a b σ => match a with
  | .ref r => F (.ref r) b σ
  | .str x => F (.str x) b σ
  | _ => none

theorem seq_type {C : Cx} {φ : Phi} {σ : Hp} {X : List Res} {s : Shared} (R : C.R φ σ X s) {m : MV} {v : Value} (hv : VRel C.W φ m v) (h : (∃ r, m = .ref r) ∨ ∃ x, m = .str x) :
    ∃ T id, typeLookup (.type T) "__getitem__" = pure (some (.builtin id)) ∧ s.TypeIs v T := by
  rcases h with ⟨r, rfl⟩ | ⟨x, rfl⟩
  · obtain ⟨a, vs, rfl, ha, n, hl⟩ := VRel.list_type R hv
    exact ⟨"list", _, list_getitem_lookup, _, hl, rfl⟩
  · obtain ⟨y, t, rfl, _⟩ := hv
    exact ⟨"str", _, F.slot_str_getitem.lookup, typeIs_str s y t⟩

theorem SE_idx {C : Cx} {d : Nat} {nm : Nm} {value sl : Expr} {pos : Pos} {f g : EF} {F : B2} (ho : Op2 C d (fun o i => getItem o i) F) (h₁ : SE C d nm value f) (h₂ : SE C d nm sl g)
    (hsub : ∀ o i, subscripted sl false o i = operate [o, i] (getItem o i) := by intros; rfl) : SE C d nm (.Subscript value sl pos) (eBin (seqOnly F) f g) := by
  intro A env ci X lv φ σ s v σ' Q E hA G hf h
  obtain ⟨a, σ₁, b, σ₂, e1, e2, e3⟩ := eBin_some hf
  rw [eval_Subscript]
  refine wpAny_bind (h₁ A env ci X lv φ σ s a σ₁ _ E hA G e1 fun φ₁ s₁ x p1 G1 r1 => ?_)
  refine wpAny_bind (wpAny_holding (h₂ A env ci X lv φ₁ σ₁ s₁ b σ₂ _ E hA G1 e2 fun φ₂ s₂ y p2 G2 r2 => wpAny_bind (wpAny_standAt ?_)))
  have ha : (∃ r, a = .ref r) ∨ ∃ x, a = .str x := by
    unfold seqOnly at e3
    split at e3
    · exact .inl ⟨_, rfl⟩
    · exact .inr ⟨_, rfl⟩
    · cases e3
  have e4 : F a b σ₂ = some (v, σ') := by
    rcases ha with ⟨r, rfl⟩ | ⟨x, rfl⟩ <;> exact e3
  obtain ⟨T, id, hl, hT⟩ := seq_type G2.rel (r1.mono p2) ha
  refine wpAny_bind ?_
  rw [getitemInPython_of_ne hT.not_modules]
  refine wpAny_bind (wpAny_specialOf hT hl (wpAny_pure ?_))
  rw [hsub]
  refine wpAny_bind (wpAny_operating (ho A φ₂ σ₂ _ s₂ a b x y v σ' _ E hA G2.rel (r1.mono p2) r2 e4 fun φ₃ s₃ r p3 R3 r3 => ?_))
  exact wpAny_bind (wpAny_letTemporaryGo (wpAny_pure (h φ₃ s₃ r (pre_trans p1 (pre_trans p2 p3)) (G2.next p3 R3) r3)))

/-! slices of lists -/
noncomputable abbrev PF := LV → Hp → Option (Option Int × Hp)
noncomputable def SP (C : Cx) (d : Nat) (nm : Nm) (o : Option Expr) (f : PF) : Prop :=
  ∀ (A : Around) (env : Env) (ci : List (Nat × Addr)) (X : List Res) (lv : LV) (φ : Phi) (σ : Hp) (s : Shared) (v : Option Int) (σ' : Hp) (Q : Value → Shared → Prop) (E : Value → Shared → Prop),
    OkA A d → Good C env nm ci X lv φ σ s → f lv σ = some (v, σ') →
    (∀ (φ' : Phi) (s' : Shared) (r : Value), Pre φ φ' → Good C env nm ci X lv φ' σ' s' → IsPart r v → Q r s') → wpAny C.M A (evalPart o env) Q E s
noncomputable def pNone : PF := fun _ σ => some (none, σ)
noncomputable def pSome (f : EF) : PF := fun lv σ => match f lv σ with
  | some (.int i, σ') => some (some i, σ')
  | some (.ti i, σ') => some (some i, σ')
  | _ => none
theorem SP_none {C : Cx} {d : Nat} {nm : Nm} : SP C d nm none pNone := by
  intro A env ci X lv φ σ s v σ' Q E hA G hf h
  cases hf
  rw [evalPart_none]
  exact wpAny_pure (h φ s _ (pre_refl φ) G .none)
theorem SP_some {C : Cx} {d : Nat} {nm : Nm} {e : Expr} {f : EF} (h₁ : SE C d nm e f) : SP C d nm (some e) (pSome f) := by
  intro A env ci X lv φ σ s v σ' Q E hA G hf h
  unfold pSome at hf
  split at hf
  · rename_i i σ₁ e1
    cases hf
    rw [evalPart_some]
    refine h₁ A env ci X lv φ σ s _ _ _ _ hA G e1 fun φ₁ s₁ r p1 G1 r1 => ?_
    obtain ⟨t, rfl⟩ := r1
    exact h φ₁ s₁ _ p1 G1 (.int i t)
  · rename_i i σ₁ e1
    cases hf
    rw [evalPart_some]
    refine h₁ A env ci X lv φ σ s _ _ _ _ hA G e1 fun φ₁ s₁ r p1 G1 r1 => ?_
    obtain ⟨t, rfl, _⟩ := r1
    exact h φ₁ s₁ _ p1 G1 (.int i t)
  · cases hf

noncomputable def pick (items : List MV) (lo hi st : Option Int) : List MV :=
  (sliceRange (sliceBounds lo hi st items.length).1 (sliceBounds lo hi st items.length).2.1 (sliceBounds lo hi st items.length).2.2).filterMap (items[·]?)
theorem pick_all2 {R : MV → Value → Prop} {ms : List MV} {vs : Array Value} (h : All2 R ms vs.toList) (idx : List Nat) : All2 R (idx.filterMap (ms[·]?)) (idx.filterMap (vs[·]?)) := by
  induction idx with
  | nil => exact trivial
  | cons i r ih =>
    have hl := h.length
    by_cases hi : i < ms.length
    · obtain ⟨v, e1, e2⟩ := h.get (List.getElem?_eq_getElem hi)
      have e3 : vs[i]? = some v := by rw [← Array.getElem?_toList]; exact e1
      rw [List.filterMap_cons, List.filterMap_cons, e3, List.getElem?_eq_getElem hi]
      exact ⟨e2, ih⟩
    · have e1 : ms[i]? = none := List.getElem?_eq_none_iff.mpr (by omega)
      have e3 : vs[i]? = none := by
        rw [Array.getElem?_eq_none_iff, ← Array.length_toList]; omega
      rw [List.filterMap_cons, List.filterMap_cons, e3, e1]
      exact ih

noncomputable def eSlice (g : EF) (p q r : PF) : EF := fun lv σ => match g lv σ with
  | some (.ref i, σ₁) => match p lv σ₁ with
    | some (lo, σ₂) => match q lv σ₂ with
      | some (hi, σ₃) => match r lv σ₃ with
        | some (st, σ₄) => match (hget σ₄ i) with
          | some items => if items.length ≤ 1000 ∧ st ≠ some 0 then some (.ref (hlen σ₄), hpush σ₄ (pick items lo hi st)) else none
          | none => none
        | none => none
      | none => none
    | none => none
  | _ => none

theorem SE_slice {C : Cx} {d : Nat} {nm : Nm} {value : Expr} {lower upper step : Option Expr} {p pos : Pos} {f : EF} {f₁ f₂ f₃ : PF} (h₀ : SE C d nm value f) (h₁ : SP C d nm lower f₁) (h₂ : SP C d nm upper f₂) (h₃ : SP C d nm step f₃)
    (ht : ∀ o r, letTemporaryGo value o r = pure () := by intro _ _; rfl) : SE C d nm (.Subscript value (.Slice lower upper step p) pos) (eSlice f f₁ f₂ f₃) := by
  intro A env ci X lv φ σ s v σ' Q E hA G hf h
  unfold eSlice at hf
  split at hf
  · rename_i i σ₁ e1
    split at hf
    · rename_i lo σ₂ e2
      split at hf
      · rename_i hi σ₃ e3
        split at hf
        · rename_i st σ₄ e4
          split at hf
          · rename_i items e5
            split at hf
            · rename_i hc
              cases hf
              have key : wpAny C.M A (eval value env) (fun o s₁ => wpAny C.M A (eval (.Slice lower upper step p) env) (fun j s₂ => s₂.TypeIs o "list" ∧ wpAny C.M A (getItem o j) Q E s₂) E s₁) E s := by
                refine h₀ A env ci X lv φ σ s _ σ₁ _ _ hA G e1 fun φ₁ s₁ o p1 G1 r1 => wpAny_Slice ?_
                refine h₁ A env ci X lv φ₁ σ₁ s₁ lo σ₂ _ _ hA G1 e2 fun φ₂ s₂ vl p2 G2 r2 => h₂ A env ci X lv φ₂ σ₂ s₂ hi σ₃ _ _ hA G2 e3 fun φ₃ s₃ vu p3 G3 r3 => h₃ A env ci X lv φ₃ σ₃ s₃ st σ₄ _ _ hA G3 e4 fun φ₄ s₄ vst p4 G4 r4 => ?_
                obtain ⟨a, ha, rfl⟩ := r1.mono (pre_trans p2 (pre_trans p3 p4))
                obtain ⟨a', vs, q1, q2, q3⟩ := G4.rel.getList e5
                rw [ha] at q1; cases q1
                have hl : (s₄.heap.push { cls := .type "slice", data := .fields #[vl, vu, vst] }).IsList a vs := q2.isList.push _
                refine ⟨hl.typeIs (s := { s₄ with heap := s₄.heap.push { cls := .type "slice", data := .fields #[vl, vu, vst] } }), wpAny_getItem_list_slice hl (Heap.IsSliceOf.new ..) r2 r3 r4 hc.2 ?_ (by rw [← Array.length_toList, ← q3.length]; exact Nat.le_trans hc.1 sizeLine_ge)⟩
                have G5 := G4.ext (s' := { s₄ with heap := s₄.heap.push { cls := .type "slice", data := .fields #[vl, vu, vst] } }) (fun b o e => Heap.get?_push_of_some _ e)
                refine h _ _ _ (pre_trans p1 (pre_trans p2 (pre_trans p3 (pre_trans p4 Pre.add)))) (G5.next Pre.add (G5.rel.newList (ms := pick items lo hi st) (vs := slicePick vs lo hi st) ?_)) (newRef G5.rel.len)
                unfold slicePick pick
                rw [show vs.size = items.length by rw [← Array.length_toList, ← q3.length]]
                exact pick_all2 q3 _
              cases step with
              | none => exact wpAny_Subscript_Slice list_getitem_lookup key ht
              | some st' => exact wpAny_Subscript_Slice_step list_getitem_lookup key ht
            · cases hf
          · cases hf
        · cases hf
      · cases hf
    · cases hf
  · cases hf

/-! minus one number -/
noncomputable def eNeg (f : EF) : EF := fun lv σ => match f lv σ with
  | some (.int i, σ') => some (.int (-i), σ')
  | _ => none
theorem SE_neg {C : Cx} {d : Nat} {nm : Nm} {e : Expr} {pos : Pos} {f : EF} (h₁ : SE C d nm e f) : SE C d nm (.UnaryOp .USub e pos) (eNeg f) := by
  intro A env ci X lv φ σ s v σ' Q E hA G hf h
  unfold eNeg at hf
  split at hf
  · rename_i i σ₁ e1
    cases hf
    refine wpAny_UnaryOp (h₁ A env ci X lv φ σ s _ _ _ _ hA G e1 fun φ₁ s₁ r p1 G1 r1 => ?_)
    obtain ⟨t, rfl⟩ := r1
    exact P.neg_int (h φ₁ _ _ p1 (G1.toks _) ⟨_, rfl⟩)
  · cases hf

/-! further statements -/
noncomputable def xAug (i : Nat) (F : B2) (f : EF) : XF := fun lv σ => match lv[i]? with
  | some (some a) => match f lv σ with
    | some (b, σ₁) => match F a b σ₁ with
      | some (v, σ₂) => some (.next, lv.set i (some v), σ₂)
      | none => none
    | none => none
  | _ => none
theorem SS_aug {C : Cx} {d : Nat} {nm : Nm} {x : Str} {p pos : Pos} {op : Operator} {e : Expr} {f : EF} {F : B2} (i : Nat) (hi : nm[i]? = some (x, .local)) (hc : (x == ("__classdict__" : Str)) = false) (ho : Op2 C d (inplaceOp op) F) (h₁ : SE C d nm e f) :
    SS C d nm (.AugAssign (.Name x p) op e pos) (xAug i F f) := by
  intro A env ci X lv φ σ s fl lv' σ' Q E hA hO G hf h
  unfold xAug at hf
  split at hf
  · rename_i a ha
    split at hf
    · rename_i b σ₁ e1
      split at hf
      · rename_i v σ₂ e2
        cases hf
        refine wpAny_AugAssign_Name (load_var G hi (.inl rfl) ha hc fun y ry => ?_)
        refine h₁ A env ci X lv φ σ s b σ₁ _ _ hA G e1 fun φ₁ s₁ z p1 G1 r1 => ?_
        refine ho A φ₁ σ₁ _ s₁ a b y z v _ _ _ hA G1.rel (ry.mono p1) r1 e2 fun φ₂ s₂ r p2 R2 r2 => ?_
        exact (G1.next p2 R2).store hi (.inl rfl) r2 fun s₃ G3 => h φ₂ s₃ _ (pre_trans p1 p2) G3 rfl
      · cases hf
    · cases hf
  · cases hf

/-- what changes a list and gives nothing -/
noncomputable def Op2U (C : Cx) (d : Nat) (t : Value → Value → Sem Unit) (F : MV → MV → Hp → Option Hp) : Prop :=
  ∀ (A : Around) (φ : Phi) (σ : Hp) (X : List Res) (s : Shared) (a b : MV) (x y : Value) (σ' : Hp) (Q : Unit → Shared → Prop) (E : Value → Shared → Prop),
    OkA A d → C.R φ σ X s → VRel C.W φ a x → VRel C.W φ b y → F a b σ = some σ' → (∀ (s' : Shared), C.R φ σ' X s' → Q () s') → wpAny C.M A (t x y) Q E s
noncomputable def Op3U (C : Cx) (d : Nat) (t : Value → Value → Value → Sem Unit) (F : MV → MV → MV → Hp → Option Hp) : Prop :=
  ∀ (A : Around) (φ : Phi) (σ : Hp) (X : List Res) (s : Shared) (a b c : MV) (x y z : Value) (σ' : Hp) (Q : Unit → Shared → Prop) (E : Value → Shared → Prop),
    OkA A d → C.R φ σ X s → VRel C.W φ a x → VRel C.W φ b y → VRel C.W φ c z → F a b c σ = some σ' → (∀ (s' : Shared), C.R φ σ' X s' → Q () s') → wpAny C.M A (t x y z) Q E s

noncomputable def xDel (F : MV → MV → Hp → Option Hp) (f g : EF) : XF := fun lv σ => match f lv σ with
  | some (a, σ₁) => match g lv σ₁ with
    | some (b, σ₂) => match F a b σ₂ with
      | some σ₃ => some (.next, lv, σ₃)
      | none => none
    | none => none
  | none => none
theorem SS_del {C : Cx} {d : Nat} {nm : Nm} {o i : Expr} {p pos : Pos} {f g : EF} {F : MV → MV → Hp → Option Hp} (ho : Op2U C d (fun o i => delItem o i) F) (h₁ : SE C d nm o f) (h₂ : SE C d nm i g) : SS C d nm (.Delete [.Subscript o i p] pos) (xDel F f g) := by
  intro A env ci X lv φ σ s fl lv' σ' Q E hA hO G hf h
  unfold xDel at hf
  split at hf
  · rename_i a σ₁ e1
    split at hf
    · rename_i b σ₂ e2
      split at hf
      · rename_i σ₃ e3
        cases hf
        refine wpAny_Delete (wpAny_deleteEach_cons (wpAny_delete_Subscript (h₁ A env ci X lv φ σ s a σ₁ _ _ hA G e1 fun φ₁ s₁ x p1 G1 r1 => h₂ A env ci X lv φ₁ σ₁ s₁ b σ₂ _ _ hA G1 e2 fun φ₂ s₂ y p2 G2 r2 => ?_)))
        refine ho A φ₂ σ₂ _ s₂ a b x y _ _ _ hA G2.rel (r1.mono p2) r2 e3 fun s₃ R3 => wpAny_deleteEach_nil (h φ₂ s₃ _ (pre_trans p1 p2) ⟨G2.ok, R3⟩ rfl)
      · cases hf
    · cases hf
  · cases hf

noncomputable def xPut (F : MV → MV → MV → Hp → Option Hp) (k f g : EF) : XF := fun lv σ => match k lv σ with
  | some (c, σ₀) => match f lv σ₀ with
    | some (a, σ₁) => match g lv σ₁ with
      | some (b, σ₂) => match F a b c σ₂ with
        | some σ₃ => some (.next, lv, σ₃)
        | none => none
      | none => none
    | none => none
  | none => none
theorem SS_put {C : Cx} {d : Nat} {nm : Nm} {o i e : Expr} {p pos : Pos} {f g k : EF} {F : MV → MV → MV → Hp → Option Hp} (ho : Op3U C d (fun o i v => setItem o i v) F) (h₀ : SE C d nm e k) (h₁ : SE C d nm o f) (h₂ : SE C d nm i g)
    (hs : ∀ env, swapsWith e (some (.Subscript o i p)) pos.line env = pure false := by intro _; rfl) : SS C d nm (.Assign [.Subscript o i p] e pos) (xPut F k f g) := by
  intro A env ci X lv φ σ s fl lv' σ' Q E hA hO G hf h
  unfold xPut at hf
  split at hf
  · rename_i c σ₀ e0
    split at hf
    · rename_i a σ₁ e1
      split at hf
      · rename_i b σ₂ e2
        split at hf
        · rename_i σ₃ e3
          cases hf
          refine wpAny_Assign_Subscript (h₀ A env ci X lv φ σ s c σ₀ _ _ hA G e0 fun φ₀ s₀ z p0 G0 r0 => h₁ A env ci X lv φ₀ σ₀ s₀ a σ₁ _ _ hA G0 e1 fun φ₁ s₁ x p1 G1 r1 => h₂ A env ci X lv φ₁ σ₁ s₁ b σ₂ _ _ hA G1 e2 fun φ₂ s₂ y p2 G2 r2 => ?_) (hs env)
          exact ho A φ₂ σ₂ _ s₂ a b c x y z _ _ _ hA G2.rel (r1.mono p2) r2 (r0.mono (pre_trans p1 p2)) e3 fun s₃ R3 => h φ₂ s₃ _ (pre_trans p0 (pre_trans p1 p2)) ⟨G2.ok, R3⟩ rfl
        · cases hf
      · cases hf
    · cases hf
  · cases hf

/-! several names at once -/
noncomputable def setAll (lv : LV) : List Nat → List MV → Option LV
  | [], [] => some lv
  | i :: is, m :: ms => setAll (lv.set i (some m)) is ms
  | _, _ => none

noncomputable def xTup (is : List Nat) (rev : Bool) (f : LF) : XF := fun lv σ => match f lv σ with
  | some (ms, σ') => if ms.length ≤ 100 then (match (if rev then setAll lv is.reverse ms.reverse else setAll lv is ms) with
    | some lv' => some (.next, lv', σ')
    | none => none) else none
  | none => none

theorem bind_all {C : Cx} {A : Around} {env : Env} {nm : Nm} {ci : List (Nat × Addr)} {X : List Res} {φ : Phi} {σ : Hp} {Q : Unit → Shared → Prop} {E : Value → Shared → Prop} (step : Nat × Str → Value → Sem Unit)
    (hstep : ∀ (p : Nat × Str) (v : Value) (m : MV) (lv : LV) (s : Shared) (Q : Unit → Shared → Prop), (nm[p.1]? = some (p.2, .local) ∨ nm[p.1]? = some (p.2, .cell)) → Good C env nm ci X lv φ σ s → VRel C.W φ m v → (∀ s', Good C env nm ci X (lv.set p.1 (some m)) φ σ s' → Q () s') → wpAny C.M A (step p v) Q E s) :
    ∀ (ps : List (Nat × Str)) (ms : List MV) (vs : List Value) (lv lv' : LV) (s : Shared), (∀ p ∈ ps, nm[p.1]? = some (p.2, .local) ∨ nm[p.1]? = some (p.2, .cell)) → Good C env nm ci X lv φ σ s → All2 (VRel C.W φ) ms vs → setAll lv (ps.map (·.1)) ms = some lv' →
      (∀ s', Good C env nm ci X lv' φ σ s' → Q () s') → wpAny C.M A (assignInOrder (ps.map fun p => step p) vs) Q E s
  | [], [], [], lv, lv', s, _, G, _, hs, h => by
    cases hs
    exact wpAny_pure (h s G)
  | p :: ps, m :: ms, v :: vs, lv, lv', s, hp, G, hr, hs, h => by
    simp only [List.map_cons, assignInOrder]
    refine wpAny_bind (wpAny_holding (hstep p v m lv s _ (hp p List.mem_cons_self) G hr.1 fun s' G' => ?_))
    exact bind_all step hstep ps ms vs _ lv' s' (fun q hq => hp q (List.mem_cons_of_mem _ hq)) G' hr.2 hs h
  | [], _ :: _, _, _, _, _, _, _, _, hs, _ => by cases hs
  | _ :: _, [], _, _, _, _, _, _, _, hs, _ => by cases hs
  | [], [], _ :: _, _, _, _, _, _, hr, _, _ => hr.elim
  | _ :: _, _ :: _, [], _, _, _, _, _, hr, _, _ => hr.elim

theorem stores_some (env : Env) (v : Value) (names : List Str) (stores : List (Value → Sem Unit)) : assignStores env v (some names) stores = (do
    rule "assign.swapped-stores"
    let items ← unpackItems v names.length none
    assignInOrder (names.reverse.map fun n => bindName env n) items.reverse
    pure .next) := rfl
theorem stores_none (env : Env) (v : Value) (t : Value → Sem Unit) : assignStores env v none [t] = (do t v; pure .next) := rfl
theorem SS_tup {C : Cx} {d : Nat} {nm : Nm} {ts es : List Expr} {k k' : Nat} {tp vp pos : Pos} {f : LF} (ps : List (Nat × Str)) (pp : List Pos) (rev : Bool) (hps : ∀ p ∈ ps, nm[p.1]? = some (p.2, .local) ∨ nm[p.1]? = some (p.2, .cell)) (hts : ts = (ps.zip pp).map fun q => .Name q.1.2 q.2) (hpl : pp.length = ps.length) (hel : es.length = ps.length) (h₁ : SL C d nm es f)
    (hw : ∀ env, swapsWithSole [.Tuple ts k tp] (.Tuple es k' vp) pos.line env = pure false)
    (hsw : ∀ env : Env, env.scope.kind = .function → env.scope.names = nm → swappedStores [.Tuple ts k tp] (.Tuple es k' vp) env = pure (if rev then some (ps.map (·.2)) else none)) :
    SS C d nm (.Assign [.Tuple ts k tp] (.Tuple es k' vp) pos) (xTup (ps.map (·.1)) rev f) := by
  intro A env ci X lv φ σ s fl lv' σ' Q E hA hO G hf h
  unfold xTup at hf
  split at hf
  · rename_i ms σ₁ e1
    split at hf
    · rename_i hlen
      split at hf
      · rename_i lv₂ e2
        cases hf
        show wpAny C.M A (exec _ env) Q E s
        rw [arm_exec_Assign, hw env]
        refine wpAny_bind (wpAny_standAt (wpAny_bind (wpAny_pure ?_)))
        simp only [Bool.false_eq_true, if_false]
        refine wpAny_bind ?_
        rw [arm_eval_Tuple]
        refine wpAny_bind (wpAny_standAt (wpAny_bind (h₁.run A env ci X lv φ σ s ms _ vp _ _ hA G e1 fun φ₁ s₁ vs p1 G1 r1 => ?_)))
        have hvl : vs.length = ms.length := r1.length.symm
        refine wpAny_newTuple ?_ (Nat.le_trans (by omega) sizeLine_ge)
        rw [hsw env G.ok.kind G.ok.names]
        refine wpAny_bind (wpAny_pure ?_)
        have G2 := G1.ext (s' := { s₁ with heap := s₁.heap.push { cls := .type "tuple", data := .seq vs.toArray } }) (fun b o e => Heap.get?_push_of_some _ e)
        have hT : ({ s₁ with heap := s₁.heap.push { cls := .type "tuple", data := .seq vs.toArray } } : Shared).heap.IsTuple s₁.heap.objs.size vs.toArray := ⟨_, Heap.get?_push_size _ rfl, rfl, 0, rfl⟩
        have hsl : ∀ (is : List Nat) (ms : List MV) (lv lv' : LV), setAll lv is ms = some lv' → is.length = ms.length := by
          intro is
          induction is with
          | nil =>
            intro ms lv lv' h
            cases ms with
            | nil => rfl
            | cons => cases h
          | cons i is ih =>
            intro ms lv lv' h
            cases ms with
            | nil => cases h
            | cons m ms => simp [ih ms _ _ h]
        cases rev with
        | true =>
          simp only [if_true] at e2 ⊢
          have hl2 : ps.length = ms.length := by have := hsl _ _ _ _ e2; simpa using this
          rw [stores_some]
          refine wpAny_bind (wpAny_rule ?_)
          have hn : (ps.map (·.2)).length = vs.toArray.size := by simp; omega
          rw [hn]
          refine wpAny_bind (wpAny_unpackItems_tuple hA.hd hT fun h3 hx => ?_)
          have G3 := Good.ext (s' := { s₁ with heap := h3 }) G2 (extFresh hx)
          have hmm : ((ps.map (·.2)).reverse.map fun n => bindName env n) = ps.reverse.map fun p => bindName env p.2 := by
            rw [← List.map_reverse, List.map_map]; rfl
          rw [hmm]
          refine wpAny_bind (bind_all (fun p => bindName env p.2) (fun p v m lv s Q hp G r h => wpAny_bindName (by
            rcases hp with hp | hp
            · exact G.store hp (.inl rfl) r h
            · exact G.store hp (.inr ⟨rfl, hO _ _ hp⟩) r h)) ps.reverse ms.reverse vs.reverse lv _ _ (fun p hp => hps p (List.mem_reverse.mp hp)) G3 r1.reverse (by rw [List.map_reverse]; exact e2) fun s4 G4 => ?_)
          exact wpAny_pure (h φ₁ s4 _ p1 G4 rfl)
        | false =>
          simp only [Bool.false_eq_true, if_false] at e2 ⊢
          have hl2 : ps.length = ms.length := by have := hsl _ _ _ _ e2; simpa using this
          have hae : assignEach ts env = (ps.zip pp).map fun q => (false, assign (.Name q.1.2 q.2) env) := by
            rw [hts]
            generalize ps.zip pp = l
            induction l with
            | nil => rfl
            | cons q l ih => show (false, _) :: assignEach (l.map _) env = _; rw [ih]; rfl
          have hst : (assignEach [.Tuple ts k tp] env).map (·.2) = [assign (.Tuple ts k tp) env] := rfl
          rw [hst, stores_none]
          refine wpAny_bind ?_
          have hzl : (ps.zip pp).length = ps.length := by rw [List.length_zip, hpl]; omega
          refine wpAny_assign_Tuple hA.hd hT (by rw [hae]; simp; omega) (by
            rw [hae, List.findIdx?_map]
            exact List.findIdx?_eq_none_iff.mpr fun _ _ => rfl) fun h3 hx => ?_
          have G3 := Good.ext (s' := { s₁ with heap := h3 }) G2 (extFresh hx)
          have key : ∀ (ps : List (Nat × Str)) (pp : List Pos) (ms : List MV) (vs : List Value) (lv lv' : LV) (s : Shared) (Q : Unit → Shared → Prop), (∀ p ∈ ps, nm[p.1]? = some (p.2, .local) ∨ nm[p.1]? = some (p.2, .cell)) → pp.length = ps.length → Good C env nm ci X lv φ₁ σ' s → All2 (VRel C.W φ₁) ms vs → setAll lv (ps.map (·.1)) ms = some lv' →
              (∀ s', Good C env nm ci X lv' φ₁ σ' s' → Q () s') → wpAny C.M A (assignInOrder ((ps.zip pp).map fun q => assign (.Name q.1.2 q.2) env) vs) Q E s := by
            intro ps
            induction ps with
            | nil =>
              intro pp ms vs lv lv' s Q _ _ G hr hs h
              cases ms with
              | nil => cases hs; cases vs with
                | nil => exact wpAny_pure (h s G)
                | cons => exact hr.elim
              | cons => cases hs
            | cons p ps ih =>
              intro pp ms vs lv lv' s Q hp hl G hr hs h
              cases pp with
              | nil => simp at hl
              | cons p1 pp =>
                cases ms with
                | nil => cases hs
                | cons m ms =>
                  cases vs with
                  | nil => exact hr.elim
                  | cons v vs =>
                    simp only [List.zip_cons_cons, List.map_cons, assignInOrder]
                    rw [arm_assign_Name]
                    refine wpAny_bind (wpAny_holding (wpAny_bind (wpAny_standAt (wpAny_bindName ?_))))
                    have next : ∀ s', Good C env nm ci X (lv.set p.1 (some m)) φ₁ σ' s' → wpAny C.M A (assignInOrder ((ps.zip pp).map fun q => assign (.Name q.1.2 q.2) env) vs) Q E s' := fun s' G' =>
                      ih pp ms vs _ lv' s' Q (fun q hq => hp q (List.mem_cons_of_mem _ hq)) (by simpa using hl) G' hr.2 hs h
                    rcases hp p List.mem_cons_self with hp1 | hp1
                    · exact G.store hp1 (.inl rfl) hr.1 next
                    · exact G.store hp1 (.inr ⟨rfl, hO _ _ hp1⟩) hr.1 next
          have hmm : (assignEach ts env).map (·.2) = (ps.zip pp).map fun q => assign (.Name q.1.2 q.2) env := by rw [hae, List.map_map]; rfl
          rw [hmm]
          exact key ps pp ms vs lv _ _ _ hps hpl G3 r1 e2 fun s4 G4 => wpAny_pure (h φ₁ s4 _ p1 G4 rfl)
      · cases hf
    · cases hf
  · cases hf

end Mine
end

section
namespace Mine

/-! primitive operations: numbers, texts, lists -/
theorem VRel.isInt {W : Val} {φ : Phi} {m : MV} {v : Value} {i : Int} (h : m.un = .int i) (r : VRel W φ m v) : ∃ t, v = .int i t := by
  have r := r.un
  rw [h] at r; exact r

/-- the texts' lengths -/
noncomputable def DtOk (C : Cx) : Prop := ∀ k, (C.W.dt k).length ≤ 10
theorem flat_len {W : Val} (h : ∀ k, (W.dt k).length ≤ 10) : ∀ x : List At, (flat W x).length ≤ 10 * x.length
  | [] => Nat.le_refl _
  | .ch c :: r => by
    have := flat_len h r
    show (flat W r).length + 1 ≤ 10 * (r.length + 1)
    omega
  | .dr k :: r => by
    have := flat_len h r
    show (W.dt k ++ flat W r).length ≤ 10 * (r.length + 1)
    have := h k
    rw [List.length_append]
    omega
theorem flat_append (W : Val) : ∀ x y : List At, flat W (x ++ y) = flat W x ++ flat W y
  | [], _ => rfl
  | .ch c :: r, y => by show c :: flat W (r ++ y) = c :: (flat W r ++ flat W y); rw [flat_append W r y]
  | .dr k :: r, y => by show W.dt k ++ flat W (r ++ y) = (W.dt k ++ flat W r) ++ flat W y; rw [flat_append W r y, List.append_assoc]
theorem cps_append (x y : Str) : (x ++ y).cps.toList = x.cps.toList ++ y.cps.toList := by
  show (x.cps ++ y.cps).toList = _
  rw [Array.toList_append]
theorem str_len (x : Str) : x.length = x.cps.toList.length := by rw [Array.length_toList]; rfl

section
variable {C : Cx} {d : Nat}

noncomputable def opI (f : Int → Int → Option MV) : B2 := fun a b σ => match a.un, b.un with
  | .int i, .int j => match f i j with
    | some m => some (m, σ)
    | none => none
  | _, _ => none

theorem Op2_int {op : Value → Value → Sem Value} {f : Int → Int → Option MV}
    (h : ∀ (A : Around) (s : Shared) (i j : Int) (t u : Tok) (k : MV) (Q E : Value → Shared → Prop), OkA A d → f i j = some k →
      (∀ v tk, s.toks ≤ tk → (∀ φ, VRel C.W φ k v) → Q v { s with toks := tk }) → wpAny C.M A (op (.int i t) (.int j u)) Q E s) : Op2 C d op (opI f) := by
  intro A φ σ X s a b x y v σ' Q E hA R ra rb hf hq
  unfold opI at hf
  split at hf
  · rename_i i j e1 e2
    split at hf
    · rename_i m e3
      cases hf
      obtain ⟨t, rfl⟩ := ra.isInt e1
      obtain ⟨u, rfl⟩ := rb.isInt e2
      exact h A s i j t u _ Q E hA e3 fun v tk ht hv => hq φ _ v (pre_refl φ) (R.toks tk ht) (hv φ)
    · cases hf
  · cases hf

noncomputable def fSub (i j : Int) : Option MV := some (.int (i - j))
theorem op_sub : Op2 C d (binaryOp .Sub) (opI fSub) := Op2_int fun A s i j t u k Q E _ e h => by
  cases e
  exact P.sub_int (h _ _ (Nat.le_succ _) fun φ => ⟨_, rfl⟩)
noncomputable def fDiv (i j : Int) : Option MV := if j = 2 ∧ 0 ≤ i ∧ i < 1000 then some (.int (i.fdiv j)) else none
theorem op_div : Op2 C d (binaryOp .FloorDiv) (opI fDiv) := Op2_int fun A s i j t u k Q E hA e h => by
  unfold fDiv at e
  split at e
  · rename_i hj
    cases e
    obtain ⟨rfl, h0, h1⟩ := hj
    refine floordiv_int_or hA.hd (fun q => by cases q) (fun _ => h _ _ (Nat.le_succ _) fun φ => ⟨_, rfl⟩) (fun _ => .inl (PyProof.noPylong_small (by omega)))
  · cases e
noncomputable def fAug (i j : Int) : Option MV := some (.int (i + j))
theorem op_iadd : Op2 C d (inplaceOp .Add) (opI fAug) := Op2_int fun A s i j t u k Q E _ e h => by
  cases e
  exact P.iadd_int (h _ _ (Nat.le_succ _) fun φ => ⟨_, rfl⟩)

noncomputable def aAdd : B2 := fun a b σ => match a.un, b.un with
  | .int i, .int j => some (.int (i + j), σ)
  | .int i, .sm k => some (.cl k i, σ)
  | .str x, .str y => if x.length + y.length ≤ 100 then some (.str (x ++ y), σ) else none
  | .ref r, .ref q => match (hget σ r), (hget σ q) with
    | some xs, some ys => if xs.length + ys.length ≤ 1000 then some (.ref (hlen σ), hpush σ (xs ++ ys)) else none
    | _, _ => none
  | _, _ => none

theorem op_add (hdt : DtOk C) : Op2 C d (binaryOp .Add) aAdd := by
  intro A φ σ X s a b x y v σ' Q E hA R ra rb hf hq
  unfold aAdd at hf
  have ra := ra.un
  have rb := rb.un
  generalize a.un = a at *
  generalize b.un = b at *
  split at hf
  · cases hf
    obtain ⟨t, rfl⟩ := ra
    obtain ⟨u, rfl⟩ := rb
    exact P.add_int (hq φ _ _ (pre_refl φ) (R.toks _) ⟨_, rfl⟩)
  · cases hf
    obtain ⟨t, rfl⟩ := ra
    obtain ⟨u, rfl⟩ := rb
    exact P.add_int (hq φ _ _ (pre_refl φ) (R.toks _) ⟨_, rfl⟩)
  · rename_i x y
    split at hf
    · rename_i hl
      cases hf
      obtain ⟨x', t, rfl, ex⟩ := ra
      obtain ⟨y', u, rfl, ey⟩ := rb
      have h1 := flat_len hdt x
      have h2 := flat_len hdt y
      refine wpAny_with_toks (Nat.le_refl _) (PyProof.Rows.add_str (fun t' tk ht => hq φ _ _ (pre_refl φ) (R.toks tk ht) ⟨_, _, rfl, ?_⟩) ?_)
      · rw [cps_append, flat_append, ex, ey]
      · rw [str_len, str_len, ex, ey]
        exact Nat.le_trans (by omega) sizeLine_ge
    · cases hf
  · rename_i r q
    split at hf
    · rename_i xs ys e1 e2
      split at hf
      · rename_i hl
        cases hf
        obtain ⟨l1, v1, p1, ⟨n1, q1⟩, z1⟩ := R.getList e1
        obtain ⟨l2, v2, p2, ⟨n2, q2⟩, z2⟩ := R.getList e2
        obtain ⟨l1', h1, rfl⟩ := ra
        obtain ⟨l2', h2, rfl⟩ := rb
        rw [p1] at h1; cases h1
        rw [p2] at h2; cases h2
        have g1 := z1.length
        have g2 := z2.length
        refine P.add_list q1 q2 (hq _ _ _ Pre.add (R.newList (ms := xs ++ ys) (vs := v1 ++ v2) ?_) (newRef R.len)) ?_
        · rw [Array.toList_append]; exact z1.append z2
        · rw [← Array.length_toList, ← Array.length_toList, ← g1, ← g2]; exact Nat.le_trans hl sizeLine_ge
      · cases hf
    · cases hf
  · cases hf

noncomputable def aMod (par : List (Option Int)) : B2 := fun a b σ => match a.un, b.un with
  | .int i, .int j => if j = 0 then none else some (.int (i.fmod j), σ)
  | .cl k x, .int j => if j = 2 then match par[k]? with
    | some (some p) => some (.int ((x + p).fmod 2), σ)
    | _ => none
    else none
  | _, _ => none
noncomputable def ParOk (C : Cx) (par : List (Option Int)) : Prop := ∀ (k : Nat) (p : Int), par[k]? = some (some p) → (C.W.sv k).fmod 2 = p
theorem op_mod {par : List (Option Int)} (hp : ParOk C par) : Op2 C d (binaryOp .Mod) (aMod par) := by
  intro A φ σ X s a b x y v σ' Q E hA R ra rb hf hq
  unfold aMod at hf
  have ra := ra.un
  have rb := rb.un
  generalize a.un = a at *
  generalize b.un = b at *
  split at hf
  · split at hf
    · cases hf
    · rename_i hj
      cases hf
      obtain ⟨t, rfl⟩ := ra
      obtain ⟨u, rfl⟩ := rb
      exact PyProof.Rows.mod_int' hj (hq φ _ _ (pre_refl φ) (R.toks _) ⟨_, rfl⟩)
  · split at hf
    · rename_i hj
      subst hj
      split at hf
      · rename_i p e1
        cases hf
        obtain ⟨t, rfl⟩ := ra
        obtain ⟨u, rfl⟩ := rb
        refine PyProof.Rows.mod_int' (by decide) (hq φ _ _ (pre_refl φ) (R.toks _) ⟨s.toks, ?_⟩)
        have e2 := hp _ _ e1
        have : ∀ i j : Int, (i + j).fmod 2 = (i + j.fmod 2).fmod 2 := fun i j => by
          rw [Int.fmod_eq_emod_of_nonneg _ (by decide), Int.fmod_eq_emod_of_nonneg _ (by decide), Int.fmod_eq_emod_of_nonneg _ (by decide)]
          omega
        rw [this, e2]
      · cases hf
    · cases hf
  · cases hf

noncomputable def aMul : B2 := fun a b σ => match a.un, b.un with
  | .int i, .int j => if i.natAbs ≤ 1000 ∧ j.natAbs ≤ 1000 then some (.int (i * j), σ) else none
  | .str [.ch c], .int n => if n.natAbs ≤ 20 then some (.str (List.replicate n.toNat (.ch c)), σ) else none
  | _, _ => none

theorem foldl_rep (x : Array Nat) : ∀ (n : Nat) (acc : Array Nat), ((List.replicate n x).foldl (· ++ ·) acc).toList = acc.toList ++ (List.replicate n x.toList).flatten
  | 0, acc => by simp
  | n + 1, acc => by
    rw [List.replicate_succ, List.foldl_cons, foldl_rep x n, Array.toList_append, List.replicate_succ, List.flatten_cons, List.append_assoc]
theorem flat_rep (W : Val) (c : Nat) : ∀ n : Nat, flat W (List.replicate n (.ch c)) = List.replicate n c
  | 0 => rfl
  | n + 1 => by show c :: flat W (List.replicate n (.ch c)) = _; rw [flat_rep W c n]; rfl

theorem op_mul : Op2 C d (binaryOp .Mult) aMul := by
  intro A φ σ X s a b x y v σ' Q E hA R ra rb hf hq
  unfold aMul at hf
  have ra := ra.un
  have rb := rb.un
  generalize a.un = a at *
  generalize b.un = b at *
  split at hf
  · split at hf
    · rename_i hj
      cases hf
      obtain ⟨t, rfl⟩ := ra
      obtain ⟨u, rfl⟩ := rb
      exact P.mul_int (hq φ _ _ (pre_refl φ) (R.toks _) ⟨_, rfl⟩) (IntMulOk.of_left (intBits_le_64 (by omega) (by omega)))
    · cases hf
  · rename_i c n
    split at hf
    · rename_i hj
      cases hf
      obtain ⟨x', t, rfl, ex⟩ := ra
      obtain ⟨u, rfl⟩ := rb
      have ex : x'.cps.toList = [c] := ex
      have hl : x'.length = 1 := by rw [str_len, ex]; rfl
      refine P.mul_str (by rw [decide_eq_false (by omega), decide_eq_false (by omega)]; rfl) (fun h1 h2 => ?_) (fun h1 h2 => ?_) ?_
      · rw [hl]
        have : (1 : Int) ≤ (2 ^ 63 - 1) / n := by
          rw [Int.le_ediv_iff_mul_le (by omega)]
          omega
        show ¬ (((1 : Nat) : Int) > (2 ^ 63 - 1) / n)
        omega
      · rw [hl]
        have h20 : 1 * n.toNat ≤ 1000 := by omega
        exact decide_eq_false (Nat.not_lt.mpr (Nat.le_trans h20 sizeLine_ge))
      · have key : ∀ (z : Str) (tk' : Nat) (tk : Nat), s.toks ≤ tk → z.cps.toList = List.replicate n.toNat c → Q (.str z tk') { s with toks := tk } := fun z tk' tk ht hz =>
          hq φ _ _ (pre_refl φ) (R.toks tk ht) ⟨z, tk', rfl, by rw [flat_rep]; exact hz⟩
        split
        · rename_i h1
          exact ⟨Nat.zero_le _, key Str.empty _ _ (Nat.le_succ _) (by rw [show n.toNat = 0 by omega]; rfl)⟩
        · split
          · rename_i h1 h2
            have h2 : n = 1 := by
              rw [hl] at h2
              simpa using h2
            subst h2
            exact key _ _ _ (Nat.le_refl _) (by rw [ex]; rfl)
          · have hz : ((List.replicate n.toNat x'.cps).foldl (· ++ ·) #[]).toList = List.replicate n.toNat c := by
              rw [foldl_rep, ex]
              simp
            refine ⟨?_, key _ _ _ (Nat.le_succ _) hz⟩
            rw [str_len]
            show ((List.replicate n.toNat x'.cps).foldl (· ++ ·) #[]).toList.length ≤ _
            rw [hz, List.length_replicate]
            exact Nat.le_trans (by omega) sizeLine_ge
    · cases hf
  · cases hf

noncomputable def fLt (i j : Int) : Option MV := some (.bool (decide (i < j)))
noncomputable def fGt (i j : Int) : Option MV := some (.bool (decide (j < i)))
noncomputable def fLe (i j : Int) : Option MV := some (.bool (decide (i ≤ j)))
theorem op_gt : Op2 C d (compareOp .Gt) (opI fGt) := Op2_int fun A s i j t u k Q E _ e h => by
  cases e
  exact P.gt_int (h _ s.toks (Nat.le_refl _) fun φ => rfl)
theorem op_le : Op2 C d (compareOp .LtE) (opI fLe) := Op2_int fun A s i j t u k Q E _ e h => by
  cases e
  exact P.le_int (h _ s.toks (Nat.le_refl _) fun φ => rfl)
end

end Mine
end

section
open MeetsSeq MeetsSeq2 MeetsSeq3 SeqRoads2
open AutoSeq1 (wpAny_loadPart')
namespace Mine

/-! comparisons of data -/
noncomputable def chs : List At → Option (List Nat)
  | [] => some []
  | .ch c :: r => match chs r with
    | some l => some (c :: l)
    | none => none
  | .dr _ :: _ => none
theorem chs_flat (W : Val) : ∀ {x : List At} {l : List Nat}, chs x = some l → flat W x = l
  | [], l, h => by cases h; rfl
  | .ch c :: r, l, h => by
    unfold chs at h
    split at h
    · rename_i l' e
      cases h
      show c :: flat W r = _
      rw [chs_flat W e]
    · cases h
  | .dr _ :: _, _, h => by cases h

noncomputable def datL (f : MV → Option PyData) : List MV → Option (List PyData)
  | [] => some []
  | m :: r => match f m, datL f r with
    | some d, some ds => some (d :: ds)
    | _, _ => none
noncomputable def datF : Nat → Hp → MV → Option PyData
  | n, σ, m => match m.un with
    | .none => some .none
    | .bool b => some (.bool b)
    | .int i => some (.int i)
    | .str x => match chs x with
      | some l => some (.str ⟨l.toArray⟩)
      | none => none
    | .ref r => match n with
      | 0 => none
      | n + 1 => match (hget σ r) with
        | some xs => match datL (datF n σ) xs with
          | some ds => some (.list ds)
          | none => none
        | none => none
    | _ => none

section
variable {C : Cx} {d : Nat}
theorem dat_reads {φ : Phi} {σ : Hp} {X : List Res} {s : Shared} (R : C.R φ σ X s) : ∀ (n : Nat) {m : MV} {v : Value} {d : PyData}, VRel C.W φ m v → datF n σ m = some d → ∃ as, Reads s.heap v d as := by
  intro n
  induction n with
  | zero =>
    intro m v d r h
    have r := r.un
    unfold datF at h
    generalize m.un = m at *
    cases m <;> try cases h
    · cases r; exact ⟨_, .none⟩
    · cases r; exact ⟨_, .bool _⟩
    · obtain ⟨t, rfl⟩ := r; exact ⟨_, .int _ _⟩
    · obtain ⟨y, t, rfl, e⟩ := r
      dsimp only at h
      split at h
      · rename_i l e2
        cases h
        rw [chs_flat C.W e2] at e
        have : y = ⟨l.toArray⟩ := by cases y; simp at e; subst e; simp
        subst this
        exact ⟨_, .str _ _⟩
      · cases h
  | succ n ih =>
    intro m v d r h
    have r := r.un
    unfold datF at h
    generalize m.un = m at *
    cases m <;> try cases h
    · cases r; exact ⟨_, .none⟩
    · cases r; exact ⟨_, .bool _⟩
    · obtain ⟨t, rfl⟩ := r; exact ⟨_, .int _ _⟩
    · obtain ⟨y, t, rfl, e⟩ := r
      dsimp only at h
      split at h
      · rename_i l e2
        cases h
        rw [chs_flat C.W e2] at e
        have : y = ⟨l.toArray⟩ := by cases y; simp at e; subst e; simp
        subst this
        exact ⟨_, .str _ _⟩
      · cases h
    · rename_i i
      dsimp only at h
      split at h
      · rename_i xs e1
        split at h
        · rename_i ds e2
          cases h
          obtain ⟨a, vs, q1, ⟨k, q2⟩, q3⟩ := R.getList e1
          obtain ⟨a', q4, rfl⟩ := r
          rw [q1] at q4; cases q4
          have key : ∀ {xs : List MV} {vs : List Value} {ds : List PyData}, All2 (VRel C.W φ) xs vs → datL (datF n σ) xs = some ds → ∃ as, ReadsAll s.heap vs ds as := by
            intro xs
            induction xs with
            | nil =>
              intro vs ds h1 h2
              cases vs with
              | nil => cases h2; exact ⟨_, .nil⟩
              | cons => exact h1.elim
            | cons x xs ih2 =>
              intro vs ds h1 h2
              cases vs with
              | nil => exact h1.elim
              | cons y vs =>
                unfold datL at h2
                split at h2
                · rename_i d1 ds1 g1 g2
                  cases h2
                  obtain ⟨as, z1⟩ := ih h1.1 g1
                  obtain ⟨bs, z2⟩ := ih2 h1.2 g2
                  exact ⟨_, .cons z1 z2⟩
                · cases h2
          obtain ⟨as, z⟩ := key q3 e2
          exact ⟨_, .list q2 rfl rfl z⟩
        · cases h
      · cases h

noncomputable def aEqD (neg : Bool) : B2 := fun a b σ => match datF 3 σ a, datF 3 σ b with
  | some x, some y => if SeqAt.shaped x && SeqAt.shaped y then some (.bool (neg != PyData.eqv x y), σ) else none
  | _, _ => none
noncomputable def aEqF (neg : Bool) : B2 := fun a b σ => match a.un, b.un with
  | .int i, .int j => some (.bool (neg != (i == j)), σ)
  | .str x, .str y => match chs x, chs y with
    | some l, some m => some (.bool (neg != (l == m)), σ)
    | _, _ => none
  | _, _ => aEqD neg a b σ
noncomputable def aEq : B2 := aEqF false
noncomputable def aNe : B2 := aEqF true
theorem OkA.room64 {A : Around} (h : OkA A (d + 9)) : A.units + 64 < cLine := by have := h.un; omega
theorem op_eqD : Op2 C (d + 9) (compareOp .Eq) (aEqD false) := by
  intro A φ σ X s a b x y v σ' Q E hA R ra rb hf hq
  unfold aEqD at hf
  split at hf
  · rename_i da db e1 e2
    split at hf
    · rename_i hs
      cases hf
      obtain ⟨h1, h2⟩ := Bool.and_eq_true_iff.mp hs
      obtain ⟨as, z1⟩ := dat_reads R 3 ra e1
      obtain ⟨bs, z2⟩ := dat_reads R 3 rb e2
      exact eq_dataH z1 z2 h1 h2 hA.room64 (hq φ _ _ (pre_refl φ) R (by cases PyData.eqv da db <;> rfl))
    · cases hf
  · cases hf
theorem op_neD : Op2 C (d + 9) (compareOp .NotEq) (aEqD true) := by
  intro A φ σ X s a b x y v σ' Q E hA R ra rb hf hq
  unfold aEqD at hf
  split at hf
  · rename_i da db e1 e2
    split at hf
    · rename_i hs
      cases hf
      obtain ⟨h1, h2⟩ := Bool.and_eq_true_iff.mp hs
      obtain ⟨as, z1⟩ := dat_reads R 3 ra e1
      obtain ⟨bs, z2⟩ := dat_reads R 3 rb e2
      exact ne_dataH z1 z2 h1 h2 hA.room64 (hq φ _ _ (pre_refl φ) R (by cases PyData.eqv da db <;> rfl))
    · cases hf
  · cases hf
theorem op_eq : Op2 C (d + 9) (compareOp .Eq) aEq := by
  intro A φ σ X s a b x y v σ' Q E hA R ra rb hf hq
  unfold aEq aEqF at hf
  split at hf
  · rename_i i j e1 e2
    cases hf
    obtain ⟨t, rfl⟩ := ra.isInt e1
    obtain ⟨u, rfl⟩ := rb.isInt e2
    exact P.eq_int (hq φ _ _ (pre_refl φ) R (by cases (i == j) <;> rfl))
  · rename_i p q e1 e2
    split at hf
    · rename_i l m e3 e4
      cases hf
      have ra := ra.un
      have rb := rb.un
      rw [e1] at ra
      rw [e2] at rb
      obtain ⟨y1, t, rfl, h1⟩ := ra
      obtain ⟨y2, u, rfl, h2⟩ := rb
      rw [chs_flat C.W e3] at h1
      rw [chs_flat C.W e4] at h2
      refine P.eq_str ?_
      rw [h1, h2]
      exact hq φ _ _ (pre_refl φ) R (by cases (l == m) <;> rfl)
    · cases hf
  · exact op_eqD A φ σ X s a b x y v σ' Q E hA R ra rb hf hq
theorem op_ne : Op2 C (d + 9) (compareOp .NotEq) aNe := by
  intro A φ σ X s a b x y v σ' Q E hA R ra rb hf hq
  unfold aNe aEqF at hf
  split at hf
  · rename_i i j e1 e2
    cases hf
    obtain ⟨t, rfl⟩ := ra.isInt e1
    obtain ⟨u, rfl⟩ := rb.isInt e2
    exact P.ne_int (hq φ _ _ (pre_refl φ) R (by show (Value.bool (i != j)) = .bool (true != (i == j)); unfold bne; cases (i == j) <;> rfl))
  · rename_i p q e1 e2
    split at hf
    · rename_i l m e3 e4
      cases hf
      have ra := ra.un
      have rb := rb.un
      rw [e1] at ra
      rw [e2] at rb
      obtain ⟨y1, t, rfl, h1⟩ := ra
      obtain ⟨y2, u, rfl, h2⟩ := rb
      rw [chs_flat C.W e3] at h1
      rw [chs_flat C.W e4] at h2
      refine P.ne_str ?_
      rw [h1, h2]
      exact hq φ _ _ (pre_refl φ) R (by show (Value.bool (l != m)) = .bool (true != (l == m)); unfold bne; cases (l == m) <;> rfl)
    · cases hf
  · exact op_neD A φ σ X s a b x y v σ' Q E hA R ra rb hf hq

/-! 'is' -/
noncomputable def aIsB (a b : MV) : Option Bool := match a, b with
  | .ti i, .ti j => if -5 ≤ i ∧ i ≤ 256 then some (i == j) else none
  | .ref r, .ref q => some (r == q)
  | .none, .none => some true
  | .bool p, .bool q => some (p == q)
  | .none, .bool _ | .bool _, .none => some false
  | .ref _, .none | .ref _, .bool _ | .none, .ref _ | .bool _, .ref _ => some false
  | .fn _, .none => some false
  | .int _, .none | .ti _, .none => some false
  | _, _ => none
noncomputable def aIs : B2 := fun a b σ => match aIsB a b with
  | some r => some (.bool r, σ)
  | none => none
noncomputable def aIsNot : B2 := fun a b σ => match aIsB a b with
  | some r => some (.bool (!r), σ)
  | none => none

theorem nodup_idx {l : List Addr} (h : l.Nodup) {i j : Nat} {a : Addr} (h1 : l[i]? = some a) (h2 : l[j]? = some a) : i = j := by
  obtain ⟨p1, p2⟩ := List.getElem?_eq_some_iff.mp h1
  obtain ⟨q1, q2⟩ := List.getElem?_eq_some_iff.mp h2
  exact nodup_inj h p1 q1 (p2.trans q2.symm)

theorem same_ok {φ : Phi} {σ : Hp} {X : List Res} {s : Shared} {A : Around} {a b : MV} {x y : Value} {r : Bool} {Q : Bool → Shared → Prop} {E : Value → Shared → Prop} (R : C.R φ σ X s) (ra : VRel C.W φ a x) (rb : VRel C.W φ b y)
    (h : aIsB a b = some r) (hq : Q r s) : wpAny C.M A (isSame x y) Q E s := by
  unfold aIsB at h
  split at h
  · split at h
    · rename_i i j hi
      cases h
      obtain ⟨t, rfl, ht⟩ := ra
      obtain ⟨u, rfl, hu⟩ := rb
      have h1 := (R.tlt _ ht).1
      have h2 := (R.tlt _ hu).1
      have h3 : (t == 0 || u == 0) = false := by
        simp only [Bool.or_eq_false_iff, beq_eq_false_iff_ne]; exact ⟨h1, h2⟩
      unfold isSame
      by_cases hij : i = j
      · subst hij
        have hs : smallInt i = true := by
          unfold smallInt
          simp only [Bool.and_eq_true, decide_eq_true_eq]; exact hi
        dsimp only
        rw [beq_self_eq_true, hs]
        show wpAny _ _ (isSame.cachedInt t u) _ _ _
        unfold isSame.cachedInt
        rw [if_neg (by rw [h3]; decide)]
        refine wpAny_bind (wpAny_rule (wpAny_pure ?_))
        rw [beq_self_eq_true] at hq
        exact hq
      · have hb : (i == j) = false := beq_eq_false_iff_ne.mpr hij
        have htu : (t == u) = false := beq_eq_false_iff_ne.mpr fun q => hij (R.tfun t i j ht (q ▸ hu))
        dsimp only
        rw [hb]
        show wpAny _ _ (isSame.created false t u) _ _ _
        unfold isSame.created
        rw [if_neg (by rw [h3]; decide)]
        rw [htu]
        rw [hb] at hq
        exact wpAny_pure hq
    · cases h
  · rename_i r q
    cases h
    obtain ⟨l1, e1, rfl⟩ := ra
    obtain ⟨l2, e2, rfl⟩ := rb
    by_cases hrq : r = q
    · subst hrq
      rw [e1] at e2; cases e2
      rw [beq_self_eq_true] at hq
      exact wpAny_isSame_ref_self hq
    · rw [beq_eq_false_iff_ne.mpr hrq] at hq
      have nd := R.nd
      rw [List.nodup_append] at nd
      have hr1 : r < (hlen σ) := R.len ▸ (List.getElem?_eq_some_iff.mp e1).1
      have hr2 : q < (hlen σ) := R.len ▸ (List.getElem?_eq_some_iff.mp e2).1
      obtain ⟨its_hr1, hits_hr1⟩ := R.hok.has hr1
      obtain ⟨o1, z1, v1, n1, rfl, _⟩ := R.lists r l1 its_hr1 e1 hits_hr1
      obtain ⟨its_hr2, hits_hr2⟩ := R.hok.has hr2
      obtain ⟨o2, z2, v2, n2, rfl, _⟩ := R.lists q l2 its_hr2 e2 hits_hr2
      exact wpAny_isSame_ref_other (fun e => hrq (nodup_idx nd.1 e1 (e ▸ e2))) z1 z2 (fun h => by injection h with h; exact absurd h (by decide)) hq
  · cases h; cases ra; cases rb; exact wpAny_isSame_plain rfl hq
  · cases h; cases ra; cases rb; exact wpAny_isSame_plain rfl (by rename_i p q; cases p <;> cases q <;> exact hq)
  · cases h; cases ra; cases rb; exact wpAny_isSame_plain rfl hq
  · cases h; cases ra; cases rb; exact wpAny_isSame_plain rfl hq
  · cases h; obtain ⟨_, _, rfl⟩ := ra; cases rb; exact wpAny_isSame_plain rfl hq
  · cases h; obtain ⟨_, _, rfl⟩ := ra; cases rb; exact wpAny_isSame_plain rfl hq
  · cases h; obtain ⟨_, _, rfl⟩ := rb; cases ra; exact wpAny_isSame_plain rfl hq
  · cases h; obtain ⟨_, _, rfl⟩ := rb; cases ra; exact wpAny_isSame_plain rfl hq
  · cases h; cases ra; cases rb; exact wpAny_isSame_plain rfl hq
  · cases h; obtain ⟨_, rfl⟩ := ra; cases rb; exact wpAny_isSame_plain rfl hq
  · cases h; obtain ⟨_, rfl, _⟩ := ra; cases rb; exact wpAny_isSame_plain rfl hq
  · cases h

theorem op_is : Op2 C d (compareOp .Is) aIs := by
  intro A φ σ X s a b x y v σ' Q E hA R ra rb hf hq
  unfold aIs at hf
  split at hf
  · rename_i r e
    cases hf
    show wpAny C.M A (do return .bool (← isSame x y)) Q E s
    exact wpAny_bind (same_ok R ra rb e (wpAny_pure (hq φ _ _ (pre_refl φ) R rfl)))
  · cases hf
theorem op_isNot : Op2 C d (compareOp .IsNot) aIsNot := by
  intro A φ σ X s a b x y v σ' Q E hA R ra rb hf hq
  unfold aIsNot at hf
  split at hf
  · rename_i r e
    cases hf
    show wpAny C.M A (do return .bool (!(← isSame x y))) Q E s
    exact wpAny_bind (same_ok R ra rb e (wpAny_pure (hq φ _ _ (pre_refl φ) R rfl)))
  · cases hf

/-! a list of one number below another -/
theorem list_lt_one (l b : Addr) (items items2 : Array Value) (x y : Int) (t u : Tok) (n n2 : Nat) (h1 : items.toList = [.int x t]) (h2 : items2.toList = [.int y u]) :
    Meets (Builtin.«list.__lt__» ⟨[.ref l, .ref b], []⟩)
      (fun _ R s => s.heap.get? l = some { cls := .type "list", dict := none, data := .seq items n, slots := #[] } ∧ s.heap.get? b = some { cls := .type "list", dict := none, data := .seq items2 n2, slots := #[] } ∧
        R (.ok (.ret (.bool (decide (x < y))))) s) := by
  intro prog w A R s h
  obtain ⟨hp, g, d, tk, os⟩ := s; obtain ⟨hl, hb, h⟩ := h
  have f3 := AutoSeq1.sub_list_list
  have s1 : items.size = 1 := by rw [← Array.length_toList, h1]; rfl
  have s2 : items2.size = 1 := by rw [← Array.length_toList, h2]; rfl
  have a1 : items[((0 : Nat) : Int).toNat]? = some (.int x t) := by rw [← Array.getElem?_toList, h1]; rfl
  have a2 : items2[((0 : Nat) : Int).toNat]? = some (.int y u) := by rw [← Array.getElem?_toList, h2]; rfl
  have b1 : items[((1 : Nat) : Int).toNat]? = none := by rw [← Array.getElem?_toList, h1]; rfl
  have b2 : items2[((1 : Nat) : Int).toNat]? = none := by rw [← Array.getElem?_toList, h2]; rfl
  wp_walk using wpAny_loadPart' hl, wpAny_loadPart' hb
  refine ⟨plainId_quiet plain_eq_loop _, codeAny_builtin entry_eq_loop ?_⟩
  rw [Around.under_plainId plain_eq_loop _]
  wp_walk using wpAny_loadPart' hl, wpAny_loadPart' hb
  rw [show items[Int.toNat 0]? = some (.int x t) from a1, show items2[Int.toNat 0]? = some (.int y u) from a2]
  refine wpAny_bind (wpAny_eqBool_int ?_)
  by_cases hxy : x = y
  · subst hxy
    rw [beq_self_eq_true]
    wp_walk
    refine ⟨plainId_quiet plain_eq_loop _, codeAny_builtin entry_eq_loop ?_⟩
    rw [Around.under_plainId plain_eq_loop _]
    wp_walk using wpAny_loadPart' hl, wpAny_loadPart' hb
    rw [show items[Int.toNat (0 + 1)]? = none from b1, show items2[Int.toNat (0 + 1)]? = none from b2]
    wp_walk using wpAny_loadPart' hl, wpAny_loadPart' hb
    have h : R (.ok (.ret (.bool (decide (items.size < items2.size))))) ⟨hp, g, d, tk, os⟩ := by rw [s1, s2]; simpa using h
    exact h
  · rw [beq_eq_false_iff_ne.mpr hxy]
    wp_walk using wpAny_loadPart' hl, wpAny_loadPart' hb
    rw [show items[Int.toNat 0]? = some (.int x t) from a1, show items2[Int.toNat 0]? = some (.int y u) from a2]
    refine wpAny_bind ?_
    show wpAny _ _ (compareOp .Lt _ _) _ _ _
    exact P.lt_int (wpAny_pure h)

noncomputable def aLt : B2 := fun a b σ => match a.un, b.un with
  | .int i, .int j => some (.bool (decide (i < j)), σ)
  | .ref r, .ref q => match (hget σ r), (hget σ q) with
    | some [x], some [y] => match x.un, y.un with
      | .int i, .int j => some (.bool (decide (i < j)), σ)
      | _, _ => none
    | _, _ => none
  | _, _ => none
theorem one_arr {vs : Array Value} {x : Value} (h : vs.toList = [x]) : vs = #[x] := by
  cases vs; simp at h; subst h; rfl
theorem op_lt : Op2 C d (compareOp .Lt) aLt := by
  intro A φ σ X s a b x y v σ' Q E hA R ra rb hf hq
  unfold aLt at hf
  have ra := ra.un
  have rb := rb.un
  generalize a.un = a at *
  generalize b.un = b at *
  split at hf
  · cases hf
    obtain ⟨t, rfl⟩ := ra
    obtain ⟨u, rfl⟩ := rb
    exact P.lt_int (hq φ _ _ (pre_refl φ) R rfl)
  · rename_i r q
    split at hf
    · rename_i x y e1 e2
      split at hf
      · rename_i i j g1 g2
        cases hf
        obtain ⟨l1, v1, p1, ⟨n1, q1⟩, z1⟩ := R.getList e1
        obtain ⟨l2, v2, p2, ⟨n2, q2⟩, z2⟩ := R.getList e2
        obtain ⟨l1', h1, rfl⟩ := ra
        obtain ⟨l2', h2, rfl⟩ := rb
        rw [p1] at h1; cases h1
        rw [p2] at h2; cases h2
        obtain ⟨w1, k1, m1⟩ := z1.one
        obtain ⟨w2, k2, m2⟩ := z2.one
        obtain ⟨t, rfl⟩ := m1.isInt g1
        obtain ⟨u, rfl⟩ := m2.isInt g2
        show wpAny (model C.prog C.w) A (richCompare .Lt (.ref l1) (.ref l2)) Q E s
        have hq' := hq φ s (.bool (decide (i < j))) (pre_refl φ) R rfl
        exact richCompare_meets_room (op := .Lt) (T := "list") ⟨_, q1, rfl⟩ ⟨_, q2, rfl⟩ F.slot_list_lt F.entry_list_lt (F.args_list_lt_2 _ _) (list_lt_one l1 l2 v1 v2 i j t u n1 n2 k1 k2) ⟨q1, q2, ⟨(fun x => nomatch x), hq'⟩⟩ hA.units
      · cases hf
    · cases hf
  · cases hf
end
end Mine
end

section
namespace Mine

/-! items of lists and texts, methods of lists -/
noncomputable def idx (i : Int) (n : Nat) : Option Nat := if 0 ≤ i then (if i < n then some i.toNat else none) else (if 0 ≤ i + n then some (i + n).toNat else none)
theorem idx_seq {i : Int} {n k : Nat} (h : idx i n = some k) : seqIndex? i n = some k ∧ k < n ∧ -(n : Int) ≤ i ∧ i < n ∧ (0 ≤ i → k = i.toNat) ∧ (¬ 0 ≤ i → k = (i + n).toNat) := by
  unfold idx at h
  unfold seqIndex?
  split at h
  · split at h
    · cases h
      rename_i h1 h2
      have hj : (if i < 0 then i + (n : Int) else i) = i := if_neg (by omega)
      simp only [hj]
      exact ⟨by simp [h1, h2], by omega, by omega, by omega, fun _ => by first | rfl | trivial, fun q => absurd h1 q⟩
    · cases h
  · split at h
    · cases h
      rename_i h1 h2
      have hj : (if i < 0 then i + (n : Int) else i) = i + n := if_pos (by omega)
      have h3 : i + (n : Int) < n := by omega
      simp only [hj]
      exact ⟨by simp [h2, h3], by omega, by omega, by omega, fun q => absurd q h1, fun _ => by first | rfl | trivial⟩
    · cases h
theorem All2.size {R : MV → Value → Prop} {ms : List MV} {vs : Array Value} (h : All2 R ms vs.toList) : ms.length = vs.size := by
  have := h.length
  rw [this]; simp

theorem All2.eraseIdx {R : MV → Value → Prop} : ∀ {ms : List MV} {vs : List Value} (k : Nat), All2 R ms vs → All2 R (ms.eraseIdx k) (vs.eraseIdx k)
  | [], [], _, _ => trivial
  | _ :: _, _ :: _, 0, ⟨_, b⟩ => b
  | _ :: _, _ :: _, k + 1, ⟨a, b⟩ => ⟨a, b.eraseIdx k⟩
  | [], _ :: _, _, x => x.elim
  | _ :: _, [], _, x => x.elim

section
variable {C : Cx} {d : Nat}

noncomputable def aGet : B2 := fun a b σ => match a, b.un with
  | .ref r, .int i => match (hget σ r) with
    | some xs => if xs.length ≤ 1000 then match idx i xs.length with
      | some k => match xs[k]? with
        | some m => some (m, σ)
        | none => none
      | none => none
      else none
    | none => none
  | .str x, .int i => match chs x with
    | some l => if l.length ≤ 1000 then match idx i l.length with
      | some k => match l[k]? with
        | some c => some (.str [.ch c], σ)
        | none => none
      | none => none
      else none
    | none => none
  | _, _ => none

theorem op_get : Op2 C d (fun o i => getItem o i) aGet := by
  intro A φ σ X s a b x y v σ' Q E hA R ra rb hf hq
  unfold aGet at hf
  have rb := rb.un
  generalize b.un = b at *
  split at hf
  · rename_i r i
    split at hf
    · rename_i xs e1
      split at hf
      · rename_i hl
        split at hf
        · rename_i k e2
          split at hf
          · rename_i m e3
            cases hf
            obtain ⟨l1, vs, p1, p2, p3⟩ := R.getList e1
            obtain ⟨l1', h1, rfl⟩ := ra
            rw [p1] at h1; cases h1
            obtain ⟨t, rfl⟩ := rb
            have g1 := p3.size
            obtain ⟨q1, q2, q3, q4, q5, q6⟩ := idx_seq e2
            obtain ⟨w, z1, z2⟩ := p3.get e3
            rw [Array.getElem?_toList] at z1
            by_cases h0 : 0 ≤ i
            · exact wpAny_getItem_list p2.isList h0 (by omega) (q5 h0 ▸ z1) (hq φ _ _ (pre_refl φ) R z2)
            · refine wpAny_getItem_list_neg p2.isList (by omega) (by omega) (by omega) ?_ (hq φ _ _ (pre_refl φ) R z2)
              rw [← g1, ← q6 h0]; exact z1
          · cases hf
        · cases hf
      · cases hf
    · cases hf
  · rename_i x i
    split at hf
    · rename_i l e1
      split at hf
      · rename_i hl
        split at hf
        · rename_i k e2
          split at hf
          · rename_i c e3
            cases hf
            obtain ⟨y, t, rfl, ey⟩ := ra
            rw [chs_flat C.W e1] at ey
            obtain ⟨u, rfl⟩ := rb
            obtain ⟨q1, q2, q3, q4, _, _⟩ := idx_seq e2
            have hy : y.length = l.length := by rw [str_len, ey]
            refine P.getItem_str (c := c) (by rw [decide_eq_false (by omega), decide_eq_false (by omega)]; rfl) ?_ (hq φ _ _ (pre_refl φ) (R.toks _) ⟨_, _, rfl, rfl⟩)
            rw [hy, q1]
            show y.cps[k]? = some c
            rw [← Array.getElem?_toList, ey]; exact e3
          · cases hf
        · cases hf
      · cases hf
    · cases hf
  · cases hf

noncomputable def aPut : MV → MV → MV → Hp → Option Hp := fun a b c σ => match a, b.un with
  | .ref r, .int i => match (hget σ r) with
    | some xs => if xs.length ≤ 1000 ∧ 0 ≤ i ∧ i < xs.length then some (hset σ r (xs.set i.toNat c)) else none
    | none => none
  | _, _ => none

theorem setItem_plain {prog : Program} {w : World} {A : Around} {s : Shared} {E : Value → Shared → Prop} {l : Addr} {items : Array Value} {n : Nat} {k : Int} {t : Tok} {v : Value} {Q : Unit → Shared → Prop} (ho : IsL s.heap l items n)
    (h0 : 0 ≤ k) (hfit : k < 2 ^ 63) (hn : k < items.size)
    (hQ : ∀ h' n', IsL h' l (items.setIfInBounds k.toNat v) n' → Heap.SameBut l s.heap h' → Q () { s with heap := h' }) :
    wpAny (model prog w) A (setItem (.ref l) (.int k t) v) Q E s := by
  have hl : s.heap.IsList l items := ⟨_, ho, rfl, n, rfl⟩
  unfold setItem
  try with_reducible refine wpAny_holding ?_
  first | refine wpAny_bind (wpAny_pure ?_) | skip
  refine wpAny_bind (wpAny_sequenceKey hl.typeIs (by decide) ?_)
  refine wpAny_bind (wpAny_callSpecial?_slot (name := Str.ofString "__setitem__") hl.typeIs slot_list_setitem
    (wpAny_call_entry slot_list_setitem hl.typeIs entry_list_setitem ?_ (args_list_setitem _ _ _)))
  show wpAny _ _ (Builtin.List.listSubscript? (.int k t) >>= _) _ _ s
  refine wpAny_bind (wpAny_listSubscript_int (fitsIndex_of h0 hfit) ?_)
  clear hfit
  obtain ⟨j, rfl⟩ := Int.eq_ofNat_of_zero_le h0
  have hj : j < items.size := by omega
  have hx' : items[j]? = some items[j] := Array.getElem?_eq_getElem hj
  show wpAny _ _ ((seqItemAt l j >>= fun r => pure (r.map (j, ·))) >>= _) _ _ s
  refine wpAny_bind (wpAny_bind (wpAny_seqItemAt ho rfl (wpAny_pure ?_)))
  rw [hx']
  show wpAny _ _ (setSeqItemAt l j v >>= _) _ _ s
  have hfin := IsL.update ho (·.setIfInBounds j v)
  refine wpAny_bind (wpAny_setSeqItemAt ho rfl ?_)
  first
    | exact wpAny_bind (wpAny_pure (wpAny_pure ⟨.none, rfl, wpAny_pure (hQ _ _ hfin (Heap.SameBut.update ..))⟩))
    | exact wpAny_pure ⟨.none, rfl, wpAny_pure (hQ _ _ hfin (Heap.SameBut.update ..))⟩

theorem op_put : Op3U C d (fun o i v => setItem o i v) aPut := by
  intro A φ σ X s a b c x y z σ' Q E hA R ra rb rc hf hq
  unfold aPut at hf
  have rb := rb.un
  generalize b.un = b at *
  split at hf
  · rename_i r i
    split at hf
    · rename_i xs e1
      split at hf
      · rename_i hl
        cases hf
        obtain ⟨l1, vs, p1, ⟨n, p2⟩, p3⟩ := R.getList e1
        obtain ⟨l1', h1, rfl⟩ := ra
        rw [p1] at h1; cases h1
        obtain ⟨t, rfl⟩ := rb
        have g1 := p3.size
        refine setItem_plain p2 hl.2.1 (by omega) (by omega) fun h' n' hp hs => hq _ (R.updList p1 hs.extBut hp ⟨_, _, rfl, ?_⟩)
        rw [Array.toList_setIfInBounds]
        exact p3.set _ rc
      · cases hf
    · cases hf
  · cases hf

noncomputable def aDel : MV → MV → Hp → Option Hp := fun a b σ => match a, b.un with
  | .ref r, .int i => match (hget σ r) with
    | some xs => if xs.length ≤ 1000 then match idx i xs.length with
      | some k => some (hset σ r (xs.eraseIdx k))
      | none => none
      else none
    | none => none
  | _, _ => none
theorem erase_arr (xs : Array Value) (k : Nat) : (xs.eraseIdxIfInBounds k).toList = xs.toList.eraseIdx k := by
  simp

theorem op_del : Op2U C d (fun o i => delItem o i) aDel := by
  intro A φ σ X s a b x y σ' Q E hA R ra rb hf hq
  unfold aDel at hf
  have rb := rb.un
  generalize b.un = b at *
  split at hf
  · rename_i r i
    split at hf
    · rename_i xs e1
      split at hf
      · rename_i hl
        split at hf
        · rename_i k e2
          cases hf
          obtain ⟨l1, vs, p1, p2, p3⟩ := R.getList e1
          obtain ⟨l1', h1, rfl⟩ := ra
          rw [p1] at h1; cases h1
          obtain ⟨t, rfl⟩ := rb
          have g1 := p3.size
          obtain ⟨q1, q2, q3, q4, _, _⟩ := idx_seq e2
          refine wpAny_delItem_plain p2 ?_ (g1 ▸ q1) (fun h' hp hs => ?_) (Nat.le_trans (by omega) sizeLine_ge)
          · unfold Builtin.List.listFitsIndex
            simp only [Bool.and_eq_true, decide_eq_true_eq]
            omega
          · obtain ⟨n, hp⟩ := hp
            refine hq _ (R.updList p1 hs.extBut hp ⟨_, n, rfl, ?_⟩)
            rw [erase_arr]; exact p3.eraseIdx k
        · cases hf
      · cases hf
    · cases hf
  · cases hf

/-! methods -/
noncomputable def mAppend : F1 := fun ms σ => match ms with
  | [.ref r, m] => match (hget σ r) with
    | some xs => if xs.length ≤ 1000 then some (.none, hset σ r (xs ++ [m])) else none
    | none => none
  | _ => none
theorem meth_append : Meth C d "list" "append" "list.append" mAppend where
  pa := F.plainAttrs_list
  slot := F.slot_list_append
  ty := F.type_list_append
  op := by
    intro A φ σ X s ms vs v σ' Q E hA R hr hf hq
    unfold mAppend at hf
    split at hf
    · rename_i r m
      split at hf
      · rename_i xs e1
        split at hf
        · rename_i hl
          cases hf
          obtain ⟨x, y, rfl, ⟨a, ha, rfl⟩, ry⟩ := hr.two
          obtain ⟨a', us, q1, q2, q3⟩ := R.getList e1
          rw [ha] at q1; cases q1
          have hlen := q3.length
          refine wpAny_list_append_plain q2 (fun h' hp hs => ?_) (by
            rw [← Array.length_toList, ← hlen]; exact Nat.le_trans hl sizeLine_ge)
          obtain ⟨n, hp⟩ := hp
          refine hq φ _ _ (pre_refl φ) (R.updList ha hs.extBut hp ⟨_, n, rfl, ?_⟩) rfl
          rw [Array.toList_push]
          exact q3.append ⟨ry, trivial⟩
        · cases hf
      · cases hf
    · cases hf

noncomputable def mPop : F1 := fun ms σ => match ms with
  | [.ref r] => match (hget σ r) with
    | some xs => if xs.length ≤ 1000 then match xs[xs.length - 1]? with
      | some m => some (m, hset σ r (xs.eraseIdx (xs.length - 1)))
      | none => none
      else none
    | none => none
  | _ => none
theorem meth_pop : Meth C d "list" "pop" "list.pop" mPop where
  pa := F.plainAttrs_list
  slot := F.slot_list_pop
  ty := F.type_list_pop
  op := by
    intro A φ σ X s ms vs v σ' Q E hA R hr hf hq
    unfold mPop at hf
    split at hf
    · rename_i r
      split at hf
      · rename_i xs e1
        split at hf
        · rename_i hl
          split at hf
          · rename_i m e2
            cases hf
            obtain ⟨x, rfl, ⟨a, ha, rfl⟩⟩ := hr.one
            obtain ⟨a', us, q1, ⟨n, q2⟩, q3⟩ := R.getList e1
            rw [ha] at q1; cases q1
            have hlen := q3.size
            obtain ⟨y, z1, z2⟩ := q3.get e2
            rw [Array.getElem?_toList, hlen] at z1
            refine call_meets F.slot_list_pop ⟨_, q2, rfl⟩ F.entry_list_pop (F.args_list_pop_1 _) (MeetsSeq.list_pop_last a us n y z1 (Nat.le_trans (by omega) sizeLine_ge)) ⟨q2, ?_⟩
            refine hq φ _ _ (pre_refl φ) (R.updList (s' := { s with heap := s.heap.update a (Obj.mapSeq fun xs => xs.eraseIdxIfInBounds (us.size - 1)) }) ha (Heap.SameBut.update ..).extBut (IsL.update q2 _) ⟨_, _, rfl, ?_⟩) z2
            rw [erase_arr, hlen]; exact q3.eraseIdx _
          · cases hf
        · cases hf
      · cases hf
    · cases hf

noncomputable def mInsert : F1 := fun ms σ => match ms with
  | [.ref r, i, m] => match (hget σ r), i.un with
    | some xs, .int k => if xs.length ≤ 1000 ∧ 0 ≤ k ∧ k ≤ xs.length then some (.none, hset σ r (xs.take k.toNat ++ m :: xs.drop k.toNat)) else none
    | _, _ => none
  | _ => none
theorem meth_insert : Meth C d "list" "insert" "list.insert" mInsert where
  pa := F.plainAttrs_list
  slot := F.slot_list_insert
  ty := F.type_list_insert
  op := by
    intro A φ σ X s ms vs v σ' Q E hA R hr hf hq
    unfold mInsert at hf
    split at hf
    · rename_i r i m
      split at hf
      · rename_i xs k e1 e2
        split at hf
        · rename_i hl
          cases hf
          obtain ⟨x, y, z, rfl, ⟨a, ha, rfl⟩, ry, rz⟩ := hr.three
          obtain ⟨t, rfl⟩ := ry.isInt e2
          obtain ⟨a', us, q1, ⟨n, q2⟩, q3⟩ := R.getList e1
          rw [ha] at q1; cases q1
          have hlen := q3.size
          have hfit : ¬(!Builtin.List.listFitsIndex k) = true := by
            rw [fitsIndex_of hl.2.1 (by omega)]; decide
          refine call_meets F.slot_list_insert ⟨_, q2, rfl⟩ F.entry_list_insert (F.args_list_insert_3 _ _ _) (AutoSeq1.list_insert_list_int_val_1 a us n k t z hfit (Nat.le_trans (by omega) sizeLine_ge)) ⟨q2, ?_⟩
          refine hq φ _ _ (pre_refl φ) (R.updList (s' := { s with heap := s.heap.update a (Obj.mapSeq fun xs => have k := if k < 0 then (k + (xs.size : Int)).toNat else min k.toNat xs.size; (xs.extract 0 k).push z ++ xs.extract k), toks := s.toks }) ha (Heap.SameBut.update ..).extBut (IsL.update q2 _) ⟨_, _, rfl, ?_⟩) rfl
          have hk : (if k < 0 then (k + (us.size : Int)).toNat else min k.toNat us.size) = k.toNat := by
            rw [if_neg (by omega), Nat.min_eq_left (by omega)]
          have : ((us.extract 0 k.toNat).push z ++ us.extract k.toNat).toList = us.toList.take k.toNat ++ z :: us.toList.drop k.toNat := by
            simp
            exact List.take_of_length_le (by simp)
          show All2 _ _ (let k := if k < 0 then (k + (us.size : Int)).toNat else min k.toNat us.size; ((us.extract 0 k).push z ++ us.extract k).toList)
          simp only [hk]
          rw [this]
          exact (q3.take _).append ⟨rz, q3.drop _⟩
        · cases hf
      · cases hf
    · cases hf

noncomputable def cntS (l : List Nat) : List MV → Option Nat
  | [] => some 0
  | .str x :: r => match chs x, cntS l r with
    | some k, some n => some (if k == l then n + 1 else n)
    | _, _ => none
  | _ => none
noncomputable def mCount : F1 := fun ms σ => match ms with
  | [.ref r, .str y] => match (hget σ r), chs y with
    | some xs, some l => match cntS l xs with
      | some n => some (.int n, σ)
      | none => none
    | _, _ => none
  | _ => none
noncomputable def isTxt (l : List Nat) : Value → Bool
  | .str a _ => a.cps.toList == l
  | _ => false
theorem str_beq (a b : Str) : (a == b) = (a.cps.toList == b.cps.toList) := by
  rw [Bool.eq_iff_iff, beq_iff_eq, beq_iff_eq]
  constructor
  · intro h; rw [h]
  · intro h; cases a; cases b; simp at h; rw [h]
theorem cnt_ok {W : Val} {φ : Phi} {l : List Nat} {k : Str} {t : Tok} (hk : k.cps.toList = l) : ∀ {xs : List MV} {vs : List Value} {n : Nat}, All2 (VRel W φ) xs vs → cntS l xs = some n →
    vs.countP (isTxt l) = n ∧ ∀ y ∈ vs, ∀ A s, SeqAt.EqAt A s y (.str k t) (isTxt l y)
  | [], [], n, _, h => by cases h; exact ⟨rfl, fun y hy => by cases hy⟩
  | x :: xs, y :: vs, n, ⟨a, b⟩, h => by
    cases x <;> try (cases h)
    rename_i x
    unfold cntS at h
    split at h
    · rename_i z m e1 e2
      cases h
      obtain ⟨y', u, rfl, ey⟩ := a
      rw [chs_flat W e1] at ey
      obtain ⟨g1, g2⟩ := cnt_ok hk b e2
      refine ⟨?_, fun y hy A s => ?_⟩
      · rw [List.countP_cons, g1]
        show m + (if (y'.cps.toList == l) = true then 1 else 0) = _
        rw [ey]
        split <;> rfl
      · rcases List.mem_cons.mp hy with rfl | hy
        · have := (eqGives_str y' k u t).at A s
          rw [str_beq, hk] at this
          exact this
        · exact g2 y hy A s
    · cases h
  | [], _ :: _, _, x, _ => x.elim
  | _ :: _, [], _, x, _ => x.elim
theorem meth_count : Meth C d "list" "count" "list.count" mCount where
  pa := F.plainAttrs_list
  slot := F.slot_list_count
  ty := F.type_list_count
  op := by
    intro A φ σ X s ms vs v σ' Q E hA R hr hf hq
    unfold mCount at hf
    split at hf
    · rename_i r y
      split at hf
      · rename_i xs l e1 e2
        split at hf
        · rename_i n e3
          cases hf
          obtain ⟨x, y', rfl, ⟨a, ha, rfl⟩, ⟨k, t, rfl, ek⟩⟩ := hr.two
          rw [chs_flat C.W e2] at ek
          obtain ⟨a', us, q1, ⟨m, q2⟩, q3⟩ := R.getList e1
          rw [ha] at q1; cases q1
          obtain ⟨g1, g2⟩ := cnt_ok (t := t) ek q3 e3
          refine call_meets F.slot_list_count ⟨_, q2, rfl⟩ F.entry_list_count (F.args_list_count_2 _ _) (SeqAt.list_countAt a us m none #[] (.str k t) (isTxt l)) ⟨q2, fun y hy => g2 y (by simpa using hy) _ _, ?_⟩
          rw [g1]
          exact hq φ _ _ (pre_refl φ) (R.toks _) ⟨_, rfl⟩
        · cases hf
      · cases hf
    · cases hf

noncomputable def catS : List MV → Option (List At)
  | [] => some []
  | .str x :: r => if x.length ≤ 10 then match catS r with
    | some y => some (x ++ y)
    | none => none
    else none
  | _ => none
noncomputable def mJoin : F1 := fun ms σ => match ms with
  | [.str [], .ref r] => match (hget σ r) with
    | some xs => if xs.length ≤ 100 then match catS xs with
      | some y => some (.str y, σ)
      | none => none
      else none
    | none => none
  | _ => none
theorem cat_ok {W : Val} {φ : Phi} (hdt : ∀ k, (W.dt k).length ≤ 10) : ∀ {xs : List MV} {vs : List Value} {y : List At}, All2 (VRel W φ) xs vs → catS xs = some y →
    ∃ ys : List Str, StrsAre vs ys ∧ (ys.map fun s => s.cps.toList).flatten = flat W y ∧ (ys.map (·.length)).sum ≤ 100 * xs.length
  | [], [], n, _, h => by cases h; exact ⟨[], .nil, rfl, Nat.le_refl _⟩
  | x :: xs, y :: vs, n, ⟨a, b⟩, h => by
    cases x <;> try (cases h)
    rename_i x
    unfold catS at h
    split at h
    · rename_i hl
      split at h
      · rename_i m e1
        cases h
        obtain ⟨y', u, rfl, ey⟩ := a
        obtain ⟨ys, g1, g2, g3⟩ := cat_ok hdt b e1
        refine ⟨y' :: ys, .cons y' u g1, ?_, ?_⟩
        · rw [List.map_cons, List.flatten_cons, g2, flat_append, ey]
        · have := flat_len hdt x
          rw [List.map_cons, List.sum_cons, List.length_cons, str_len, ey]
          omega
      · cases h
    · cases h
  | [], _ :: _, _, x, _ => x.elim
  | _ :: _, [], _, x, _ => x.elim
theorem join_flat {sep : Str} (h : sep.cps.toList = []) : ∀ ys : List Str, (Str.join sep ys).cps.toList = (ys.map fun s => s.cps.toList).flatten
  | [] => rfl
  | [x] => by show x.cps.toList = _; simp
  | x :: y :: r => by
    show (x ++ sep ++ Str.join sep (y :: r)).cps.toList = _
    rw [cps_append, cps_append, h, join_flat h (y :: r)]
    simp
theorem meth_join (hdt : DtOk C) : Meth C d "str" "join" "str.join" mJoin where
  pa := F.plainAttrs_str
  slot := F.slot_str_join
  ty := F.type_str_join
  op := by
    intro A φ σ X s ms vs v σ' Q E hA R hr hf hq
    unfold mJoin at hf
    split at hf
    · rename_i r
      split at hf
      · rename_i xs e1
        split at hf
        · rename_i hl
          split at hf
          · rename_i y e3
            cases hf
            obtain ⟨x, y', rfl, ⟨k, t, rfl, ek⟩, ⟨a, ha, rfl⟩⟩ := hr.two
            have ek : k.cps.toList = [] := ek
            obtain ⟨a', us, q1, q2, q3⟩ := R.getList e1
            rw [ha] at q1; cases q1
            obtain ⟨ys, g1, g2, g3⟩ := cat_ok hdt q3 e3
            have hk : k.length = 0 := by rw [str_len, ek]; rfl
            refine wpAny_with_toks (Nat.le_refl _) (join_list (ys := ys) q2.isList g1 ?_ fun t' tk ht => hq φ _ _ (pre_refl φ) (R.toks tk ht) ⟨_, _, rfl, ?_⟩)
            · rw [hk]; omega
            · show (Builtin.Str.glued k ys).cps.toList = _
              rw [StrLaws.glued_eq_join, join_flat ek, g2]
          · cases hf
        · cases hf
      · cases hf
    · cases hf

/-! functions -/
noncomputable def bLen : F1 := fun ms σ => match ms with
  | [.ref r] => match (hget σ r) with
    | some xs => if xs.length ≤ 1000 then some (.int xs.length, σ) else none
    | none => none
  | _ => none
theorem bui_len : Bui C d "len" bLen := by
  intro A φ σ X s ms vs v σ' Q E hA R hr hf hq
  unfold bLen at hf
  split at hf
  · rename_i r
    split at hf
    · rename_i xs e1
      split at hf
      · rename_i hl
        cases hf
        obtain ⟨x, rfl, ⟨a, ha, rfl⟩⟩ := hr.one
        obtain ⟨a', us, q1, q2, q3⟩ := R.getList e1
        rw [ha] at q1; cases q1
        have hlen := q3.size
        exact Calls.call_len_list q2.isList (by omega) (hq φ _ _ (pre_refl φ) (R.toks _ (Nat.le_add_right _ 2)) ⟨_, by rw [hlen]⟩)
      · cases hf
    · cases hf
  · cases hf
noncomputable def bMax : F1 := fun ms σ => match ms with
  | [a, b] => match a.un, b.un with
    | .int i, .int j => some (.int (if j > i then j else i), σ)
    | _, _ => none
  | _ => none
theorem bui_max : Bui C d "max" bMax := by
  intro A φ σ X s ms vs v σ' Q E hA R hr hf hq
  unfold bMax at hf
  split at hf
  · split at hf
    · rename_i i j e1 e2
      cases hf
      obtain ⟨x, y, rfl, ra, rb⟩ := hr.two
      obtain ⟨t, rfl⟩ := ra.isInt e1
      obtain ⟨u, rfl⟩ := rb.isInt e2
      refine wpAny_with_toks (Nat.le_refl _) (max_two_ints hA.hd fun h' tk hk ht => hq φ _ _ (pre_refl φ) (R.ext (s' := { s with heap := h', toks := tk }) hk rfl rfl ht) ?_)
      split <;> exact ⟨_, rfl⟩
    · cases hf
  · cases hf
noncomputable def bMin : F1 := fun ms σ => match ms with
  | [a, b] => match a.un, b.un with
    | .int i, .int j => some (.int (if j < i then j else i), σ)
    | _, _ => none
  | _ => none
theorem bui_min : Bui C d "min" bMin := by
  intro A φ σ X s ms vs v σ' Q E hA R hr hf hq
  unfold bMin at hf
  split at hf
  · split at hf
    · rename_i i j e1 e2
      cases hf
      obtain ⟨x, y, rfl, ra, rb⟩ := hr.two
      obtain ⟨t, rfl⟩ := ra.isInt e1
      obtain ⟨u, rfl⟩ := rb.isInt e2
      refine wpAny_with_toks (Nat.le_refl _) (min_two_ints hA.hd fun h' tk hk ht => hq φ _ _ (pre_refl φ) (R.ext (s' := { s with heap := h', toks := tk }) hk rfl rfl ht) ?_)
      split <;> exact ⟨_, rfl⟩
    · cases hf
  · cases hf
end
end Mine
end

section
set_option maxHeartbeats 1000000
namespace Mine

/-! tests -/
theorem ST_plain {C : Cx} {d : Nat} {nm : Nm} {e : Expr} {f : EF} (h₁ : SE C d nm e f) (hw : ∀ (env : Env) (whole : Sem Value), isTrue e env whole = (do let v ← whole; standAt e.pos; holding [v] (truthy v)) := by intros; rfl) : ST C d nm e (tOf f) := by
  intro A env ci X lv φ σ s v σ' Q E hA G hf h
  refine wpAny_isTrue_value (h₁ A env ci X lv φ σ s _ σ' _ E hA G (tOf_some hf) fun φ₁ s₁ x p1 G1 r1 => ?_) (hw _ _)
  obtain rfl : x = .bool v := r1
  exact wpAny_truthy_bool (h φ₁ s₁ p1 G1)
noncomputable def tNot (t : TF) : TF := fun lv σ => match t lv σ with
  | some (b, σ') => some (!b, σ')
  | none => none
theorem ST_not {C : Cx} {d : Nat} {nm : Nm} {e : Expr} {pos : Pos} {f : TF} (h₁ : ST C d nm e f) : ST C d nm (.UnaryOp .Not e pos) (tNot f) := by
  intro A env ci X lv φ σ s v σ' Q E hA G hf h
  unfold tNot at hf
  split at hf
  · rename_i b σ₁ e1
    cases hf
    exact wpAny_isTrue_Not (h₁ A env ci X lv φ σ s b _ _ E hA G e1 fun φ₁ s₁ p1 G1 => h φ₁ s₁ p1 G1)
  · cases hf
theorem SB_never {C : Cx} {d : Nat} {nm : Nm} {b : List Stmt} : SB C d nm b (fun _ _ => none) := by
  intro A env ci X lv φ σ s fl lv' σ' Q E _ _ G hf h
  cases hf
theorem OpN.up {C : Cx} {d d' : Nat} {t : List Value → Sem Value} {F : F1} (h : OpN C d t F) (hd : d ≤ d' := by decide) : OpN C d' t F :=
  fun A φ σ X s ms vs v σ' Q E hA => h A φ σ X s ms vs v σ' Q E (hA.mono hd)

/-! hasattr -/
theorem ha_ty : typeOf (.builtin "str.__getitem__") = pure (.type "wrapper_descriptor") := by show builtinType _ = _; rw [builtinType_eq_fast]; kernel_rfl
theorem ha_get : Slot "wrapper_descriptor" "__get__" "wrapper_descriptor.__get__" :=
  .of (owner := "wrapper_descriptor") (n := "__get__") (by rw [typeLookup_type, builtinLookup_eq_fast]; kernel_rfl) (by decide +kernel) (by decide +kernel) (by decide +kernel)
    (by first | exact .inl (by decide +kernel) | exact .inr (by decide +kernel)) (by rw [isSubtype_type]; kernel_rfl)
theorem ha_noset : typeLookup (.type "wrapper_descriptor") "__set__" = pure none := by rw [typeLookup_type, builtinLookup_eq_fast]; kernel_rfl
theorem ha_nodel : typeLookup (.type "wrapper_descriptor") "__delete__" = pure none := by rw [typeLookup_type, builtinLookup_eq_fast]; kernel_rfl
theorem ha_entry : entryFor table "wrapper_descriptor.__get__" = some Builtin.«wrapper_descriptor.__get__» := entryFor_of_tree (by kernel_rfl)
theorem ha_args (a b c : Value) : argsOk "wrapper_descriptor.__get__" ⟨[a, b, c], []⟩ := by unfold argsOk; kernel_rfl
theorem ha_own : (".".intercalate ("str.__getitem__".cutAt '.').dropLast) = "str" := by
  have e0 : "str.__getitem__".cutAt '.' = ["str", "__getitem__"] := by first | rfl | decide +kernel
  rw [e0]; decide +kernel
theorem ha_sub : isSubtype (.type "str") (.type (".".intercalate ("str.__getitem__".cutAt '.').dropLast)) = pure true := by
  rw [ha_own, isSubtype_type]; kernel_rfl

section
variable {prog : Program} {w : World} {A : Around} {E : Value → Shared → Prop} {h : Heap} {g : Array GenState} {d : Drawn} {t : Nat} {os : OsState} {x : Str} {u : Tok}
theorem ha_call {R : Result → Shared → Prop} (hq : ∀ (v : Addr) h' tk, (∀ c o, h.get? c = some o → h'.get? c = some o) → t ≤ tk → R (.ok (.ret (.ref v))) ⟨h', g, d, tk, os⟩) :
    codeAny (model prog w) A (.call (.builtin "wrapper_descriptor.__get__") ⟨[.builtin "str.__getitem__", .str x u, .type "str"], []⟩) R ⟨h, g, d, t, os⟩ := by
  have hT : (⟨h, g, d, t, os⟩ : Shared).TypeIs (.str x u) "str" := rfl
  have hT5 : (⟨h, g, d, t, os⟩ : Shared).TypeIs (.builtin "str.__getitem__") "wrapper_descriptor" := ha_ty
  have f8 := ha_sub
  have f9 := ha_ty
  refine codeAny_call_builtin ha_get.plain ha_entry (ha_get.check _ _ _ _ _ _ _ _ hT5 (ha_args _ _ _) ?_)
  wp_delta
  with_reducible refine wpAny_bind ?_
  wp_delta
  ((with_reducible apply wpAny_ite_false); focus (rfl; done))
  with_reducible refine wpAny_bind ?_
  with_reducible refine wpAny_pure ?_
  ((with_reducible apply wpAny_ite_false); focus (rfl; done))
  with_reducible refine wpAny_pure ?_
  wp_delta
  wp_delta
  with_reducible refine wpAny_bind ?_
  wp_delta
  with_reducible refine wpAny_bind ?_
  wp_delta
  with_reducible refine wpAny_pure ?_
  with_reducible refine wpAny_bind ?_
  with_reducible refine wpAny_isInstance (by assumption) (by assumption) ?_
  ((with_reducible apply wpAny_ite_false); focus (rfl; done))
  with_reducible refine wpAny_pure ?_
  with_reducible refine wpAny_bind ?_
  wp_delta
  wp_delta
  ((with_reducible apply wpAny_ite_false); focus (rfl; done))
  wp_delta
  wp_delta
  with_reducible refine wpAny_bind ?_
  with_reducible refine wpAny_alloc' ?_
  with_reducible refine wpAny_pure ?_
  wp_delta
  with_reducible refine wpAny_pure ?_
  exact hq _ _ _ (fun c o e => Heap.get?_push_of_some _ e) (Nat.le_refl _)
theorem ha_entry2 {tk : Tok} {Q : Fin → Shared → Prop} (hq : ∀ (v : Addr) h' tk, (∀ c o, h.get? c = some o → h'.get? c = some o) → t ≤ tk → Q (.done (.ret (.ref v))) ⟨h', g, d, tk, os⟩) :
    wpAny (model prog w) A (Builtin.«object.__getattribute__» ⟨[.str x u, .str "__getitem__" tk], []⟩) Q E ⟨h, g, d, t, os⟩ := by
  have hT : (⟨h, g, d, t, os⟩ : Shared).TypeIs (.str x u) "str" := rfl
  have hT5 : (⟨h, g, d, t, os⟩ : Shared).TypeIs (.builtin "str.__getitem__") "wrapper_descriptor" := ha_ty
  have f4 := F.slot_str_getitem.lookup
  have f5 := ha_ty
  have f6 := ha_get.lookup
  have f7 := ha_noset
  have f8 := ha_nodel
  wp_delta
  with_reducible refine wpAny_bind ?_
  wp_delta
  ((with_reducible apply wpAny_ite_false); focus (rfl; done))
  ((with_reducible apply wpAny_ite_false); focus (rfl; done))
  with_reducible refine wpAny_pure ?_
  with_reducible refine wpAny_bind ?_
  wp_delta
  with_reducible refine wpAny_pure ?_
  with_reducible refine wpAny_bind ?_
  with_reducible refine wpAny_typeOf (by assumption) ?_
  with_reducible refine wpAny_bind ?_
  wp_delta
  with_reducible refine wpAny_bind ?_
  with_reducible refine wpAny_of_eq (by assumption) ?_
  with_reducible refine wpAny_bind ?_
  wp_delta
  with_reducible refine wpAny_specialOf_val (by assumption) (by assumption) ?_
  with_reducible refine wpAny_bind ?_
  wp_delta
  with_reducible refine wpAny_bind ?_
  wp_delta
  with_reducible refine wpAny_bind ?_
  with_reducible refine wpAny_specialOf_val (by assumption) (by assumption) ?_
  ((with_reducible apply wpAny_ite_false); focus (rfl; done))
  with_reducible refine wpAny_bind ?_
  with_reducible refine wpAny_specialOf_val (by assumption) (by assumption) ?_
  with_reducible refine wpAny_pure ?_
  ((with_reducible apply wpAny_ite_false); focus (rfl; done))
  with_reducible refine wpAny_pure ?_
  wp_delta
  wp_delta
  with_reducible refine wpAny_bind ?_
  wp_delta
  with_reducible refine wpAny_pure ?_
  with_reducible refine wpAny_bind ?_
  wp_delta
  with_reducible refine wpAny_pure ?_
  wp_delta
  with_reducible refine wpAny_bind ?_
  with_reducible refine wpAny_rule ?_
  with_reducible refine wpAny_pure ?_
  wp_delta
  wp_delta
  with_reducible refine wpAny_bind ?_
  with_reducible refine wpAny_holding ?_
  with_reducible refine wpAny_call ?_
  exact ha_call fun v h' tk hk ht => wpAny_pure (hq v h' tk hk ht)

theorem ha_call2 {tk : Tok} {R : Result → Shared → Prop} (hq : ∀ (v : Addr) h' tk, (∀ c o, h.get? c = some o → h'.get? c = some o) → t ≤ tk → R (.ok (.ret (.ref v))) ⟨h', g, d, tk, os⟩) :
    codeAny (model prog w) A (.call (.builtin "object.__getattribute__") ⟨[.str x u, .str "__getitem__" tk], []⟩) R ⟨h, g, d, t, os⟩ :=
  codeAny_call_builtin F.slot_str_getattribute.plain F.entry_object_getattribute (F.slot_str_getattribute.check _ _ _ _ _ _ _ _ (show (⟨h, g, d, t, os⟩ : Shared).TypeIs (.str x u) "str" from rfl) (F.args_object_getattribute_2 _ _) (ha_entry2 hq))

theorem ha_by {tk : Tok} {Q : Value → Shared → Prop} (hq : ∀ (v : Addr) h' tk, (∀ c o, h.get? c = some o → h'.get? c = some o) → t ≤ tk → Q (.ref v) ⟨h', g, d, tk, os⟩) : wpAny (model prog w) A (getAttrBy (.str x u) (.str "__getitem__" tk) false) Q E ⟨h, g, d, t, os⟩ := by
  have hT : (⟨h, g, d, t, os⟩ : Shared).TypeIs (.str x u) "str" := rfl
  have f2 := F.slot_str_getattribute.lookup
  have f3 := F.slot_str_getattribute.bind (.str x u)
  wp_delta
  with_reducible refine wpAny_holding ?_
  with_reducible refine wpAny_bind ?_
  with_reducible refine wpAny_typeOf (by assumption) ?_
  with_reducible refine wpAny_bind ?_
  with_reducible refine wpAny_of_eq (by assumption) ?_
  ((with_reducible apply wpAny_ite_false); focus (rfl; done))
  wp_delta
  with_reducible refine wpAny_bind ?_
  wp_delta
  ((with_reducible apply wpAny_ite_false); focus (rfl; done))
  with_reducible refine wpAny_pure ?_
  with_reducible refine wpAny_bind ?_
  with_reducible refine wpAny_attempt ?_
  with_reducible refine wpAny_holding ?_
  wp_delta
  ((with_reducible apply wpAny_ite_false); focus (rfl; done))
  wp_delta
  with_reducible refine wpAny_bind ?_
  with_reducible refine wpAny_of_eq (by assumption) ?_
  with_reducible refine wpAny_call ?_
  refine ha_call2 fun v h' tk hk ht => ?_
  exact wpAny_pure (hq v h' tk hk ht)

theorem ha_has {tk : Tok} {Q : Fin → Shared → Prop} (hq : ∀ h' tk, (∀ c o, h.get? c = some o → h'.get? c = some o) → t ≤ tk → Q (.done (.ret (.bool true))) ⟨h', g, d, tk, os⟩) :
    wpAny (model prog w) A (Builtin.«hasattr» ⟨[.str x u, .str "__getitem__" tk], []⟩) Q E ⟨h, g, d, t, os⟩ := by
  have hT : (⟨h, g, d, t, os⟩ : Shared).TypeIs (.str x u) "str" := rfl
  have f4 := F.slot_str_getitem.lookup
  have f2 := F.slot_str_getattribute.lookup
  wp_delta
  with_reducible refine wpAny_bind ?_
  wp_delta
  with_reducible refine wpAny_bind ?_
  wp_delta
  ((with_reducible apply wpAny_ite_true); focus (rfl; done))
  with_reducible refine wpAny_pure ?_
  with_reducible refine wpAny_bind ?_
  wp_delta
  ((with_reducible apply wpAny_ite_false); focus (rfl; done))
  ((with_reducible apply wpAny_ite_false); focus (rfl; done))
  ((with_reducible apply wpAny_ite_false); focus (rfl; done))
  with_reducible refine wpAny_pure ?_
  with_reducible refine wpAny_pure ?_
  with_reducible refine wpAny_bind ?_
  wp_delta
  with_reducible refine wpAny_bind ?_
  wp_delta
  with_reducible refine wpAny_pure ?_
  ((with_reducible apply wpAny_ite_false); focus (rfl; done))
  with_reducible refine wpAny_pure ?_
  ((with_reducible apply wpAny_ite_false); focus (rfl; done))
  with_reducible refine wpAny_bind ?_
  with_reducible refine wpAny_typeOf (by assumption) ?_
  with_reducible refine wpAny_bind ?_
  wp_delta
  with_reducible refine wpAny_pure ?_
  with_reducible refine wpAny_bind ?_
  with_reducible refine wpAny_of_eq (by assumption) ?_
  with_reducible refine wpAny_bind ?_
  with_reducible refine wpAny_of_eq (by assumption) ?_
  ((with_reducible apply wpAny_ite_false); focus (rfl; done))
  with_reducible refine wpAny_bind ?_
  wp_delta
  with_reducible refine wpAny_pure ?_
  ((with_reducible apply wpAny_ite_false); focus (rfl; done))
  with_reducible refine wpAny_bind ?_
  wp_delta
  with_reducible refine wpAny_bind ?_
  with_reducible refine wpAny_attempt ?_
  with_reducible apply ha_by
  exact fun v h' tk hk ht => wpAny_pure (wpAny_pure (hq h' tk hk ht))
end
theorem kind_hasattr : builtinKind "hasattr" = none := by decide +kernel
theorem plain_hasattr : plainId "hasattr" = true := by decide +kernel
theorem entry_hasattr : entryFor table "hasattr" = some Builtin.«hasattr» := entryFor_of_fast (by kernel_rfl)
theorem args_hasattr (a b : Value) : argsOk "hasattr" ⟨[a, b], []⟩ := by unfold argsOk; kernel_rfl
noncomputable def itemName : List Nat := [95, 95, 103, 101, 116, 105, 116, 101, 109, 95, 95]
noncomputable def bHas : F1 := fun ms σ => match ms with
  | [.str _, .str y] => match chs y with
    | some l => if l = itemName then some (.bool true, σ) else none
    | none => none
  | _ => none
theorem bui_has {C : Cx} {d : Nat} : Bui C d "hasattr" bHas := by
  intro A φ σ X s ms vs v σ' Q E hA R hr hf hq
  unfold bHas at hf
  split at hf
  · rename_i x y
    split at hf
    · rename_i l e1
      split at hf
      · rename_i hl
        cases hf
        subst hl
        obtain ⟨a, b, rfl, ⟨x', t, rfl, _⟩, ⟨y', u, rfl, ey⟩⟩ := hr.two
        rw [chs_flat C.W e1] at ey
        have : y' = ("__getitem__" : Str) := by
          have h2 : ("__getitem__" : Str).cps.toList = itemName := by decide
          cases y' with | mk c => 
          have : c = ("__getitem__" : Str).cps := by rw [← Array.toList_inj, h2]; exact ey
          rw [this]
        subst this
        obtain ⟨h, g, dr, tk, os⟩ := s
        refine Calls.call_function_entry kind_hasattr plain_hasattr entry_hasattr (args_hasattr _ _) (ha_has fun h' tk' hk ht => ⟨_, rfl, ?_⟩)
        exact hq φ _ _ (pre_refl φ) (R.ext (s' := ⟨h', g, dr, tk', os⟩) hk rfl rfl ht) rfl
      · cases hf
    · cases hf
  · cases hf
end Mine
end

section
set_option maxHeartbeats 1000000
namespace Mine

noncomputable def bodyAt (i : Nat) : List Stmt := match PySem.Challenge.pw_ux0021_01.main.body[i]? with
  | some (.FunctionDef _ _ b _ _ _ _ _ _ _) => b
  | _ => []

/-- a def without defaults -/
structure Fn (C : Cx) (a : Addr) (body : List Stmt) (nm : Nm) (k : Nat) : Prop where
  ex : ∃ fd, DefOk C a fd body nm k ∧ fd.closure = [] ∧ ∀ vs, vs.length = k → bindArgs fd ⟨vs, []⟩ = pure ((nm.map (·.1)).zip vs)

theorem Fn.run {C : Cx} {d : Nat} {a : Addr} {body : List Stmt} {nm : Nm} {k : Nat} {f : XF} (D : Fn C a body nm k) (hb : SB C d nm body f)
    (hl : nm.all (fun x => x.2 != .cell && x.2 != .free) = true := by decide) (hpar : (nm.take k).all (fun x => x.2 == .local) = true := by decide) : Fun C (d + 1) a (mkF nm.length k f) := by
  intro A φ σ X s ms vs v σ' Q E hA R hr hf h
  obtain ⟨fd, D1, _, hb2⟩ := D.ex
  have hk : vs.length = k := by
    rw [← hr.length]
    unfold mkF at hf
    split at hf
    · assumption
    · cases hf
  exact call_def (args := ⟨vs, []⟩) D1 hl hpar hb hA R (BindsTo.of_eq (hb2 vs hk)) hr hf h
theorem Fn.runC {C : Cx} {d : Nat} {a : Addr} {body : List Stmt} {nm : Nm} {k : Nat} {f : XF} (D : Fn C a body nm k) (hb : SB C d nm body f)
    (hl : nm.all (fun x => x.2 != .free) = true := by decide) (hpar : (nm.take k).all (fun x => x.2 == .local || x.2 == .cell) = true := by decide) : Fun C (d + 1) a (mkF nm.length k f) := by
  intro A φ σ X s ms vs v σ' Q E hA R hr hf h
  obtain ⟨fd, D1, hc, hb2⟩ := D.ex
  have hk : vs.length = k := by
    rw [← hr.length]
    unfold mkF at hf
    split at hf
    · assumption
    · cases hf
  exact call_cells D1 hc hl hpar hb hA R (hb2 vs hk) hr hf h

/-- a def with two defaults and a key -/
structure FnB (C : Cx) (a : Addr) (body : List Stmt) (nm : Nm) : Prop where
  ex : ∃ fd t0, DefOk C a fd body nm 5 ∧
    (∀ s, (∀ b o, C.g.get? b = some o → s.heap.get? b = some o) → ∀ x y,
      BindsTo s fd ⟨[x, y], []⟩ ((nm.map (·.1)).zip [x, y, .int 0 t0, .none, .none]) ∧
      (∀ kv, BindsTo s fd ⟨[x, y], [("key", kv)]⟩ ((nm.map (·.1)).zip [x, y, .int 0 t0, .none, kv])) ∧
      (∀ lo hi, BindsTo s fd ⟨[x, y, lo, hi], []⟩ ((nm.map (·.1)).zip [x, y, lo, hi, .none])) ∧
      (∀ lo hi kv, BindsTo s fd ⟨[x, y, lo, hi], [("key", kv)]⟩ ((nm.map (·.1)).zip [x, y, lo, hi, kv])))
noncomputable def bF (G : F1) : F1 := fun ms σ => match ms with
  | [a, x] => G [a, x, .int 0, .none, .none] σ
  | [a, x, lo, hi] => G [a, x, lo, hi, .none] σ
  | _ => none
noncomputable def bFK (G : F1) : FK := fun ms key σ => match ms with
  | [a, x] => G [a, x, .int 0, .none, key] σ
  | [a, x, lo, hi] => G [a, x, lo, hi, key] σ
  | _ => none
theorem All2.four {R : MV → Value → Prop} {a b c d : MV} : ∀ {vs : List Value}, All2 R [a, b, c, d] vs → ∃ x y z w, vs = [x, y, z, w] ∧ R a x ∧ R b y ∧ R c z ∧ R d w
  | _ :: _, ⟨h, h'⟩ => let ⟨y, z, w, e, k⟩ := h'.three; ⟨_, y, z, w, by rw [e], h, k⟩
  | [], h => h.elim
theorem FnB.run {C : Cx} {d : Nat} {a : Addr} {body : List Stmt} {nm : Nm} {f : XF} (D : FnB C a body nm) (hb : SB C d nm body f)
    (hl : nm.all (fun x => x.2 != .cell && x.2 != .free) = true := by decide) (hpar : (nm.take 5).all (fun x => x.2 == .local) = true := by decide) : Fun C (d + 1) a (bF (mkF nm.length 5 f)) := by
  intro A φ σ X s ms vs v σ' Q E hA R hr hf h
  obtain ⟨fd, t0, D1, hb2⟩ := D.ex
  unfold bF at hf
  split at hf
  · obtain ⟨x, y, rfl, r1, r2⟩ := hr.two
    exact call_def (args := ⟨[x, y], []⟩) D1 hl hpar hb hA R (hb2 s R.keep x y).1 (ms := [_, _, .int 0, .none, .none]) ⟨r1, r2, ⟨t0, rfl⟩, rfl, rfl, trivial⟩ hf h
  · obtain ⟨x, y, z, w, rfl, r1, r2, r3, r4⟩ := hr.four
    exact call_def (args := ⟨[x, y, z, w], []⟩) D1 hl hpar hb hA R ((hb2 s R.keep x y).2.2.1 z w) (ms := [_, _, _, _, .none]) ⟨r1, r2, r3, r4, rfl, trivial⟩ hf h
  · cases hf
theorem FnB.runK {C : Cx} {d : Nat} {a : Addr} {body : List Stmt} {nm : Nm} {f : XF} (D : FnB C a body nm) (hb : SB C d nm body f)
    (hl : nm.all (fun x => x.2 != .cell && x.2 != .free) = true := by decide) (hpar : (nm.take 5).all (fun x => x.2 == .local) = true := by decide) :
    OpK C (d + 1) (fun vs kv => call (.ref a) vs [("key", kv)]) (bFK (mkF nm.length 5 f)) := by
  intro A φ σ X s ms m vs kv v σ' Q E hA R hr hm hf h
  obtain ⟨fd, t0, D1, hb2⟩ := D.ex
  unfold bFK at hf
  split at hf
  · obtain ⟨x, y, rfl, r1, r2⟩ := hr.two
    exact call_def (args := ⟨[x, y], [("key", kv)]⟩) D1 hl hpar hb hA R ((hb2 s R.keep x y).2.1 kv) (ms := [_, _, .int 0, .none, m]) ⟨r1, r2, ⟨t0, rfl⟩, rfl, hm, trivial⟩ hf h
  · obtain ⟨x, y, z, w, rfl, r1, r2, r3, r4⟩ := hr.four
    exact call_def (args := ⟨[x, y, z, w], [("key", kv)]⟩) D1 hl hpar hb hA R ((hb2 s R.keep x y).2.2.2 z w kv) (ms := [_, _, _, _, m]) ⟨r1, r2, r3, r4, hm, trivial⟩ hf h
  · cases hf
theorem FnB.isFn {C : Cx} {a : Addr} {body : List Stmt} {nm : Nm} (D : FnB C a body nm) : ∃ o fd, C.g.get? a = some o ∧ o.data = .func fd := by
  obtain ⟨fd, _, D1, _⟩ := D.ex
  obtain ⟨o, h1, h2⟩ := D1.obj
  exact ⟨o, fd, h1, h2⟩
theorem Fn.isFn {C : Cx} {a : Addr} {body : List Stmt} {nm : Nm} {k : Nat} (D : Fn C a body nm k) : ∃ o fd, C.g.get? a = some o ∧ o.data = .func fd := by
  obtain ⟨fd, D1, _⟩ := D.ex
  obtain ⟨o, h1, h2⟩ := D1.obj
  exact ⟨o, fd, h1, h2⟩
theorem OpK.up {C : Cx} {d d' : Nat} {t : List Value → Value → Sem Value} {F : FK} (h : OpK C d t F) (hd : d ≤ d' := by decide) : OpK C d' t F :=
  fun A φ σ X s ms m vs kv v σ' Q E hA => h A φ σ X s ms m vs kv v σ' Q E (hA.mono hd)
/-! what the compiler's swaps look at -/
theorem swap_loc {elt : Expr} {gens : List Comprehension} {scope : Scope} {p p' : Pos} {x : Str} {l : Nat} {env : Env} (h1 : env.scope.kind = .function) (h2 : env.kindOf x = some .local) (h3 : (p'.line == p.line) = true)
    (h4 : (scope.names.any fun y => y.1 == x && (y.2 == .local || y.2 == .cell)) = false) : swapsWith (.ListComp elt gens scope p) (some (.Name x p')) l env = pure true := by
  have h5 : env.blockKind = .function := by unfold Env.blockKind; rw [h1]; rfl
  unfold swapsWith
  show (pure (env.blockKind == .function && env.kindOf x == some .local && p'.line == p.line && !(scope.names.any fun y => y.1 == x && (y.2 == .local || y.2 == .cell))) : Sem Bool) = _
  rw [h5, h2, h3, h4]; rfl
theorem swap_cell {elt : Expr} {gens : List Comprehension} {scope : Scope} {p p' : Pos} {x : Str} {l : Nat} {env : Env} (h2 : env.kindOf x = some .cell) : swapsWith (.ListComp elt gens scope p) (some (.Name x p')) l env = pure false := by
  unfold swapsWith
  show (pure (env.blockKind == .function && env.kindOf x == some .local && p'.line == p.line && !(scope.names.any fun y => y.1 == x && (y.2 == .local || y.2 == .cell))) : Sem Bool) = _
  rw [h2]
  have : (some NameKind.cell == some NameKind.local) = false := by decide
  rw [this]
  simp
noncomputable def envC (nm : Nm) : Env := { scope := { kind := .function, names := nm, isGenerator := false, isCoroutine := false }, locals := 0, globals := 0, cells := [] }
theorem stores_env {ts : List Expr} {v : Expr} {env : Env} {nm : Nm} (h1 : env.scope.kind = .function) (h2 : env.scope.names = nm) : swappedStores ts v env = swappedStores ts v (envC nm) := by
  have h3 : env.blockKind = (envC nm).blockKind := by unfold Env.blockKind; rw [h1]; rfl
  have h4 : ∀ x, env.kindOf x = (envC nm).kindOf x := fun x => by unfold Env.kindOf; rw [h2]; rfl
  unfold swappedStores
  simp only [h3, h4]
theorem tup_names {nm : Nm} {ps : List (Nat × Str)} (h : (ps.all fun p => decide (nm[p.1]? = some (p.2, .local)) || decide (nm[p.1]? = some (p.2, .cell))) = true) : ∀ p ∈ ps, nm[p.1]? = some (p.2, .local) ∨ nm[p.1]? = some (p.2, .cell) := fun p hp => by
  have := List.all_eq_true.mp h p hp
  simpa using this

end Mine
end

section
set_option maxHeartbeats 4000000
namespace Mine
noncomputable def eSumK (k sc : Nat) : EF := fun lv σ => match lv[k]?, lv[sc]? with
  | some (some m), some (some .scr) => match m.un with
    | .int i => if 0 ≤ i ∧ i < 10 then some (.sm i.toNat, σ) else none
    | _ => none
  | _, _ => none
noncomputable def chkA : Int → List At → Bool
  | o, [] => o == 0
  | o, .dr _ :: r => chkA o r
  | o, .ch c :: r => if c = 40 then chkA (o + 1) r else if c = 41 then (if o - 1 < 0 then false else chkA (o - 1) r) else chkA o r
noncomputable def okTail : List At → Bool
  | [] => true
  | .ch c :: r => (c == 40 || c == 41) && okTail r
  | _ => false
noncomputable def okTxt : List At → Bool
  | [] => true
  | .dr _ :: r => okTxt r
  | .ch c :: r => if c == 34 then okTail r else (c == 40 || c == 41) && okTxt r
noncomputable def F_check_parenthesis : F1 := fun ms σ => match ms with
  | [.str x] => if (okTxt x && Nat.ble x.length 40) = true then some (.bool (chkA 0 x), σ) else none
  | _ => none
noncomputable def base : List Int := [4, 2, 7, 8, 0, 11, 10, 7, 4, 12]
end Mine
end

section
set_option maxHeartbeats 1000000
namespace Mine

/-! the sums of the script -/
noncomputable def ScOk (C : Cx) : Prop := ∃ vs : Array Value, C.g.IsList C.W.scr vs ∧ AllInts vs ∧ vs.size ≤ 1000 ∧ ∀ k : Nat, C.W.sv k = (numsOf (slicePick vs (some (k : Int)) none (some 10)).toList).sum

theorem pick_ints {vs : Array Value} (h : AllInts vs) (lo hi st : Option Int) : AllInts (slicePick vs lo hi st) := by
  intro v hv
  unfold slicePick at hv
  have hv := List.mem_toArray.mp hv
  obtain ⟨i, _, hi⟩ := List.mem_filterMap.mp hv
  exact h v (Array.mem_of_getElem? hi)

theorem SE_sumK {C : Cx} {d : Nat} {nm : Nm} (k sc : Nat) {p p1 p2 p3 p4 p5 pos : Pos} {z : Nat} (hk : nm[k]? = some (Str.ofString "k", .local)) (hs : nm[sc]? = some (Str.ofString "script", .cell)) (hm : C.mg "sum" = none) (hx : nm.lookup ("sum" : Str) = some .globalImplicit) (hS : ScOk C) :
    SE C d nm (.Call (.Name "sum" p) [.Subscript (.Name "script" p1) (.Slice (some (.Name "k" p2)) none (some (.Constant (.int 10) z p3)) p4) p5] [] pos) (eSumK k sc) := by
  intro A env ci X lv φ σ s v σ' Q E hA G hf h
  unfold eSumK at hf
  split at hf
  · rename_i m q1 q2
    split at hf
    · rename_i i hi
      split at hf
      · rename_i hr
        cases hf
        refine wpAny_Call_NameR (name_builtin (v := .builtin "sum") G hm hx (by decide) (by decide) (by rfl) ?_)
        refine Calls.callWith_builtin rfl ?_
        refine Calls.evalArgs_plain ?_
        obtain ⟨vs, h1, h2, h3, h4⟩ := hS
        have key : wpAny C.M A (eval (.Subscript (.Name "script" p1) (.Slice (some (.Name "k" p2)) none (some (.Constant (.int 10) z p3)) p4) p5) env) (fun r s₁ => wpAny C.M A (call (.builtin "sum") [r]) Q E s₁) E s := by
          refine wpAny_Subscript_Slice_step (T := "list") list_getitem_lookup ?_ (by intros; rfl)
          refine SE_name (d := d) sc "script" .cell p1 hs (.inr (.inl rfl)) (by decide) (by decide) A env ci X lv φ σ s .scr _ _ _ hA G (by unfold eVar; rw [q2]) fun φ₁ s₁ o p1' G1 r1 => wpAny_Slice ?_
          obtain rfl : o = .ref C.W.scr := r1
          rw [evalPart_some]
          refine SE_name (d := d) k "k" .local p2 hk (.inl rfl) (by decide) (by decide) A env ci X lv φ₁ σ s₁ m _ _ _ hA G1 (by unfold eVar; rw [q1]) fun φ₂ s₂ vk p2' G2 r2 => ?_
          obtain ⟨t, rfl⟩ := r2.isInt hi
          rw [evalPart_none]
          refine wpAny_pure ?_
          rw [evalPart_some]
          refine SE_int (d := d) (nm := nm) 10 z p3 A env ci X lv φ₂ σ s₂ _ _ _ _ hA G2 rfl fun φ₃ s₃ vt p3' G3 r3 => ?_
          obtain ⟨u, rfl⟩ := r3
          have hl0 : s₃.heap.IsList C.W.scr vs := let ⟨o, a, b⟩ := h1; ⟨o, G3.rel.keep _ _ a, b⟩
          have hl := hl0.push (o := { cls := .type "slice", data := .fields #[.int i t, .none, .int 10 u] })
          refine ⟨hl.typeIs (s := { s₃ with heap := s₃.heap.push { cls := .type "slice", data := .fields #[.int i t, .none, .int 10 u] } }), wpAny_getItem_list_slice hl (Heap.IsSliceOf.new ..) (.int i t) .none (.int 10 u) (by decide) ?_ (Nat.le_trans h3 sizeLine_ge)⟩
          obtain ⟨xs, hxs⟩ := (pick_ints h2 (some i) none (some 10)).items
          have G4 := G3.ext (s' := { s₃ with heap := (s₃.heap.push { cls := .type "slice", data := .fields #[.int i t, .none, .int 10 u] }).push { cls := .type "list", data := .seq (slicePick vs (some i) none (some 10)) } }) (fun b o e => Heap.get?_push_of_some _ (Heap.get?_push_of_some _ e))
          refine wpAny_with_toks (Nat.le_refl _) (sum_intListG (xs := xs) hA.hd ?_ fun h' tk t' hk' ht => ?_)
          · rw [← hxs]
            exact ⟨_, Heap.get?_push_size _ rfl, rfl, 0, rfl⟩
          · have G5 := G4.ext (s' := { s₃ with heap := h', toks := tk }) hk' rfl rfl ht
            refine h φ₃ _ _ (pre_trans p1' (pre_trans p2' p3')) G5 ⟨t', ?_⟩
            have e1 := h4 i.toNat
            have e2 : ((i.toNat : Nat) : Int) = i := by omega
            rw [e2, hxs, nums_intItems] at e1
            rw [e1, preSum_eq, List.take_of_length_le (by simp)]
        exact Calls.spliced_cons (wpAny_mono key (fun r s₁ hq => Calls.spliced_nil hq) fun _ _ x => x)
      · cases hf
    · cases hf
  · cases hf

/-! the dress -/
noncomputable def texts : List (List Nat) := [[], [92, 41], [92, 40], [34, 40, 34], [92, 92], [92, 34], [92, 92, 34, 41, 92, 34, 34]]
noncomputable def dressOf (c : Int) : List Nat := texts.getD ((c.fdiv 2).fmod 7).toNat []
noncomputable def DressOk (C : Cx) : Prop := ∀ (k : Nat) (x : Int), base[k]? = some x → C.W.dt k = dressOf (x + C.W.sv k)
noncomputable def txtMV : List MV := texts.map fun l => .str (l.map .ch)

theorem chs_eq : ∀ {x : List At} {l : List Nat}, chs x = some l → x = l.map .ch
  | [], l, h => by cases h; rfl
  | .ch c :: r, l, h => by
    unfold chs at h
    split at h
    · rename_i l' e
      cases h
      rw [chs_eq e]; rfl
    · cases h
  | .dr _ :: _, _, h => by cases h
noncomputable def isTexts : List MV → List (List Nat) → Bool
  | [], [] => true
  | .str x :: r, l :: ls => (match chs x with
    | some m => m == l
    | none => false) && isTexts r ls
  | _, _ => false
noncomputable def hasTexts : Option (List MV) → Bool
  | some xs => isTexts xs texts
  | none => false
theorem isTexts_eq : ∀ {xs : List MV} {ls : List (List Nat)}, isTexts xs ls = true → xs = ls.map fun l => .str (l.map .ch)
  | [], [], _ => rfl
  | [], _ :: _, h => by cases h
  | x :: r, [], h => by cases x <;> cases h
  | x :: r, l :: ls, h => by
    cases x <;> try (cases h)
    rename_i x
    obtain ⟨h1, h2⟩ := Bool.and_eq_true_iff.mp h
    split at h1
    · rename_i m e
      rw [isTexts_eq h2, chs_eq e, beq_iff_eq.mp h1]; rfl
    · cases h1
theorem hasTexts_eq {o : Option (List MV)} (h : hasTexts o = true) : o = some txtMV := by
  cases o with
  | none => cases h
  | some xs => rw [isTexts_eq (show isTexts xs texts = true from h)]; rfl
noncomputable def eDress (f : EF) (i : Nat) : EF := fun lv σ => match f lv σ with
  | some (.ref r, σ') => match lv[i]? with
    | some (some (.cl k x)) => if base[k]? = some x ∧ hasTexts (hget σ' r) = true then some (.str [.dr k], σ') else none
    | _ => none
  | _ => none

theorem SE_dress {C : Cx} {d : Nat} {nm : Nm} {value : Expr} {x : Str} {p1 p2 p3 p4 p5 pos : Pos} {z y : Nat} {f : EF} (i : Nat) (hD : DressOk C) (h₁ : SE C d nm value f) (hi : nm[i]? = some (x, .local)) (hc : (x == ("__classdict__" : Str)) = false) (hd : (x == ("__debug__" : Str)) = false)
    (hsub : ∀ o i, subscripted (.BinOp (.BinOp (.Name x p1) .FloorDiv (.Constant (.int 2) z p2) p3) .Mod (.Constant (.int 7) y p4) p5) false o i = operate [o, i] (getItem o i) := by intros; rfl) :
    SE C d nm (.Subscript value (.BinOp (.BinOp (.Name x p1) .FloorDiv (.Constant (.int 2) z p2) p3) .Mod (.Constant (.int 7) y p4) p5) pos) (eDress f i) := by
  intro A env ci X lv φ σ s v σ' Q E hA G hf h
  unfold eDress at hf
  split at hf
  · rename_i r σ₁ e1
    split at hf
    · rename_i k c e2
      split at hf
      · rename_i hk
        cases hf
        rw [eval_Subscript]
        refine wpAny_bind (h₁ A env ci X lv φ σ s _ _ _ E hA G e1 fun φ₁ s₁ o p1' G1 r1 => ?_)
        refine wpAny_bind (wpAny_holding ?_)
        refine wpAny_BinOp (wpAny_BinOp ?_)
        refine SE_name (d := d) i x .local _ hi (.inl rfl) hc hd A env ci X lv φ₁ _ s₁ (.cl k c) _ _ _ hA G1 (by unfold eVar; rw [e2]) fun φ₂ s₂ vk p2' G2 r2 => ?_
        obtain ⟨t, rfl⟩ := r2
        refine SE_int (d := d) (nm := nm) 2 z _ A env ci X lv φ₂ _ s₂ _ _ _ _ hA G2 rfl fun φ₃ s₃ v2 p3' G3 r3 => ?_
        obtain ⟨u, rfl⟩ := r3
        refine floordiv_int_or hA.hd (fun q => by cases q) (fun _ => ?_) (fun _ => .inl (PyProof.noPylong_of_log2 (by decide +kernel)))
        refine SE_int (d := d) (nm := nm) 7 y _ A env ci X lv φ₃ _ _ _ _ _ _ hA (G3.toks _) rfl fun φ₄ s₄ v7 p4' G4 r4 => ?_
        obtain ⟨w, rfl⟩ := r4
        refine PyProof.Rows.mod_int' (by decide) (wpAny_bind (wpAny_standAt ?_))
        obtain ⟨a, ha, rfl⟩ := r1.mono (pre_trans p2' (pre_trans p3' p4'))
        obtain ⟨a', vs, g1, ⟨n, g2⟩, g3⟩ := G4.rel.getList (hasTexts_eq hk.2)
        rw [ha] at g1; cases g1
        refine wpAny_bind ?_
        have hT : ({ s₄ with toks := s₄.toks + 1 } : Shared).TypeIs (.ref a) "list" := ⟨_, g2, rfl⟩
        rw [getitemInPython_of_ne hT.not_modules]
        refine wpAny_bind (wpAny_specialOf hT list_getitem_lookup (wpAny_pure ?_))
        rw [hsub]
        have hj0 : 0 ≤ ((c + C.W.sv k).fdiv 2).fmod 7 := by rw [Int.fmod_eq_emod_of_nonneg _ (by decide)]; exact Int.emod_nonneg _ (by decide)
        have hj1 : ((c + C.W.sv k).fdiv 2).fmod 7 < 7 := by rw [Int.fmod_eq_emod_of_nonneg _ (by decide)]; exact Int.emod_lt_of_pos _ (by decide)
        have hdt := hD k c hk.1
        unfold dressOf at hdt
        generalize ((c + C.W.sv k).fdiv 2).fmod 7 = j at *
        obtain ⟨jn, rfl⟩ := Int.eq_ofNat_of_zero_le hj0
        have hjn : jn < texts.length := by show jn < 7; omega
        have hm : txtMV[jn]? = some (.str ((texts[jn]).map .ch)) := by
          unfold txtMV
          rw [List.getElem?_map, List.getElem?_eq_getElem hjn]; rfl
        obtain ⟨v, e3, e4⟩ := g3.get hm
        obtain ⟨yy, tt, rfl, e5⟩ := e4
        rw [Array.getElem?_toList] at e3
        refine wpAny_bind (wpAny_operating (wpAny_getItem_list (s := { s₄ with toks := s₄.toks + 1 }) ⟨_, g2, rfl, n, rfl⟩ (Int.natCast_nonneg _) (by omega) (by simpa using e3) ?_))
        refine wpAny_bind (wpAny_letTemporaryGo (wpAny_pure (h φ₄ _ _ (pre_trans p1' (pre_trans p2' (pre_trans p3' p4'))) (G4.toks _) ⟨yy, tt, rfl, ?_⟩)))
        show yy.cps.toList = C.W.dt k ++ []
        rw [e5, flat_ch, List.append_nil, hdt]
        rw [List.getD_eq_getElem?_getD, show ((jn : Int)).toNat = jn from rfl, List.getElem?_eq_getElem hjn]; rfl
      · cases hf
    · cases hf
  · cases hf
end Mine
end

section
open MeetsSeq MeetsSeq2 MeetsSeq3 SeqRoads2
open AutoSeq1 (wpAny_loadPart')
set_option maxHeartbeats 1000000
namespace Mine

/-! sorted -/
theorem list_lt_first (l b : Addr) (items items2 : Array Value) (x y : Int) (t u : Tok) (n n2 : Nat) (h1 : items.toList[0]? = some (.int x t)) (h2 : items2.toList[0]? = some (.int y u)) (hxy : x ≠ y) :
    Meets (Builtin.«list.__lt__» ⟨[.ref l, .ref b], []⟩)
      (fun _ R s => s.heap.get? l = some { cls := .type "list", dict := none, data := .seq items n, slots := #[] } ∧ s.heap.get? b = some { cls := .type "list", dict := none, data := .seq items2 n2, slots := #[] } ∧
        R (.ok (.ret (.bool (decide (x < y))))) s) := by
  intro prog w A R s h
  obtain ⟨hp, g, d, tk, os⟩ := s; obtain ⟨hl, hb, h⟩ := h
  have f3 := AutoSeq1.sub_list_list
  have a1 : items[((0 : Nat) : Int).toNat]? = some (.int x t) := by rw [← Array.getElem?_toList]; exact h1
  have a2 : items2[((0 : Nat) : Int).toNat]? = some (.int y u) := by rw [← Array.getElem?_toList]; exact h2
  wp_walk using wpAny_loadPart' hl, wpAny_loadPart' hb
  refine ⟨plainId_quiet plain_eq_loop _, codeAny_builtin entry_eq_loop ?_⟩
  rw [Around.under_plainId plain_eq_loop _]
  wp_walk using wpAny_loadPart' hl, wpAny_loadPart' hb
  rw [show items[Int.toNat 0]? = some (.int x t) from a1, show items2[Int.toNat 0]? = some (.int y u) from a2]
  refine wpAny_bind (wpAny_eqBool_int ?_)
  rw [beq_eq_false_iff_ne.mpr hxy]
  wp_walk using wpAny_loadPart' hl, wpAny_loadPart' hb
  rw [show items[Int.toNat 0]? = some (.int x t) from a1, show items2[Int.toNat 0]? = some (.int y u) from a2]
  refine wpAny_bind ?_
  show wpAny _ _ (compareOp .Lt _ _) _ _ _
  exact P.lt_int (wpAny_pure h)

theorem key_lt_lists {prog : Program} {w : World} {A : Around} {E : Value → Shared → Prop} {s : Shared} {l b : Addr} {items items2 : Array Value} {x y : Int} {t u : Tok} {n n2 : Nat} {Q : Bool → Shared → Prop} (hu : A.units < cLine) (hx : IsL s.heap l items n) (hy : IsL s.heap b items2 n2)
    (h1 : items.toList[0]? = some (.int x t)) (h2 : items2.toList[0]? = some (.int y u)) (hxy : x ≠ y) (h : Q (decide (x < y)) s) : wpAny (model prog w) A (keyLt' oneType' (.ref l) (.ref b)) Q E s := by
  rw [keyLt'_oneType, oneLt'_eq]
  simp only [if_true]
  refine wpAny_bind (wpAny_cRoomFor hu ?_)
  refine wpAny_bind (wpAny_callSpecialIfBound?_slot (T := "list") ⟨_, hx, rfl⟩ F.slot_list_lt (call_meets F.slot_list_lt ⟨_, hx, rfl⟩ F.entry_list_lt (F.args_list_lt_2 _ _) (list_lt_first l b items items2 x y t u n n2 h1 h2 hxy) ⟨hx, hy, ?_⟩))
  exact wpAny_truthy_bool h

/-- the asked order -/
noncomputable def runT {α : Type} (ask : Nat → Nat → Option Bool) : KasT α → Option α
  | .ret a => some a
  | .ask i j k => match ask i j with
    | some b => runT ask (k b)
    | none => none
theorem runT_wp {α : Type} {ask : Nat → Nat → Option Bool} {cmp : Nat → Nat → (Bool → Shared → Prop) → Shared → Prop} {s : Shared} {Q : α → Shared → Prop}
    (hc : ∀ i j b (C : Bool → Shared → Prop), ask i j = some b → C b s → cmp i j C s) : ∀ (t : KasT α) (a : α), runT ask t = some a → Q a s → t.kasWp cmp Q s
  | .ret a, b, h, hq => by cases h; exact hq
  | .ask i j k, a, h, hq => by
    unfold runT at h
    split at h
    · rename_i b e
      exact hc i j b _ e (runT_wp hc (k b) a h hq)
    · cases h

noncomputable def askL (σ : Hp) (ms : List MV) (i j : Nat) : Option Bool := match ms[i]?, ms[j]? with
  | some (.ref r), some (.ref q) => match (hget σ r), (hget σ q) with
    | some (x :: _), some (y :: _) => match x.un, y.un with
      | .int a, .int b => if a = b then none else some (decide (a < b))
      | _, _ => none
    | _, _ => none
  | _, _ => none
noncomputable def refsOnly : List MV → Bool
  | [] => true
  | .ref _ :: r => refsOnly r
  | _ => false
noncomputable def pickMV (ms : List MV) : List Nat → Option (List MV)
  | [] => some []
  | i :: r => match ms[i]?, pickMV ms r with
    | some m, some l => some (m :: l)
    | _, _ => none
noncomputable def eSorted (f : EF) : EF := fun lv σ => match f lv σ with
  | some (.ref r, σ') => match (hget σ' r) with
    | some xs => if 2 ≤ xs.length ∧ xs.length < 64 ∧ refsOnly xs = true then match runT (askL σ' xs) (kas_sort xs.length) with
      | some p => match pickMV xs p.toList with
        | some l => some (.ref (hlen σ'), hpush σ' l)
        | none => none
      | none => none
      else none
    | none => none
  | _ => none

theorem pickMV_all2 {R : MV → Value → Prop} {ms : List MV} {vs : List Value} (h : All2 R ms vs) : ∀ {is : List Nat} {l : List MV}, pickMV ms is = some l → All2 R l (is.map fun i => vs.getD i Value.none)
  | [], l, e => by cases e; exact trivial
  | i :: r, l, e => by
    unfold pickMV at e
    split at e
    · rename_i m l' e1 e2
      cases e
      obtain ⟨v, h1, h2⟩ := h.get e1
      refine ⟨?_, pickMV_all2 h e2⟩
      show R m (vs.getD i Value.none)
      rw [List.getD_eq_getElem?_getD, h1]
      exact h2
    · cases e
theorem refsOnly_all {W : Val} {φ : Phi} : ∀ {ms : List MV} {vs : List Value}, refsOnly ms = true → All2 (VRel W φ) ms vs → ∀ v ∈ vs, ∃ (a : Addr) (r : Nat), v = .ref a ∧ φ.l[r]? = some a
  | [], [], _, _, v, hv => by cases hv
  | m :: ms, x :: vs, h, ⟨a, b⟩, v, hv => by
    cases m <;> try (cases h)
    rename_i r
    rcases List.mem_cons.mp hv with rfl | hv
    · obtain ⟨l, e, rfl⟩ := a
      exact ⟨l, r, rfl, e⟩
    · exact refsOnly_all (ms := ms) h b v hv
  | [], _ :: _, _, x, _, _ => x.elim
  | _ :: _, [], _, x, _, _ => x.elim

/-! the whole heap as a frame -/
noncomputable def nilHeap : Heap := { objs := #[] }
theorem nilHeap_get (a : Addr) : nilHeap.get? a = none := Heap.get?_none_of_le (Nat.zero_le _)
noncomputable def allBut (L : Addr) (h : Heap) : List (Addr × Obj) := (List.range h.objs.size).filterMap fun a => if a = L then none else match h.get? a with
  | some o => some (a, o)
  | none => none
theorem allBut_mem {L : Addr} {h : Heap} {a : Addr} {o : Obj} (e : h.get? a = some o) (hL : a ≠ L) : (a, o) ∈ allBut L h := by
  refine List.mem_filterMap.mpr ⟨a, List.mem_range.mpr (Heap.lt_size e), ?_⟩
  rw [if_neg hL, e]
theorem allBut_of {L : Addr} {h : Heap} {p : Addr × Obj} (hp : p ∈ allBut L h) : h.get? p.1 = some p.2 ∧ p.1 ≠ L := by
  obtain ⟨a, _, e⟩ := List.mem_filterMap.mp hp
  split at e
  · cases e
  · rename_i hL
    split at e
    · rename_i o ho
      cases e
      exact ⟨ho, hL⟩
    · cases e
theorem frAll {L : Addr} {h : Heap} {m : Str → Option Value} (hn : h.Ns L m) : Fr nilHeap L h m := ⟨hn, fun b o e => (by rw [nilHeap_get] at e; cases e), Nat.zero_le _⟩
theorem newsAll {L : Addr} {h : Heap} : News nilHeap L h (allBut L h) := fun p hp => ⟨(allBut_of hp).1, (allBut_of hp).2, nilHeap_get _⟩

/-- a list that came somewhere -/
theorem Rel.addList {W : Val} {g : Heap} {os0 : OsState} {φ : Phi} {σ : Hp} {X : List Res} {s : Shared} {a : Addr} {items : List MV} {o : Obj} (R : Rel W g os0 φ σ X s) (hn : a ∉ φ.l ++ X.map (·.1)) (hg : g.get? a = none)
    (h1 : s.heap.get? a = some o) (h2 : LObj W (φ.add a) items o) : Rel W g os0 (φ.add a) (hpush σ items) X s :=
  have R' := R.add (P := fun _ => True) hn hg h1 trivial
  { keep := R.keep
    len := by show (φ.l ++ [a]).length = _; rw [List.length_append, R.len]; rfl
    hok := R.hok.push
    lists := fun i b its e1 e2 => by
      have e1 : (φ.l ++ [a])[i]? = some b := e1
      by_cases hi : i < φ.l.length
      · rw [List.getElem?_append_left hi] at e1
        rw [R.hok.get_push_lt (R.len ▸ hi)] at e2
        obtain ⟨o', q1, q2⟩ := R.lists i b its e1 e2
        exact ⟨o', q1, q2.mono Pre.add⟩
      · have hi' : i = φ.l.length := by
          have := (List.getElem?_eq_some_iff.mp e1).1
          rw [List.length_append] at this
          simp at this; omega
        subst hi'
        simp at e1; subst e1
        rw [R.len, R.hok.get_push] at e2; cases e2
        exact ⟨o, h1, h2⟩
    xs := R.xs
    nd := by
      have := R'.nd
      show ((φ.l ++ [a]) ++ X.map (·.1)).Nodup
      rw [List.append_assoc]
      simpa using this
    fresh := fun b hb => R'.fresh b (by
      have hb : b ∈ (φ.l ++ [a]) ++ X.map (·.1) := hb
      simpa using hb)
    os := R.os
    bare := R.bare
    tpos := R.tpos
    tlt := R.tlt
    tfun := R.tfun
    gk := R.gk }

/-- back from the frame: all but the names' table is as it was -/
theorem Good.ofFrame {C : Cx} {env : Env} {nm : Nm} {ci : List (Nat × Addr)} {X : List Res} {lv : LV} {φ : Phi} {σ : Hp} {s s' : Shared} {m : Str → Option Value} {news : List (Addr × Obj)} (G : Good C env nm ci X lv φ σ s)
    (hm : ∀ o, s.heap.get? env.locals = some o → NsO o m) (F : Fr nilHeap env.locals s'.heap m) (N : News nilHeap env.locals s'.heap news) (hsub : ∀ p ∈ allBut env.locals s.heap, p ∈ news)
    (ho : s'.os = s.os := by rfl) (hg : s'.gens = s.gens := by rfl) (ht : s.toks ≤ s'.toks := by first | exact Nat.le_refl _ | exact Nat.le_succ _) : Good C env nm ci X lv φ σ s' := by
  refine ⟨G.ok, ?_⟩
  have R := G.rel
  unfold vres at R ⊢
  obtain ⟨o1, h1, hp⟩ := R.xs (env.locals, PLoc C.W nm lv φ) List.mem_cons_self
  obtain ⟨m1, hn1, hl1⟩ := hp
  obtain ⟨o2, h2, hn2⟩ := NsO.of F.ns
  have hmm := hm o1 h1
  refine Rel.upd R (fun b o hb e => (N _ (hsub _ (allBut_mem e hb))).1) h2 ⟨m, hn2, ?_⟩ ho hg ht
  intro i x mv e1 e2
  obtain ⟨v, q1, q2⟩ := hl1 i x mv e1 e2
  refine ⟨v, ?_, q2⟩
  obtain ⟨es, ep, a1, a2, a3⟩ := hn1
  obtain ⟨es', ep', b1, b2, b3⟩ := hmm
  rw [a1] at b1
  injection b1 with c1 _
  rw [← b3, ← c1, a3]; exact q1

theorem SE_sorted {C : Cx} {d : Nat} {nm : Nm} {p pos : Pos} {e : Expr} {f : EF} (hm : C.mg "sorted" = none) (hx : nm.lookup ("sorted" : Str) = some .globalImplicit) (h₁ : SE C (d + 1) nm e f)
    (he : ∀ env, starEach [e] env = [(false, eval e env)] := by intro _; rfl) : SE C (d + 1) nm (.Call (.Name "sorted" p) [e] [] pos) (eSorted f) := by
  intro A env ci X lv φ σ s v σ' Q E hA G hf h
  unfold eSorted at hf
  split at hf
  · rename_i r σ₁ e1
    split at hf
    · rename_i xs e2
      split at hf
      · rename_i hlen
        split at hf
        · rename_i pp e3
          split at hf
          · rename_i l e4
            cases hf
            refine wpAny_Call_NameR (name_builtin (v := .builtin "sorted") G hm hx (by decide) (by decide) (by rfl) ?_)
            refine Calls.callWith_builtin (by rw [he env]; rfl) ?_
            rw [he env]
            refine Calls.evalArgs_plain (Calls.spliced_cons (h₁ A env ci X lv φ σ s _ σ₁ _ _ hA G e1 fun φ₁ s₁ o p1 G1 r1 => Calls.spliced_nil ?_))
            obtain ⟨a, ha, rfl⟩ := r1
            obtain ⟨a', vs, q1, q2, q3⟩ := G1.rel.getList e2
            rw [ha] at q1; cases q1
            obtain ⟨vl⟩ := vs
            have hvl : xs.length = vl.length := q3.length
            obtain ⟨oL, hL, hPL⟩ := G1.rel.xs (env.locals, PLoc C.W nm lv φ₁) (by simp [vres])
            obtain ⟨m, hnm, _⟩ := hPL
            have hmm : ∀ o, s₁.heap.get? env.locals = some o → NsO o m := fun o ho => by rw [hL] at ho; cases ho; exact hnm
            have hrefs := refsOnly_all hlen.2.2 q3
            have isl : ∀ (rr : Nat) (b : Addr) (h' : Heap) (N : News nilHeap env.locals h' (allBut env.locals s₁.heap)) (ys : List MV), φ₁.l[rr]? = some b → (hget σ₁ rr) = some ys → ∃ us n, IsL h' b us n ∧ All2 (VRel C.W φ₁) ys us.toList := by
              intro rr b h' N ys g1 g2
              obtain ⟨b', us, t1, ⟨n, t2⟩, t3⟩ := G1.rel.getList g2
              rw [g1] at t1; cases t1
              have hbL : b ≠ env.locals := by
                intro q
                have nd := G1.rel.nd
                rw [List.nodup_append] at nd
                exact nd.2.2 b (List.mem_of_getElem? g1) env.locals (by simp [vres]) q
              exact ⟨us, n, (N _ (allBut_mem t2 hbL)).1, t3⟩
            refine kas_sorted (vs := vl) (T := .type "list") (frAll (hnm.ns hL)) newsAll q2.isList (by omega) (by omega) (fun h' F' N' v hv => ?_) (by decide) (fun D e1' h' F' N' hlt => ?_)
            · obtain ⟨b, rr, rfl, hb⟩ := hrefs v hv
              have hrr : rr < (Mine.hlen σ₁) := G1.rel.len ▸ (List.getElem?_eq_some_iff.mp hb).1
              obtain ⟨its, hits⟩ := G1.rel.hok.has hrr
              obtain ⟨us, n, t1, _⟩ := isl rr b h' N' its hb hits
              intro A Q E s k q
              exact wpAny_typeOf (T := "list") ⟨_, k _ _ t1, rfl⟩ q
            · have e3' : runT (askL σ₁ xs) (kas_sort vl.length) = some pp := by rw [← hvl]; exact e3
              have N'' : News nilHeap env.locals h' (allBut env.locals s₁.heap) := fun q hq => N' q (.tail _ hq)
              refine runT_wp (ask := askL σ₁ xs) (fun i j b K hask hK => ?_) _ pp e3' ?_
              · unfold askL at hask
                split at hask
                · rename_i r1 r2 g1 g2
                  split at hask
                  · rename_i x _ y _ g3 g4
                    split at hask
                    · rename_i x' y' g5 g6
                      split at hask
                      · cases hask
                      · rename_i hne
                        cases hask
                        obtain ⟨v1, t1, ⟨l1, t2, rfl⟩⟩ := q3.get g1
                        obtain ⟨v2, t3, ⟨l2, t4, rfl⟩⟩ := q3.get g2
                        obtain ⟨us1, n1, t5, t6⟩ := isl r1 l1 h' N'' _ t2 g3
                        obtain ⟨us2, n2, t7, t8⟩ := isl r2 l2 h' N'' _ t4 g4
                        obtain ⟨w1, t9, t10⟩ := t6.get (i := 0) (m := x) rfl
                        obtain ⟨w2, t11, t12⟩ := t8.get (i := 0) (m := y) rfl
                        obtain ⟨tt1, rfl⟩ := t10.isInt g5
                        obtain ⟨tt2, rfl⟩ := t12.isInt g6
                        show wpAny (model C.prog C.w) A.in1.in1 (keyLt' oneType' (vl.getD i .none) (vl.getD j .none)) K (fun _ _ => False) _
                        have t1 : vl[i]? = some (.ref l1) := t1
                        have t3 : vl[j]? = some (.ref l2) := t3
                        rw [List.getD_eq_getElem?_getD, List.getD_eq_getElem?_getD, t1, t3]
                        have hu : A.in1.in1.units < cLine := by have := hA.un; show A.units + 1 + 1 < _; omega
                        exact key_lt_lists hu t5 t7 t9 t11 hne hK
                    · cases hask
                  · cases hask
                · cases hask
              · refine KasFin.intro F' N' (.head fun q hq => Nat.ne_of_lt (hlt q hq)) fun h2 c F2 N2 => ?_
                have G2 : Good C env nm ci X lv φ₁ σ₁ { s₁ with heap := h2 } := G1.ofFrame (s' := { s₁ with heap := h2 }) hmm F2 N2 (fun q hq => .tail _ hq)
                have hD := N2 _ (.head _)
                have hnew : ∀ b o, s₁.heap.get? b = some o → b ≠ D := fun b o ho q => by
                  subst q
                  by_cases hb : b = env.locals
                  · exact hD.2.1 hb
                  · exact Nat.lt_irrefl _ (hlt _ (allBut_mem ho hb))
                have R2 := G2.rel.addList (a := D) (items := l) (fun q => by
                  rcases List.mem_append.mp q with q | q
                  · obtain ⟨i, hi, ei⟩ := List.mem_iff_getElem.mp q
                    have hi' : i < (Mine.hlen σ₁) := G1.rel.len ▸ hi
                    obtain ⟨its, hits⟩ := G1.rel.hok.has hi'
                    obtain ⟨o, k1, _⟩ := G1.rel.lists i D its (by rw [List.getElem?_eq_getElem hi, ei]) hits
                    exact hnew _ _ k1 rfl
                  · obtain ⟨pr, k1, rfl⟩ := List.mem_map.mp q
                    obtain ⟨o, k2, _⟩ := G1.rel.xs pr k1
                    exact hnew _ _ k2 rfl) (by
                  cases q : C.g.get? D with
                  | none => rfl
                  | some o => exact absurd rfl (hnew _ _ (G1.rel.keep _ _ q))) hD.1 ⟨_, c, rfl, by
                    have := (pickMV_all2 q3 e4)
                    exact this.mono fun _ _ => VRel.mono Pre.add⟩
                exact h _ _ _ (pre_trans p1 Pre.add) (G2.next Pre.add R2) (newRef G1.rel.len)
          · cases hf
        · cases hf
      · cases hf
    · cases hf
  · cases hf
end Mine
end

section
set_option maxHeartbeats 1000000
namespace Mine

/-! sorted with a key over a range -/
section
variable {prog : Program} {w : World} {A : Around} {E : Value → Shared → Prop} {s : Shared}

theorem code_collect_range {R : Result → Shared → Prop} {r : Addr} {a b c : Int} {t u v : Tok} {n : Nat} (hh : A.handled = none) (hr : IsRange s.heap r a b c t u v) (hsmall : Builtin.Range.small a b c = true)
    (hn : Builtin.Range.rangeSize a b c = n) (hlen : n ≤ 2 ^ 24)
    (h : ∀ h' tk (acc : Array Value) c', (∀ b o, s.heap.get? b = some o → h'.get? b = some o) → h'.get? s.heap.objs.size = some { cls := .type "list", data := .seq acc c' } → ItemsOf (fun i v => ∃ t, v = .int (a + i * c) t) acc n → R (.ok (.ret (.ref s.heap.objs.size))) { s with heap := h', toks := tk }) :
    codeAny (model prog w) A (.builtin "proto.collect" ⟨[.ref r], []⟩) R s := by
  refine codeAny_builtin entry_proto_collect' ?_
  show wpAny _ _ (do again (.builtin "list.__iadd__" ⟨[← newList [], .ref r], []⟩)) _ _ s
  refine wpAny_bind (wpAny_newList (wpAny_pure ⟨Code.quiet_builtin _ (by decide +kernel), codeAny_builtin entry_list_iadd' ?_⟩))
  rw [Around.under_plainId F.plain_list_iadd _]
  show wpAny _ A.in1 (Builtin.List.listExtendWith (.ref s.heap.objs.size) (.ref r) (.ref s.heap.objs.size)) _ _ _
  have hr' : IsRange (s.heap.push { cls := .type "list", data := .seq ([] : List Value).toArray }) r a b c t u v := Heap.get?_push_of_some _ hr
  exact wpAny_extend_range (R := R) (s := { s with heap := s.heap.push { cls := .type "list", data := .seq ([] : List Value).toArray } }) hh hr' hsmall hn hlen s.heap.objs.size _ 0 (Heap.get?_push_size _ rfl) fun h' tk acc c' hk hS hacc =>
    h h' tk acc c' (fun b o e => hk b o (Nat.ne_of_lt (Heap.lt_size e)) (Heap.get?_push_of_some _ e)) hS hacc
theorem collect_range {r : Addr} {a b c : Int} {t u v : Tok} {n : Nat} {Q : List Value → Shared → Prop} (hh : A.handled = none) (hr : IsRange s.heap r a b c t u v) (hsmall : Builtin.Range.small a b c = true)
    (hn : Builtin.Range.rangeSize a b c = n) (hlen : n ≤ 2 ^ 24)
    (h : ∀ h' tk (acc : Array Value), (∀ b o, s.heap.get? b = some o → h'.get? b = some o) → ItemsOf (fun i v => ∃ t, v = .int (a + i * c) t) acc n → Q acc.toList { s with heap := h', toks := tk }) :
    wpAny (model prog w) A (collect (.ref r)) Q E s := by
  unfold collect
  refine wpAny_bind (wpAny_runValue (code_collect_range hh hr hsmall hn hlen fun h' tk acc c' hk hS hacc => ?_))
  show wpAny _ A (load s.heap.objs.size >>= _) _ _ _
  refine wpAny_bind (wpAny_load hS ?_)
  exact wpAny_pure (h h' tk acc hk hacc)

theorem sortR {h₀ : Heap} {L : Addr} {m : Str → Option Value} {news : List (Addr × Obj)} {r : Addr} {a b c : Int} {t u v : Tok} {n : Nat} {f : Value} {kw : List (Str × Value)} {Q : Value → Shared → Prop} (hh : A.handled = none)
    (F : Fr h₀ L s.heap m) (N : News h₀ L s.heap news) (hr : IsRange s.heap r a b c t u v) (hsmall : Builtin.Range.small a b c = true) (hn : Builtin.Range.rangeSize a b c = n) (h2 : 2 ≤ n) (h64 : n < 64)
    (ha1 : argsOk "sorted" ⟨[.ref r], kw⟩) (ha2 : ∀ x, argsOk "list.sort" ⟨[.ref x], kw⟩) (ht : ∀ x, Builtin.«list.sort» ⟨[.ref x], kw⟩ = ksk_tree x f false)
    (h : ∀ (vs : List Value), vs.length = n → (∀ i, i < n → ∃ t, vs[i]? = some (.int (a + i * c) t)) → ∀ D kS e1 h' tk, Fr h₀ L h' m → News h₀ L h' ((kS, seqObj "list" #[] 0) :: (D, seqObj "list" #[] e1) :: news) → D < kS → (∀ q ∈ news, q.1 < D) →
      KatKeys prog w A.in1.in1 h₀ L m kS f (fun ks e s' => wpAny (model prog w) A.in1.in1 (keyKind' (List.toArray ks)) (fun κ s'' => (kas_sort n).kasWp (kas_ask prog w A.in1.in1 κ ks) (fun p s3 => KatFin h₀ L m kS D ks e e1 (p.toList.map fun i => vs.getD i Value.none) (fun s4 => Q (.ref D) s4) s3) s'') (fun _ _ => False) s') vs [] 0 { s with heap := h', toks := tk }) :
    wpAny (model prog w) A (call (.builtin "sorted") [.ref r] kw) Q E s := by
  refine call_function_entry_kw kind_sorted plain_sorted entry_sorted ha1 ?_
  unfold Builtin.«sorted»
  refine wpAny_bind (m := checkCount "sorted" 1 1 _) (wpAny_pure ?_)
  refine wpAny_bind (collect_range hh hr hsmall hn (by omega) fun h1 tk acc hk hacc => ?_)
  obtain ⟨hsz, hit⟩ := hacc
  have hvl : acc.toList.length = n := by simpa using hsz
  refine wpAny_bind (wpAny_newList ?_ (by rw [hvl, sizeLine_eq]; omega))
  have F1 := F.kept hk
  have N1 := N.grown hk
  have hoL : (h1.push (seqObj "list" acc.toList.toArray 0)).get? h1.objs.size = some (seqObj "list" acc.toList.toArray 0) := Heap.get?_push_size _ rfl
  have keep : ∀ b o, h1.get? b = some o → (h1.push (seqObj "list" acc.toList.toArray 0)).get? b = some o := fun b o e => Heap.get?_push_of_some _ e
  show wpAny _ _ _ _ _ { s with heap := h1.push (seqObj "list" acc.toList.toArray 0), toks := tk }
  refine wpAny_bind (wpAny_holding (wpAny_call_entry_kw slot_list_sort ⟨_, hoL, rfl⟩ entry_list_sort ?body (ha2 _)))
  case body =>
    show wpAny (model prog w) A.in1.in1 (Builtin.«list.sort» ⟨[.ref h1.objs.size], kw⟩) _ _ _
    rw [ht]
    have hL : L < h1.objs.size := F1.ns.lt
    refine kat_keyed (s := { s with heap := h1.push (seqObj "list" acc.toList.toArray 0), toks := tk }) (vs := acc.toList)
      (F1.kept keep) (N1.grown keep) hoL (Nat.ne_of_gt hL) (Heap.get?_none_of_le (Nat.le_trans F.above (Nat.le_of_lt hL)))
      (fun p hp => Nat.ne_of_lt (Heap.lt_size (N1 p hp).1)) (by omega) (by omega) fun kS e1 h' F' N' l0 l1 => ?_
    have hgo := h acc.toList hvl (fun i hi => by
      have hi' : i < acc.size := by omega
      obtain ⟨t, ht⟩ := hit i acc[i] (Array.getElem?_eq_getElem hi')
      exact ⟨t, by rw [Array.getElem?_toList, Array.getElem?_eq_getElem hi', ht]⟩) _ kS e1 h' tk F' N' l0 (fun q hq => Heap.lt_size (N1 q hq).1)
    refine kat_keys_mono hgo fun ks e s' hl' hd => ?_
    have hl2 : ks.length = n := by rw [← hvl]; simpa using hl'
    rw [hvl]
    refine wpAny_mono hd (fun κ s'' hk => ?_) fun _ _ x => x
    show (kas_sort n).kasWp (kas_ask prog w A.in1.in1 κ ks) _ s''
    rw [kat_ask_eq (vs := acc.toList) (by rw [hl2, hvl])] at hk ⊢
    exact kas_wp_mono hk fun p s3 hk' => hk'.mono fun s4 hq => ⟨_, rfl, wpAny_pure ⟨_, rfl, hq⟩⟩

theorem sub_list {env : Env} {value sl : Expr} {pos : Pos} {Q : Value → Shared → Prop}
    (h : wpAny (model prog w) A (eval value env) (fun o s₁ => ∃ l, o = .ref l ∧ wpAny (model prog w) A (eval sl env) (fun k s₂ => ∃ items n i u v, k = .int i u ∧ 0 ≤ i ∧ i < 2 ^ 63 ∧ IsL s₂.heap l items n ∧ items[i.toNat]? = some v ∧ Q v s₂) E s₁) E s)
    (hsub : ∀ o i, subscripted sl false o i = operate [o, i] (getItem o i) := by intros; rfl) : wpAny (model prog w) A (eval (.Subscript value sl pos) env) Q E s := by
  rw [eval_Subscript]
  refine wpAny_bind (wpAny_mono h (fun o s₁ h₁ => ?_) fun _ _ x => x)
  obtain ⟨l, rfl, h₁⟩ := h₁
  refine wpAny_bind (wpAny_holding (wpAny_mono h₁ (fun k s₂ h₂ => wpAny_bind (wpAny_standAt ?_)) fun _ _ x => x))
  obtain ⟨items, n, i, u, v, rfl, h0, h1, h2, h3, h4⟩ := h₂
  have hT : s₂.TypeIs (.ref l) "list" := ⟨_, h2, rfl⟩
  refine wpAny_bind ?_
  rw [getitemInPython_of_ne hT.not_modules]
  refine wpAny_bind (wpAny_specialOf hT list_getitem_lookup (wpAny_pure ?_))
  rw [hsub]
  refine wpAny_bind (wpAny_operating (wpAny_getItem_list ⟨_, h2, rfl, n, rfl⟩ h0 h1 h3 ?_))
  exact wpAny_bind (wpAny_letTemporaryGo (wpAny_pure h4))

noncomputable def lamScope : Scope := { kind := .function, names := [(Str.ofString "place", .local), (Str.ofString "sums", .free)], isGenerator := false, isCoroutine := false }

theorem lam_call {f c' cS S q : Addr} {nme qual : Str} {params : Arguments} {scope : Scope} {p1 p2 p3 p4 p5 : Pos} {z : Nat} {pm ctv : Value} {items its : Array Value} {n n2 : Nat} {i key : Int} {u t : Tok} {Q : Value → Shared → Prop}
    (hsc : scope = lamScope) (hroom : A.depth < recursionLimit)
    (ho : s.heap.get? f = some (kla_obj nme qual params (.Subscript (.Subscript (.Name "sums" p1) (.Name "place" p2) p3) (.Constant (.int 0) z p4) p5) scope [(Str.ofString "sums", cS)] pm c' ctv))
    (hcd : s.heap.CodeRec (.ref c') qual) (hlim : s.heap.NoLimit)
    (hbind : ∀ v, bindArgs (kla_fn nme qual params (.Subscript (.Subscript (.Name "sums" p1) (.Name "place" p2) p3) (.Constant (.int 0) z p4) p5) scope [(Str.ofString "sums", cS)] pm (.ref c') ctv) ⟨[v], []⟩ = pure [(Str.ofString "place", v)])
    (hcell : s.heap.IsCell cS (some (.ref S))) (hS : IsL s.heap S items n) (h0 : 0 ≤ i) (hi63 : i < 2 ^ 63) (hi : items[i.toNat]? = some (.ref q)) (hq : IsL s.heap q its n2) (hk : its[0]? = some (.int key t))
    (h : ∀ h' tk, (∀ b o, s.heap.get? b = some o → h'.get? b = some o) → s.toks ≤ tk → Q (.int key t) { s with heap := h', toks := tk }) :
    wpAny (model prog w) A (call (.ref f) [.int i u]) Q E s := by
  subst hsc
  refine wpAny_call (kla_callFunE (args := ⟨[.int i u], []⟩) hroom ho rfl rfl rfl rfl hcd ?_)
  rw [hbind]
  refine wpAny_pure (wpAny_newFunctionEnv (fun x hx => ?_) (fun x hx => ?_) (fun h₁ hns hsb => ⟨hlim.fresh _ hsb, kla_codeExpr ?_⟩) rfl)
  · rcases List.mem_cons.mp hx with rfl | hx
    · intro q; cases q
    · rcases List.mem_cons.mp hx with rfl | hx
      · intro q; cases q
      · cases hx
  · rcases List.mem_cons.mp hx with rfl | hx
    · rfl
    · cases hx
  · have hk₁ : ∀ b o, s.heap.get? b = some o → h₁.get? b = some o := fun b o e => hsb.extBut b o (Nat.ne_of_lt (Heap.lt_size e)) (Heap.get?_push_of_some _ e)
    refine sub_list (sub_list ?_)
    refine wpAny_Name (wpAny_loadName_free (c := cS) (v := .ref S) rfl rfl rfl (let ⟨o, a, b⟩ := hcell; ⟨o, hk₁ _ _ a, b⟩) ⟨S, rfl, ?_⟩) (by decide)
    refine wpAny_Name (wpAny_loadName_local (v := .int i u) rfl rfl hns rfl ⟨items, n, i, u, _, rfl, h0, hi63, hk₁ _ _ hS, hi, q, rfl, ?_⟩) (by decide)
    refine wpAny_Constant_int ⟨its, n2, 0, _, _, rfl, by decide, by decide, hk₁ _ _ hq, hk, ?_⟩
    exact h _ _ hk₁ (Nat.le_succ_of_le (Nat.le_add_right _ _))
end
end Mine
end

section
set_option maxHeartbeats 1000000
namespace Mine

theorem clos_lam {env : Env} {c : Addr} (h : env.cells.lookup (Str.ofString "sums") = some c) : closureFor lamScope env = pure [(Str.ofString "sums", c)] := by
  unfold closureFor cellOf lamScope
  simp only [List.forIn_cons, List.forIn_nil]
  rw [h]
  rfl

noncomputable def IsTab (o : Obj) : Prop := ∃ ps, o = tabObj ps
/-- the table of the law's code -/
structure LamOk (C : Cx) (P : Addr) (ps : Array Value) (posL : Pos) : Prop where
  hd : CodeHd C.g C.W.lcd P
  ht : TriplesOk ps.toList
  hnf : codeAmong posL ps.toList = none
  hgP : mainGlobals ≠ P
  hb : C.g.BuiltinsAt C.mg P

noncomputable def keyL (σ : Hp) : List MV → Option (List Int)
  | [] => some []
  | .ref q :: r => match (hget σ q), keyL σ r with
    | some (a :: _), some ks => match a.un with
      | .int k => some (k :: ks)
      | _ => none
    | _, _ => none
  | _ => none
noncomputable def askK (ks : List Int) (i j : Nat) : Option Bool := match ks[i]?, ks[j]? with
  | some a, some b => some (decide (a < b))
  | _, _ => none
/-- the places in the order of the keys -/
noncomputable def sortK (σ : Hp) (r : Nat) : Option (List MV) := match (hget σ r) with
  | some xs => match keyL σ xs with
    | some ks => if xs.length = 5 then match runT (askK ks) (kas_sort 5) with
      | some p => if p.toList.all (· < 5) then some (p.toList.map fun i => .int (i : Nat)) else none
      | none => none
      else none
    | none => none
  | none => none

theorem keyL_get {σ : Hp} : ∀ {xs : List MV} {ks : List Int}, keyL σ xs = some ks → ks.length = xs.length ∧ ∀ (i : Nat) (k : Int), ks[i]? = some k → ∃ q a l, xs[i]? = some (.ref q) ∧ (hget σ q) = some (a :: l) ∧ a.un = .int k
  | [], ks, h => by cases h; exact ⟨rfl, fun i k e => by simp at e⟩
  | m :: r, ks, h => by
    cases m <;> try (cases h)
    rename_i q
    unfold keyL at h
    split at h
    · rename_i a l ks' e1 e2
      split at h
      · rename_i k e3
        cases h
        obtain ⟨h1, h2⟩ := keyL_get e2
        refine ⟨by simp [h1], fun i k' e => ?_⟩
        cases i with
        | zero => simp at e; subst e; exact ⟨q, a, l, rfl, e1, e3⟩
        | succ i => simp at e; simpa using h2 i k' e
      · cases h
    · cases h

/-- back from a sort: a new list -/
theorem Good.gotList {C : Cx} {env : Env} {nm : Nm} {ci : List (Nat × Addr)} {X : List Res} {lv : LV} {φ : Phi} {σ : Hp} {s : Shared} {h2 : Heap} {tk : Nat} {m : Str → Option Value} {news : List (Addr × Obj)} {D : Addr} {out : List Value} {c : Nat} {l : List MV}
    (G : Good C env nm ci X lv φ σ s) (hm : ∀ o, s.heap.get? env.locals = some o → NsO o m) (F : Fr nilHeap env.locals h2 m) (N : News nilHeap env.locals h2 news) (hsub : ∀ p ∈ allBut env.locals s.heap, p ∈ news)
    (hD : (D, listOf (List.toArray out) c) ∈ news) (hlt : ∀ q ∈ allBut env.locals s.heap, q.1 < D) (hl : All2 (VRel C.W φ) l out) (ht : s.toks ≤ tk) : Good C env nm ci X lv (φ.add D) (hpush σ l) { s with heap := h2, toks := tk } := by
  have G2 : Good C env nm ci X lv φ σ { s with heap := h2, toks := tk } := G.ofFrame (s' := { s with heap := h2, toks := tk }) hm F N hsub rfl rfl ht
  have hD' := N _ hD
  have hnew : ∀ b o, s.heap.get? b = some o → b ≠ D := fun b o ho q => by
    subst q
    by_cases hb : b = env.locals
    · exact hD'.2.1 hb
    · exact Nat.lt_irrefl _ (hlt _ (allBut_mem ho hb))
  have R2 := G2.rel.addList (a := D) (items := l) (fun q => by
    rcases List.mem_append.mp q with q | q
    · obtain ⟨i, hi, ei⟩ := List.mem_iff_getElem.mp q
      have hi' : i < (hlen σ) := G.rel.len ▸ hi
      obtain ⟨its, hits⟩ := G.rel.hok.has hi'
      obtain ⟨o, k1, _⟩ := G.rel.lists i D its (by rw [List.getElem?_eq_getElem hi, ei]) hits
      exact hnew _ _ k1 rfl
    · obtain ⟨pr, k1, rfl⟩ := List.mem_map.mp q
      obtain ⟨o, k2, _⟩ := G.rel.xs pr k1
      exact hnew _ _ k2 rfl) (by
    cases q : C.g.get? D with
    | none => rfl
    | some o => exact absurd rfl (hnew _ _ (G.rel.keep _ _ q))) hD'.1 ⟨_, c, rfl, by
      have : (List.toArray out).toList = out := rfl
      rw [this]
      exact hl.mono fun _ _ => VRel.mono Pre.add⟩
  exact G2.next Pre.add R2

theorem IntsAre.of : ∀ {vs : List Value} {ks : List Int}, vs.length = ks.length → (∀ (i : Nat) (k : Int), ks[i]? = some k → ∃ t, vs[i]? = some (.int k t)) → IntsAre vs ks
  | [], [], _, _ => .nil
  | v :: vs, k :: ks, hl, h => by
    obtain ⟨t, e⟩ := h 0 k rfl
    simp at e
    subst e
    exact .cons k t (IntsAre.of (by simpa using hl) fun i k' e => by simpa using h (i + 1) k' (by simpa using e))
  | [], _ :: _, hl, _ => by cases hl
  | _ :: _, [], hl, _ => by cases hl

theorem keys_run {prog : Program} {w : World} {A : Around} {L : Addr} {m : Str → Option Value} {kS D : Addr} {e1 : Nat} {f : Value} {Fin : List Value → Nat → Shared → Prop} {base : List (Addr × Obj)} {vs : List Value} {ks : List Int} {s₂ : Shared}
    (hvs : ∀ i, i < 5 → ∃ t, vs[i]? = some (.int (0 + i * 1) t)) (hvl : vs.length = 5) (hks : ks.length = 5) (hDk : D < kS) (hb : ∀ q ∈ base, q.1 < D)
    (hfin : ∀ ksv e hh tk, ksv.length = 5 → (∀ (i : Nat) (k : Int), ks[i]? = some k → ∃ t, ksv[i]? = some (.int k t)) → Fr nilHeap L hh m → News nilHeap L hh ((kS, seqObj "list" (List.toArray ksv) e) :: (D, seqObj "list" #[] e1) :: base) → Fin ksv e { s₂ with heap := hh, toks := tk })
    (hcall : ∀ (hh : Heap) (tk j : Nat) (k : Int) (u : Tok) (Q : Value → Shared → Prop), ks[j]? = some k → (∀ p ∈ base, hh.get? p.1 = some p.2) → (∀ h' tk' t, (∀ b o, hh.get? b = some o → h'.get? b = some o) → Q (.int k t) { s₂ with heap := h', toks := tk' }) →
      wpAny (model prog w) A (call f [.int (0 + j * 1) u]) Q (fun _ _ => False) { s₂ with heap := hh, toks := tk }) :
    ∀ (n j : Nat) (ksv : List Value) (e : Nat) (hh : Heap) (tk : Nat), n + j = 5 → ksv.length = j → (∀ (i : Nat) (k : Int), i < j → ks[i]? = some k → ∃ t, ksv[i]? = some (.int k t)) → Fr nilHeap L hh m → News nilHeap L hh ((kS, seqObj "list" (List.toArray ksv) e) :: (D, seqObj "list" #[] e1) :: base) →
      KatKeys prog w A nilHeap L m kS f Fin (vs.drop j) ksv e { s₂ with heap := hh, toks := tk } := by
  intro n
  induction n with
  | zero =>
    intro j ksv e hh tk hj hl hk F N
    have hj5 : j = 5 := by omega
    subst hj5
    rw [List.drop_of_length_le (by omega)]
    exact KatKeys.nil (hfin ksv e hh tk hl (fun i k e => hk i k (by have := (List.getElem?_eq_some_iff.mp e).1; omega) e) F N)
  | succ n ih =>
    intro j ksv e hh tk hj hl hk F N
    have hj5 : j < 5 := by omega
    obtain ⟨u, hu⟩ := hvs j hj5
    obtain ⟨hjl, hje⟩ := List.getElem?_eq_some_iff.mp hu
    rw [List.drop_eq_getElem_cons hjl, hje]
    have hjk : j < ks.length := by omega
    refine KatKeys.cons (hcall hh tk j ks[j] u _ (List.getElem?_eq_getElem hjk) (fun p hp => (N p (.tail _ (.tail _ hp))).1) fun h' tk' t hkeep => ?_)
    refine KatBack.intro (F.kept hkeep) (N.grown hkeep) (.head fun q hq => ?_) fun h2 c F2 N2 => ?_
    · rcases List.mem_cons.mp hq with rfl | hq
      · exact Nat.ne_of_lt hDk
      · exact Nat.ne_of_lt (Nat.lt_trans (hb q hq) hDk)
    · refine ih (j + 1) (ksv ++ [.int ks[j] t]) c h2 tk' (by omega) (by simp [hl]) (fun i k hi he => ?_) F2 N2
      by_cases hij : i < j
      · obtain ⟨t', ht'⟩ := hk i k hij he
        exact ⟨t', by rw [List.getElem?_append_left (by omega)]; exact ht'⟩
      · have : i = j := by omega
        subst this
        rw [List.getElem?_eq_getElem hjk] at he
        cases he
        exact ⟨t, by rw [List.getElem?_append_right (Nat.le_of_eq hl), hl]; simp⟩

theorem sortK_eval {C : Cx} {d : Nat} {nm : Nm} {P : Addr} {ps : Array Value} {posL : Pos} {params : Arguments} {p p' p1 p2 p3 p4 p5 q1 q2 kp pos : Pos} {z z2 : Nat} (L : LamOk C P ps posL) (hm : C.mg "sorted" = none) (hx : nm.lookup ("sorted" : Str) = some .globalImplicit) (hm2 : C.mg "range" = none) (hx2 : nm.lookup ("range" : Str) = some .globalImplicit)
    (hnm : nm[0]? = some (Str.ofString "script", .cell)) (hfree : nm.all (fun x => x.2 != .free) = true) (i : Nat) (hi : nm[i]? = some (Str.ofString "sums", .cell)) (hdef : ∀ env, defaultsOf params env = ([], []))
    (hbind : ∀ nme qual body scope cl pm cdv ct v, bindArgs (kla_fn nme qual params body scope cl pm cdv ct) ⟨[v], []⟩ = pure [(Str.ofString "place", v)])
    {A : Around} {env : Env} {ci : List (Nat × Addr)} {X : List Res} {lv : LV} {φ : Phi} {σ : Hp} {s : Shared} {r : Nat} {l : List MV} {Q E : Value → Shared → Prop}
    (hA : OkA A (d + 2)) (hO : Own nm ci) (G : Good C env nm ci ((P, fun o => o = tabObj ps) :: X) lv φ σ s) (hv : lv[i]? = some (some (.ref r))) (hf : sortK σ r = some l)
    (h : ∀ (φ' : Phi) (s' : Shared) (v : Value), Pre φ φ' → Good C env nm ci ((P, IsTab) :: X) lv φ' (hpush σ l) s' → VRel C.W φ' (.ref (hlen σ)) v → Q v s') :
    wpAny C.M A (eval (.Call (.Name "sorted" p) [.Call (.Name "range" p') [.Constant (.int 5) z q1] [] q2] [⟨some (Str.ofString "key"), .Lambda params (.Subscript (.Subscript (.Name "sums" p1) (.Name "place" p2) p3) (.Constant (.int 0) z2 p4) p5) lamScope posL, kp⟩] pos) env) Q E s := by
  unfold sortK at hf
  split at hf
  · rename_i xs e1
    split at hf
    · rename_i ks e2
      split at hf
      · rename_i hlen
        split at hf
        · rename_i pp e3
          split at hf
          · rename_i hall
            cases hf
            refine wpAny_Call_Name_kw (name_builtin (v := .builtin "sorted") G hm hx (by decide) (by decide) (by rfl) ?_)
            refine callWith_builtin_kwB rfl rfl ?_
            refine evalArgs_kwB rfl ?_
            refine Calls.spliced_cons ?_
            refine wpAny_Call_NameR (name_builtin (v := .type "range") G hm2 hx2 (by decide) (by decide) (by rfl) ?_)
            refine PySem.callWith_type rfl (Calls.evalArgs_plain (Calls.spliced_cons (wpAny_Constant_int (k := z) (pos := q1) (Calls.spliced_nil ?_))))
            refine call_range_1 (Calls.spliced_nil ?_)
            have G1 := G.ext (s' := { s with heap := s.heap.push { cls := .type "range", data := .fields #[.int 0 (s.toks + 1), .int 5 s.toks, .int 1 (s.toks + 1 + 1)] }, toks := s.toks + 1 + 1 + 1 }) (fun b o e => Heap.get?_push_of_some _ e) rfl rfl (Nat.le_add_right _ 3)
            have hr0 : IsRange (s.heap.push { cls := .type "range", data := .fields #[.int 0 (s.toks + 1), .int 5 s.toks, .int 1 (s.toks + 1 + 1)] }) s.heap.objs.size 0 5 1 (s.toks + 1) s.toks (s.toks + 1 + 1) := IsRange.new ..
            refine (fun (key : ∀ s₁ : Shared, Good C env nm ci ((P, fun o => o = tabObj ps) :: X) lv φ σ s₁ → IsRange s₁.heap s.heap.objs.size 0 5 1 (s.toks + 1) s.toks (s.toks + 1 + 1) → wpAny C.M A (evalAll [(do let v ← eval (.Lambda params (.Subscript (.Subscript (.Name "sums" p1) (.Name "place" p2) p3) (.Constant (.int 0) z2 p4) p5) lamScope posL) env; standAt pos; pure v)]) (fun kvs s₂ => wpAny C.M A (call (.builtin "sorted") [.ref s.heap.objs.size] ([Str.ofString "key"].zip kvs)) Q E s₂) E s₁) => key _ G1 hr0) ?_
            intro s₁ G1 hr1
            obtain ⟨cS, hcS⟩ := hO i _ hi
            obtain ⟨y, y1, y2⟩ := G1.ok.cell i cS hcS
            rw [hi] at y1; cases y1
            obtain ⟨oP, hP, hoP⟩ := G1.rel.xs (P, fun o => o = tabObj ps) (by simp)
            have hoP : oP = tabObj ps := hoP
            subst hoP
            have hrP : s.heap.objs.size ≠ P := fun q => by
              have hr1' := hr1
              unfold IsRange at hr1'
              rw [q, hP] at hr1'
              cases hr1'
            have hb' : s₁.heap.BuiltinsAt C.mg P := let ⟨bm, o, b1, b2, b3, b4, b5, b6⟩ := L.hb; ⟨bm, o, b1, b2, b3, b4, G1.rel.keep _ _ b5, b6⟩
            refine wpAny_evalAll_cons (wpAny_bind (wpAny_with_toks (Nat.le_refl _) (kla_eval (hdef env) (kla_makeFunction (c := C.W.lcd) (P := P) (ps := ps) (mg := C.mg) (clos_lam y2) G1.ok.gl (C.hg.keeps G1.rel.keep) (G1.ok.cd hnm) (L.hd.keeps G1.rel.keep) hP L.ht L.hnf L.hgP hb' fun c' ctv h' tk hx hge hlt hrec htb htk => ?_))))
            refine wpAny_bind (wpAny_standAt (wpAny_pure (wpAny_evalAll_nil ?_)))
            have hfr : ∀ (j : Nat) (x : Str) (k : NameKind), nm[j]? = some (x, k) → (k = .cell ∨ k = .free) → (∃ c, (j, c) ∈ ci) ∨ ∃ c P', env.cells.lookup x = some c ∧ (c, P') ∈ ((P, IsTab) :: X) ∧ ∀ o, P' o → PCell C.W lv[j]? φ o := by
              intro j x k g1 g2
              rcases g2 with rfl | rfl
              · exact .inl (hO j x g1)
              · have := List.all_eq_true.mp hfree _ (List.mem_of_getElem? g1)
                simp at this
            have K2 : EnvOk C.W env nm ci lv φ ((P, IsTab) :: X) := { G1.ok with free := hfr }
            have R2 := (Rel.upd (s' := { s₁ with heap := h', toks := tk }) (P' := IsTab) (G1.rel.perm List.perm_middle) hx htb ⟨_, rfl⟩ rfl rfl htk).perm (List.perm_middle (l₁ := vres C.W env nm ci lv φ)).symm
            refine (fun (key : ∀ s₂ : Shared, Good C env nm ci ((P, IsTab) :: X) lv φ σ s₂ → IsRange s₂.heap s.heap.objs.size 0 5 1 (s.toks + 1) s.toks (s.toks + 1 + 1) → s₂.heap.get? h'.objs.size = some (kla_obj "<lambda>" (env.qual ++ "<lambda>") params (.Subscript (.Subscript (.Name "sums" p1) (.Name "place" p2) p3) (.Constant (.int 0) z2 p4) p5) lamScope [(Str.ofString "sums", cS)] ((C.mg "__name__").getD .none) c' ctv) →
              s₂.heap.CodeRec (.ref c') (env.qual ++ "<lambda>") → wpAny C.M A (call (.builtin "sorted") [.ref s.heap.objs.size] [(Str.ofString "key", .ref h'.objs.size)]) Q E s₂) =>
              key { s₁ with heap := h'.push (kla_obj "<lambda>" (env.qual ++ "<lambda>") params (.Subscript (.Subscript (.Name "sums" p1) (.Name "place" p2) p3) (.Constant (.int 0) z2 p4) p5) lamScope [(Str.ofString "sums", cS)] ((C.mg "__name__").getD .none) c' ctv), toks := tk }
                ⟨K2, R2.ext fun b o e => Heap.get?_push_of_some _ e⟩ (Heap.get?_push_of_some _ (hx _ _ hrP hr1)) (Heap.get?_push_size _ rfl) (let ⟨c, oc, vs, tq, a1, a2, a3, a4⟩ := hrec; ⟨c, oc, vs, tq, a1, Heap.get?_push_of_some _ a2, a3, a4⟩)) ?_
            intro s₂ G2 hr2 hfo hcr
            obtain ⟨oL, hL, hPL⟩ := G2.rel.xs (env.locals, PLoc C.W nm lv φ) (by simp [vres])
            obtain ⟨m, hnm2, _⟩ := hPL
            have hmm : ∀ o, s₂.heap.get? env.locals = some o → NsO o m := fun o ho => by rw [hL] at ho; cases ho; exact hnm2
            have neL : ∀ b o, s₂.heap.get? b = some o → (∀ e p, o.data ≠ .dict e p) → b ≠ env.locals := fun b o ho hd q => by
              subst q
              obtain ⟨es, ep, a1, _⟩ := hmm o ho
              exact hd _ _ a1
            obtain ⟨oC, hC, cv, hcd, hcv⟩ := G2.rel.xs (cS, PCell C.W lv[i]? φ) (by
              refine List.mem_append_left _ (List.mem_cons_of_mem _ ?_)
              exact List.mem_map.mpr ⟨(i, cS), hcS, rfl⟩)
            obtain ⟨vS, rfl, aS, hφS, rfl⟩ := hcv _ hv
            obtain ⟨aS', vsS, g1, ⟨nS, g2⟩, g3⟩ := G2.rel.getList e1
            rw [hφS] at g1; cases g1
            obtain ⟨hkl, hkg⟩ := keyL_get e2
            have hks5 : ks.length = 5 := by rw [hkl, hlen]
            refine wpAny_with_toks (Nat.le_refl _) (sortR (n := 5) hA.hd (frAll (hnm2.ns hL)) newsAll hr2 (by decide) (by decide) (by decide) (by decide) (ksk_s1 _ _) (fun x => ksk_l1 _ _) (fun x => ksk_t1 _ x) fun vs hvl hvs D kS e1' h3 tk3 F3 N3 hDk hlt => ?_)
            have hrun := keys_run (prog := C.prog) (w := C.w) (A := A.in1.in1) (L := env.locals) (m := m) (kS := kS) (D := D) (e1 := e1') (f := .ref h'.objs.size) (base := allBut env.locals s₂.heap) (vs := vs) (ks := ks) (s₂ := s₂)
              (Fin := fun ks' e s' => wpAny (model C.prog C.w) A.in1.in1 (keyKind' (List.toArray ks')) (fun κ s'' => (kas_sort 5).kasWp (kas_ask C.prog C.w A.in1.in1 κ ks') (fun p s3 => KatFin nilHeap env.locals m kS D ks' e e1' (p.toList.map fun i => vs.getD i Value.none) (fun s4 => s₂.toks ≤ s4.toks → Q (.ref D) s4) s3) s'') (fun _ _ => False) s')
              hvs hvl hks5 hDk hlt (fun ksv e hh tk' hkl' hkk F4 N4 => ?_) (fun hh tk' j k u Q' hj hbase hQ' => ?_) 5 0 [] 0 h3 tk3 rfl rfl (fun i k hi => by omega) F3 N3
            · exact hrun
            · rw [ksk_kind (kz := ks) (IntsAre.of (by rw [hkl', hks5]) hkk) (by show 2 ≤ ksv.length; omega)]
              refine wpAny_pure (runT_wp (ask := askK ks) (fun a b bb K hask hK => ?_) _ pp e3 ?_)
              · unfold askK at hask
                split at hask
                · rename_i ka kb ga gb
                  cases hask
                  obtain ⟨ta, ha⟩ := hkk _ _ ga
                  obtain ⟨tb, hb⟩ := hkk _ _ gb
                  show wpAny (model C.prog C.w) A.in1.in1 (keyLt' oneType' (ksv.getD a .none) (ksv.getD b .none)) K (fun _ _ => False) _
                  rw [List.getD_eq_getElem?_getD, List.getD_eq_getElem?_getD, ha, hb]
                  exact kat_lt_int hK
                · cases hask
              · refine KatFin.intro F4 N4 (.head fun q hq => ?_) fun h5 c5 F5 N5 => KasFin.intro F5 N5 (.tail (Nat.ne_of_gt hDk) (.head fun q hq => Nat.ne_of_lt (hlt q hq))) fun h6 c6 F6 N6 ht6 => ?_
                · rcases List.mem_cons.mp hq with rfl | hq
                  · exact Nat.ne_of_lt hDk
                  · exact Nat.ne_of_lt (Nat.lt_trans (hlt q hq) hDk)
                · refine h _ _ _ Pre.add (G2.gotList (s := s₂) hmm F6 N6 (fun q hq => .tail _ (.tail _ hq)) (.tail _ (.head _)) hlt ?_ ht6) (newRef G2.rel.len)
                  have : ∀ is : List Nat, is.all (· < 5) = true → All2 (VRel C.W φ) (is.map fun i => .int (i : Nat)) (is.map fun i => vs.getD i Value.none) := by
                    intro is
                    induction is with
                    | nil => intro _; exact trivial
                    | cons a r ih =>
                      intro ha
                      rw [List.all_cons, Bool.and_eq_true] at ha
                      refine ⟨?_, ih ha.2⟩
                      obtain ⟨t, ht⟩ := hvs a (of_decide_eq_true ha.1)
                      refine ⟨t, ?_⟩
                      show vs.getD a .none = _
                      rw [List.getD_eq_getElem?_getD, ht]
                      simp
                  exact this _ hall
            · obtain ⟨qq, a, lq, hxq, hσq, hau⟩ := hkg j k hj
              obtain ⟨vq, gq1, aq, gq2, rfl⟩ := g3.get hxq
              obtain ⟨aq', its, w1, ⟨nq, w2⟩, w3⟩ := G2.rel.getList hσq
              rw [gq2] at w1; cases w1
              obtain ⟨v0, w4, w5⟩ := w3.get (i := 0) (m := a) rfl
              obtain ⟨t0, rfl⟩ := w5.isInt hau
              have old : ∀ b o, s₂.heap.get? b = some o → (∀ e p, o.data ≠ .dict e p) → hh.get? b = some o := fun b o ho hd => hbase _ (allBut_mem ho (neL b o ho hd))
              have hj5 : j < 5 := by rw [← hks5]; exact (List.getElem?_eq_some_iff.mp hj).1
              refine lam_call (s := { s₂ with heap := hh, toks := tk' }) (items := vsS) (its := its) (i := 0 + j * 1) rfl hA.room (old _ _ hfo fun _ _ q => by cases q) (let ⟨c, oc, vs, tq, a1, a2, a3, a4⟩ := hcr; ⟨c, oc, vs, tq, a1, old _ _ a2 (fun _ _ q => by rw [a3] at q; cases q), a3, a4⟩)
                (C.nolim.keeps fun b o e => hbase _ (allBut_mem (G2.rel.keep _ _ e) fun q => by
                  have := G2.rel.fresh env.locals (List.mem_append_right _ (by simp [vres]))
                  rw [q, this] at e; cases e)) (fun v => hbind _ _ _ _ _ _ _ _ v) ⟨oC, old _ _ hC (fun _ _ q => by rw [hcd] at q; cases q), hcd⟩ (old _ _ g2 fun _ _ q => by cases q) (by omega) (by omega) ?_ (old _ _ w2 fun _ _ q => by cases q) ?_ fun h7 tk7 hk7 _ => hQ' h7 tk7 t0 hk7
              · rw [← Array.getElem?_toList, show ((0 : Int) + j * 1).toNat = j by omega]; exact gq1
              · rw [← Array.getElem?_toList]; exact w4
          · cases hf
        · cases hf
      · cases hf
    · cases hf
  · cases hf
end Mine
end

section
set_option maxHeartbeats 1000000
namespace Mine

/-! the law's own loop over the sorted places -/
noncomputable abbrev TabRes (P : Addr) (ps : Array Value) : Res := (P, fun o => o = tabObj ps)

theorem EnvOk.dropX {W : Val} {env : Env} {nm : Nm} {ci : List (Nat × Addr)} {lv : LV} {φ : Phi} {X X' : List Res} (K : EnvOk W env nm ci lv φ X) (hO : Own nm ci) (hfree : nm.all (fun x => x.2 != .free) = true) : EnvOk W env nm ci lv φ X' :=
  have hfr : ∀ (j : Nat) (x : Str) (k : NameKind), nm[j]? = some (x, k) → (k = .cell ∨ k = .free) → (∃ c, (j, c) ∈ ci) ∨ ∃ c P, env.cells.lookup x = some c ∧ (c, P) ∈ X' ∧ ∀ o, P o → PCell W lv[j]? φ o := by
    intro j x k g1 g2
    rcases g2 with rfl | rfl
    · exact .inl (hO j x g1)
    · have := List.all_eq_true.mp hfree _ (List.mem_of_getElem? g1)
      simp at this
  { K with free := hfr }
theorem Good.impX {C : Cx} {env : Env} {nm : Nm} {ci : List (Nat × Addr)} {lv : LV} {φ : Phi} {σ : Hp} {s : Shared} {P : Addr} {ps : Array Value} {X : List Res} (G : Good C env nm ci (TabRes P ps :: X) lv φ σ s) (hO : Own nm ci) (hfree : nm.all (fun x => x.2 != .free) = true) : Good C env nm ci ((P, IsTab) :: X) lv φ σ s :=
  ⟨G.ok.dropX hO hfree, G.rel.imp ((RImp.refl _).append (.cons (fun _ h => ⟨ps, h⟩) (RImp.refl X)))⟩

noncomputable def SBx (C : Cx) (d : Nat) (nm : Nm) (P : Addr) (ps : Array Value) (body : List Stmt) (f : XF) : Prop :=
  ∀ (A : Around) (env : Env) (ci : List (Nat × Addr)) (X : List Res) (lv : LV) (φ : Phi) (σ : Hp) (s : Shared) (fl : Fl) (lv' : LV) (σ' : Hp) (Q : Flow → Shared → Prop) (E : Value → Shared → Prop),
    OkA A d → Own nm ci → Good C env nm ci (TabRes P ps :: X) lv φ σ s → f lv σ = some (fl, lv', σ') →
    (∀ (φ' : Phi) (s' : Shared) (r : Flow), Pre φ φ' → Good C env nm ci ((P, IsTab) :: X) lv' φ' σ' s' → FlRel C.W φ' fl r → Q r s') → wpAny C.M A (execs body env) Q E s

theorem SBx_cons {C : Cx} {d : Nat} {nm : Nm} {P : Addr} {ps : Array Value} {st : Stmt} {rest : List Stmt} {f g : XF} (hfree : nm.all (fun x => x.2 != .free) = true) (h₁ : SS C d nm st f) (h₂ : SBx C d nm P ps rest g) : SBx C d nm P ps (st :: rest) (xSeq f g) := by
  intro A env ci X lv φ σ s fl lv' σ' Q E hA hO G hf h
  unfold xSeq at hf
  split at hf
  · rename_i lv₁ σ₁ e1
    refine wpAny_execs_cons (h₁ A env ci _ lv φ σ s .next lv₁ σ₁ _ _ hA hO G e1 fun φ₁ s₁ r p1 G1 r1 => ?_)
    obtain rfl : r = .next := r1
    exact h₂ A env ci X lv₁ φ₁ σ₁ s₁ fl lv' σ' Q E hA hO G1 hf fun φ₂ s₂ r p2 G2 r2 => h φ₂ s₂ r (pre_trans p1 p2) G2 r2
  · rename_i hne
    refine wpAny_execs_cons (h₁ A env ci _ lv φ σ s fl lv' σ' _ _ hA hO G hf fun φ₁ s₁ r p1 G1 r1 => ?_)
    cases fl with
    | next => exact absurd hf (hne _ _)
    | ret m =>
      obtain ⟨v, rfl, rv⟩ := r1
      exact h φ₁ s₁ _ p1 (G1.impX hO hfree) ⟨v, rfl, rv⟩

noncomputable def xForK (i : Nat) (gt : GT) (f oe : XF) (fuel : Nat) : XF := fun lv σ => match lv[i]? with
  | some (some (.ref r)) => match sortK σ r with
    | some l => xFor gt f oe fuel (.enu (hlen σ) 0) lv (hpush σ l)
    | none => none
  | _ => none

theorem SBx_for {C : Cx} {d : Nat} {nm : Nm} {P : Addr} {ps : Array Value} {posL : Pos} {params : Arguments} {p p' p0 p1 p2 p3 p4 p5 q1 q2 kp pos pos0 posF : Pos} {z z2 : Nat} {target : Expr} {body orelse rest : List Stmt} {gt : GT} {f oe g : XF} (fuel : Nat) (L : LamOk C P ps posL)
    (hm : C.mg "sorted" = none) (hx : nm.lookup ("sorted" : Str) = some .globalImplicit) (hm2 : C.mg "range" = none) (hx2 : nm.lookup ("range" : Str) = some .globalImplicit) (hm3 : C.mg "enumerate" = none) (hx3 : nm.lookup ("enumerate" : Str) = some .globalImplicit)
    (hnm : nm[0]? = some (Str.ofString "script", .cell)) (hfree : nm.all (fun x => x.2 != .free) = true) (i : Nat) (hi : nm[i]? = some (Str.ofString "sums", .cell)) (hdef : ∀ env, defaultsOf params env = ([], []))
    (hbind : ∀ nme qual body scope cl pm cdv ct v, bindArgs (kla_fn nme qual params body scope cl pm cdv ct) ⟨[v], []⟩ = pure [(Str.ofString "place", v)])
    (T : TGT nm true target gt) (hb : SB C (d + 2) nm body f) (ho : SB C (d + 2) nm orelse oe) (hr : SB C (d + 2) nm rest g)
    (hs : ∀ (env : Env) (x : Value), foldedSetIterable (.Call (.Name "enumerate" p0) [.Call (.Name "sorted" p) [.Call (.Name "range" p') [.Constant (.int 5) z q1] [] q2] [⟨some (Str.ofString "key"), .Lambda params (.Subscript (.Subscript (.Name "sums" p1) (.Name "place" p2) p3) (.Constant (.int 0) z2 p4) p5) lamScope posL, kp⟩] pos] [] pos0) env x = pure x := by intros; rfl) :
    SBx C (d + 2) nm P ps (.For target (.Call (.Name "enumerate" p0) [.Call (.Name "sorted" p) [.Call (.Name "range" p') [.Constant (.int 5) z q1] [] q2] [⟨some (Str.ofString "key"), .Lambda params (.Subscript (.Subscript (.Name "sums" p1) (.Name "place" p2) p3) (.Constant (.int 0) z2 p4) p5) lamScope posL, kp⟩] pos] [] pos0) body orelse posF :: rest)
      (xSeq (xForK i gt f oe fuel) g) := by
  intro A env ci X lv φ σ s fl lv' σ' Q E hA hO G hf h
  have hf2 : ∃ fl₁ lv₁ σ₁ r l, lv[i]? = some (some (.ref r)) ∧ sortK σ r = some l ∧ xFor gt f oe fuel (.enu (hlen σ) 0) lv (hpush σ l) = some (fl₁, lv₁, σ₁) ∧
      ((fl₁ = .next ∧ g lv₁ σ₁ = some (fl, lv', σ')) ∨ (fl₁ ≠ .next ∧ fl₁ = fl ∧ lv₁ = lv' ∧ σ₁ = σ')) := by
    unfold xSeq at hf
    split at hf
    · rename_i lv₁ σ₁ e1
      unfold xForK at e1
      split at e1
      · rename_i r q1
        split at e1
        · rename_i l q2
          exact ⟨_, _, _, r, l, q1, q2, e1, .inl ⟨rfl, hf⟩⟩
        · cases e1
      · cases e1
    · rename_i hne
      have hf' := hf
      unfold xForK at hf
      split at hf
      · rename_i r q1
        split at hf
        · rename_i l q2
          exact ⟨_, _, _, r, l, q1, q2, hf, .inr ⟨fun q => (by subst q; exact hne _ _ hf'), rfl, rfl, rfl⟩⟩
        · cases hf
      · cases hf
  obtain ⟨fl₁, lv₁, σ₁, r, l, hv, hsk, hfor, hrest⟩ := hf2
  refine wpAny_execs_cons ?_
  refine (fun (key : wpAny C.M A (exec (.For target _ body orelse posF) env) (fun fw s₁ => ∃ φ₁, Pre φ φ₁ ∧ Good C env nm ci ((P, IsTab) :: X) lv₁ φ₁ σ₁ s₁ ∧ FlRel C.W φ₁ fl₁ fw) E s) => wpAny_mono key (fun fw s₁ hk => ?_) fun _ _ x => x) ?_
  · obtain ⟨φ₁, p1, G1, r1⟩ := hk
    rcases hrest with ⟨rfl, hg⟩ | ⟨hne, rfl, rfl, rfl⟩
    · obtain rfl : fw = .next := r1
      exact hr A env ci _ lv₁ φ₁ σ₁ s₁ fl lv' σ' Q E hA hO G1 hg fun φ₂ s₂ r p2 G2 r2 => h φ₂ s₂ r (pre_trans p1 p2) G2 r2
    · cases fl₁ with
      | next => exact absurd rfl hne
      | ret m =>
        obtain ⟨v, rfl, rv⟩ := r1
        exact h φ₁ s₁ _ p1 G1 ⟨v, rfl, rv⟩
  · refine wpAny_For ?_ (hs env)
    refine wpAny_Call_NameR (name_builtin (v := .type "enumerate") G hm3 hx3 (by decide) (by decide) (by rfl) ?_)
    refine PySem.callWith_type rfl (Calls.evalArgs_plain (Calls.spliced_cons (sortK_eval (d := d) L hm hx hm2 hx2 hnm hfree i hi hdef hbind hA hO G hv hsk fun φ₀ s₀ v0 p0 G0 r0 => Calls.spliced_nil ?_)))
    obtain ⟨a, ha, rfl⟩ := r0
    have hr : (hlen σ) < hlen (hpush σ l) := Nat.lt_succ_self _
    obtain ⟨its, hits⟩ := G0.rel.hok.has hr
    obtain ⟨o, h1, vs, n, rfl, _⟩ := G0.rel.lists (hlen σ) a its ha hits
    refine call_enumerate_list (items := vs) ⟨_, h1, rfl, n, rfl⟩ fun h' he hit hsz hk => ?_
    refine wpAny_pyIter_enum he ?_
    obtain ⟨oi, g1, g2, g3⟩ := hit
    have R1 := G0.rel.push (s' := { s₀ with heap := h' }) (P := LitO a 0) hk (Nat.le_refl _) g1 ⟨g2, g3⟩
    have R2 := R1.add (a := s₀.heap.objs.size + 1) (P := EnuO s₀.heap.objs.size 0) (fun q => by
      rcases List.mem_append.mp q with q | q
      · exact absurd (G0.rel.size (List.mem_append_left _ q)) (Nat.not_lt.mpr (Nat.le_succ _))
      · rcases List.mem_cons.mp q with q | q
        · exact absurd q (Nat.succ_ne_self _)
        · exact absurd (G0.rel.size (List.mem_append_right _ q)) (Nat.not_lt.mpr (Nat.le_succ _))) (by
      cases q : C.g.get? (s₀.heap.objs.size + 1) with
      | none => rfl
      | some o' => exact absurd (Heap.lt_size (G0.rel.keep _ _ q)) (Nat.not_lt.mpr (Nat.le_succ _))) he ⟨_, rfl⟩
    have R3 := R2.perm ((mid_perm (vres C.W env nm ci lv φ₀) (ires (.enu (s₀.heap.objs.size + 1) s₀.heap.objs.size a) (.enu (hlen σ) 0)) ((P, IsTab) :: X)).symm)
    refine codeAny_forLoop_any (fun n s => ∃ is lv₂ φ₂ σ₂, Pre φ₀ φ₂ ∧ EnvOk C.W env nm ci lv₂ φ₂ ((P, IsTab) :: X) ∧ C.R φ₂ σ₂ (vres C.W env nm ci lv₂ φ₂ ++ (ires (.enu (s₀.heap.objs.size + 1) s₀.heap.objs.size a) is ++ ((P, IsTab) :: X))) s ∧ IOk φ₂ (.enu (s₀.heap.objs.size + 1) s₀.heap.objs.size a) is ∧ xFor gt f oe n is lv₂ σ₂ = some (fl₁, lv₁, σ₁)) ?_ fuel
      ⟨.enu (hlen σ) 0, lv, φ₀, _, pre_refl _, G0.ok, R3, ha, hfor⟩
    rintro n s₁ ⟨is, lv₂, φ₂, σ₂, p1, K1, R1, i1, e1⟩
    cases n with
    | zero => cases e1
    | succ n =>
      unfold xFor at e1
      split at e1
      · cases e1
      · rename_i hn
        refine turn (lv := lv₂) hA (fun _ i x h => hO i x h) T K1 R1 i1 hn (fun _ s₂ R2 => ?_) (fun iv is' q => by cases q) (fun iv is' q => by cases q)
        exact ho A env ci _ lv₂ φ₂ σ₂ s₂ fl₁ lv₁ σ₁ _ _ hA hO ⟨K1, R2⟩ e1 fun φ₃ s₃ r p2 G2 r2 => ⟨φ₃, pre_trans p0 (pre_trans p1 p2), G2, r2⟩
      · rename_i iv is' hn
        split at e1
        · cases e1
        · rename_i lv₃ hg
          refine turn (lv := lv₂) hA (fun _ i x h => hO i x h) T K1 R1 i1 hn (fun q => by cases q) (fun iv' is'' q lv₄ hg' φt s₂ pt G2 i2 => ?_) (fun iv' is'' q => by cases q; exact ⟨_, hg⟩)
          cases q
          rw [hg] at hg'; cases hg'
          split at e1
          · rename_i lv₄ σ₄ e4
            refine hb A env ci _ lv₃ φt σ₂ s₂ .next lv₄ σ₄ _ _ hA hO G2 e4 fun φ₃ s₃ r p3 G3 r3 => ?_
            obtain rfl : r = .next := r3
            exact ⟨n, Nat.lt_succ_self n, is', lv₄, φ₃, σ₄, pre_trans p1 (pre_trans pt p3), Good.back (lv0 := lv₂) K1 G3, G3.rel, i2.mono p3, e1⟩
          · rename_i hne
            refine hb A env ci _ lv₃ φt σ₂ s₂ fl₁ lv₁ σ₁ _ _ hA hO G2 e1 fun φ₃ s₃ r p3 G3 r3 => ?_
            cases fl₁ with
            | next => exact absurd e1 (hne _ _)
            | ret m =>
              obtain ⟨v, rfl, rv⟩ := r3
              exact ⟨φ₃, pre_trans p0 (pre_trans p1 (pre_trans pt p3)), ⟨Good.back (lv0 := lv₂) K1 G3, (G3.rel.perm (mid_perm _ _ _)).drops⟩, ⟨v, rfl, rv⟩⟩
end Mine
end

section
set_option maxHeartbeats 4000000
namespace Mine
/-- the builtins' and the defs' names -/
noncomputable def fnAddrs : List (Str × Nat) := [("lt", 78), ("gt", 85), ("add", 92), ("mul", 99), ("sub", 106), ("concat", 113), ("countOf", 120), ("delitem", 127), ("getitem", 134), ("indexOf", 141), ("setitem", 148),
  ("_law_dress", 155), ("_law_signs", 162), ("_law_mates", 169), ("_law_pairs", 174), ("_law_order", 179), ("_law_row", 184), ("_law_middle", 191), ("law", 196), ("_check_parenthesis", 35),
  ("insort_right", 44), ("bisect_right", 53), ("insort_left", 62), ("bisect_left", 71)]
noncomputable def noNames : List Str := ["range", "enumerate", "len", "min", "max", "sorted", "sum", "hasattr"]
structure Ctx (C : Cx) (par : List (Option Int)) : Prop where
  hdt : DtOk C
  hpar : ParOk C par
  fn : ∀ (x : Str) (a : Nat), fnAddrs.lookup x = some a → C.mg x = some (.ref a)
  no : ∀ x : Str, noNames.contains x = true → C.mg x = none
  dress : DressOk C
  sc : ScOk C
  chk : Fun C 17 35 F_check_parenthesis

noncomputable def nm_law_dress : Nm := [(Str.ofString "cell", NameKind.local)]
noncomputable def nm_lt : Nm := [(Str.ofString "a", NameKind.local), (Str.ofString "b", NameKind.local)]
noncomputable def nm_gt : Nm := [(Str.ofString "a", NameKind.local), (Str.ofString "b", NameKind.local)]
noncomputable def nm_add : Nm := [(Str.ofString "a", NameKind.local), (Str.ofString "b", NameKind.local)]
noncomputable def nm_mul : Nm := [(Str.ofString "a", NameKind.local), (Str.ofString "b", NameKind.local)]
noncomputable def nm_sub : Nm := [(Str.ofString "a", NameKind.local), (Str.ofString "b", NameKind.local)]
noncomputable def nm_concat : Nm := [(Str.ofString "a", NameKind.local), (Str.ofString "b", NameKind.local), (Str.ofString "msg", NameKind.local), (Str.ofString "hasattr", NameKind.globalImplicit), (Str.ofString "type", NameKind.globalImplicit), (Str.ofString "TypeError", NameKind.globalImplicit)]
noncomputable def nm_countOf : Nm := [(Str.ofString "a", NameKind.local), (Str.ofString "b", NameKind.local), (Str.ofString "count", NameKind.local), (Str.ofString "i", NameKind.local)]
noncomputable def nm_delitem : Nm := [(Str.ofString "a", NameKind.local), (Str.ofString "b", NameKind.local)]
noncomputable def nm_getitem : Nm := [(Str.ofString "a", NameKind.local), (Str.ofString "b", NameKind.local)]
noncomputable def nm_indexOf : Nm := [(Str.ofString "a", NameKind.local), (Str.ofString "b", NameKind.local), (Str.ofString "i", NameKind.local), (Str.ofString "j", NameKind.local), (Str.ofString "enumerate", NameKind.globalImplicit), (Str.ofString "ValueError", NameKind.globalImplicit)]
noncomputable def nm_setitem : Nm := [(Str.ofString "a", NameKind.local), (Str.ofString "b", NameKind.local), (Str.ofString "c", NameKind.local)]
noncomputable def nm_law_middle : Nm := [(Str.ofString "pair", NameKind.local), (Str.ofString "add", NameKind.globalImplicit), (Str.ofString "getitem", NameKind.globalImplicit)]
noncomputable def nm_bisect_right : Nm := [(Str.ofString "a", NameKind.local), (Str.ofString "x", NameKind.local), (Str.ofString "lo", NameKind.local), (Str.ofString "hi", NameKind.local), (Str.ofString "key", NameKind.local), (Str.ofString "mid", NameKind.local), (Str.ofString "ValueError", NameKind.globalImplicit), (Str.ofString "len", NameKind.globalImplicit)]
noncomputable def nm_bisect_left : Nm := [(Str.ofString "a", NameKind.local), (Str.ofString "x", NameKind.local), (Str.ofString "lo", NameKind.local), (Str.ofString "hi", NameKind.local), (Str.ofString "key", NameKind.local), (Str.ofString "mid", NameKind.local), (Str.ofString "ValueError", NameKind.globalImplicit), (Str.ofString "len", NameKind.globalImplicit)]
noncomputable def nm_insort_right : Nm := [(Str.ofString "a", NameKind.local), (Str.ofString "x", NameKind.local), (Str.ofString "lo", NameKind.local), (Str.ofString "hi", NameKind.local), (Str.ofString "key", NameKind.local), (Str.ofString "bisect_right", NameKind.globalImplicit)]
noncomputable def nm_insort_left : Nm := [(Str.ofString "a", NameKind.local), (Str.ofString "x", NameKind.local), (Str.ofString "lo", NameKind.local), (Str.ofString "hi", NameKind.local), (Str.ofString "key", NameKind.local), (Str.ofString "bisect_left", NameKind.globalImplicit)]
noncomputable def nm_law_signs : Nm := [(Str.ofString "cells", NameKind.local), (Str.ofString "signs", NameKind.local), (Str.ofString "k", NameKind.local), (Str.ofString "opened", NameKind.local), (Str.ofString "range", NameKind.globalImplicit)]
noncomputable def nm_law_mates : Nm := [(Str.ofString "signs", NameKind.local), (Str.ofString "waiting", NameKind.local), (Str.ofString "mates", NameKind.local), (Str.ofString "k", NameKind.local), (Str.ofString "range", NameKind.globalImplicit), (Str.ofString "sorted", NameKind.globalImplicit)]
noncomputable def nm_law_pairs : Nm := [(Str.ofString "pieces", NameKind.local), (Str.ofString "mates", NameKind.local), (Str.ofString "pairs", NameKind.local), (Str.ofString "a", NameKind.cell), (Str.ofString "b", NameKind.cell), (Str.ofString "told", NameKind.local), (Str.ofString "range", NameKind.globalImplicit), (Str.ofString "_check_parenthesis", NameKind.globalImplicit)]
noncomputable def nm_law_order : Nm := [(Str.ofString "signs", NameKind.cell), (Str.ofString "k", NameKind.local), (Str.ofString "top", NameKind.local), (Str.ofString "low", NameKind.local), (Str.ofString "order", NameKind.local), (Str.ofString "out", NameKind.local), (Str.ofString "place", NameKind.local), (Str.ofString "range", NameKind.globalImplicit), (Str.ofString "getitem", NameKind.globalImplicit), (Str.ofString "sub", NameKind.globalImplicit), (Str.ofString "bisect_left", NameKind.globalImplicit), (Str.ofString "delitem", NameKind.globalImplicit), (Str.ofString "setitem", NameKind.globalImplicit)]
noncomputable def nm_law_row : Nm := [(Str.ofString "order", NameKind.local), (Str.ofString "top", NameKind.local), (Str.ofString "low", NameKind.cell), (Str.ofString "rear", NameKind.local), (Str.ofString "x", NameKind.local), (Str.ofString "place", NameKind.local), (Str.ofString "bisect_right", NameKind.globalImplicit), (Str.ofString "len", NameKind.globalImplicit), (Str.ofString "insort_right", NameKind.globalImplicit), (Str.ofString "getitem", NameKind.globalImplicit), (Str.ofString "setitem", NameKind.globalImplicit), (Str.ofString "range", NameKind.globalImplicit)]
noncomputable def nm_law : Nm := [(Str.ofString "script", NameKind.cell), (Str.ofString "k", NameKind.local), (Str.ofString "cells", NameKind.cell), (Str.ofString "signs", NameKind.cell), (Str.ofString "mates", NameKind.local), (Str.ofString "pairs", NameKind.local), (Str.ofString "order", NameKind.cell), (Str.ofString "laid", NameKind.local), (Str.ofString "back", NameKind.local), (Str.ofString "plain", NameKind.local), (Str.ofString "turned", NameKind.local), (Str.ofString "which", NameKind.local), (Str.ofString "ahead", NameKind.local), (Str.ofString "upto", NameKind.local), (Str.ofString "lo", NameKind.local), (Str.ofString "hi", NameKind.local), (Str.ofString "fore", NameKind.local), (Str.ofString "rear", NameKind.local), (Str.ofString "both", NameKind.local), (Str.ofString "ones", NameKind.local), (Str.ofString "due", NameKind.local), (Str.ofString "best", NameKind.local), (Str.ofString "text", NameKind.local), (Str.ofString "alone", NameKind.local), (Str.ofString "piece", NameKind.local), (Str.ofString "moved", NameKind.local), (Str.ofString "sums", NameKind.cell), (Str.ofString "enumerate", NameKind.globalImplicit), (Str.ofString "_law_signs", NameKind.globalImplicit), (Str.ofString "_law_mates", NameKind.globalImplicit), (Str.ofString "_law_pairs", NameKind.globalImplicit), (Str.ofString "range", NameKind.globalImplicit), (Str.ofString "_law_order", NameKind.globalImplicit), (Str.ofString "_law_row", NameKind.globalImplicit), (Str.ofString "insort_right", NameKind.globalImplicit), (Str.ofString "_law_middle", NameKind.globalImplicit), (Str.ofString "insort_left", NameKind.globalImplicit), (Str.ofString "sorted", NameKind.globalImplicit), (Str.ofString "bisect_left", NameKind.globalImplicit), (Str.ofString "bisect_right", NameKind.globalImplicit), (Str.ofString "countOf", NameKind.globalImplicit), (Str.ofString "sub", NameKind.globalImplicit), (Str.ofString "indexOf", NameKind.globalImplicit), (Str.ofString "min", NameKind.globalImplicit), (Str.ofString "max", NameKind.globalImplicit), (Str.ofString "concat", NameKind.globalImplicit), (Str.ofString "mul", NameKind.globalImplicit), (Str.ofString "_law_dress", NameKind.globalImplicit), (Str.ofString "_check_parenthesis", NameKind.globalImplicit)]
noncomputable def X_law_dress : XF := (xSeq (xRet (eDress (eList (lCons (fun _ σ => some (.str (List.map At.ch []), σ)) (lCons (fun _ σ => some (.str (List.map At.ch [92, 41]), σ)) (lCons (fun _ σ => some (.str (List.map At.ch [92, 40]), σ)) (lCons (fun _ σ => some (.str (List.map At.ch [34, 40, 34]), σ)) (lCons (fun _ σ => some (.str (List.map At.ch [92, 92]), σ)) (lCons (fun _ σ => some (.str (List.map At.ch [92, 34]), σ)) (lCons (fun _ σ => some (.str (List.map At.ch [92, 92, 34, 41, 92, 34, 34]), σ)) lNil)))))))) 0))
  xNil)
noncomputable def F_law_dress : F1 := mkF 1 1 (X_law_dress)
noncomputable def X_lt : XF := (xSeq (xRet (eBin aLt (eVar 0) (eVar 1)))
  xNil)
noncomputable def F_lt : F1 := mkF 2 2 (X_lt)
noncomputable def X_gt : XF := (xSeq (xRet (eBin (opI fGt) (eVar 0) (eVar 1)))
  xNil)
noncomputable def F_gt : F1 := mkF 2 2 (X_gt)
noncomputable def X_add : XF := (xSeq (xRet (eBin aAdd (eVar 0) (eVar 1)))
  xNil)
noncomputable def F_add : F1 := mkF 2 2 (X_add)
noncomputable def X_mul : XF := (xSeq (xRet (eBin aMul (eVar 0) (eVar 1)))
  xNil)
noncomputable def F_mul : F1 := mkF 2 2 (X_mul)
noncomputable def X_sub : XF := (xSeq (xRet (eBin (opI fSub) (eVar 0) (eVar 1)))
  xNil)
noncomputable def F_sub : F1 := mkF 2 2 (X_sub)
noncomputable def X_concat : XF := (xSeq (xIf (tNot (tOf (eCall (lCons (eVar 0) (lCons (fun _ σ => some (.str (List.map At.ch [95, 95, 103, 101, 116, 105, 116, 101, 109, 95, 95]), σ)) lNil)) bHas))) (fun _ _ => none) xNil)
  (xSeq (xRet (eBin aAdd (eVar 0) (eVar 1)))
  xNil))
noncomputable def F_concat : F1 := mkF 6 2 (X_concat)
noncomputable def X_countOf : XF := (xSeq (xSet 2 (fun _ σ => some (.int 0, σ)))
  (xSeq (xForS (sList (eVar 0)) (gOne 3) (xSeq (xIf (tOr (tOf (eBin aIs (eVar 3) (eVar 1))) (tOr (tOf (eBin aEq (eVar 3) (eVar 1))) (tEnd false))) (xSeq (xAug 2 (opI fAug) (fun _ σ => some (.int 1, σ)))
  xNil) xNil)
  xNil) xNil 20)
  (xSeq (xRet (eVar 2))
  xNil)))
noncomputable def F_countOf : F1 := mkF 4 2 (X_countOf)
noncomputable def X_delitem : XF := (xSeq (xDel aDel (eVar 0) (eVar 1))
  xNil)
noncomputable def F_delitem : F1 := mkF 2 2 (X_delitem)
noncomputable def X_getitem : XF := (xSeq (xRet (eBin (seqOnly aGet) (eVar 0) (eVar 1)))
  xNil)
noncomputable def F_getitem : F1 := mkF 2 2 (X_getitem)
noncomputable def X_indexOf : XF := (xSeq (xForS (sEnum (lCons (eVar 0) lNil)) (gTwo 2 3) (xSeq (xIf (tOr (tOf (eBin aIs (eVar 3) (eVar 1))) (tOr (tOf (eBin aEq (eVar 3) (eVar 1))) (tEnd false))) (xSeq (xRet (eVar 2))
  xNil) xNil)
  xNil) (fun _ _ => none) 20)
  xNil)
noncomputable def F_indexOf : F1 := mkF 6 2 (X_indexOf)
noncomputable def X_setitem : XF := (xSeq (xPut aPut (eVar 2) (eVar 0) (eVar 1))
  xNil)
noncomputable def F_setitem : F1 := mkF 3 3 (X_setitem)
noncomputable def X_law_middle : XF := (xSeq (xRet (eCall (lCons (eCall (lCons (eVar 0) (lCons (fun _ σ => some (.int 0, σ)) lNil)) F_getitem) (lCons (eCall (lCons (eVar 0) (lCons (fun _ σ => some (.int 1, σ)) lNil)) F_getitem) lNil)) F_add))
  xNil)
noncomputable def F_law_middle : F1 := mkF 3 1 (X_law_middle)
noncomputable def X_bisect_right : XF := (xSeq (xIf (tOf (eBin aLt (eVar 2) (fun _ σ => some (.int 0, σ)))) (fun _ _ => none) xNil)
  (xSeq (xIf (tOf (eBin aIs (eVar 3) (fun _ σ => some (.none, σ)))) (xSeq (xSet 3 (eCall (lCons (eVar 0) lNil) bLen))
  xNil) xNil)
  (xSeq (xIf (tOf (eBin aIs (eVar 4) (fun _ σ => some (.none, σ)))) (xSeq (xWhile (tOf (eBin aLt (eVar 2) (eVar 3))) (xSeq (xSet 5 (eBin (opI fDiv) (eBin aAdd (eVar 2) (eVar 3)) (fun _ σ => some (.int 2, σ))))
  (xSeq (xIf (tOf (eBin aLt (eVar 1) (eBin (seqOnly aGet) (eVar 0) (eVar 5)))) (xSeq (xSet 3 (eVar 5))
  xNil) (xSeq (xSet 2 (eBin aAdd (eVar 5) (fun _ σ => some (.int 1, σ))))
  xNil))
  xNil)) xNil 20)
  xNil) (xSeq (xWhile (tOf (eBin aLt (eVar 2) (eVar 3))) (xSeq (xSet 5 (eBin (opI fDiv) (eBin aAdd (eVar 2) (eVar 3)) (fun _ σ => some (.int 2, σ))))
  (xSeq (xIf (tOf (eBin aLt (eVar 1) (eCallV 4 191 (lCons (eBin (seqOnly aGet) (eVar 0) (eVar 5)) lNil) F_law_middle))) (xSeq (xSet 3 (eVar 5))
  xNil) (xSeq (xSet 2 (eBin aAdd (eVar 5) (fun _ σ => some (.int 1, σ))))
  xNil))
  xNil)) xNil 20)
  xNil))
  (xSeq (xRet (eVar 2))
  xNil))))
noncomputable def F_bisect_right : F1 := bF (mkF 8 5 (X_bisect_right))
noncomputable def FK_bisect_right : FK := bFK (mkF 8 5 (X_bisect_right))
noncomputable def X_bisect_left : XF := (xSeq (xIf (tOf (eBin aLt (eVar 2) (fun _ σ => some (.int 0, σ)))) (fun _ _ => none) xNil)
  (xSeq (xIf (tOf (eBin aIs (eVar 3) (fun _ σ => some (.none, σ)))) (xSeq (xSet 3 (eCall (lCons (eVar 0) lNil) bLen))
  xNil) xNil)
  (xSeq (xIf (tOf (eBin aIs (eVar 4) (fun _ σ => some (.none, σ)))) (xSeq (xWhile (tOf (eBin aLt (eVar 2) (eVar 3))) (xSeq (xSet 5 (eBin (opI fDiv) (eBin aAdd (eVar 2) (eVar 3)) (fun _ σ => some (.int 2, σ))))
  (xSeq (xIf (tOf (eBin aLt (eBin (seqOnly aGet) (eVar 0) (eVar 5)) (eVar 1))) (xSeq (xSet 2 (eBin aAdd (eVar 5) (fun _ σ => some (.int 1, σ))))
  xNil) (xSeq (xSet 3 (eVar 5))
  xNil))
  xNil)) xNil 20)
  xNil) (xSeq (xWhile (tOf (eBin aLt (eVar 2) (eVar 3))) (xSeq (xSet 5 (eBin (opI fDiv) (eBin aAdd (eVar 2) (eVar 3)) (fun _ σ => some (.int 2, σ))))
  (xSeq (xIf (tOf (eBin aLt (eCallV 4 191 (lCons (eBin (seqOnly aGet) (eVar 0) (eVar 5)) lNil) F_law_middle) (eVar 1))) (xSeq (xSet 2 (eBin aAdd (eVar 5) (fun _ σ => some (.int 1, σ))))
  xNil) (xSeq (xSet 3 (eVar 5))
  xNil))
  xNil)) xNil 20)
  xNil))
  (xSeq (xRet (eVar 2))
  xNil))))
noncomputable def F_bisect_left : F1 := bF (mkF 8 5 (X_bisect_left))
noncomputable def FK_bisect_left : FK := bFK (mkF 8 5 (X_bisect_left))
noncomputable def X_insort_right : XF := (xSeq (xIf (tOf (eBin aIs (eVar 4) (fun _ σ => some (.none, σ)))) (xSeq (xSet 2 (eCall (lCons (eVar 0) (lCons (eVar 1) (lCons (eVar 2) (lCons (eVar 3) lNil)))) F_bisect_right))
  xNil) (xSeq (xSet 2 (eCallK (lCons (eVar 0) (lCons (eCallV 4 191 (lCons (eVar 1) lNil) F_law_middle) (lCons (eVar 2) (lCons (eVar 3) lNil)))) (eVar 4) FK_bisect_right))
  xNil))
  (xSeq (xDrop (eMethL (eVar 0) (lCons (eVar 2) (lCons (eVar 1) lNil)) mInsert))
  xNil))
noncomputable def F_insort_right : F1 := bF (mkF 6 5 (X_insort_right))
noncomputable def FK_insort_right : FK := bFK (mkF 6 5 (X_insort_right))
noncomputable def X_insort_left : XF := (xSeq (xIf (tOf (eBin aIs (eVar 4) (fun _ σ => some (.none, σ)))) (xSeq (xSet 2 (eCall (lCons (eVar 0) (lCons (eVar 1) (lCons (eVar 2) (lCons (eVar 3) lNil)))) F_bisect_left))
  xNil) (xSeq (xSet 2 (eCallK (lCons (eVar 0) (lCons (eCallV 4 191 (lCons (eVar 1) lNil) F_law_middle) (lCons (eVar 2) (lCons (eVar 3) lNil)))) (eVar 4) FK_bisect_left))
  xNil))
  (xSeq (xDrop (eMethL (eVar 0) (lCons (eVar 2) (lCons (eVar 1) lNil)) mInsert))
  xNil))
noncomputable def F_insort_left : F1 := bF (mkF 6 5 (X_insort_left))
noncomputable def FK_insort_left : FK := bFK (mkF 6 5 (X_insort_left))
noncomputable def X_law_signs (par : List (Option Int)) : XF := (xSeq (xSet 1 (eList lNil))
  (xSeq (xForS (sRange (lCons (fun _ σ => some (.int 10, σ)) lNil)) (gOne 2) (xSeq (xSet 3 (eMethL (eVar 1) (lCons (fun _ σ => some (.str (List.map At.ch [40]), σ)) lNil) mCount))
  (xSeq (xDrop (eMethL (eVar 1) (lCons (eIfE (tOr (tOf (eBin aEq (eBin aMul (fun _ σ => some (.int 2, σ)) (eVar 3)) (eVar 2))) (tOr (tAnd (tOf (eBin aLt (eVar 3) (fun _ σ => some (.int 5, σ)))) (tAnd (tOf (eBin aEq (eBin (aMod par) (eBin (seqOnly aGet) (eVar 0) (eVar 2)) (fun _ σ => some (.int 2, σ))) (fun _ σ => some (.int 0, σ)))) (tEnd true))) (tEnd false))) (fun _ σ => some (.str (List.map At.ch [40]), σ)) (fun _ σ => some (.str (List.map At.ch [41]), σ))) lNil) mAppend))
  xNil)) xNil 20)
  (xSeq (xRet (eVar 1))
  xNil)))
noncomputable def F_law_signs (par : List (Option Int)) : F1 := mkF 5 1 (X_law_signs par)
noncomputable def X_law_mates : XF := (xSeq (xTup [1, 2] true (lCons (eList lNil) (lCons (eList lNil) lNil)))
  (xSeq (xForS (sRange (lCons (fun _ σ => some (.int 10, σ)) lNil)) (gOne 3) (xSeq (xIf (tOf (eBin aEq (eBin (seqOnly aGet) (eVar 0) (eVar 3)) (fun _ σ => some (.str (List.map At.ch [40]), σ)))) (xSeq (xDrop (eMethL (eVar 1) (lCons (eVar 3) lNil) mAppend))
  xNil) (xSeq (xDrop (eMethL (eVar 2) (lCons (eList (lCons (eMethL (eVar 1) lNil mPop) (lCons (eVar 3) lNil))) lNil) mAppend))
  xNil))
  xNil) xNil 20)
  (xSeq (xRet (eSorted (eVar 2)))
  xNil)))
noncomputable def F_law_mates : F1 := mkF 6 1 (X_law_mates)
noncomputable def X_law_pairs : XF := (xSeq (xSet 2 (eList lNil))
  (xSeq (xForS (sRange (lCons (fun _ σ => some (.int 10, σ)) lNil)) (gOne 3) (xSeq (xForS (sRange3 (lCons (eBin aAdd (eVar 3) (fun _ σ => some (.int 1, σ))) (lCons (fun _ σ => some (.int 10, σ)) (lCons (fun _ σ => some (.int 2, σ)) lNil)))) (gOne 4) (xSeq (xSet 5 (eCall (lCons (eMethS (fun _ σ => some (.str (List.map At.ch []), σ)) (lCons (eSlice (eVar 0) (pSome (eVar 3)) (pSome (eBin aAdd (eVar 4) (fun _ σ => some (.int 1, σ)))) pNone) lNil) mJoin) lNil) F_check_parenthesis))
  (xSeq (xIf (tOf (eBin aIsNot (eVar 5) (eBin aEq (eComp (sList (eVar 1)) [none, none, none, some 3, some 4] fun r is => cLoop (gLst2 1 2) (tOf (eBin aNe (eCmp2 (opI fLe) (opI fLe) (eVar 3) (eVar 1) (eVar 4)) (eCmp2 (opI fLe) (opI fLe) (eVar 3) (eVar 2) (eVar 4)))) ((cEmit (eVar 1)) r) 20 is) (eList lNil)))) (xSeq (xRet (eList lNil))
  xNil) xNil)
  (xSeq (xIf (tAnd (tOf (eVar 5)) (tAnd (tOf (eBin aEq (eComp (sList (eVar 2)) [none, none, none, some 3] fun r is => cLoop (gLst2 1 2) (tOf (eBin aEq (eVar 1) (eVar 3))) ((cEmit (eVar 1)) r) 20 is) (eList lNil))) (tEnd true))) (xSeq (xDrop (eMethL (eVar 2) (lCons (eList (lCons (eVar 3) (lCons (eVar 4) lNil))) lNil) mAppend))
  xNil) xNil)
  xNil))) xNil 20)
  xNil) xNil 20)
  (xSeq (xRet (eVar 2))
  xNil)))
noncomputable def F_law_pairs : F1 := mkF 8 2 (X_law_pairs)
noncomputable def X_law_order : XF := (xSeq (xSet 2 (eComp (sRange (lCons (fun _ σ => some (.int 5, σ)) lNil)) [none, none, some 0] fun r is => cLoop (gOne 1) (tOf (eBin aEq (eBin (seqOnly aGet) (eVar 2) (eVar 1)) (fun _ σ => some (.str (List.map At.ch [40]), σ)))) ((cEmit (eVar 1)) r) 20 is))
  (xSeq (xSet 3 (eComp (sRange (lCons (fun _ σ => some (.int 5, σ)) lNil)) [none, none, some 0] fun r is => cLoop (gOne 1) (tOf (eBin aEq (eBin (seqOnly aGet) (eVar 2) (eVar 1)) (fun _ σ => some (.str (List.map At.ch [41]), σ)))) ((cEmit (eVar 1)) r) 20 is))
  (xSeq (xSet 4 (eList lNil))
  (xSeq (xForS (sRange (lCons (fun _ σ => some (.int 5, σ)) (lCons (fun _ σ => some (.int 10, σ)) lNil))) (gOne 1) (xSeq (xIf (tOf (eBin aEq (eBin (seqOnly aGet) (eVar 0) (eVar 1)) (fun _ σ => some (.str (List.map At.ch [40]), σ)))) (xSeq (xSet 5 (eCall (lCons (eVar 3) (lCons (eNeg (fun _ σ => some (.int 1, σ))) lNil)) F_getitem))
  (xSeq (xSet 6 (eCall (lCons (eCall (lCons (eVar 2) (lCons (eVar 5) lNil)) F_bisect_left) (lCons (fun _ σ => some (.int 1, σ)) lNil)) F_sub))
  (xSeq (xDrop (eMethL (eVar 4) (lCons (eCall (lCons (eVar 2) (lCons (eVar 6) lNil)) F_getitem) lNil) mAppend))
  (xSeq (xIf (tOr (tOf (eBin aIsNot (eCall (lCons (eVar 3) (lCons (eNeg (fun _ σ => some (.int 1, σ))) lNil)) F_delitem) (fun _ σ => some (.none, σ)))) (tOr (tOf (eBin aIsNot (eCall (lCons (eVar 2) (lCons (eVar 6) (lCons (eVar 5) lNil))) F_setitem) (fun _ σ => some (.none, σ)))) (tEnd false))) (xSeq (xRet (eList lNil))
  xNil) xNil)
  xNil)))) (xSeq (xDrop (eMethL (eVar 4) (lCons (eCall (lCons (eVar 2) (lCons (eNeg (fun _ σ => some (.int 1, σ))) lNil)) F_getitem) lNil) mAppend))
  (xSeq (xDrop (eCall (lCons (eVar 2) (lCons (eNeg (fun _ σ => some (.int 1, σ))) lNil)) F_delitem))
  xNil)))
  xNil) xNil 20)
  (xSeq (xRet (eSlice (eVar 4) pNone pNone (pSome (eNeg (fun _ σ => some (.int 1, σ))))))
  xNil)))))
noncomputable def F_law_order : F1 := mkF 13 1 (X_law_order)
noncomputable def X_law_row : XF := (xSeq (xTup [1, 2, 3] false (lCons (eList lNil) (lCons (eList lNil) (lCons (eList lNil) lNil))))
  (xSeq (xForS (sList (eVar 0)) (gOne 4) (xSeq (xSet 5 (eCall (lCons (eVar 1) (lCons (eVar 4) lNil)) F_bisect_right))
  (xSeq (xIf (tOf (eBin aEq (eVar 5) (eCall (lCons (eVar 1) lNil) bLen))) (xSeq (xDrop (eMethL (eVar 1) (lCons (eVar 4) lNil) mAppend))
  (xSeq (xDrop (eMethL (eVar 3) (lCons (fun _ σ => some (.str (List.map At.ch [41]), σ)) lNil) mAppend))
  xNil)) (xSeq (xDrop (eCall (lCons (eVar 2) (lCons (eCall (lCons (eVar 1) (lCons (eVar 5) lNil)) F_getitem) lNil)) F_insort_right))
  (xSeq (xDrop (eCall (lCons (eVar 1) (lCons (eVar 5) (lCons (eVar 4) lNil))) F_setitem))
  (xSeq (xDrop (eMethL (eVar 3) (lCons (fun _ σ => some (.str (List.map At.ch [40]), σ)) lNil) mAppend))
  xNil))))
  xNil)) xNil 20)
  (xSeq (xRet (eBin aAdd (eComp (sRange (lCons (fun _ σ => some (.int 5, σ)) lNil)) [none, none, none, some 2] fun r is => cLoop (gOne 1) (fun _ σ => some (true, σ)) ((cEmit (eBin (seqOnly aGet) (fun _ σ => some (.str (List.map At.ch [40, 41]), σ)) (eCall (lCons (eVar 3) (lCons (eVar 1) lNil)) F_countOf))) r) 20 is) (eSlice (eVar 3) pNone pNone (pSome (eNeg (fun _ σ => some (.int 1, σ)))))))
  xNil)))
noncomputable def F_law_row : F1 := mkF 12 1 (X_law_row)
noncomputable def X_law (par : List (Option Int)) : XF := (xSeq (xSet 2 (eComp (sEnum (lCons (eList (lCons (fun _ σ => some (.int 4, σ)) (lCons (fun _ σ => some (.int 2, σ)) (lCons (fun _ σ => some (.int 7, σ)) (lCons (fun _ σ => some (.int 8, σ)) (lCons (fun _ σ => some (.int 0, σ)) (lCons (fun _ σ => some (.int 11, σ)) (lCons (fun _ σ => some (.int 10, σ)) (lCons (fun _ σ => some (.int 7, σ)) (lCons (fun _ σ => some (.int 4, σ)) (lCons (fun _ σ => some (.int 12, σ)) lNil))))))))))) lNil)) [none, none, none, none, some 0] fun r is => cLoop (gTwo 1 2) (fun _ σ => some (true, σ)) ((cEmit (eBin aAdd (eVar 2) (eSumK 1 4))) r) 20 is))
  (xSeq (xSet 3 (eCall (lCons (eVar 2) lNil) (F_law_signs par)))
  (xSeq (xSet 4 (eCall (lCons (eVar 3) lNil) F_law_mates))
  (xSeq (xSet 5 (eCall (lCons (eComp (sRange (lCons (fun _ σ => some (.int 10, σ)) lNil)) [none, none, none, some 2, some 3] fun r is => cLoop (gOne 1) (fun _ σ => some (true, σ)) ((cEmit (eBin aAdd (eIfE (tOf (eBin aEq (eBin (aMod par) (eVar 1) (fun _ σ => some (.int 2, σ))) (fun _ σ => some (.int 1, σ)))) (eCall (lCons (eBin (seqOnly aGet) (eVar 3) (eVar 1)) lNil) F_law_dress) (fun _ σ => some (.str (List.map At.ch []), σ))) (eBin (seqOnly aGet) (eVar 4) (eVar 1)))) r) 20 is) (lCons (eVar 4) lNil)) F_law_pairs))
  (xSeq (xSet 6 (eCall (lCons (eVar 3) lNil) F_law_order))
  (xSeq (xIf (tOr (tOf (eBin aNe (eVar 5) (eVar 4))) (tOr (tOf (eBin aNe (eCall (lCons (eVar 6) lNil) F_law_row) (eVar 3))) (tEnd false))) (xSeq (xRet (fun _ σ => some (.bool false, σ)))
  xNil) xNil)
  (xSeq (xIf (tOf (eBin aNe (eComp (sRange (lCons (fun _ σ => some (.int 5, σ)) lNil)) [none, none, none, none, none, some 6] fun r is => cLoop (gOne 1) (fun _ σ => some (true, σ)) ((fun r => cNest (sRange (lCons (eVar 1) lNil)) (cLoop (gOne 2) (fun _ σ => some (true, σ)) ((fun r => cNest (sRange (lCons (eVar 2) lNil)) (cLoop (gOne 4) (tOf (eCmp2 (opI fGt) (opI fGt) (eBin (seqOnly aGet) (eVar 5) (eVar 4)) (eBin (seqOnly aGet) (eVar 5) (eVar 2)) (eBin (seqOnly aGet) (eVar 5) (eVar 1)))) ((cEmit (eVar 1)) r) 20)) r) 20)) r) 20 is) (eList lNil))) (xSeq (xRet (fun _ σ => some (.bool false, σ)))
  xNil) xNil)
  (xSeq (xIf (tOf (eBin aNe (eCall (lCons (eComp (sList (eSlice (eVar 3) pNone pNone (pSome (eNeg (fun _ σ => some (.int 1, σ)))))) [none, none] fun r is => cLoop (gOne 1) (fun _ σ => some (true, σ)) ((cEmit (eIfE (tOf (eBin aEq (eVar 1) (fun _ σ => some (.str (List.map At.ch [40]), σ)))) (fun _ σ => some (.str (List.map At.ch [41]), σ)) (fun _ σ => some (.str (List.map At.ch [40]), σ)))) r) 20 is) lNil) F_law_order) (eComp (sRange (lCons (fun _ σ => some (.int 5, σ)) lNil)) [none, none, none, some 6] fun r is => cLoop (gOne 1) (fun _ σ => some (true, σ)) ((cEmit (eCall (lCons (eVar 3) (lCons (eVar 1) lNil)) F_indexOf)) r) 20 is))) (xSeq (xRet (fun _ σ => some (.bool false, σ)))
  xNil) xNil)
  (xSeq (xSet 26 (eComp (sList (eVar 5)) [none, none, none] fun r is => cLoop (gLst2 1 2) (fun _ σ => some (true, σ)) ((cEmit (eList (lCons (eBin aAdd (eVar 1) (eVar 2)) lNil))) r) 20 is))
  (xSeq (xTup [7, 8, 9, 10] false (lCons (eList lNil) (lCons (eList lNil) (lCons (eList lNil) (lCons (eList lNil) lNil)))))
  (xSeq (xForS (sRange (lCons (fun _ σ => some (.int 5, σ)) lNil)) (gOne 1) (xSeq (xIf (tOr (tOf (eBin aIsNot (eCallK (lCons (eVar 7) (lCons (eBin (seqOnly aGet) (eVar 5) (eVar 1)) lNil)) (fun _ σ => some (.fn 191, σ)) FK_insort_right) (fun _ σ => some (.none, σ)))) (tOr (tOf (eBin aIsNot (eCall (lCons (eVar 9) (lCons (eBin (seqOnly aGet) (eVar 26) (eVar 1)) lNil)) F_insort_right) (fun _ σ => some (.none, σ)))) (tEnd false))) (xSeq (xRet (fun _ σ => some (.bool false, σ)))
  xNil) xNil)
  (xSeq (xIf (tOr (tOf (eBin aIsNot (eCallK (lCons (eVar 8) (lCons (eBin (seqOnly aGet) (eVar 5) (eBin (opI fSub) (fun _ σ => some (.int 4, σ)) (eVar 1))) lNil)) (fun _ σ => some (.fn 191, σ)) FK_insort_left) (fun _ σ => some (.none, σ)))) (tOr (tOf (eBin aIsNot (eCall (lCons (eVar 10) (lCons (eBin (seqOnly aGet) (eVar 26) (eBin (opI fSub) (fun _ σ => some (.int 4, σ)) (eVar 1))) lNil)) F_insort_left) (fun _ σ => some (.none, σ)))) (tEnd false))) (xSeq (xRet (fun _ σ => some (.bool false, σ)))
  xNil) xNil)
  xNil)) xNil 20)
  (xSeq (xForK 26 (gTwo 1 11) (xSeq (xIf (tOr (tOf (eBin aIsNot (eBin (seqOnly aGet) (eVar 7) (eVar 1)) (eBin (seqOnly aGet) (eVar 5) (eVar 11)))) (tOr (tOf (eBin aIsNot (eBin (seqOnly aGet) (eVar 8) (eVar 1)) (eBin (seqOnly aGet) (eVar 5) (eVar 11)))) (tOr (tOf (eBin aIsNot (eBin (seqOnly aGet) (eVar 9) (eVar 1)) (eBin (seqOnly aGet) (eVar 26) (eVar 11)))) (tOr (tOf (eBin aIsNot (eBin (seqOnly aGet) (eVar 10) (eVar 1)) (eBin (seqOnly aGet) (eVar 26) (eVar 11)))) (tEnd false))))) (xSeq (xRet (fun _ σ => some (.bool false, σ)))
  xNil) xNil)
  xNil) xNil 20)
  (xSeq (xSet 12 (eCallK (lCons (eVar 7) (lCons (fun _ σ => some (.int 9, σ)) lNil)) (fun _ σ => some (.fn 191, σ)) FK_bisect_left))
  (xSeq (xSet 13 (eCallK (lCons (eVar 7) (lCons (fun _ σ => some (.int 9, σ)) lNil)) (fun _ σ => some (.fn 191, σ)) FK_bisect_right))
  (xSeq (xIf (tOf (eBin aNe (eComp (sList (eSlice (eVar 7) (pSome (eVar 12)) (pSome (eVar 13)) pNone)) [none, none, none] fun r is => cLoop (gOne 1) (fun _ σ => some (true, σ)) ((cEmit (eCall (lCons (eVar 1) (lCons (fun _ σ => some (.int 0, σ)) lNil)) F_getitem)) r) 20 is) (eComp (sRange (lCons (fun _ σ => some (.int 5, σ)) lNil)) [none, none, some 6] fun r is => cLoop (gOne 1) (tOf (eBin aEq (eBin (seqOnly aGet) (eVar 2) (eVar 1)) (eVar 1))) ((cEmit (eVar 1)) r) 20 is))) (xSeq (xRet (fun _ σ => some (.bool false, σ)))
  xNil) xNil)
  (xSeq (xIf (tOr (tOf (eBin aNe (eCall (lCons (eVar 9) (lCons (eList (lCons (fun _ σ => some (.int 9, σ)) lNil)) lNil)) F_countOf) (eCall (lCons (eVar 13) (lCons (eVar 12) lNil)) F_sub))) (tOr (tAnd (tOf (eBin aLt (eVar 12) (eVar 13))) (tAnd (tOf (eBin aNe (eCall (lCons (eVar 9) (lCons (eList (lCons (fun _ σ => some (.int 9, σ)) lNil)) lNil)) F_indexOf) (eVar 12))) (tEnd true))) (tEnd false))) (xSeq (xRet (fun _ σ => some (.bool false, σ)))
  xNil) xNil)
  (xSeq (xForS (sList (eList (lCons (eList (lCons (fun _ σ => some (.int 0, σ)) (lCons (fun _ σ => some (.int 1, σ)) lNil))) (lCons (eList (lCons (fun _ σ => some (.int 1, σ)) (lCons (fun _ σ => some (.int 4, σ)) lNil))) (lCons (eList (lCons (fun _ σ => some (.int 4, σ)) (lCons (fun _ σ => some (.int 5, σ)) lNil))) lNil))))) (gLst2 14 15) (xSeq (xTup [16, 17] true (lCons (eCall (lCons (eCall (lCons (eVar 14) (lCons (eVar 12) lNil)) bMax) (lCons (eVar 15) lNil)) bMin) (lCons (eCall (lCons (eCall (lCons (eVar 14) (lCons (eVar 13) lNil)) bMax) (lCons (eVar 15) lNil)) bMin) lNil)))
  (xSeq (xTup [18, 19] true (lCons (eSlice (eVar 7) pNone pNone pNone) (lCons (eSlice (eVar 9) pNone pNone pNone) lNil)))
  (xSeq (xDrop (eCallK (lCons (eVar 18) (lCons (eList (lCons (fun _ σ => some (.int 9, σ)) (lCons (fun _ σ => some (.int 0, σ)) lNil))) (lCons (eVar 14) (lCons (eVar 15) lNil)))) (fun _ σ => some (.fn 191, σ)) FK_insort_left))
  (xSeq (xDrop (eCallK (lCons (eVar 18) (lCons (eList (lCons (fun _ σ => some (.int 5, σ)) (lCons (fun _ σ => some (.int 4, σ)) lNil))) (lCons (eVar 14) (lCons (eBin aAdd (eVar 15) (fun _ σ => some (.int 1, σ))) lNil)))) (fun _ σ => some (.fn 191, σ)) FK_insort_right))
  (xSeq (xDrop (eCall (lCons (eVar 19) (lCons (eList (lCons (fun _ σ => some (.int 9, σ)) lNil)) (lCons (eVar 14) (lCons (eVar 15) lNil)))) F_insort_left))
  (xSeq (xDrop (eCall (lCons (eVar 19) (lCons (eList (lCons (fun _ σ => some (.int 9, σ)) lNil)) (lCons (eVar 14) (lCons (eBin aAdd (eVar 15) (fun _ σ => some (.int 1, σ))) lNil)))) F_insort_right))
  (xSeq (xSet 20 (eBin aAdd (eBin aAdd (eBin aAdd (eBin aAdd (eSlice (eVar 7) pNone (pSome (eVar 16)) pNone) (eList (lCons (eList (lCons (fun _ σ => some (.int 9, σ)) (lCons (fun _ σ => some (.int 0, σ)) lNil))) lNil))) (eSlice (eVar 7) (pSome (eVar 16)) (pSome (eVar 17)) pNone)) (eList (lCons (eList (lCons (fun _ σ => some (.int 5, σ)) (lCons (fun _ σ => some (.int 4, σ)) lNil))) lNil))) (eSlice (eVar 7) (pSome (eVar 17)) pNone pNone)))
  (xSeq (xIf (tOr (tOf (eBin aNe (eVar 18) (eVar 20))) (tOr (tOf (eBin aNe (eVar 19) (eComp (sList (eVar 20)) [none, none, none] fun r is => cLoop (gLst2 1 2) (fun _ σ => some (true, σ)) ((cEmit (eList (lCons (eBin aAdd (eVar 1) (eVar 2)) lNil))) r) 20 is))) (tEnd false))) (xSeq (xRet (fun _ σ => some (.bool false, σ)))
  xNil) xNil)
  xNil)))))))) xNil 20)
  (xSeq (xTup [21, 22, 23] true (lCons (eNeg (fun _ σ => some (.int 1, σ))) (lCons (fun _ σ => some (.str (List.map At.ch []), σ)) (lCons (eList lNil) lNil))))
  (xSeq (xForS (sRange (lCons (fun _ σ => some (.int 5, σ)) lNil)) (gOne 1) (xSeq (xSet 24 (eCall (lCons (eCall (lCons (eCall (lCons (fun _ σ => some (.str (List.map At.ch [40]), σ)) (lCons (eCall (lCons (eBin (seqOnly aGet) (eVar 6) (eVar 1)) (lCons (eVar 21) lNil)) F_sub) lNil)) F_mul) (lCons (eCall (lCons (eBin (seqOnly aGet) (eVar 2) (eVar 1)) lNil) F_law_dress) lNil)) F_concat) (lCons (fun _ σ => some (.str (List.map At.ch [41]), σ)) lNil)) F_concat))
  (xSeq (xIf (tOf (eBin aIsNot (eAnd (eBin aIs (eCall (lCons (eVar 22) lNil) F_check_parenthesis) (fun _ σ => some (.bool true, σ))) (eBin aIs (eCall (lCons (eVar 24) lNil) F_check_parenthesis) (fun _ σ => some (.bool true, σ)))) (eBin aEq (eBin (seqOnly aGet) (eVar 6) (eVar 1)) (eVar 1)))) (xSeq (xRet (fun _ σ => some (.bool false, σ)))
  xNil) xNil)
  (xSeq (xDrop (eMethL (eVar 23) (lCons (eCall (lCons (eCall (lCons (fun _ σ => some (.str (List.map At.ch [40]), σ)) (lCons (eVar 24) lNil)) F_concat) lNil) F_check_parenthesis) lNil) mAppend))
  (xSeq (xSet 22 (eCall (lCons (eVar 22) (lCons (eVar 24) lNil)) F_concat))
  (xSeq (xSet 21 (eCall (lCons (eVar 21) (lCons (eBin (seqOnly aGet) (eVar 6) (eVar 1)) lNil)) bMax))
  xNil))))) xNil 20)
  (xSeq (xSet 25 (eList (lCons (eCall (lCons (eComp (sRange (lCons (fun _ σ => some (.int 5, σ)) lNil)) [none, none, none, some 6] fun r is => cLoop (gOne 1) (fun _ σ => some (true, σ)) ((cEmit (eCall (lCons (eBin (seqOnly aGet) (eVar 3) (eVar 1)) (lCons (eVar 1) lNil)) F_lt)) r) 20 is) (lCons (fun _ σ => some (.bool true, σ)) lNil)) F_countOf) (lCons (eCall (lCons (eComp (sRange (lCons (fun _ σ => some (.int 5, σ)) lNil)) [none, none, none, some 6] fun r is => cLoop (gOne 1) (fun _ σ => some (true, σ)) ((cEmit (eCall (lCons (eBin (seqOnly aGet) (eVar 3) (eVar 1)) (lCons (eVar 1) lNil)) F_gt)) r) 20 is) (lCons (fun _ σ => some (.bool true, σ)) lNil)) F_countOf) lNil))))
  (xSeq (xIf (tOr (tOf (eBin aNe (eVar 25) (eList (lCons (eVar 12) (lCons (eCall (lCons (fun _ σ => some (.int 5, σ)) (lCons (eVar 13) lNil)) F_sub) lNil))))) (tOr (tOf (eBin aNe (eCall (lCons (eVar 23) (lCons (fun _ σ => some (.bool true, σ)) lNil)) F_countOf) (eVar 12))) (tOr (tOf (eBin aIsNot (eCall (lCons (eVar 22) lNil) F_check_parenthesis) (fun _ σ => some (.bool true, σ)))) (tEnd false)))) (xSeq (xRet (fun _ σ => some (.bool false, σ)))
  xNil) xNil)
  (xSeq (xRet (eAnd (eBin aIs (eCall (lCons (eCall (lCons (eVar 22) (lCons (fun _ σ => some (.str (List.map At.ch [34, 40, 41]), σ)) lNil)) F_concat) lNil) F_check_parenthesis) (fun _ σ => some (.bool true, σ))) (eBin aIs (eCall (lCons (eCall (lCons (eVar 22) (lCons (fun _ σ => some (.str (List.map At.ch [34, 40, 41, 41, 40, 40, 41]), σ)) lNil)) F_concat) lNil) F_check_parenthesis) (fun _ σ => some (.bool false, σ)))))
  xNil))))))))))))))))))))))
structure Defs (C : Cx) : Prop where
  law_dress : Fn C 155 (bodyAt 22) nm_law_dress 1
  lt : Fn C 78 (bodyAt 10) nm_lt 2
  gt : Fn C 85 (bodyAt 11) nm_gt 2
  add : Fn C 92 (bodyAt 12) nm_add 2
  mul : Fn C 99 (bodyAt 13) nm_mul 2
  sub : Fn C 106 (bodyAt 14) nm_sub 2
  concat : Fn C 113 (bodyAt 15) nm_concat 2
  countOf : Fn C 120 (bodyAt 16) nm_countOf 2
  delitem : Fn C 127 (bodyAt 17) nm_delitem 2
  getitem : Fn C 134 (bodyAt 18) nm_getitem 2
  indexOf : Fn C 141 (bodyAt 19) nm_indexOf 2
  setitem : Fn C 148 (bodyAt 20) nm_setitem 3
  law_middle : Fn C 191 (bodyAt 28) nm_law_middle 1
  bisect_right : FnB C 53 (bodyAt 6) nm_bisect_right
  bisect_left : FnB C 71 (bodyAt 8) nm_bisect_left
  insort_right : FnB C 44 (bodyAt 5) nm_insort_right
  insort_left : FnB C 62 (bodyAt 7) nm_insort_left
  law_signs : Fn C 162 (bodyAt 23) nm_law_signs 1
  law_mates : Fn C 169 (bodyAt 24) nm_law_mates 1
  law_pairs : Fn C 174 (bodyAt 25) nm_law_pairs 2
  law_order : Fn C 179 (bodyAt 26) nm_law_order 1
  law_row : Fn C 184 (bodyAt 27) nm_law_row 1
  law : Fn C 196 (bodyAt 29) nm_law 1
  check_parenthesis : ∃ o fd, C.g.get? 35 = some o ∧ o.data = .func fd
end Mine
end

section
set_option maxHeartbeats 4000000
namespace Mine
theorem B_law_dress {C : Cx} {par : List (Option Int)} (H : Ctx C par) (D : Defs C) : SB C 9 nm_law_dress (bodyAt 22) (X_law_dress) :=
  (SB_cons (SS_ret (SE_dress 0 H.dress (SE_list (SL_cons (SE_str _ [] _ _ (by decide)) (SL_cons (SE_str _ [92, 41] _ _ (by decide)) (SL_cons (SE_str _ [92, 40] _ _ (by decide)) (SL_cons (SE_str _ [34, 40, 34] _ _ (by decide)) (SL_cons (SE_str _ [92, 92] _ _ (by decide)) (SL_cons (SE_str _ [92, 34] _ _ (by decide)) (SL_cons (SE_str _ [92, 92, 34, 41, 92, 34, 34] _ _ (by decide)) SL_nil)))))))) rfl (by decide) (by decide)))
  SB_nil)
theorem T_law_dress {C : Cx} {par : List (Option Int)} (H : Ctx C par) (D : Defs C) : Fun C 10 155 (F_law_dress) := Fn.run D.law_dress (B_law_dress H D)
theorem B_lt {C : Cx} {par : List (Option Int)} (H : Ctx C par) (D : Defs C) : SB C 9 nm_lt (bodyAt 10) (X_lt) :=
  (SB_cons (SS_ret (SE_cmp op_lt (SE_name 0 "a" .local _ rfl (.inl rfl) (by decide) (by decide)) (SE_name 1 "b" .local _ rfl (.inl rfl) (by decide) (by decide))))
  SB_nil)
theorem T_lt {C : Cx} {par : List (Option Int)} (H : Ctx C par) (D : Defs C) : Fun C 10 78 (F_lt) := Fn.run D.lt (B_lt H D)
theorem B_gt {C : Cx} {par : List (Option Int)} (H : Ctx C par) (D : Defs C) : SB C 9 nm_gt (bodyAt 11) (X_gt) :=
  (SB_cons (SS_ret (SE_cmp op_gt (SE_name 0 "a" .local _ rfl (.inl rfl) (by decide) (by decide)) (SE_name 1 "b" .local _ rfl (.inl rfl) (by decide) (by decide))))
  SB_nil)
theorem T_gt {C : Cx} {par : List (Option Int)} (H : Ctx C par) (D : Defs C) : Fun C 10 85 (F_gt) := Fn.run D.gt (B_gt H D)
theorem B_add {C : Cx} {par : List (Option Int)} (H : Ctx C par) (D : Defs C) : SB C 9 nm_add (bodyAt 12) (X_add) :=
  (SB_cons (SS_ret (SE_bin (op_add H.hdt) (SE_name 0 "a" .local _ rfl (.inl rfl) (by decide) (by decide)) (SE_name 1 "b" .local _ rfl (.inl rfl) (by decide) (by decide))))
  SB_nil)
theorem T_add {C : Cx} {par : List (Option Int)} (H : Ctx C par) (D : Defs C) : Fun C 10 92 (F_add) := Fn.run D.add (B_add H D)
theorem B_mul {C : Cx} {par : List (Option Int)} (H : Ctx C par) (D : Defs C) : SB C 9 nm_mul (bodyAt 13) (X_mul) :=
  (SB_cons (SS_ret (SE_bin op_mul (SE_name 0 "a" .local _ rfl (.inl rfl) (by decide) (by decide)) (SE_name 1 "b" .local _ rfl (.inl rfl) (by decide) (by decide))))
  SB_nil)
theorem T_mul {C : Cx} {par : List (Option Int)} (H : Ctx C par) (D : Defs C) : Fun C 10 99 (F_mul) := Fn.run D.mul (B_mul H D)
theorem B_sub {C : Cx} {par : List (Option Int)} (H : Ctx C par) (D : Defs C) : SB C 9 nm_sub (bodyAt 14) (X_sub) :=
  (SB_cons (SS_ret (SE_bin op_sub (SE_name 0 "a" .local _ rfl (.inl rfl) (by decide) (by decide)) (SE_name 1 "b" .local _ rfl (.inl rfl) (by decide) (by decide))))
  SB_nil)
theorem T_sub {C : Cx} {par : List (Option Int)} (H : Ctx C par) (D : Defs C) : Fun C 10 106 (F_sub) := Fn.run D.sub (B_sub H D)
theorem B_concat {C : Cx} {par : List (Option Int)} (H : Ctx C par) (D : Defs C) : SB C 9 nm_concat (bodyAt 15) (X_concat) :=
  (SB_cons (SS_if (ST_not (ST_plain (SE_callB "hasattr" (H.no _ (by decide)) rfl (by decide) (by decide) (by rfl) bui_has (SL_cons (SE_name 0 "a" .local _ rfl (.inl rfl) (by decide) (by decide)) (SL_cons (SE_str _ [95, 95, 103, 101, 116, 105, 116, 101, 109, 95, 95] _ _ (by decide)) SL_nil))))) SB_never SB_nil)
  (SB_cons (SS_ret (SE_bin (op_add H.hdt) (SE_name 0 "a" .local _ rfl (.inl rfl) (by decide) (by decide)) (SE_name 1 "b" .local _ rfl (.inl rfl) (by decide) (by decide))))
  SB_nil))
theorem T_concat {C : Cx} {par : List (Option Int)} (H : Ctx C par) (D : Defs C) : Fun C 10 113 (F_concat) := Fn.run D.concat (B_concat H D)
theorem B_countOf {C : Cx} {par : List (Option Int)} (H : Ctx C par) (D : Defs C) : SB C 9 nm_countOf (bodyAt 16) (X_countOf) :=
  (SB_cons (SS_assign 2 .local rfl (.inl rfl) (SE_int 0 _ _) (fun _ _ _ => rfl))
  (SB_cons (SS_for 20 (.one 3 _ _ rfl) (SI_list (SE_name 0 "a" .local _ rfl (.inl rfl) (by decide) (by decide))) (SB_cons (SS_if (ST_bool (STL_or (ST_cmp op_is (SE_name 3 "i" .local _ rfl (.inl rfl) (by decide) (by decide)) (SE_name 1 "b" .local _ rfl (.inl rfl) (by decide) (by decide))) (STL_or (ST_cmp op_eq (SE_name 3 "i" .local _ rfl (.inl rfl) (by decide) (by decide)) (SE_name 1 "b" .local _ rfl (.inl rfl) (by decide) (by decide))) STL_orNil))) (SB_cons (SS_aug 2 rfl (by decide) op_iadd (SE_int 1 _ _))
  SB_nil) SB_nil)
  SB_nil) SB_nil)
  (SB_cons (SS_ret (SE_name 2 "count" .local _ rfl (.inl rfl) (by decide) (by decide)))
  SB_nil)))
theorem T_countOf {C : Cx} {par : List (Option Int)} (H : Ctx C par) (D : Defs C) : Fun C 10 120 (F_countOf) := Fn.run D.countOf (B_countOf H D)
theorem B_delitem {C : Cx} {par : List (Option Int)} (H : Ctx C par) (D : Defs C) : SB C 9 nm_delitem (bodyAt 17) (X_delitem) :=
  (SB_cons (SS_del op_del (SE_name 0 "a" .local _ rfl (.inl rfl) (by decide) (by decide)) (SE_name 1 "b" .local _ rfl (.inl rfl) (by decide) (by decide)))
  SB_nil)
theorem T_delitem {C : Cx} {par : List (Option Int)} (H : Ctx C par) (D : Defs C) : Fun C 10 127 (F_delitem) := Fn.run D.delitem (B_delitem H D)
theorem B_getitem {C : Cx} {par : List (Option Int)} (H : Ctx C par) (D : Defs C) : SB C 9 nm_getitem (bodyAt 18) (X_getitem) :=
  (SB_cons (SS_ret (SE_idx op_get (SE_name 0 "a" .local _ rfl (.inl rfl) (by decide) (by decide)) (SE_name 1 "b" .local _ rfl (.inl rfl) (by decide) (by decide))))
  SB_nil)
theorem T_getitem {C : Cx} {par : List (Option Int)} (H : Ctx C par) (D : Defs C) : Fun C 10 134 (F_getitem) := Fn.run D.getitem (B_getitem H D)
theorem B_indexOf {C : Cx} {par : List (Option Int)} (H : Ctx C par) (D : Defs C) : SB C 9 nm_indexOf (bodyAt 19) (X_indexOf) :=
  (SB_cons (SS_for 20 (.two 2 3 _ _ _ _ _ _ rfl rfl) (SI_enum (H.no _ (by decide)) rfl (SL_cons (SE_name 0 "a" .local _ rfl (.inl rfl) (by decide) (by decide)) SL_nil)) (SB_cons (SS_if (ST_bool (STL_or (ST_cmp op_is (SE_name 3 "j" .local _ rfl (.inl rfl) (by decide) (by decide)) (SE_name 1 "b" .local _ rfl (.inl rfl) (by decide) (by decide))) (STL_or (ST_cmp op_eq (SE_name 3 "j" .local _ rfl (.inl rfl) (by decide) (by decide)) (SE_name 1 "b" .local _ rfl (.inl rfl) (by decide) (by decide))) STL_orNil))) (SB_cons (SS_ret (SE_name 2 "i" .local _ rfl (.inl rfl) (by decide) (by decide)))
  SB_nil) SB_nil)
  SB_nil) SB_never)
  SB_nil)
theorem T_indexOf {C : Cx} {par : List (Option Int)} (H : Ctx C par) (D : Defs C) : Fun C 10 141 (F_indexOf) := Fn.run D.indexOf (B_indexOf H D)
theorem B_setitem {C : Cx} {par : List (Option Int)} (H : Ctx C par) (D : Defs C) : SB C 9 nm_setitem (bodyAt 20) (X_setitem) :=
  (SB_cons (SS_put op_put (SE_name 2 "c" .local _ rfl (.inl rfl) (by decide) (by decide)) (SE_name 0 "a" .local _ rfl (.inl rfl) (by decide) (by decide)) (SE_name 1 "b" .local _ rfl (.inl rfl) (by decide) (by decide)))
  SB_nil)
theorem T_setitem {C : Cx} {par : List (Option Int)} (H : Ctx C par) (D : Defs C) : Fun C 10 148 (F_setitem) := Fn.run D.setitem (B_setitem H D)
theorem B_law_middle {C : Cx} {par : List (Option Int)} (H : Ctx C par) (D : Defs C) : SB C 10 nm_law_middle (bodyAt 28) (X_law_middle) :=
  (SB_cons (SS_ret (SE_call 92 (H.fn _ _ (by decide)) rfl (by decide) D.add.isFn (T_add H D).up (SL_cons (SE_call 134 (H.fn _ _ (by decide)) rfl (by decide) D.getitem.isFn (T_getitem H D).up (SL_cons (SE_name 0 "pair" .local _ rfl (.inl rfl) (by decide) (by decide)) (SL_cons (SE_int 0 _ _) SL_nil))) (SL_cons (SE_call 134 (H.fn _ _ (by decide)) rfl (by decide) D.getitem.isFn (T_getitem H D).up (SL_cons (SE_name 0 "pair" .local _ rfl (.inl rfl) (by decide) (by decide)) (SL_cons (SE_int 1 _ _) SL_nil))) SL_nil))))
  SB_nil)
theorem T_law_middle {C : Cx} {par : List (Option Int)} (H : Ctx C par) (D : Defs C) : Fun C 11 191 (F_law_middle) := Fn.run D.law_middle (B_law_middle H D)
theorem B_bisect_right {C : Cx} {par : List (Option Int)} (H : Ctx C par) (D : Defs C) : SB C 11 nm_bisect_right (bodyAt 6) (X_bisect_right) :=
  (SB_cons (SS_if (ST_cmp op_lt (SE_name 2 "lo" .local _ rfl (.inl rfl) (by decide) (by decide)) (SE_int 0 _ _)) SB_never SB_nil)
  (SB_cons (SS_if (ST_cmp op_is (SE_name 3 "hi" .local _ rfl (.inl rfl) (by decide) (by decide)) (SE_none _ _)) (SB_cons (SS_assign 3 .local rfl (.inl rfl) (SE_callB "len" (H.no _ (by decide)) rfl (by decide) (by decide) (by rfl) bui_len (SL_cons (SE_name 0 "a" .local _ rfl (.inl rfl) (by decide) (by decide)) SL_nil)) (fun _ _ _ => rfl))
  SB_nil) SB_nil)
  (SB_cons (SS_if (ST_cmp op_is (SE_name 4 "key" .local _ rfl (.inl rfl) (by decide) (by decide)) (SE_none _ _)) (SB_cons (SS_while 20 (ST_cmp op_lt (SE_name 2 "lo" .local _ rfl (.inl rfl) (by decide) (by decide)) (SE_name 3 "hi" .local _ rfl (.inl rfl) (by decide) (by decide))) (SB_cons (SS_assign 5 .local rfl (.inl rfl) (SE_bin op_div (SE_bin (op_add H.hdt) (SE_name 2 "lo" .local _ rfl (.inl rfl) (by decide) (by decide)) (SE_name 3 "hi" .local _ rfl (.inl rfl) (by decide) (by decide))) (SE_int 2 _ _)) (fun _ _ _ => rfl))
  (SB_cons (SS_if (ST_cmp op_lt (SE_name 1 "x" .local _ rfl (.inl rfl) (by decide) (by decide)) (SE_idx op_get (SE_name 0 "a" .local _ rfl (.inl rfl) (by decide) (by decide)) (SE_name 5 "mid" .local _ rfl (.inl rfl) (by decide) (by decide)))) (SB_cons (SS_assign 3 .local rfl (.inl rfl) (SE_name 5 "mid" .local _ rfl (.inl rfl) (by decide) (by decide)) (fun _ _ _ => rfl))
  SB_nil) (SB_cons (SS_assign 2 .local rfl (.inl rfl) (SE_bin (op_add H.hdt) (SE_name 5 "mid" .local _ rfl (.inl rfl) (by decide) (by decide)) (SE_int 1 _ _)) (fun _ _ _ => rfl))
  SB_nil))
  SB_nil)) SB_nil)
  SB_nil) (SB_cons (SS_while 20 (ST_cmp op_lt (SE_name 2 "lo" .local _ rfl (.inl rfl) (by decide) (by decide)) (SE_name 3 "hi" .local _ rfl (.inl rfl) (by decide) (by decide))) (SB_cons (SS_assign 5 .local rfl (.inl rfl) (SE_bin op_div (SE_bin (op_add H.hdt) (SE_name 2 "lo" .local _ rfl (.inl rfl) (by decide) (by decide)) (SE_name 3 "hi" .local _ rfl (.inl rfl) (by decide) (by decide))) (SE_int 2 _ _)) (fun _ _ _ => rfl))
  (SB_cons (SS_if (ST_cmp op_lt (SE_name 1 "x" .local _ rfl (.inl rfl) (by decide) (by decide)) (SE_callV 4 .local 191 rfl (.inl rfl) (by decide) (by decide) D.law_middle.isFn (T_law_middle H D).up (SL_cons (SE_idx op_get (SE_name 0 "a" .local _ rfl (.inl rfl) (by decide) (by decide)) (SE_name 5 "mid" .local _ rfl (.inl rfl) (by decide) (by decide))) SL_nil))) (SB_cons (SS_assign 3 .local rfl (.inl rfl) (SE_name 5 "mid" .local _ rfl (.inl rfl) (by decide) (by decide)) (fun _ _ _ => rfl))
  SB_nil) (SB_cons (SS_assign 2 .local rfl (.inl rfl) (SE_bin (op_add H.hdt) (SE_name 5 "mid" .local _ rfl (.inl rfl) (by decide) (by decide)) (SE_int 1 _ _)) (fun _ _ _ => rfl))
  SB_nil))
  SB_nil)) SB_nil)
  SB_nil))
  (SB_cons (SS_ret (SE_name 2 "lo" .local _ rfl (.inl rfl) (by decide) (by decide)))
  SB_nil))))
theorem T_bisect_right {C : Cx} {par : List (Option Int)} (H : Ctx C par) (D : Defs C) : Fun C 12 53 (F_bisect_right) := FnB.run D.bisect_right (B_bisect_right H D)
theorem TK_bisect_right {C : Cx} {par : List (Option Int)} (H : Ctx C par) (D : Defs C) : OpK C 12 (fun vs kv => call (.ref 53) vs [("key", kv)]) (FK_bisect_right) := FnB.runK D.bisect_right (B_bisect_right H D)
theorem B_bisect_left {C : Cx} {par : List (Option Int)} (H : Ctx C par) (D : Defs C) : SB C 11 nm_bisect_left (bodyAt 8) (X_bisect_left) :=
  (SB_cons (SS_if (ST_cmp op_lt (SE_name 2 "lo" .local _ rfl (.inl rfl) (by decide) (by decide)) (SE_int 0 _ _)) SB_never SB_nil)
  (SB_cons (SS_if (ST_cmp op_is (SE_name 3 "hi" .local _ rfl (.inl rfl) (by decide) (by decide)) (SE_none _ _)) (SB_cons (SS_assign 3 .local rfl (.inl rfl) (SE_callB "len" (H.no _ (by decide)) rfl (by decide) (by decide) (by rfl) bui_len (SL_cons (SE_name 0 "a" .local _ rfl (.inl rfl) (by decide) (by decide)) SL_nil)) (fun _ _ _ => rfl))
  SB_nil) SB_nil)
  (SB_cons (SS_if (ST_cmp op_is (SE_name 4 "key" .local _ rfl (.inl rfl) (by decide) (by decide)) (SE_none _ _)) (SB_cons (SS_while 20 (ST_cmp op_lt (SE_name 2 "lo" .local _ rfl (.inl rfl) (by decide) (by decide)) (SE_name 3 "hi" .local _ rfl (.inl rfl) (by decide) (by decide))) (SB_cons (SS_assign 5 .local rfl (.inl rfl) (SE_bin op_div (SE_bin (op_add H.hdt) (SE_name 2 "lo" .local _ rfl (.inl rfl) (by decide) (by decide)) (SE_name 3 "hi" .local _ rfl (.inl rfl) (by decide) (by decide))) (SE_int 2 _ _)) (fun _ _ _ => rfl))
  (SB_cons (SS_if (ST_cmp op_lt (SE_idx op_get (SE_name 0 "a" .local _ rfl (.inl rfl) (by decide) (by decide)) (SE_name 5 "mid" .local _ rfl (.inl rfl) (by decide) (by decide))) (SE_name 1 "x" .local _ rfl (.inl rfl) (by decide) (by decide))) (SB_cons (SS_assign 2 .local rfl (.inl rfl) (SE_bin (op_add H.hdt) (SE_name 5 "mid" .local _ rfl (.inl rfl) (by decide) (by decide)) (SE_int 1 _ _)) (fun _ _ _ => rfl))
  SB_nil) (SB_cons (SS_assign 3 .local rfl (.inl rfl) (SE_name 5 "mid" .local _ rfl (.inl rfl) (by decide) (by decide)) (fun _ _ _ => rfl))
  SB_nil))
  SB_nil)) SB_nil)
  SB_nil) (SB_cons (SS_while 20 (ST_cmp op_lt (SE_name 2 "lo" .local _ rfl (.inl rfl) (by decide) (by decide)) (SE_name 3 "hi" .local _ rfl (.inl rfl) (by decide) (by decide))) (SB_cons (SS_assign 5 .local rfl (.inl rfl) (SE_bin op_div (SE_bin (op_add H.hdt) (SE_name 2 "lo" .local _ rfl (.inl rfl) (by decide) (by decide)) (SE_name 3 "hi" .local _ rfl (.inl rfl) (by decide) (by decide))) (SE_int 2 _ _)) (fun _ _ _ => rfl))
  (SB_cons (SS_if (ST_cmp op_lt (SE_callV 4 .local 191 rfl (.inl rfl) (by decide) (by decide) D.law_middle.isFn (T_law_middle H D).up (SL_cons (SE_idx op_get (SE_name 0 "a" .local _ rfl (.inl rfl) (by decide) (by decide)) (SE_name 5 "mid" .local _ rfl (.inl rfl) (by decide) (by decide))) SL_nil)) (SE_name 1 "x" .local _ rfl (.inl rfl) (by decide) (by decide))) (SB_cons (SS_assign 2 .local rfl (.inl rfl) (SE_bin (op_add H.hdt) (SE_name 5 "mid" .local _ rfl (.inl rfl) (by decide) (by decide)) (SE_int 1 _ _)) (fun _ _ _ => rfl))
  SB_nil) (SB_cons (SS_assign 3 .local rfl (.inl rfl) (SE_name 5 "mid" .local _ rfl (.inl rfl) (by decide) (by decide)) (fun _ _ _ => rfl))
  SB_nil))
  SB_nil)) SB_nil)
  SB_nil))
  (SB_cons (SS_ret (SE_name 2 "lo" .local _ rfl (.inl rfl) (by decide) (by decide)))
  SB_nil))))
theorem T_bisect_left {C : Cx} {par : List (Option Int)} (H : Ctx C par) (D : Defs C) : Fun C 12 71 (F_bisect_left) := FnB.run D.bisect_left (B_bisect_left H D)
theorem TK_bisect_left {C : Cx} {par : List (Option Int)} (H : Ctx C par) (D : Defs C) : OpK C 12 (fun vs kv => call (.ref 71) vs [("key", kv)]) (FK_bisect_left) := FnB.runK D.bisect_left (B_bisect_left H D)
theorem B_insort_right {C : Cx} {par : List (Option Int)} (H : Ctx C par) (D : Defs C) : SB C 12 nm_insort_right (bodyAt 5) (X_insort_right) :=
  (SB_cons (SS_if (ST_cmp op_is (SE_name 4 "key" .local _ rfl (.inl rfl) (by decide) (by decide)) (SE_none _ _)) (SB_cons (SS_assign 2 .local rfl (.inl rfl) (SE_call 53 (H.fn _ _ (by decide)) rfl (by decide) D.bisect_right.isFn (T_bisect_right H D).up (SL_cons (SE_name 0 "a" .local _ rfl (.inl rfl) (by decide) (by decide)) (SL_cons (SE_name 1 "x" .local _ rfl (.inl rfl) (by decide) (by decide)) (SL_cons (SE_name 2 "lo" .local _ rfl (.inl rfl) (by decide) (by decide)) (SL_cons (SE_name 3 "hi" .local _ rfl (.inl rfl) (by decide) (by decide)) SL_nil))))) (fun _ _ _ => rfl))
  SB_nil) (SB_cons (SS_assign 2 .local rfl (.inl rfl) (SE_callK 53 (H.fn _ _ (by decide)) rfl (by decide) D.bisect_right.isFn (TK_bisect_right H D).up (SL_cons (SE_name 0 "a" .local _ rfl (.inl rfl) (by decide) (by decide)) (SL_cons (SE_callV 4 .local 191 rfl (.inl rfl) (by decide) (by decide) D.law_middle.isFn (T_law_middle H D).up (SL_cons (SE_name 1 "x" .local _ rfl (.inl rfl) (by decide) (by decide)) SL_nil)) (SL_cons (SE_name 2 "lo" .local _ rfl (.inl rfl) (by decide) (by decide)) (SL_cons (SE_name 3 "hi" .local _ rfl (.inl rfl) (by decide) (by decide)) SL_nil)))) (SE_name 4 "key" .local _ rfl (.inl rfl) (by decide) (by decide))) (fun _ _ _ => rfl))
  SB_nil))
  (SB_cons (SS_expr (SE_methL meth_insert (SE_name 0 "a" .local _ rfl (.inl rfl) (by decide) (by decide)) (SL_cons (SE_name 2 "lo" .local _ rfl (.inl rfl) (by decide) (by decide)) (SL_cons (SE_name 1 "x" .local _ rfl (.inl rfl) (by decide) (by decide)) SL_nil))))
  SB_nil))
theorem T_insort_right {C : Cx} {par : List (Option Int)} (H : Ctx C par) (D : Defs C) : Fun C 13 44 (F_insort_right) := FnB.run D.insort_right (B_insort_right H D)
theorem TK_insort_right {C : Cx} {par : List (Option Int)} (H : Ctx C par) (D : Defs C) : OpK C 13 (fun vs kv => call (.ref 44) vs [("key", kv)]) (FK_insort_right) := FnB.runK D.insort_right (B_insort_right H D)
theorem B_insort_left {C : Cx} {par : List (Option Int)} (H : Ctx C par) (D : Defs C) : SB C 12 nm_insort_left (bodyAt 7) (X_insort_left) :=
  (SB_cons (SS_if (ST_cmp op_is (SE_name 4 "key" .local _ rfl (.inl rfl) (by decide) (by decide)) (SE_none _ _)) (SB_cons (SS_assign 2 .local rfl (.inl rfl) (SE_call 71 (H.fn _ _ (by decide)) rfl (by decide) D.bisect_left.isFn (T_bisect_left H D).up (SL_cons (SE_name 0 "a" .local _ rfl (.inl rfl) (by decide) (by decide)) (SL_cons (SE_name 1 "x" .local _ rfl (.inl rfl) (by decide) (by decide)) (SL_cons (SE_name 2 "lo" .local _ rfl (.inl rfl) (by decide) (by decide)) (SL_cons (SE_name 3 "hi" .local _ rfl (.inl rfl) (by decide) (by decide)) SL_nil))))) (fun _ _ _ => rfl))
  SB_nil) (SB_cons (SS_assign 2 .local rfl (.inl rfl) (SE_callK 71 (H.fn _ _ (by decide)) rfl (by decide) D.bisect_left.isFn (TK_bisect_left H D).up (SL_cons (SE_name 0 "a" .local _ rfl (.inl rfl) (by decide) (by decide)) (SL_cons (SE_callV 4 .local 191 rfl (.inl rfl) (by decide) (by decide) D.law_middle.isFn (T_law_middle H D).up (SL_cons (SE_name 1 "x" .local _ rfl (.inl rfl) (by decide) (by decide)) SL_nil)) (SL_cons (SE_name 2 "lo" .local _ rfl (.inl rfl) (by decide) (by decide)) (SL_cons (SE_name 3 "hi" .local _ rfl (.inl rfl) (by decide) (by decide)) SL_nil)))) (SE_name 4 "key" .local _ rfl (.inl rfl) (by decide) (by decide))) (fun _ _ _ => rfl))
  SB_nil))
  (SB_cons (SS_expr (SE_methL meth_insert (SE_name 0 "a" .local _ rfl (.inl rfl) (by decide) (by decide)) (SL_cons (SE_name 2 "lo" .local _ rfl (.inl rfl) (by decide) (by decide)) (SL_cons (SE_name 1 "x" .local _ rfl (.inl rfl) (by decide) (by decide)) SL_nil))))
  SB_nil))
theorem T_insort_left {C : Cx} {par : List (Option Int)} (H : Ctx C par) (D : Defs C) : Fun C 13 62 (F_insort_left) := FnB.run D.insort_left (B_insort_left H D)
theorem TK_insort_left {C : Cx} {par : List (Option Int)} (H : Ctx C par) (D : Defs C) : OpK C 13 (fun vs kv => call (.ref 62) vs [("key", kv)]) (FK_insort_left) := FnB.runK D.insort_left (B_insort_left H D)
end Mine
end

section
set_option maxHeartbeats 4000000
namespace Mine
theorem B_law_signs {C : Cx} {par : List (Option Int)} (H : Ctx C par) (D : Defs C) : SB C 9 nm_law_signs (bodyAt 23) (X_law_signs par) :=
  (SB_cons (SS_assign 1 .local rfl (.inl rfl) (SE_list SL_nil) (fun _ _ _ => rfl))
  (SB_cons (SS_for 20 (.one 2 _ _ rfl) (SI_range (H.no _ (by decide)) rfl (SL_cons (SE_int 10 _ _) SL_nil)) (SB_cons (SS_assign 3 .local rfl (.inl rfl) (SE_methL meth_count (SE_name 1 "signs" .local _ rfl (.inl rfl) (by decide) (by decide)) (SL_cons (SE_str _ [40] _ _ (by decide)) SL_nil)) (fun _ _ _ => rfl))
  (SB_cons (SS_expr (SE_methL meth_append (SE_name 1 "signs" .local _ rfl (.inl rfl) (by decide) (by decide)) (SL_cons (SE_ifE (ST_bool (STL_or (ST_cmp op_eq (SE_bin op_mul (SE_int 2 _ _) (SE_name 3 "opened" .local _ rfl (.inl rfl) (by decide) (by decide))) (SE_name 2 "k" .local _ rfl (.inl rfl) (by decide) (by decide))) (STL_or (ST_bool (STL_and (ST_cmp op_lt (SE_name 3 "opened" .local _ rfl (.inl rfl) (by decide) (by decide)) (SE_int 5 _ _)) (STL_and (ST_cmp op_eq (SE_bin (op_mod H.hpar) (SE_idx op_get (SE_name 0 "cells" .local _ rfl (.inl rfl) (by decide) (by decide)) (SE_name 2 "k" .local _ rfl (.inl rfl) (by decide) (by decide))) (SE_int 2 _ _)) (SE_int 0 _ _)) STL_andNil))) STL_orNil))) (SE_str _ [40] _ _ (by decide)) (SE_str _ [41] _ _ (by decide))) SL_nil)))
  SB_nil)) SB_nil)
  (SB_cons (SS_ret (SE_name 1 "signs" .local _ rfl (.inl rfl) (by decide) (by decide)))
  SB_nil)))
theorem T_law_signs {C : Cx} {par : List (Option Int)} (H : Ctx C par) (D : Defs C) : Fun C 10 162 (F_law_signs par) := Fn.run D.law_signs (B_law_signs H D)
theorem B_law_mates {C : Cx} {par : List (Option Int)} (H : Ctx C par) (D : Defs C) : SB C 9 nm_law_mates (bodyAt 24) (X_law_mates) :=
  (SB_cons (SS_tup [(1, "waiting"), (2, "mates")] [_, _] true (tup_names (by decide)) rfl rfl rfl (SL_cons (SE_list SL_nil) (SL_cons (SE_list SL_nil) SL_nil)) (fun _ => rfl) (fun env h1 h2 => (stores_env h1 h2).trans (by kernel_rfl)))
  (SB_cons (SS_for 20 (.one 3 _ _ rfl) (SI_range (H.no _ (by decide)) rfl (SL_cons (SE_int 10 _ _) SL_nil)) (SB_cons (SS_if (ST_cmp op_eq (SE_idx op_get (SE_name 0 "signs" .local _ rfl (.inl rfl) (by decide) (by decide)) (SE_name 3 "k" .local _ rfl (.inl rfl) (by decide) (by decide))) (SE_str _ [40] _ _ (by decide))) (SB_cons (SS_expr (SE_methL meth_append (SE_name 1 "waiting" .local _ rfl (.inl rfl) (by decide) (by decide)) (SL_cons (SE_name 3 "k" .local _ rfl (.inl rfl) (by decide) (by decide)) SL_nil)))
  SB_nil) (SB_cons (SS_expr (SE_methL meth_append (SE_name 2 "mates" .local _ rfl (.inl rfl) (by decide) (by decide)) (SL_cons (SE_list (SL_cons (SE_methL meth_pop (SE_name 1 "waiting" .local _ rfl (.inl rfl) (by decide) (by decide)) SL_nil) (SL_cons (SE_name 3 "k" .local _ rfl (.inl rfl) (by decide) (by decide)) SL_nil))) SL_nil)))
  SB_nil))
  SB_nil) SB_nil)
  (SB_cons (SS_ret (SE_sorted (H.no _ (by decide)) rfl (SE_name 2 "mates" .local _ rfl (.inl rfl) (by decide) (by decide))))
  SB_nil)))
theorem T_law_mates {C : Cx} {par : List (Option Int)} (H : Ctx C par) (D : Defs C) : Fun C 10 169 (F_law_mates) := Fn.run D.law_mates (B_law_mates H D)
theorem B_law_pairs {C : Cx} {par : List (Option Int)} (H : Ctx C par) (D : Defs C) : SB C 17 nm_law_pairs (bodyAt 25) (X_law_pairs) :=
  (SB_cons (SS_assign 2 .local rfl (.inl rfl) (SE_list SL_nil) (fun _ _ _ => rfl))
  (SB_cons (SS_for 20 (.oneC 3 _ _ rfl rfl) (SI_range (H.no _ (by decide)) rfl (SL_cons (SE_int 10 _ _) SL_nil)) (SB_cons (SS_for 20 (.oneC 4 _ _ rfl rfl) (SI_range3 (H.no _ (by decide)) rfl (SLp_cons (SE_bin (op_add H.hdt) (SE_name 3 "a" .cell _ rfl (.inr (.inl rfl)) (by decide) (by decide)) (SE_int 1 _ _)) (SLp_cons (SE_int 10 _ _) (SLp_last 2 _ _)))) (SB_cons (SS_assign 5 .local rfl (.inl rfl) (SE_call 35 (H.fn _ _ (by decide)) rfl (by decide) D.check_parenthesis H.chk.up (SL_cons (SE_methS (meth_join H.hdt) (SE_str _ [] _ _ (by decide)) (SL_cons (SE_slice (SE_name 0 "pieces" .local _ rfl (.inl rfl) (by decide) (by decide)) (SP_some (SE_name 3 "a" .cell _ rfl (.inr (.inl rfl)) (by decide) (by decide))) (SP_some (SE_bin (op_add H.hdt) (SE_name 4 "b" .cell _ rfl (.inr (.inl rfl)) (by decide) (by decide)) (SE_int 1 _ _))) SP_none) SL_nil)) SL_nil)) (fun _ _ _ => rfl))
  (SB_cons (SS_if (ST_cmp op_isNot (SE_name 5 "told" .local _ rfl (.inl rfl) (by decide) (by decide)) (SE_cmp op_eq (SE_comp 20 [(Str.ofString ".0", NameKind.local), (Str.ofString "c", NameKind.local), (Str.ofString "d", NameKind.local), (Str.ofString "a", NameKind.free), (Str.ofString "b", NameKind.free)] [(Str.ofString ".0", NameKind.local), (Str.ofString "c", NameKind.local), (Str.ofString "d", NameKind.local), (Str.ofString "a", NameKind.cell), (Str.ofString "b", NameKind.cell)] [none, none, none, some 3, some 4] rfl rfl rfl (by decide) (by decide) (by intro g h; cases h <;> rfl) (SI_list (SE_name 1 "mates" .local _ rfl (.inl rfl) (by decide) (by decide))) (.lst2 1 2 _ _ _ _ _ _ rfl rfl) (.one (ST_cmp op_ne (SE_cmp2 op_le op_le (SE_name 3 "a" .cell _ rfl (.inr (.inl rfl)) (by decide) (by decide)) (SE_name 1 "c" .local _ rfl (.inl rfl) (by decide) (by decide)) (SE_name 4 "b" .cell _ rfl (.inr (.inl rfl)) (by decide) (by decide))) (SE_cmp2 op_le op_le (SE_name 3 "a" .cell _ rfl (.inr (.inl rfl)) (by decide) (by decide)) (SE_name 2 "d" .local _ rfl (.inl rfl) (by decide) (by decide)) (SE_name 4 "b" .cell _ rfl (.inr (.inl rfl)) (by decide) (by decide))))) (SA_emit rfl (SE_name 1 "c" .local _ rfl (.inl rfl) (by decide) (by decide)))) (SE_list SL_nil))) (SB_cons (SS_ret (SE_list SL_nil))
  SB_nil) SB_nil)
  (SB_cons (SS_if (ST_bool (STL_and (ST_plain (SE_name 5 "told" .local _ rfl (.inl rfl) (by decide) (by decide))) (STL_and (ST_cmp op_eq (SE_comp 20 [(Str.ofString ".0", NameKind.local), (Str.ofString "c", NameKind.local), (Str.ofString "d", NameKind.local), (Str.ofString "a", NameKind.free)] [(Str.ofString ".0", NameKind.local), (Str.ofString "c", NameKind.local), (Str.ofString "d", NameKind.local), (Str.ofString "a", NameKind.cell)] [none, none, none, some 3] rfl rfl rfl (by decide) (by decide) (by intro g h; cases h <;> rfl) (SI_list (SE_name 2 "pairs" .local _ rfl (.inl rfl) (by decide) (by decide))) (.lst2 1 2 _ _ _ _ _ _ rfl rfl) (.one (ST_cmp op_eq (SE_name 1 "c" .local _ rfl (.inl rfl) (by decide) (by decide)) (SE_name 3 "a" .cell _ rfl (.inr (.inl rfl)) (by decide) (by decide)))) (SA_emit rfl (SE_name 1 "c" .local _ rfl (.inl rfl) (by decide) (by decide)))) (SE_list SL_nil)) STL_andNil))) (SB_cons (SS_expr (SE_methL meth_append (SE_name 2 "pairs" .local _ rfl (.inl rfl) (by decide) (by decide)) (SL_cons (SE_list (SL_cons (SE_name 3 "a" .cell _ rfl (.inr (.inl rfl)) (by decide) (by decide)) (SL_cons (SE_name 4 "b" .cell _ rfl (.inr (.inl rfl)) (by decide) (by decide)) SL_nil))) SL_nil)))
  SB_nil) SB_nil)
  SB_nil))) SB_nil)
  SB_nil) SB_nil)
  (SB_cons (SS_ret (SE_name 2 "pairs" .local _ rfl (.inl rfl) (by decide) (by decide)))
  SB_nil)))
theorem T_law_pairs {C : Cx} {par : List (Option Int)} (H : Ctx C par) (D : Defs C) : Fun C 18 174 (F_law_pairs) := Fn.runC D.law_pairs (B_law_pairs H D)
theorem B_law_order {C : Cx} {par : List (Option Int)} (H : Ctx C par) (D : Defs C) : SB C 12 nm_law_order (bodyAt 26) (X_law_order) :=
  (SB_cons (SS_comp 2 rfl 20 [(Str.ofString ".0", NameKind.local), (Str.ofString "k", NameKind.local), (Str.ofString "signs", NameKind.free)] [(Str.ofString ".0", NameKind.local), (Str.ofString "k", NameKind.local), (Str.ofString "signs", NameKind.cell)] [none, none, some 0] rfl rfl rfl (by decide) (by decide) (by intro g h; cases h <;> rfl) (SI_range (H.no _ (by decide)) rfl (SL_cons (SE_int 5 _ _) SL_nil)) (.one 1 _ _ rfl) (.one (ST_cmp op_eq (SE_idx op_get (SE_name 2 "signs" .cell _ rfl (.inr (.inl rfl)) (by decide) (by decide)) (SE_name 1 "k" .local _ rfl (.inl rfl) (by decide) (by decide))) (SE_str _ [40] _ _ (by decide)))) (SA_emit rfl (SE_name 1 "k" .local _ rfl (.inl rfl) (by decide) (by decide))) (fun env h1 h2 => swap_loc h1 h2 rfl (by decide)))
  (SB_cons (SS_comp 3 rfl 20 [(Str.ofString ".0", NameKind.local), (Str.ofString "k", NameKind.local), (Str.ofString "signs", NameKind.free)] [(Str.ofString ".0", NameKind.local), (Str.ofString "k", NameKind.local), (Str.ofString "signs", NameKind.cell)] [none, none, some 0] rfl rfl rfl (by decide) (by decide) (by intro g h; cases h <;> rfl) (SI_range (H.no _ (by decide)) rfl (SL_cons (SE_int 5 _ _) SL_nil)) (.one 1 _ _ rfl) (.one (ST_cmp op_eq (SE_idx op_get (SE_name 2 "signs" .cell _ rfl (.inr (.inl rfl)) (by decide) (by decide)) (SE_name 1 "k" .local _ rfl (.inl rfl) (by decide) (by decide))) (SE_str _ [41] _ _ (by decide)))) (SA_emit rfl (SE_name 1 "k" .local _ rfl (.inl rfl) (by decide) (by decide))) (fun env h1 h2 => swap_loc h1 h2 rfl (by decide)))
  (SB_cons (SS_assign 4 .local rfl (.inl rfl) (SE_list SL_nil) (fun _ _ _ => rfl))
  (SB_cons (SS_for 20 (.one 1 _ _ rfl) (SI_range (H.no _ (by decide)) rfl (SL_cons (SE_int 5 _ _) (SL_cons (SE_int 10 _ _) SL_nil))) (SB_cons (SS_if (ST_cmp op_eq (SE_idx op_get (SE_name 0 "signs" .cell _ rfl (.inr (.inl rfl)) (by decide) (by decide)) (SE_name 1 "k" .local _ rfl (.inl rfl) (by decide) (by decide))) (SE_str _ [40] _ _ (by decide))) (SB_cons (SS_assign 5 .local rfl (.inl rfl) (SE_call 134 (H.fn _ _ (by decide)) rfl (by decide) D.getitem.isFn (T_getitem H D).up (SL_cons (SE_name 3 "low" .local _ rfl (.inl rfl) (by decide) (by decide)) (SL_cons (SE_neg (SE_int 1 _ _)) SL_nil))) (fun _ _ _ => rfl))
  (SB_cons (SS_assign 6 .local rfl (.inl rfl) (SE_call 106 (H.fn _ _ (by decide)) rfl (by decide) D.sub.isFn (T_sub H D).up (SL_cons (SE_call 71 (H.fn _ _ (by decide)) rfl (by decide) D.bisect_left.isFn (T_bisect_left H D).up (SL_cons (SE_name 2 "top" .local _ rfl (.inl rfl) (by decide) (by decide)) (SL_cons (SE_name 5 "out" .local _ rfl (.inl rfl) (by decide) (by decide)) SL_nil))) (SL_cons (SE_int 1 _ _) SL_nil))) (fun _ _ _ => rfl))
  (SB_cons (SS_expr (SE_methL meth_append (SE_name 4 "order" .local _ rfl (.inl rfl) (by decide) (by decide)) (SL_cons (SE_call 134 (H.fn _ _ (by decide)) rfl (by decide) D.getitem.isFn (T_getitem H D).up (SL_cons (SE_name 2 "top" .local _ rfl (.inl rfl) (by decide) (by decide)) (SL_cons (SE_name 6 "place" .local _ rfl (.inl rfl) (by decide) (by decide)) SL_nil))) SL_nil)))
  (SB_cons (SS_if (ST_bool (STL_or (ST_cmp op_isNot (SE_call 127 (H.fn _ _ (by decide)) rfl (by decide) D.delitem.isFn (T_delitem H D).up (SL_cons (SE_name 3 "low" .local _ rfl (.inl rfl) (by decide) (by decide)) (SL_cons (SE_neg (SE_int 1 _ _)) SL_nil))) (SE_none _ _)) (STL_or (ST_cmp op_isNot (SE_call 148 (H.fn _ _ (by decide)) rfl (by decide) D.setitem.isFn (T_setitem H D).up (SL_cons (SE_name 2 "top" .local _ rfl (.inl rfl) (by decide) (by decide)) (SL_cons (SE_name 6 "place" .local _ rfl (.inl rfl) (by decide) (by decide)) (SL_cons (SE_name 5 "out" .local _ rfl (.inl rfl) (by decide) (by decide)) SL_nil)))) (SE_none _ _)) STL_orNil))) (SB_cons (SS_ret (SE_list SL_nil))
  SB_nil) SB_nil)
  SB_nil)))) (SB_cons (SS_expr (SE_methL meth_append (SE_name 4 "order" .local _ rfl (.inl rfl) (by decide) (by decide)) (SL_cons (SE_call 134 (H.fn _ _ (by decide)) rfl (by decide) D.getitem.isFn (T_getitem H D).up (SL_cons (SE_name 2 "top" .local _ rfl (.inl rfl) (by decide) (by decide)) (SL_cons (SE_neg (SE_int 1 _ _)) SL_nil))) SL_nil)))
  (SB_cons (SS_expr (SE_call 127 (H.fn _ _ (by decide)) rfl (by decide) D.delitem.isFn (T_delitem H D).up (SL_cons (SE_name 2 "top" .local _ rfl (.inl rfl) (by decide) (by decide)) (SL_cons (SE_neg (SE_int 1 _ _)) SL_nil))))
  SB_nil)))
  SB_nil) SB_nil)
  (SB_cons (SS_ret (SE_slice (SE_name 4 "order" .local _ rfl (.inl rfl) (by decide) (by decide)) SP_none SP_none (SP_some (SE_neg (SE_int 1 _ _)))))
  SB_nil)))))
theorem T_law_order {C : Cx} {par : List (Option Int)} (H : Ctx C par) (D : Defs C) : Fun C 13 179 (F_law_order) := Fn.runC D.law_order (B_law_order H D)
theorem B_law_row {C : Cx} {par : List (Option Int)} (H : Ctx C par) (D : Defs C) : SB C 13 nm_law_row (bodyAt 27) (X_law_row) :=
  (SB_cons (SS_tup [(1, "top"), (2, "low"), (3, "rear")] [_, _, _] false (tup_names (by decide)) rfl rfl rfl (SL_cons (SE_list SL_nil) (SL_cons (SE_list SL_nil) (SL_cons (SE_list SL_nil) SL_nil))) (fun _ => rfl) (fun env h1 h2 => (stores_env h1 h2).trans (by kernel_rfl)))
  (SB_cons (SS_for 20 (.one 4 _ _ rfl) (SI_list (SE_name 0 "order" .local _ rfl (.inl rfl) (by decide) (by decide))) (SB_cons (SS_assign 5 .local rfl (.inl rfl) (SE_call 53 (H.fn _ _ (by decide)) rfl (by decide) D.bisect_right.isFn (T_bisect_right H D).up (SL_cons (SE_name 1 "top" .local _ rfl (.inl rfl) (by decide) (by decide)) (SL_cons (SE_name 4 "x" .local _ rfl (.inl rfl) (by decide) (by decide)) SL_nil))) (fun _ _ _ => rfl))
  (SB_cons (SS_if (ST_cmp op_eq (SE_name 5 "place" .local _ rfl (.inl rfl) (by decide) (by decide)) (SE_callB "len" (H.no _ (by decide)) rfl (by decide) (by decide) (by rfl) bui_len (SL_cons (SE_name 1 "top" .local _ rfl (.inl rfl) (by decide) (by decide)) SL_nil))) (SB_cons (SS_expr (SE_methL meth_append (SE_name 1 "top" .local _ rfl (.inl rfl) (by decide) (by decide)) (SL_cons (SE_name 4 "x" .local _ rfl (.inl rfl) (by decide) (by decide)) SL_nil)))
  (SB_cons (SS_expr (SE_methL meth_append (SE_name 3 "rear" .local _ rfl (.inl rfl) (by decide) (by decide)) (SL_cons (SE_str _ [41] _ _ (by decide)) SL_nil)))
  SB_nil)) (SB_cons (SS_expr (SE_call 44 (H.fn _ _ (by decide)) rfl (by decide) D.insort_right.isFn (T_insort_right H D).up (SL_cons (SE_name 2 "low" .cell _ rfl (.inr (.inl rfl)) (by decide) (by decide)) (SL_cons (SE_call 134 (H.fn _ _ (by decide)) rfl (by decide) D.getitem.isFn (T_getitem H D).up (SL_cons (SE_name 1 "top" .local _ rfl (.inl rfl) (by decide) (by decide)) (SL_cons (SE_name 5 "place" .local _ rfl (.inl rfl) (by decide) (by decide)) SL_nil))) SL_nil))))
  (SB_cons (SS_expr (SE_call 148 (H.fn _ _ (by decide)) rfl (by decide) D.setitem.isFn (T_setitem H D).up (SL_cons (SE_name 1 "top" .local _ rfl (.inl rfl) (by decide) (by decide)) (SL_cons (SE_name 5 "place" .local _ rfl (.inl rfl) (by decide) (by decide)) (SL_cons (SE_name 4 "x" .local _ rfl (.inl rfl) (by decide) (by decide)) SL_nil)))))
  (SB_cons (SS_expr (SE_methL meth_append (SE_name 3 "rear" .local _ rfl (.inl rfl) (by decide) (by decide)) (SL_cons (SE_str _ [40] _ _ (by decide)) SL_nil)))
  SB_nil))))
  SB_nil)) SB_nil)
  (SB_cons (SS_ret (SE_bin (op_add H.hdt) (SE_comp 20 [(Str.ofString ".0", NameKind.local), (Str.ofString "k", NameKind.local), (Str.ofString "countOf", NameKind.globalImplicit), (Str.ofString "low", NameKind.free)] [(Str.ofString ".0", NameKind.local), (Str.ofString "k", NameKind.local), (Str.ofString "countOf", NameKind.globalImplicit), (Str.ofString "low", NameKind.cell)] [none, none, none, some 2] rfl rfl rfl (by decide) (by decide) (by intro g h; cases h <;> rfl) (SI_range (H.no _ (by decide)) rfl (SL_cons (SE_int 5 _ _) SL_nil)) (.one 1 _ _ rfl) .nil (SA_emit rfl (SE_idx op_get (SE_str _ [40, 41] _ _ (by decide)) (SE_call 120 (H.fn _ _ (by decide)) rfl (by decide) D.countOf.isFn (T_countOf H D).up (SL_cons (SE_name 3 "low" .cell _ rfl (.inr (.inl rfl)) (by decide) (by decide)) (SL_cons (SE_name 1 "k" .local _ rfl (.inl rfl) (by decide) (by decide)) SL_nil)))))) (SE_slice (SE_name 3 "rear" .local _ rfl (.inl rfl) (by decide) (by decide)) SP_none SP_none (SP_some (SE_neg (SE_int 1 _ _))))))
  SB_nil)))
theorem T_law_row {C : Cx} {par : List (Option Int)} (H : Ctx C par) (D : Defs C) : Fun C 14 184 (F_law_row) := Fn.runC D.law_row (B_law_row H D)
end Mine
end

section
set_option maxHeartbeats 4000000
namespace Mine
theorem B_law {C : Cx} {par : List (Option Int)} {Pt : Addr} {pst : Array Value} (H : Ctx C par) (D : Defs C) (L : LamOk C Pt pst ⟨206, 51, 206, 79⟩) : SBx C 18 nm_law Pt pst (bodyAt 29) (X_law par) :=
  (SBx_cons (by decide +kernel) (SS_assign 2 .cell rfl (.inr rfl) (SE_comp 20 [(Str.ofString ".0", NameKind.local), (Str.ofString "k", NameKind.local), (Str.ofString "x", NameKind.local), (Str.ofString "sum", NameKind.globalImplicit), (Str.ofString "script", NameKind.free)] [(Str.ofString ".0", NameKind.local), (Str.ofString "k", NameKind.local), (Str.ofString "x", NameKind.local), (Str.ofString "sum", NameKind.globalImplicit), (Str.ofString "script", NameKind.cell)] [none, none, none, none, some 0] rfl rfl rfl (by decide +kernel) (by decide +kernel) (by intro g h; cases h <;> rfl) (SI_enum (H.no _ (by decide +kernel)) rfl (SL_cons (SE_list (SL_cons (SE_int 4 _ _) (SL_cons (SE_int 2 _ _) (SL_cons (SE_int 7 _ _) (SL_cons (SE_int 8 _ _) (SL_cons (SE_int 0 _ _) (SL_cons (SE_int 11 _ _) (SL_cons (SE_int 10 _ _) (SL_cons (SE_int 7 _ _) (SL_cons (SE_int 4 _ _) (SL_cons (SE_int 12 _ _) SL_nil))))))))))) SL_nil)) (.two 1 2 _ _ _ _ _ _ rfl rfl) .nil (SA_emit rfl (SE_bin (op_add H.hdt) (SE_name 2 "x" .local _ rfl (.inl rfl) (by decide +kernel) (by decide +kernel)) (SE_sumK 1 4 rfl rfl (H.no _ (by decide +kernel)) rfl H.sc)))) (fun env h1 h2 => swap_cell h2))
  (SBx_cons (by decide +kernel) (SS_assign 3 .cell rfl (.inr rfl) (SE_call 162 (H.fn _ _ (by decide +kernel)) rfl (by decide +kernel) D.law_signs.isFn (T_law_signs H D).up (SL_cons (SE_name 2 "cells" .cell _ rfl (.inr (.inl rfl)) (by decide +kernel) (by decide +kernel)) SL_nil)) (fun _ _ _ => rfl))
  (SBx_cons (by decide +kernel) (SS_assign 4 .local rfl (.inl rfl) (SE_call 169 (H.fn _ _ (by decide +kernel)) rfl (by decide +kernel) D.law_mates.isFn (T_law_mates H D).up (SL_cons (SE_name 3 "signs" .cell _ rfl (.inr (.inl rfl)) (by decide +kernel) (by decide +kernel)) SL_nil)) (fun _ _ _ => rfl))
  (SBx_cons (by decide +kernel) (SS_assign 5 .local rfl (.inl rfl) (SE_call 174 (H.fn _ _ (by decide +kernel)) rfl (by decide +kernel) D.law_pairs.isFn (T_law_pairs H D).up (SL_cons (SE_comp 20 [(Str.ofString ".0", NameKind.local), (Str.ofString "k", NameKind.local), (Str.ofString "_law_dress", NameKind.globalImplicit), (Str.ofString "cells", NameKind.free), (Str.ofString "signs", NameKind.free)] [(Str.ofString ".0", NameKind.local), (Str.ofString "k", NameKind.local), (Str.ofString "_law_dress", NameKind.globalImplicit), (Str.ofString "cells", NameKind.cell), (Str.ofString "signs", NameKind.cell)] [none, none, none, some 2, some 3] rfl rfl rfl (by decide +kernel) (by decide +kernel) (by intro g h; cases h <;> rfl) (SI_range (H.no _ (by decide +kernel)) rfl (SL_cons (SE_int 10 _ _) SL_nil)) (.one 1 _ _ rfl) .nil (SA_emit rfl (SE_bin (op_add H.hdt) (SE_ifE (ST_cmp op_eq (SE_bin (op_mod H.hpar) (SE_name 1 "k" .local _ rfl (.inl rfl) (by decide +kernel) (by decide +kernel)) (SE_int 2 _ _)) (SE_int 1 _ _)) (SE_call 155 (H.fn _ _ (by decide +kernel)) rfl (by decide +kernel) D.law_dress.isFn (T_law_dress H D).up (SL_cons (SE_idx op_get (SE_name 3 "cells" .cell _ rfl (.inr (.inl rfl)) (by decide +kernel) (by decide +kernel)) (SE_name 1 "k" .local _ rfl (.inl rfl) (by decide +kernel) (by decide +kernel))) SL_nil)) (SE_str _ [] _ _ (by decide +kernel))) (SE_idx op_get (SE_name 4 "signs" .cell _ rfl (.inr (.inl rfl)) (by decide +kernel) (by decide +kernel)) (SE_name 1 "k" .local _ rfl (.inl rfl) (by decide +kernel) (by decide +kernel)))))) (SL_cons (SE_name 4 "mates" .local _ rfl (.inl rfl) (by decide +kernel) (by decide +kernel)) SL_nil))) (fun _ _ _ => rfl))
  (SBx_cons (by decide +kernel) (SS_assign 6 .cell rfl (.inr rfl) (SE_call 179 (H.fn _ _ (by decide +kernel)) rfl (by decide +kernel) D.law_order.isFn (T_law_order H D).up (SL_cons (SE_name 3 "signs" .cell _ rfl (.inr (.inl rfl)) (by decide +kernel) (by decide +kernel)) SL_nil)) (fun _ _ _ => rfl))
  (SBx_cons (by decide +kernel) (SS_if (ST_bool (STL_or (ST_cmp op_ne (SE_name 5 "pairs" .local _ rfl (.inl rfl) (by decide +kernel) (by decide +kernel)) (SE_name 4 "mates" .local _ rfl (.inl rfl) (by decide +kernel) (by decide +kernel))) (STL_or (ST_cmp op_ne (SE_call 184 (H.fn _ _ (by decide +kernel)) rfl (by decide +kernel) D.law_row.isFn (T_law_row H D).up (SL_cons (SE_name 6 "order" .cell _ rfl (.inr (.inl rfl)) (by decide +kernel) (by decide +kernel)) SL_nil)) (SE_name 3 "signs" .cell _ rfl (.inr (.inl rfl)) (by decide +kernel) (by decide +kernel))) STL_orNil))) (SB_cons (SS_ret (SE_bool false _ _))
  SB_nil) SB_nil)
  (SBx_cons (by decide +kernel) (SS_if (ST_cmp op_ne (SE_comp 20 [(Str.ofString ".0", NameKind.local), (Str.ofString "k", NameKind.local), (Str.ofString "j", NameKind.local), (Str.ofString "range", NameKind.globalImplicit), (Str.ofString "i", NameKind.local), (Str.ofString "order", NameKind.free)] [(Str.ofString ".0", NameKind.local), (Str.ofString "k", NameKind.local), (Str.ofString "j", NameKind.local), (Str.ofString "range", NameKind.globalImplicit), (Str.ofString "i", NameKind.local), (Str.ofString "order", NameKind.cell)] [none, none, none, none, none, some 6] rfl rfl rfl (by decide +kernel) (by decide +kernel) (by intro g h; cases h <;> rfl) (SI_range (H.no _ (by decide +kernel)) rfl (SL_cons (SE_int 5 _ _) SL_nil)) (.one 1 _ _ rfl) .nil (SA_nest 20 rfl (by intro g h; cases h <;> rfl) (SI_range (H.no _ (by decide +kernel)) rfl (SL_cons (SE_name 1 "k" .local _ rfl (.inl rfl) (by decide +kernel) (by decide +kernel)) SL_nil)) (.one 2 _ _ rfl) .nil (SA_nest 20 rfl (by intro g h; cases h <;> rfl) (SI_range (H.no _ (by decide +kernel)) rfl (SL_cons (SE_name 2 "j" .local _ rfl (.inl rfl) (by decide +kernel) (by decide +kernel)) SL_nil)) (.one 4 _ _ rfl) (.one (ST_cmp2 op_gt op_gt (SE_idx op_get (SE_name 5 "order" .cell _ rfl (.inr (.inl rfl)) (by decide +kernel) (by decide +kernel)) (SE_name 4 "i" .local _ rfl (.inl rfl) (by decide +kernel) (by decide +kernel))) (SE_idx op_get (SE_name 5 "order" .cell _ rfl (.inr (.inl rfl)) (by decide +kernel) (by decide +kernel)) (SE_name 2 "j" .local _ rfl (.inl rfl) (by decide +kernel) (by decide +kernel))) (SE_idx op_get (SE_name 5 "order" .cell _ rfl (.inr (.inl rfl)) (by decide +kernel) (by decide +kernel)) (SE_name 1 "k" .local _ rfl (.inl rfl) (by decide +kernel) (by decide +kernel))))) (SA_emit rfl (SE_name 1 "k" .local _ rfl (.inl rfl) (by decide +kernel) (by decide +kernel)))))) (SE_list SL_nil)) (SB_cons (SS_ret (SE_bool false _ _))
  SB_nil) SB_nil)
  (SBx_cons (by decide +kernel) (SS_if (ST_cmp op_ne (SE_call 179 (H.fn _ _ (by decide +kernel)) rfl (by decide +kernel) D.law_order.isFn (T_law_order H D).up (SL_cons (SE_comp 20 [(Str.ofString ".0", NameKind.local), (Str.ofString "sign", NameKind.local)] [(Str.ofString ".0", NameKind.local), (Str.ofString "sign", NameKind.local)] [none, none] rfl rfl rfl (by decide +kernel) (by decide +kernel) (by intro g h; cases h <;> rfl) (SI_list (SE_slice (SE_name 3 "signs" .cell _ rfl (.inr (.inl rfl)) (by decide +kernel) (by decide +kernel)) SP_none SP_none (SP_some (SE_neg (SE_int 1 _ _))))) (.one 1 _ _ rfl) .nil (SA_emit rfl (SE_ifE (ST_cmp op_eq (SE_name 1 "sign" .local _ rfl (.inl rfl) (by decide +kernel) (by decide +kernel)) (SE_str _ [40] _ _ (by decide +kernel))) (SE_str _ [41] _ _ (by decide +kernel)) (SE_str _ [40] _ _ (by decide +kernel))))) SL_nil)) (SE_comp 20 [(Str.ofString ".0", NameKind.local), (Str.ofString "k", NameKind.local), (Str.ofString "indexOf", NameKind.globalImplicit), (Str.ofString "order", NameKind.free)] [(Str.ofString ".0", NameKind.local), (Str.ofString "k", NameKind.local), (Str.ofString "indexOf", NameKind.globalImplicit), (Str.ofString "order", NameKind.cell)] [none, none, none, some 6] rfl rfl rfl (by decide +kernel) (by decide +kernel) (by intro g h; cases h <;> rfl) (SI_range (H.no _ (by decide +kernel)) rfl (SL_cons (SE_int 5 _ _) SL_nil)) (.one 1 _ _ rfl) .nil (SA_emit rfl (SE_call 141 (H.fn _ _ (by decide +kernel)) rfl (by decide +kernel) D.indexOf.isFn (T_indexOf H D).up (SL_cons (SE_name 3 "order" .cell _ rfl (.inr (.inl rfl)) (by decide +kernel) (by decide +kernel)) (SL_cons (SE_name 1 "k" .local _ rfl (.inl rfl) (by decide +kernel) (by decide +kernel)) SL_nil)))))) (SB_cons (SS_ret (SE_bool false _ _))
  SB_nil) SB_nil)
  (SBx_cons (by decide +kernel) (SS_assign 26 .cell rfl (.inr rfl) (SE_comp 20 [(Str.ofString ".0", NameKind.local), (Str.ofString "a", NameKind.local), (Str.ofString "b", NameKind.local)] [(Str.ofString ".0", NameKind.local), (Str.ofString "a", NameKind.local), (Str.ofString "b", NameKind.local)] [none, none, none] rfl rfl rfl (by decide +kernel) (by decide +kernel) (by intro g h; cases h <;> rfl) (SI_list (SE_name 5 "pairs" .local _ rfl (.inl rfl) (by decide +kernel) (by decide +kernel))) (.lst2 1 2 _ _ _ _ _ _ rfl rfl) .nil (SA_emit rfl (SE_list (SL_cons (SE_bin (op_add H.hdt) (SE_name 1 "a" .local _ rfl (.inl rfl) (by decide +kernel) (by decide +kernel)) (SE_name 2 "b" .local _ rfl (.inl rfl) (by decide +kernel) (by decide +kernel))) SL_nil)))) (fun env h1 h2 => swap_cell h2))
  (SBx_cons (by decide +kernel) (SS_tup [(7, "laid"), (8, "back"), (9, "plain"), (10, "turned")] [_, _, _, _] false (tup_names (by decide +kernel)) rfl rfl rfl (SL_cons (SE_list SL_nil) (SL_cons (SE_list SL_nil) (SL_cons (SE_list SL_nil) (SL_cons (SE_list SL_nil) SL_nil)))) (fun _ => rfl) (fun env h1 h2 => (stores_env h1 h2).trans (by kernel_rfl)))
  (SBx_cons (by decide +kernel) (SS_for 20 (.one 1 _ _ rfl) (SI_range (H.no _ (by decide +kernel)) rfl (SL_cons (SE_int 5 _ _) SL_nil)) (SB_cons (SS_if (ST_bool (STL_or (ST_cmp op_isNot (SE_callK 44 (H.fn _ _ (by decide +kernel)) rfl (by decide +kernel) D.insort_right.isFn (TK_insort_right H D).up (SL_cons (SE_name 7 "laid" .local _ rfl (.inl rfl) (by decide +kernel) (by decide +kernel)) (SL_cons (SE_idx op_get (SE_name 5 "pairs" .local _ rfl (.inl rfl) (by decide +kernel) (by decide +kernel)) (SE_name 1 "k" .local _ rfl (.inl rfl) (by decide +kernel) (by decide +kernel))) SL_nil)) (SE_glob "_law_middle" _ 191 (H.fn _ _ (by decide +kernel)) rfl (by decide +kernel))) (SE_none _ _)) (STL_or (ST_cmp op_isNot (SE_call 44 (H.fn _ _ (by decide +kernel)) rfl (by decide +kernel) D.insort_right.isFn (T_insort_right H D).up (SL_cons (SE_name 9 "plain" .local _ rfl (.inl rfl) (by decide +kernel) (by decide +kernel)) (SL_cons (SE_idx op_get (SE_name 26 "sums" .cell _ rfl (.inr (.inl rfl)) (by decide +kernel) (by decide +kernel)) (SE_name 1 "k" .local _ rfl (.inl rfl) (by decide +kernel) (by decide +kernel))) SL_nil))) (SE_none _ _)) STL_orNil))) (SB_cons (SS_ret (SE_bool false _ _))
  SB_nil) SB_nil)
  (SB_cons (SS_if (ST_bool (STL_or (ST_cmp op_isNot (SE_callK 62 (H.fn _ _ (by decide +kernel)) rfl (by decide +kernel) D.insort_left.isFn (TK_insort_left H D).up (SL_cons (SE_name 8 "back" .local _ rfl (.inl rfl) (by decide +kernel) (by decide +kernel)) (SL_cons (SE_idx op_get (SE_name 5 "pairs" .local _ rfl (.inl rfl) (by decide +kernel) (by decide +kernel)) (SE_bin op_sub (SE_int 4 _ _) (SE_name 1 "k" .local _ rfl (.inl rfl) (by decide +kernel) (by decide +kernel)))) SL_nil)) (SE_glob "_law_middle" _ 191 (H.fn _ _ (by decide +kernel)) rfl (by decide +kernel))) (SE_none _ _)) (STL_or (ST_cmp op_isNot (SE_call 62 (H.fn _ _ (by decide +kernel)) rfl (by decide +kernel) D.insort_left.isFn (T_insort_left H D).up (SL_cons (SE_name 10 "turned" .local _ rfl (.inl rfl) (by decide +kernel) (by decide +kernel)) (SL_cons (SE_idx op_get (SE_name 26 "sums" .cell _ rfl (.inr (.inl rfl)) (by decide +kernel) (by decide +kernel)) (SE_bin op_sub (SE_int 4 _ _) (SE_name 1 "k" .local _ rfl (.inl rfl) (by decide +kernel) (by decide +kernel)))) SL_nil))) (SE_none _ _)) STL_orNil))) (SB_cons (SS_ret (SE_bool false _ _))
  SB_nil) SB_nil)
  SB_nil)) SB_nil)
  (SBx_for 20 L (H.no _ (by decide +kernel)) rfl (H.no _ (by decide +kernel)) rfl (H.no _ (by decide +kernel)) rfl rfl (by decide +kernel) 26 rfl (fun _ => rfl) (fun _ _ _ _ _ _ _ _ _ => rfl) (.two 1 11 _ _ _ _ _ _ rfl rfl) (SB_cons (SS_if (ST_bool (STL_or (ST_cmp op_isNot (SE_idx op_get (SE_name 7 "laid" .local _ rfl (.inl rfl) (by decide +kernel) (by decide +kernel)) (SE_name 1 "k" .local _ rfl (.inl rfl) (by decide +kernel) (by decide +kernel))) (SE_idx op_get (SE_name 5 "pairs" .local _ rfl (.inl rfl) (by decide +kernel) (by decide +kernel)) (SE_name 11 "which" .local _ rfl (.inl rfl) (by decide +kernel) (by decide +kernel)))) (STL_or (ST_cmp op_isNot (SE_idx op_get (SE_name 8 "back" .local _ rfl (.inl rfl) (by decide +kernel) (by decide +kernel)) (SE_name 1 "k" .local _ rfl (.inl rfl) (by decide +kernel) (by decide +kernel))) (SE_idx op_get (SE_name 5 "pairs" .local _ rfl (.inl rfl) (by decide +kernel) (by decide +kernel)) (SE_name 11 "which" .local _ rfl (.inl rfl) (by decide +kernel) (by decide +kernel)))) (STL_or (ST_cmp op_isNot (SE_idx op_get (SE_name 9 "plain" .local _ rfl (.inl rfl) (by decide +kernel) (by decide +kernel)) (SE_name 1 "k" .local _ rfl (.inl rfl) (by decide +kernel) (by decide +kernel))) (SE_idx op_get (SE_name 26 "sums" .cell _ rfl (.inr (.inl rfl)) (by decide +kernel) (by decide +kernel)) (SE_name 11 "which" .local _ rfl (.inl rfl) (by decide +kernel) (by decide +kernel)))) (STL_or (ST_cmp op_isNot (SE_idx op_get (SE_name 10 "turned" .local _ rfl (.inl rfl) (by decide +kernel) (by decide +kernel)) (SE_name 1 "k" .local _ rfl (.inl rfl) (by decide +kernel) (by decide +kernel))) (SE_idx op_get (SE_name 26 "sums" .cell _ rfl (.inr (.inl rfl)) (by decide +kernel) (by decide +kernel)) (SE_name 11 "which" .local _ rfl (.inl rfl) (by decide +kernel) (by decide +kernel)))) STL_orNil))))) (SB_cons (SS_ret (SE_bool false _ _))
  SB_nil) SB_nil)
  SB_nil) SB_nil
  (SB_cons (SS_assign 12 .local rfl (.inl rfl) (SE_callK 71 (H.fn _ _ (by decide +kernel)) rfl (by decide +kernel) D.bisect_left.isFn (TK_bisect_left H D).up (SL_cons (SE_name 7 "laid" .local _ rfl (.inl rfl) (by decide +kernel) (by decide +kernel)) (SL_cons (SE_int 9 _ _) SL_nil)) (SE_glob "_law_middle" _ 191 (H.fn _ _ (by decide +kernel)) rfl (by decide +kernel))) (fun _ _ _ => rfl))
  (SB_cons (SS_assign 13 .local rfl (.inl rfl) (SE_callK 53 (H.fn _ _ (by decide +kernel)) rfl (by decide +kernel) D.bisect_right.isFn (TK_bisect_right H D).up (SL_cons (SE_name 7 "laid" .local _ rfl (.inl rfl) (by decide +kernel) (by decide +kernel)) (SL_cons (SE_int 9 _ _) SL_nil)) (SE_glob "_law_middle" _ 191 (H.fn _ _ (by decide +kernel)) rfl (by decide +kernel))) (fun _ _ _ => rfl))
  (SB_cons (SS_if (ST_cmp op_ne (SE_comp 20 [(Str.ofString ".0", NameKind.local), (Str.ofString "pair", NameKind.local), (Str.ofString "getitem", NameKind.globalImplicit)] [(Str.ofString ".0", NameKind.local), (Str.ofString "pair", NameKind.local), (Str.ofString "getitem", NameKind.globalImplicit)] [none, none, none] rfl rfl rfl (by decide +kernel) (by decide +kernel) (by intro g h; cases h <;> rfl) (SI_list (SE_slice (SE_name 7 "laid" .local _ rfl (.inl rfl) (by decide +kernel) (by decide +kernel)) (SP_some (SE_name 12 "ahead" .local _ rfl (.inl rfl) (by decide +kernel) (by decide +kernel))) (SP_some (SE_name 13 "upto" .local _ rfl (.inl rfl) (by decide +kernel) (by decide +kernel))) SP_none)) (.one 1 _ _ rfl) .nil (SA_emit rfl (SE_call 134 (H.fn _ _ (by decide +kernel)) rfl (by decide +kernel) D.getitem.isFn (T_getitem H D).up (SL_cons (SE_name 1 "pair" .local _ rfl (.inl rfl) (by decide +kernel) (by decide +kernel)) (SL_cons (SE_int 0 _ _) SL_nil))))) (SE_comp 20 [(Str.ofString ".0", NameKind.local), (Str.ofString "k", NameKind.local), (Str.ofString "order", NameKind.free)] [(Str.ofString ".0", NameKind.local), (Str.ofString "k", NameKind.local), (Str.ofString "order", NameKind.cell)] [none, none, some 6] rfl rfl rfl (by decide +kernel) (by decide +kernel) (by intro g h; cases h <;> rfl) (SI_range (H.no _ (by decide +kernel)) rfl (SL_cons (SE_int 5 _ _) SL_nil)) (.one 1 _ _ rfl) (.one (ST_cmp op_eq (SE_idx op_get (SE_name 2 "order" .cell _ rfl (.inr (.inl rfl)) (by decide +kernel) (by decide +kernel)) (SE_name 1 "k" .local _ rfl (.inl rfl) (by decide +kernel) (by decide +kernel))) (SE_name 1 "k" .local _ rfl (.inl rfl) (by decide +kernel) (by decide +kernel)))) (SA_emit rfl (SE_name 1 "k" .local _ rfl (.inl rfl) (by decide +kernel) (by decide +kernel))))) (SB_cons (SS_ret (SE_bool false _ _))
  SB_nil) SB_nil)
  (SB_cons (SS_if (ST_bool (STL_or (ST_cmp op_ne (SE_call 120 (H.fn _ _ (by decide +kernel)) rfl (by decide +kernel) D.countOf.isFn (T_countOf H D).up (SL_cons (SE_name 9 "plain" .local _ rfl (.inl rfl) (by decide +kernel) (by decide +kernel)) (SL_cons (SE_list (SL_cons (SE_int 9 _ _) SL_nil)) SL_nil))) (SE_call 106 (H.fn _ _ (by decide +kernel)) rfl (by decide +kernel) D.sub.isFn (T_sub H D).up (SL_cons (SE_name 13 "upto" .local _ rfl (.inl rfl) (by decide +kernel) (by decide +kernel)) (SL_cons (SE_name 12 "ahead" .local _ rfl (.inl rfl) (by decide +kernel) (by decide +kernel)) SL_nil)))) (STL_or (ST_bool (STL_and (ST_cmp op_lt (SE_name 12 "ahead" .local _ rfl (.inl rfl) (by decide +kernel) (by decide +kernel)) (SE_name 13 "upto" .local _ rfl (.inl rfl) (by decide +kernel) (by decide +kernel))) (STL_and (ST_cmp op_ne (SE_call 141 (H.fn _ _ (by decide +kernel)) rfl (by decide +kernel) D.indexOf.isFn (T_indexOf H D).up (SL_cons (SE_name 9 "plain" .local _ rfl (.inl rfl) (by decide +kernel) (by decide +kernel)) (SL_cons (SE_list (SL_cons (SE_int 9 _ _) SL_nil)) SL_nil))) (SE_name 12 "ahead" .local _ rfl (.inl rfl) (by decide +kernel) (by decide +kernel))) STL_andNil))) STL_orNil))) (SB_cons (SS_ret (SE_bool false _ _))
  SB_nil) SB_nil)
  (SB_cons (SS_for 20 (.lst2 14 15 _ _ _ _ _ _ rfl rfl) (SI_list (SE_list (SL_cons (SE_list (SL_cons (SE_int 0 _ _) (SL_cons (SE_int 1 _ _) SL_nil))) (SL_cons (SE_list (SL_cons (SE_int 1 _ _) (SL_cons (SE_int 4 _ _) SL_nil))) (SL_cons (SE_list (SL_cons (SE_int 4 _ _) (SL_cons (SE_int 5 _ _) SL_nil))) SL_nil))))) (SB_cons (SS_tup [(16, "fore"), (17, "rear")] [_, _] true (tup_names (by decide +kernel)) rfl rfl rfl (SL_cons (SE_callB "min" (H.no _ (by decide +kernel)) rfl (by decide +kernel) (by decide +kernel) (by rfl) bui_min (SL_cons (SE_callB "max" (H.no _ (by decide +kernel)) rfl (by decide +kernel) (by decide +kernel) (by rfl) bui_max (SL_cons (SE_name 14 "lo" .local _ rfl (.inl rfl) (by decide +kernel) (by decide +kernel)) (SL_cons (SE_name 12 "ahead" .local _ rfl (.inl rfl) (by decide +kernel) (by decide +kernel)) SL_nil))) (SL_cons (SE_name 15 "hi" .local _ rfl (.inl rfl) (by decide +kernel) (by decide +kernel)) SL_nil))) (SL_cons (SE_callB "min" (H.no _ (by decide +kernel)) rfl (by decide +kernel) (by decide +kernel) (by rfl) bui_min (SL_cons (SE_callB "max" (H.no _ (by decide +kernel)) rfl (by decide +kernel) (by decide +kernel) (by rfl) bui_max (SL_cons (SE_name 14 "lo" .local _ rfl (.inl rfl) (by decide +kernel) (by decide +kernel)) (SL_cons (SE_name 13 "upto" .local _ rfl (.inl rfl) (by decide +kernel) (by decide +kernel)) SL_nil))) (SL_cons (SE_name 15 "hi" .local _ rfl (.inl rfl) (by decide +kernel) (by decide +kernel)) SL_nil))) SL_nil)) (fun _ => rfl) (fun env h1 h2 => (stores_env h1 h2).trans (by kernel_rfl)))
  (SB_cons (SS_tup [(18, "both"), (19, "ones")] [_, _] true (tup_names (by decide +kernel)) rfl rfl rfl (SL_cons (SE_slice (SE_name 7 "laid" .local _ rfl (.inl rfl) (by decide +kernel) (by decide +kernel)) SP_none SP_none SP_none) (SL_cons (SE_slice (SE_name 9 "plain" .local _ rfl (.inl rfl) (by decide +kernel) (by decide +kernel)) SP_none SP_none SP_none) SL_nil)) (fun _ => rfl) (fun env h1 h2 => (stores_env h1 h2).trans (by kernel_rfl)))
  (SB_cons (SS_expr (SE_callK 62 (H.fn _ _ (by decide +kernel)) rfl (by decide +kernel) D.insort_left.isFn (TK_insort_left H D).up (SL_cons (SE_name 18 "both" .local _ rfl (.inl rfl) (by decide +kernel) (by decide +kernel)) (SL_cons (SE_list (SL_cons (SE_int 9 _ _) (SL_cons (SE_int 0 _ _) SL_nil))) (SL_cons (SE_name 14 "lo" .local _ rfl (.inl rfl) (by decide +kernel) (by decide +kernel)) (SL_cons (SE_name 15 "hi" .local _ rfl (.inl rfl) (by decide +kernel) (by decide +kernel)) SL_nil)))) (SE_glob "_law_middle" _ 191 (H.fn _ _ (by decide +kernel)) rfl (by decide +kernel))))
  (SB_cons (SS_expr (SE_callK 44 (H.fn _ _ (by decide +kernel)) rfl (by decide +kernel) D.insort_right.isFn (TK_insort_right H D).up (SL_cons (SE_name 18 "both" .local _ rfl (.inl rfl) (by decide +kernel) (by decide +kernel)) (SL_cons (SE_list (SL_cons (SE_int 5 _ _) (SL_cons (SE_int 4 _ _) SL_nil))) (SL_cons (SE_name 14 "lo" .local _ rfl (.inl rfl) (by decide +kernel) (by decide +kernel)) (SL_cons (SE_bin (op_add H.hdt) (SE_name 15 "hi" .local _ rfl (.inl rfl) (by decide +kernel) (by decide +kernel)) (SE_int 1 _ _)) SL_nil)))) (SE_glob "_law_middle" _ 191 (H.fn _ _ (by decide +kernel)) rfl (by decide +kernel))))
  (SB_cons (SS_expr (SE_call 62 (H.fn _ _ (by decide +kernel)) rfl (by decide +kernel) D.insort_left.isFn (T_insort_left H D).up (SL_cons (SE_name 19 "ones" .local _ rfl (.inl rfl) (by decide +kernel) (by decide +kernel)) (SL_cons (SE_list (SL_cons (SE_int 9 _ _) SL_nil)) (SL_cons (SE_name 14 "lo" .local _ rfl (.inl rfl) (by decide +kernel) (by decide +kernel)) (SL_cons (SE_name 15 "hi" .local _ rfl (.inl rfl) (by decide +kernel) (by decide +kernel)) SL_nil))))))
  (SB_cons (SS_expr (SE_call 44 (H.fn _ _ (by decide +kernel)) rfl (by decide +kernel) D.insort_right.isFn (T_insort_right H D).up (SL_cons (SE_name 19 "ones" .local _ rfl (.inl rfl) (by decide +kernel) (by decide +kernel)) (SL_cons (SE_list (SL_cons (SE_int 9 _ _) SL_nil)) (SL_cons (SE_name 14 "lo" .local _ rfl (.inl rfl) (by decide +kernel) (by decide +kernel)) (SL_cons (SE_bin (op_add H.hdt) (SE_name 15 "hi" .local _ rfl (.inl rfl) (by decide +kernel) (by decide +kernel)) (SE_int 1 _ _)) SL_nil))))))
  (SB_cons (SS_assign 20 .local rfl (.inl rfl) (SE_bin (op_add H.hdt) (SE_bin (op_add H.hdt) (SE_bin (op_add H.hdt) (SE_bin (op_add H.hdt) (SE_slice (SE_name 7 "laid" .local _ rfl (.inl rfl) (by decide +kernel) (by decide +kernel)) SP_none (SP_some (SE_name 16 "fore" .local _ rfl (.inl rfl) (by decide +kernel) (by decide +kernel))) SP_none) (SE_list (SL_cons (SE_list (SL_cons (SE_int 9 _ _) (SL_cons (SE_int 0 _ _) SL_nil))) SL_nil))) (SE_slice (SE_name 7 "laid" .local _ rfl (.inl rfl) (by decide +kernel) (by decide +kernel)) (SP_some (SE_name 16 "fore" .local _ rfl (.inl rfl) (by decide +kernel) (by decide +kernel))) (SP_some (SE_name 17 "rear" .local _ rfl (.inl rfl) (by decide +kernel) (by decide +kernel))) SP_none)) (SE_list (SL_cons (SE_list (SL_cons (SE_int 5 _ _) (SL_cons (SE_int 4 _ _) SL_nil))) SL_nil))) (SE_slice (SE_name 7 "laid" .local _ rfl (.inl rfl) (by decide +kernel) (by decide +kernel)) (SP_some (SE_name 17 "rear" .local _ rfl (.inl rfl) (by decide +kernel) (by decide +kernel))) SP_none SP_none)) (fun _ _ _ => rfl))
  (SB_cons (SS_if (ST_bool (STL_or (ST_cmp op_ne (SE_name 18 "both" .local _ rfl (.inl rfl) (by decide +kernel) (by decide +kernel)) (SE_name 20 "due" .local _ rfl (.inl rfl) (by decide +kernel) (by decide +kernel))) (STL_or (ST_cmp op_ne (SE_name 19 "ones" .local _ rfl (.inl rfl) (by decide +kernel) (by decide +kernel)) (SE_comp 20 [(Str.ofString ".0", NameKind.local), (Str.ofString "a", NameKind.local), (Str.ofString "b", NameKind.local)] [(Str.ofString ".0", NameKind.local), (Str.ofString "a", NameKind.local), (Str.ofString "b", NameKind.local)] [none, none, none] rfl rfl rfl (by decide +kernel) (by decide +kernel) (by intro g h; cases h <;> rfl) (SI_list (SE_name 20 "due" .local _ rfl (.inl rfl) (by decide +kernel) (by decide +kernel))) (.lst2 1 2 _ _ _ _ _ _ rfl rfl) .nil (SA_emit rfl (SE_list (SL_cons (SE_bin (op_add H.hdt) (SE_name 1 "a" .local _ rfl (.inl rfl) (by decide +kernel) (by decide +kernel)) (SE_name 2 "b" .local _ rfl (.inl rfl) (by decide +kernel) (by decide +kernel))) SL_nil))))) STL_orNil))) (SB_cons (SS_ret (SE_bool false _ _))
  SB_nil) SB_nil)
  SB_nil)))))))) SB_nil)
  (SB_cons (SS_tup [(21, "best"), (22, "text"), (23, "alone")] [_, _, _] true (tup_names (by decide +kernel)) rfl rfl rfl (SL_cons (SE_neg (SE_int 1 _ _)) (SL_cons (SE_str _ [] _ _ (by decide +kernel)) (SL_cons (SE_list SL_nil) SL_nil))) (fun _ => rfl) (fun env h1 h2 => (stores_env h1 h2).trans (by kernel_rfl)))
  (SB_cons (SS_for 20 (.one 1 _ _ rfl) (SI_range (H.no _ (by decide +kernel)) rfl (SL_cons (SE_int 5 _ _) SL_nil)) (SB_cons (SS_assign 24 .local rfl (.inl rfl) (SE_call 113 (H.fn _ _ (by decide +kernel)) rfl (by decide +kernel) D.concat.isFn (T_concat H D).up (SL_cons (SE_call 113 (H.fn _ _ (by decide +kernel)) rfl (by decide +kernel) D.concat.isFn (T_concat H D).up (SL_cons (SE_call 99 (H.fn _ _ (by decide +kernel)) rfl (by decide +kernel) D.mul.isFn (T_mul H D).up (SL_cons (SE_str _ [40] _ _ (by decide +kernel)) (SL_cons (SE_call 106 (H.fn _ _ (by decide +kernel)) rfl (by decide +kernel) D.sub.isFn (T_sub H D).up (SL_cons (SE_idx op_get (SE_name 6 "order" .cell _ rfl (.inr (.inl rfl)) (by decide +kernel) (by decide +kernel)) (SE_name 1 "k" .local _ rfl (.inl rfl) (by decide +kernel) (by decide +kernel))) (SL_cons (SE_name 21 "best" .local _ rfl (.inl rfl) (by decide +kernel) (by decide +kernel)) SL_nil))) SL_nil))) (SL_cons (SE_call 155 (H.fn _ _ (by decide +kernel)) rfl (by decide +kernel) D.law_dress.isFn (T_law_dress H D).up (SL_cons (SE_idx op_get (SE_name 2 "cells" .cell _ rfl (.inr (.inl rfl)) (by decide +kernel) (by decide +kernel)) (SE_name 1 "k" .local _ rfl (.inl rfl) (by decide +kernel) (by decide +kernel))) SL_nil)) SL_nil))) (SL_cons (SE_str _ [41] _ _ (by decide +kernel)) SL_nil))) (fun _ _ _ => rfl))
  (SB_cons (SS_if (ST_cmp op_isNot (SE_and (SE_cmp op_is (SE_call 35 (H.fn _ _ (by decide +kernel)) rfl (by decide +kernel) D.check_parenthesis H.chk.up (SL_cons (SE_name 22 "text" .local _ rfl (.inl rfl) (by decide +kernel) (by decide +kernel)) SL_nil)) (SE_bool true _ _)) (SE_cmp op_is (SE_call 35 (H.fn _ _ (by decide +kernel)) rfl (by decide +kernel) D.check_parenthesis H.chk.up (SL_cons (SE_name 24 "piece" .local _ rfl (.inl rfl) (by decide +kernel) (by decide +kernel)) SL_nil)) (SE_bool true _ _))) (SE_cmp op_eq (SE_idx op_get (SE_name 6 "order" .cell _ rfl (.inr (.inl rfl)) (by decide +kernel) (by decide +kernel)) (SE_name 1 "k" .local _ rfl (.inl rfl) (by decide +kernel) (by decide +kernel))) (SE_name 1 "k" .local _ rfl (.inl rfl) (by decide +kernel) (by decide +kernel)))) (SB_cons (SS_ret (SE_bool false _ _))
  SB_nil) SB_nil)
  (SB_cons (SS_expr (SE_methL meth_append (SE_name 23 "alone" .local _ rfl (.inl rfl) (by decide +kernel) (by decide +kernel)) (SL_cons (SE_call 35 (H.fn _ _ (by decide +kernel)) rfl (by decide +kernel) D.check_parenthesis H.chk.up (SL_cons (SE_call 113 (H.fn _ _ (by decide +kernel)) rfl (by decide +kernel) D.concat.isFn (T_concat H D).up (SL_cons (SE_str _ [40] _ _ (by decide +kernel)) (SL_cons (SE_name 24 "piece" .local _ rfl (.inl rfl) (by decide +kernel) (by decide +kernel)) SL_nil))) SL_nil)) SL_nil)))
  (SB_cons (SS_assign 22 .local rfl (.inl rfl) (SE_call 113 (H.fn _ _ (by decide +kernel)) rfl (by decide +kernel) D.concat.isFn (T_concat H D).up (SL_cons (SE_name 22 "text" .local _ rfl (.inl rfl) (by decide +kernel) (by decide +kernel)) (SL_cons (SE_name 24 "piece" .local _ rfl (.inl rfl) (by decide +kernel) (by decide +kernel)) SL_nil))) (fun _ _ _ => rfl))
  (SB_cons (SS_assign 21 .local rfl (.inl rfl) (SE_callB "max" (H.no _ (by decide +kernel)) rfl (by decide +kernel) (by decide +kernel) (by rfl) bui_max (SL_cons (SE_name 21 "best" .local _ rfl (.inl rfl) (by decide +kernel) (by decide +kernel)) (SL_cons (SE_idx op_get (SE_name 6 "order" .cell _ rfl (.inr (.inl rfl)) (by decide +kernel) (by decide +kernel)) (SE_name 1 "k" .local _ rfl (.inl rfl) (by decide +kernel) (by decide +kernel))) SL_nil))) (fun _ _ _ => rfl))
  SB_nil))))) SB_nil)
  (SB_cons (SS_assign 25 .local rfl (.inl rfl) (SE_list (SL_cons (SE_call 120 (H.fn _ _ (by decide +kernel)) rfl (by decide +kernel) D.countOf.isFn (T_countOf H D).up (SL_cons (SE_comp 20 [(Str.ofString ".0", NameKind.local), (Str.ofString "k", NameKind.local), (Str.ofString "lt", NameKind.globalImplicit), (Str.ofString "order", NameKind.free)] [(Str.ofString ".0", NameKind.local), (Str.ofString "k", NameKind.local), (Str.ofString "lt", NameKind.globalImplicit), (Str.ofString "order", NameKind.cell)] [none, none, none, some 6] rfl rfl rfl (by decide +kernel) (by decide +kernel) (by intro g h; cases h <;> rfl) (SI_range (H.no _ (by decide +kernel)) rfl (SL_cons (SE_int 5 _ _) SL_nil)) (.one 1 _ _ rfl) .nil (SA_emit rfl (SE_call 78 (H.fn _ _ (by decide +kernel)) rfl (by decide +kernel) D.lt.isFn (T_lt H D).up (SL_cons (SE_idx op_get (SE_name 3 "order" .cell _ rfl (.inr (.inl rfl)) (by decide +kernel) (by decide +kernel)) (SE_name 1 "k" .local _ rfl (.inl rfl) (by decide +kernel) (by decide +kernel))) (SL_cons (SE_name 1 "k" .local _ rfl (.inl rfl) (by decide +kernel) (by decide +kernel)) SL_nil))))) (SL_cons (SE_bool true _ _) SL_nil))) (SL_cons (SE_call 120 (H.fn _ _ (by decide +kernel)) rfl (by decide +kernel) D.countOf.isFn (T_countOf H D).up (SL_cons (SE_comp 20 [(Str.ofString ".0", NameKind.local), (Str.ofString "k", NameKind.local), (Str.ofString "gt", NameKind.globalImplicit), (Str.ofString "order", NameKind.free)] [(Str.ofString ".0", NameKind.local), (Str.ofString "k", NameKind.local), (Str.ofString "gt", NameKind.globalImplicit), (Str.ofString "order", NameKind.cell)] [none, none, none, some 6] rfl rfl rfl (by decide +kernel) (by decide +kernel) (by intro g h; cases h <;> rfl) (SI_range (H.no _ (by decide +kernel)) rfl (SL_cons (SE_int 5 _ _) SL_nil)) (.one 1 _ _ rfl) .nil (SA_emit rfl (SE_call 85 (H.fn _ _ (by decide +kernel)) rfl (by decide +kernel) D.gt.isFn (T_gt H D).up (SL_cons (SE_idx op_get (SE_name 3 "order" .cell _ rfl (.inr (.inl rfl)) (by decide +kernel) (by decide +kernel)) (SE_name 1 "k" .local _ rfl (.inl rfl) (by decide +kernel) (by decide +kernel))) (SL_cons (SE_name 1 "k" .local _ rfl (.inl rfl) (by decide +kernel) (by decide +kernel)) SL_nil))))) (SL_cons (SE_bool true _ _) SL_nil))) SL_nil))) (fun _ _ _ => rfl))
  (SB_cons (SS_if (ST_bool (STL_or (ST_cmp op_ne (SE_name 25 "moved" .local _ rfl (.inl rfl) (by decide +kernel) (by decide +kernel)) (SE_list (SL_cons (SE_name 12 "ahead" .local _ rfl (.inl rfl) (by decide +kernel) (by decide +kernel)) (SL_cons (SE_call 106 (H.fn _ _ (by decide +kernel)) rfl (by decide +kernel) D.sub.isFn (T_sub H D).up (SL_cons (SE_int 5 _ _) (SL_cons (SE_name 13 "upto" .local _ rfl (.inl rfl) (by decide +kernel) (by decide +kernel)) SL_nil))) SL_nil)))) (STL_or (ST_cmp op_ne (SE_call 120 (H.fn _ _ (by decide +kernel)) rfl (by decide +kernel) D.countOf.isFn (T_countOf H D).up (SL_cons (SE_name 23 "alone" .local _ rfl (.inl rfl) (by decide +kernel) (by decide +kernel)) (SL_cons (SE_bool true _ _) SL_nil))) (SE_name 12 "ahead" .local _ rfl (.inl rfl) (by decide +kernel) (by decide +kernel))) (STL_or (ST_cmp op_isNot (SE_call 35 (H.fn _ _ (by decide +kernel)) rfl (by decide +kernel) D.check_parenthesis H.chk.up (SL_cons (SE_name 22 "text" .local _ rfl (.inl rfl) (by decide +kernel) (by decide +kernel)) SL_nil)) (SE_bool true _ _)) STL_orNil)))) (SB_cons (SS_ret (SE_bool false _ _))
  SB_nil) SB_nil)
  (SB_cons (SS_ret (SE_and (SE_cmp op_is (SE_call 35 (H.fn _ _ (by decide +kernel)) rfl (by decide +kernel) D.check_parenthesis H.chk.up (SL_cons (SE_call 113 (H.fn _ _ (by decide +kernel)) rfl (by decide +kernel) D.concat.isFn (T_concat H D).up (SL_cons (SE_name 22 "text" .local _ rfl (.inl rfl) (by decide +kernel) (by decide +kernel)) (SL_cons (SE_str _ [34, 40, 41] _ _ (by decide +kernel)) SL_nil))) SL_nil)) (SE_bool true _ _)) (SE_cmp op_is (SE_call 35 (H.fn _ _ (by decide +kernel)) rfl (by decide +kernel) D.check_parenthesis H.chk.up (SL_cons (SE_call 113 (H.fn _ _ (by decide +kernel)) rfl (by decide +kernel) D.concat.isFn (T_concat H D).up (SL_cons (SE_name 22 "text" .local _ rfl (.inl rfl) (by decide +kernel) (by decide +kernel)) (SL_cons (SE_str _ [34, 40, 41, 41, 40, 40, 41] _ _ (by decide +kernel)) SL_nil))) SL_nil)) (SE_bool false _ _))))
  SB_nil))))))))))))))))))))))
end Mine
end

section
set_option maxHeartbeats 1000000
namespace Mine

/-! statements inside a generator -/
section
variable {prog : Program} {w : World} {A : Around} {R : GenEnd} {Y : Protocol} {n : Nat} {s₀ : Shared} {c : Code} {fs : List Frame} {s : Shared} {env : Env}
  {K : Flow → Sem Fin} {H : Value → Sem Fin} {gd : Bool → Bool} {lv : List Value → List Value}

theorem seg_If {test : Expr} {body orelse : List Stmt} {pos : Pos}
    (h : wpAny (model prog w) (A.over c fs) (isTrue test env (eval test env)) (fun b s' => Seg (model prog w) A R Y n s₀ c ((execs (if b = true then body else orelse) env).wrap K H gd lv) fs s') (fun x s' => Seg (model prog w) A R Y n s₀ c (H x) fs s') s) :
    Seg (model prog w) A R Y n s₀ c ((exec (.If test body orelse pos) env).wrap K H gd lv) fs s := by
  rw [arm_exec_If]
  refine seg_bind_wrap (wpAny_standAt ?_)
  refine seg_bind_wrap (wpAny_mono h (fun b s' hb => ?_) fun _ _ x => x)
  cases b with
  | true => exact hb
  | false => exact hb

theorem seg_stmt {st : Stmt} {rest : List Stmt}
    (h : wpAny (model prog w) (A.over c fs) (exec st env) (fun f s' => f = .next ∧ Seg (model prog w) A R Y n s₀ c ((execs rest env).wrap K H gd lv) fs s') (fun x s' => Seg (model prog w) A R Y n s₀ c (H x) fs s') s) :
    Seg (model prog w) A R Y n s₀ c ((execs (st :: rest) env).wrap K H gd lv) fs s := by
  refine seg_execs_cons (seg_wrap (wpAny_mono h (fun f s' hf => ?_) fun _ _ x => x))
  obtain ⟨rfl, hf⟩ := hf
  exact hf

/-- where a loop's end goes back to -/
noncomputable abbrev backK (K : Flow → Sem Fin) (H : Value → Sem Fin) (gd : Bool → Bool) (lv : List Value → List Value) (env : Env) (r : Result) : Sem Fin :=
  ((match r with | .ok f => (.pure f : Sem Flow) | .error e => .raise e).onRaise fun (x : Value) => do
        if (← field x 1) == Value.none then unsupported "frame.own-activation:exception-without-traceback"
        setFlight x env.frame).wrap K H gd lv

theorem seg_For {target iter : Expr} {body orelse : List Stmt} {pos : Pos}
    (h : wpAny (model prog w) (A.over c fs) (eval iter env) (fun x s₁ => wpAny (model prog w) (A.over c fs) (pyIter x) (fun it s₂ =>
      ∀ p, Seg (model prog w) A R Y n s₀ (.forLoop target it body orelse env) ((model prog w).den (.forLoop target it body orelse env)) (.ret (backK K H gd lv env) none (gd false) (lv []) c p [] :: fs) s₂)
        (fun x s' => Seg (model prog w) A R Y n s₀ c (H x) fs s') s₁) (fun x s' => Seg (model prog w) A R Y n s₀ c (H x) fs s') s)
    (hs : ∀ x, foldedSetIterable iter env x = pure x := by intro _; rfl) :
    Seg (model prog w) A R Y n s₀ c ((exec (.For target iter body orelse pos) env).wrap K H gd lv) fs s := by
  rw [arm_exec_For]
  refine seg_bind_wrap (wpAny_standAt ?_)
  refine seg_bind_wrap (wpAny_mono h (fun x s₁ hx => ?_) fun _ _ x => x)
  refine seg_bind_wrap (wpAny_of_eq (hs x) ?_)
  refine seg_bind_wrap (wpAny_standAt ?_)
  refine seg_bind_wrap (wpAny_holding (wpAny_mono hx (fun it s₂ hi => ?_) fun _ _ x => x))
  exact seg_call hi

noncomputable abbrev loopK (target : Expr) (it : Value) (body orelse : List Stmt) (env : Env) (f : Flow) : Sem Fin := match f with
    | .next | .cont => again (.forLoop target it body orelse env)
    | .brk => pure (.done .next)
    | .ret v => pure (.done (.ret v))
noncomputable abbrev notedH (env : Env) (x : Value) : Sem Fin := (do noteFrame x env; theTreesLotGoes x : Sem Unit).wrap (fun _ => .raise x) .raise id id

theorem seg_turn {target : Expr} {it : Value} {body orelse : List Stmt}
    (h : wpAny (model prog w) (A.over (.forLoop target it body orelse env) fs) (pyNext it) (fun r s₁ => match r with
      | none => Seg (model prog w) A R Y n s₀ (.forLoop target it body orelse env) (.pure (.again (.block orelse env))) fs s₁
      | some v => wpAny (model prog w) (A.over (.forLoop target it body orelse env) fs) (letOwnedTupleGo target it v) (fun _ s₂ => wpAny (model prog w) (A.over (.forLoop target it body orelse env) fs) (assign target env v) (fun _ s₃ =>
          Seg (model prog w) A R Y n s₀ (.forLoop target it body orelse env) ((execs body env).wrap (loopK target it body orelse env) (notedH env) id id) fs s₃) (fun x s' => Seg (model prog w) A R Y n s₀ (.forLoop target it body orelse env) (notedH env x) fs s') s₂)
            (fun x s' => Seg (model prog w) A R Y n s₀ (.forLoop target it body orelse env) (notedH env x) fs s') s₁)
      (fun x s' => Seg (model prog w) A R Y n s₀ (.forLoop target it body orelse env) (notedH env x) fs s') s) :
    Seg (model prog w) A R Y n s₀ (.forLoop target it body orelse env) ((model prog w).den (.forLoop target it body orelse env)) fs s := by
  show Seg _ A R Y n s₀ _ ((forTurn target it body orelse env).onRaise (fun x => do noteFrame x env; theTreesLotGoes x)) fs s
  rw [Sem.onRaise_eq_wrap]
  have hH : (fun e => ((do noteFrame e env; theTreesLotGoes e : Sem Unit).bind fun _ => .raise e : Sem Fin)) = notedH env := by
    funext e
    rw [Sem.bind_eq_wrap]
  rw [hH]
  unfold forTurn
  refine seg_bind_wrap (wpAny_standAt ?_)
  refine seg_bind_wrap (wpAny_onRaise (wpAny_mono h (fun r s₁ hr => ?_) fun _ _ x => wpAny_standAt x))
  cases r with
  | none => exact hr
  | some v =>
    refine seg_bind_wrap (wpAny_mono hr (fun _ s₂ h₂ => ?_) fun _ _ x => x)
    refine seg_bind_wrap (wpAny_mono h₂ (fun _ s₃ h₃ => ?_) fun _ _ x => x)
    rw [Sem.bind_eq_wrap', Sem.wrap_wrap]
    refine Eq.mp (congrArg (fun t => Seg (model prog w) A R Y n s₀ (.forLoop target it body orelse env) t fs s₃) (Sem.wrap_congr (execs body env) (K := loopK target it body orelse env) (H := notedH env) id id (fun f => ?_) (fun e => rfl))) h₃
    cases f <;> rfl
end
end Mine
end

section
set_option maxHeartbeats 1000000
namespace Mine

/-! the generator's own state -/
noncomputable def nmG : Nm := [(Str.ofString "addr", NameKind.local), (Str.ofString "pos", NameKind.local), (Str.ofString "escape", NameKind.local), (Str.ofString "ch", NameKind.local), (Str.ofString "enumerate", NameKind.globalImplicit)]
noncomputable def SItO (y : Str) (t : Tok) (i : Nat) (o : Obj) : Prop := o.cls = .type (strIterType y) ∧ o.data = .fields #[.str y t, .int i 0]
noncomputable abbrev phi0 : Phi := ⟨[], [], false⟩

structure GB (C : Cx) (env : Env) (X0 : List Res) : Prop where
  kind : env.scope.kind = .function
  names : env.scope.names = nmG
  gl : env.globals = mainGlobals
  bi : env.builtins = builtinsNs
  nd : (env.locals :: X0.map (·.1)).Nodup
  fresh : ∀ a ∈ env.locals :: X0.map (·.1), C.g.get? a = none

structure GRes (C : Cx) (env : Env) (X0 : List Res) (lv : LV) (s : Shared) : Prop where
  keep : ∀ b o, C.g.get? b = some o → s.heap.get? b = some o
  bare : AllBare s.gens
  tpos : 1 ≤ s.toks
  loc : ∃ o, s.heap.get? env.locals = some o ∧ PLoc C.W nmG lv phi0 o
  xs : ∀ p ∈ X0, ∃ o, s.heap.get? p.1 = some o ∧ p.2 o

structure Since (own : List Addr) (s s' : Shared) : Prop where
  heap : ∀ b o, b ∉ own → s.heap.get? b = some o → s'.heap.get? b = some o
  os : s'.os = s.os
  gens : ∀ (k : Nat) (gs : GenState), s.gens[k]? = some gs → s'.gens[k]? = some gs
  toks : s.toks ≤ s'.toks
  bare : AllBare s'.gens

theorem Since.refl {own : List Addr} {s : Shared} (h : AllBare s.gens) : Since own s s := ⟨fun _ _ _ e => e, rfl, fun _ _ e => e, Nat.le_refl _, h⟩
theorem Since.trans {own : List Addr} {s s' s'' : Shared} (a : Since own s s') (b : Since own s' s'') : Since own s s'' :=
  ⟨fun x o h1 e => b.heap x o h1 (a.heap x o h1 e), b.os.trans a.os, fun k gs e => b.gens k gs (a.gens k gs e), Nat.le_trans a.toks b.toks, b.bare⟩
theorem Since.mono {own own' : List Addr} {s s' : Shared} (h : Since own s s') (k : ∀ b ∈ own, b ∈ own') : Since own' s s' := ⟨fun x o h1 e => h.heap x o (fun q => h1 (k x q)) e, h.os, h.gens, h.toks, h.bare⟩

noncomputable def gensOf (gs : Array GenState) : List (Nat × GenState) := (List.range gs.size).filterMap fun k => match gs[k]? with
  | some x => some (k, x)
  | none => none
theorem gensOf_mem {gs : Array GenState} {k : Nat} {x : GenState} : (k, x) ∈ gensOf gs ↔ gs[k]? = some x := by
  constructor
  · intro h
    obtain ⟨j, _, e⟩ := List.mem_filterMap.mp h
    split at e
    · rename_i z hz
      cases e; exact hz
    · cases e
  · intro h
    refine List.mem_filterMap.mpr ⟨k, List.mem_range.mpr (Array.getElem?_eq_some_iff.mp h).1, ?_⟩
    rw [h]

/-- the state frozen but for the generator's own objects -/
noncomputable def Cx.freeze (C : Cx) (own : List Addr) (s : Shared) (hg : (hideAll s.heap own).Ns mainGlobals C.mg) (hb : (hideAll s.heap own).Ns builtinsNs C.mb) (nl : (hideAll s.heap own).NoLimit) : Cx :=
  { C with W := { C.W with gk := gensOf s.gens }, g := hideAll s.heap own, os0 := s.os, hg := hg, hb := hb, nolim := nl }

theorem VRel.gk {W : Val} {φ : Phi} {l : List (Nat × GenState)} {m : MV} {v : Value} : VRel { W with gk := l } φ m v ↔ VRel W φ m v := by
  cases m with
  | str s =>
    have : ∀ s : List At, flat { W with gk := l } s = flat W s := by
      intro s
      induction s with
      | nil => rfl
      | cons a r ih =>
        cases a with
        | ch c => show c :: flat _ r = c :: flat W r; rw [ih]
        | dr k => show W.dt k ++ flat _ r = W.dt k ++ flat W r; rw [ih]
    show (∃ y t, v = .str y t ∧ y.cps.toList = flat _ s) ↔ _
    rw [this]; exact Iff.rfl
  | _ => exact Iff.rfl

theorem PLoc.gk {W : Val} {nm : Nm} {lv : LV} {φ : Phi} {l : List (Nat × GenState)} {o : Obj} : PLoc { W with gk := l } nm lv φ o ↔ PLoc W nm lv φ o := by
  constructor
  · rintro ⟨m, n, k⟩
    exact ⟨m, n, fun i x mv e1 e2 => let ⟨v, a, b⟩ := k i x mv e1 e2; ⟨v, a, VRel.gk.mp b⟩⟩
  · rintro ⟨m, n, k⟩
    exact ⟨m, n, fun i x mv e1 e2 => let ⟨v, a, b⟩ := k i x mv e1 e2; ⟨v, a, VRel.gk.mpr b⟩⟩

/-- values of the generator's names are plain -/
noncomputable def plainMV : MV → Bool
  | .none | .bool _ | .int _ | .str _ => true
  | _ => false
noncomputable def plainLV (lv : LV) : Bool := lv.all fun o => match o with
  | some m => plainMV m
  | none => true
theorem VRel.plain {W : Val} {φ φ' : Phi} {m : MV} {v : Value} (h : plainMV m = true) (r : VRel W φ m v) : VRel W φ' m v := by
  cases m <;> first | exact r | cases h
theorem PLoc.plain {W : Val} {nm : Nm} {lv : LV} {φ φ' : Phi} {o : Obj} (h : plainLV lv = true) (r : PLoc W nm lv φ o) : PLoc W nm lv φ' o := by
  obtain ⟨m, n, k⟩ := r
  refine ⟨m, n, fun i x mv e1 e2 => ?_⟩
  obtain ⟨v, a, b⟩ := k i x mv e1 e2
  have := List.all_eq_true.mp h _ (List.mem_of_getElem? e2)
  exact ⟨v, a, b.plain this⟩

theorem frozen {C : Cx} {env : Env} {X0 : List Res} {lv : LV} {s : Shared} (B : GB C env X0) (G : GRes C env X0 lv s) :
    ∃ C' : Cx, C'.prog = C.prog ∧ C'.w = C.w ∧ C'.mg = C.mg ∧ C'.W.dt = C.W.dt ∧ (∀ φ m v, VRel C'.W φ m v ↔ VRel C.W φ m v) ∧ Good C' env nmG [] X0 lv phi0 hnil s ∧
      ∀ lv' φ' σ' s', plainLV lv' = true → Good C' env nmG [] X0 lv' φ' σ' s' → s.toks ≤ s'.toks → GRes C env X0 lv' s' ∧ Since (env.locals :: X0.map (·.1)) s s' := by
  have hold : ∀ b o, C.g.get? b = some o → (hideAll s.heap (env.locals :: X0.map (·.1))).get? b = some o := fun b o q =>
    hideAll_get _ (G.keep b o q) fun x => by rw [B.fresh b x] at q; cases q
  refine ⟨C.freeze (env.locals :: X0.map (·.1)) s (C.hg.keeps hold) (C.hb.keeps hold) (C.nolim.keeps hold), rfl, rfl, rfl, rfl, fun φ m v => VRel.gk, ?_, fun lv' φ' σ' s' hlv' G' ht => ?_⟩
  · obtain ⟨o1, a1, b1⟩ := G.loc
    refine ⟨⟨B.kind, B.names, B.gl, B.bi, by decide, List.nodup_nil, (fun i c h => by cases h), fun i x k g1 g2 => ?_, fun q => by cases q⟩, ?_⟩
    · exfalso
      have hm := List.mem_of_getElem? g1
      rcases g2 with rfl | rfl <;> simp [nmG] at hm
    · exact {
        keep := fun b o q => of_hideAll _ q
        len := rfl
        hok := HOk.nil
        lists := fun i a items q => by simp at q
        xs := fun p hp => by
          rcases List.mem_cons.mp hp with rfl | hp
          · exact ⟨o1, a1, PLoc.gk.mpr b1⟩
          · exact G.xs p hp
        nd := B.nd
        fresh := fun a ha => hideAll_none _ ha
        os := rfl
        bare := G.bare
        tpos := fun _ => G.tpos
        tlt := fun p hp => by cases hp
        tfun := fun t i j h => by cases h
        gk := fun p hp => gensOf_mem.mp hp }
  · have R := G'.rel
    have kp : ∀ b o, (hideAll s.heap (env.locals :: X0.map (·.1))).get? b = some o → s'.heap.get? b = some o := R.keep
    obtain ⟨o1, a1, b1⟩ := R.xs (env.locals, _) List.mem_cons_self
    exact ⟨⟨fun b o q => kp b o (hold b o q), R.bare, Nat.le_trans G.tpos ht, ⟨o1, a1, (PLoc.gk.mp b1).plain hlv'⟩, fun p hp => R.xs p (List.mem_cons_of_mem _ hp)⟩,
      ⟨fun b o h1 q => kp b o (hideAll_get _ q h1), R.os, fun k gs q => R.gk (k, gs) (gensOf_mem.mpr q), ht, R.bare⟩⟩

/-- a step of the generator by the rules of the frames -/
theorem genSS {C : Cx} {d : Nat} {A : Around} {env : Env} {X0 : List Res} {lv lv' : LV} {s : Shared} {st : Stmt} {f : XF} {Q : Flow → Shared → Prop} {E : Value → Shared → Prop} (B : GB C env X0) (G : GRes C env X0 lv s) (hA : OkA A d)
    (h₁ : ∀ C' : Cx, C'.mg = C.mg → SS C' d nmG st f) (hf : f lv hnil = some (.next, lv', hnil)) (hlv : plainLV lv' = true)
    (h : ∀ s', GRes C env X0 lv' s' → Since (env.locals :: X0.map (·.1)) s s' → Q .next s') : wpAny C.M A (exec st env) Q E s := by
  obtain ⟨C', hp, hw, hm, hdt, hv, G', hback⟩ := frozen B G
  have hM : C.M = C'.M := by unfold Cx.M; rw [hp, hw]
  rw [hM]
  refine wpAny_with_toks (Nat.le_refl _) (h₁ C' hm A env [] X0 lv phi0 hnil s .next lv' hnil _ _ hA (fun i x hi => by
    have := List.mem_of_getElem? hi
    simp [nmG] at this) G' hf fun φ' s' r p G2 r2 ht => ?_)
  obtain rfl : r = .next := r2
  obtain ⟨g1, g2⟩ := hback lv' φ' hnil s' hlv G2 ht
  exact h s' g1 g2
theorem genST {C : Cx} {d : Nat} {A : Around} {env : Env} {X0 : List Res} {lv : LV} {s : Shared} {e : Expr} {f : TF} {b : Bool} {Q : Bool → Shared → Prop} {E : Value → Shared → Prop} (B : GB C env X0) (G : GRes C env X0 lv s) (hA : OkA A d)
    (h₁ : ∀ C' : Cx, C'.mg = C.mg → ST C' d nmG e f) (hf : f lv hnil = some (b, hnil)) (hlv : plainLV lv = true)
    (h : ∀ s', GRes C env X0 lv s' → Since (env.locals :: X0.map (·.1)) s s' → Q b s') : wpAny C.M A (isTrue e env (eval e env)) Q E s := by
  obtain ⟨C', hp, hw, hm, hdt, hv, G', hback⟩ := frozen B G
  have hM : C.M = C'.M := by unfold Cx.M; rw [hp, hw]
  rw [hM]
  refine wpAny_with_toks (Nat.le_refl _) (h₁ C' hm A env [] X0 lv phi0 hnil s b hnil _ _ hA G' hf fun φ' s' p G2 ht => ?_)
  obtain ⟨g1, g2⟩ := hback lv φ' hnil s' hlv G2 ht
  exact h s' g1 g2
theorem genSE {C : Cx} {d : Nat} {A : Around} {env : Env} {X0 : List Res} {lv : LV} {s : Shared} {e : Expr} {f : EF} {m : MV} {Q : Value → Shared → Prop} {E : Value → Shared → Prop} (B : GB C env X0) (G : GRes C env X0 lv s) (hA : OkA A d)
    (h₁ : ∀ C' : Cx, C'.mg = C.mg → C'.W.dt = C.W.dt → SE C' d nmG e f) (hf : f lv hnil = some (m, hnil)) (hlv : plainLV lv = true) (hm : plainMV m = true)
    (h : ∀ s' v, GRes C env X0 lv s' → Since (env.locals :: X0.map (·.1)) s s' → VRel C.W phi0 m v → Q v s') : wpAny C.M A (eval e env) Q E s := by
  obtain ⟨C', hp, hw, hm', hdt, hv, G', hback⟩ := frozen B G
  have hM : C.M = C'.M := by unfold Cx.M; rw [hp, hw]
  rw [hM]
  refine wpAny_with_toks (Nat.le_refl _) (h₁ C' hm' hdt A env [] X0 lv phi0 hnil s m hnil _ _ hA G' hf fun φ' s' v p G2 r2 ht => ?_)
  obtain ⟨g1, g2⟩ := hback lv φ' hnil s' hlv G2 ht
  exact h s' v g1 g2 (((hv _ _ _).mp r2).plain hm)
end Mine
end

section
set_option maxHeartbeats 1000000
namespace Mine

/-! the generator draws the text's next sign -/
noncomputable abbrev XG (e it : Addr) (y : Str) (t : Tok) (i : Nat) : List Res := [(e, EnuO it i), (it, SItO y t i)]
theorem drawsS {prog : Program} {w : World} {A : Around} (hh : A.handled = none) (it : Addr) (y : Str) (t : Tok) :
    Draws prog w A it [it] y.cps.size (fun i v => ∃ c u, y.cps[i]? = some c ∧ v = .str ⟨#[c]⟩ u) (fun i h => h.IsStrIter it (strIterType y) y t i) := by
  unfold strIterType
  split
  · exact Draws.strAscii hh it y t
  · exact Draws.strWide hh it y t

theorem gen_item {C : Cx} {d : Nat} {A : Around} {env : Env} {e it : Addr} {y : Str} {t : Tok} {lv : LV} {s : Shared} {i c k : Nat} {p1 p2 pt : Pos} {Q : Shared → Prop} {E1 E2 E3 : Value → Shared → Prop}
    (B : GB C env (XG e it y t i)) (G : GRes C env (XG e it y t i) lv s) (hA : OkA A d) (hc : y.cps[i]? = some c) (hlv : plainLV lv = true)
    (h : ∀ s', GRes C env (XG e it y t (i + 1)) ((lv.set 1 (some (.int i))).set 3 (some (.str [.ch c]))) s' → Since [env.locals, e, it] s s' → Q s') :
    wpAny C.M A (pyNext (.ref e)) (fun r s₁ => match r with
      | none => False
      | some v => wpAny C.M A (letOwnedTupleGo (.Tuple [.Name (Str.ofString "pos") p1, .Name (Str.ofString "ch") p2] k pt) (.ref e) v) (fun _ s₂ =>
          wpAny C.M A (assign (.Tuple [.Name (Str.ofString "pos") p1, .Name (Str.ofString "ch") p2] k pt) env v) (fun _ s₃ => Q s₃) E2 s₂) E1 s₁) E3 s := by
  obtain ⟨oe, hoe, old, rfl⟩ := G.xs (e, EnuO it i) (by simp)
  obtain ⟨oi, hoi, hci, hdi⟩ := G.xs (it, SItO y t i) (by simp)
  obtain ⟨oL, hoL, hpL⟩ := G.loc
  have nd := B.nd
  simp only [List.map_cons, List.map_nil, List.nodup_cons, List.mem_cons, List.not_mem_nil, or_false, not_or] at nd
  have hei : e ≠ it := nd.2.1
  have hi : i < y.cps.size := (Array.getElem?_eq_some_iff.mp hc).1
  refine wpAny_with_toks (Nat.le_refl _) (wpAny_pyNext_enum_itemD (drawsS (A := A.in1) hA.hd it y t) hoe ⟨oi, hoi, hci, hdi⟩ hi hei (by simp [hei]) fun x h' tk hx he' hst htup hsz hk htk => ?_)
  obtain ⟨c', u, hc', rfl⟩ := hx
  rw [hc] at hc'; cases hc'
  refine wpAny_letOwnedTupleGo_enum he' fun h'' he'' hs'' => ?_
  have hte : s.heap.objs.size ≠ e := fun q => Nat.lt_irrefl _ (q ▸ Heap.lt_size hoe : s.heap.objs.size < s.heap.objs.size)
  have htup' : h''.get? s.heap.objs.size = some { cls := .type "tuple", data := .seq #[.int i tk, .str ⟨#[c]⟩ u] } := (hs''.2 _ hte).trans htup
  have kp : ∀ b o, b ≠ e → b ≠ it → s.heap.get? b = some o → h''.get? b = some o := fun b o h1 h2 q => (hs''.2 b h1).trans (hk b o h1 h2 q)
  have fr : ∀ a, a ∈ env.locals :: (XG e it y t (i + 1)).map (·.1) → C.g.get? a = none := B.fresh
  have B' : GB C env (XG e it y t (i + 1)) := ⟨B.kind, B.names, B.gl, B.bi, B.nd, B.fresh⟩
  have G1 : GRes C env (XG e it y t (i + 1)) lv { s with heap := h'', toks := tk + 1 } := {
    keep := fun b o q => kp b o (fun x => by rw [x, fr e (by simp)] at q; cases q) (fun x => by rw [x, fr it (by simp)] at q; cases q) (G.keep b o q)
    bare := G.bare
    tpos := Nat.le_trans G.tpos htk
    loc := ⟨oL, kp _ _ nd.1.1 nd.1.2 hoL, hpL⟩
    xs := fun p hp => by
      rcases List.mem_cons.mp hp with rfl | hp
      · exact ⟨_, he'', _, rfl⟩
      · rcases List.mem_cons.mp hp with rfl | hp
        · obtain ⟨o3, a3, b3, c3⟩ := hst
          exact ⟨o3, (hs''.2 _ (Ne.symm hei)).trans a3, b3, c3⟩
        · cases hp }
  have S1 : Since [env.locals, e, it] s { s with heap := h'', toks := tk + 1 } := ⟨fun b o hb q => kp b o (fun x => hb (by simp [x])) (fun x => hb (by simp [x])) q, rfl, fun k gs q => q, htk, G.bare⟩
  obtain ⟨C', hp, hw, hm, hdt, hv, G', hback⟩ := frozen B' G1
  have hM : C.M = C'.M := by unfold Cx.M; rw [hp, hw]
  rw [hM]
  rw [arm_assign_Tuple]
  refine wpAny_with_toks (Nat.le_refl _) (wpAny_bind (wpAny_standAt (wpAny_unpack_tuple hA.hd ⟨_, htup', rfl, 0, rfl⟩ rfl rfl fun h3 hx3 => ?_)))
  have G3 := Good.ext (s' := { s with heap := h3, toks := tk + 1 }) G' (extFresh hx3)
  show wpAny _ _ (assignInOrder [assign (.Name (Str.ofString "pos") p1) env, assign (.Name (Str.ofString "ch") p2) env] [.int i tk, .str ⟨#[c]⟩ u]) _ _ _
  simp only [assignInOrder]
  refine wpAny_bind (wpAny_holding (TG_loc (d := d) 1 (Str.ofString "pos") p1 rfl A env _ _ lv _ _ _ (.int i) _ _ _ _ hA G3 ⟨_, rfl⟩ rfl fun s4 G4 => ?_))
  refine wpAny_bind (wpAny_holding (TG_loc (d := d) 3 (Str.ofString "ch") p2 rfl A env _ _ _ _ _ _ (.str [.ch c]) _ _ _ _ hA G4 ⟨_, _, rfl, rfl⟩ rfl fun s5 G5 => ?_))
  refine wpAny_pure fun ht5 => ?_
  obtain ⟨g1, g2⟩ := hback _ _ _ s5 (by
    refine List.all_eq_true.mpr fun o ho => ?_
    rcases List.mem_or_eq_of_mem_set ho with ho | rfl
    · rcases List.mem_or_eq_of_mem_set ho with ho | rfl
      · exact List.all_eq_true.mp hlv o ho
      · rfl
    · rfl) G5 ht5
  exact h s5 g1 (S1.trans g2)
end Mine
end

section
set_option maxHeartbeats 1000000
namespace Mine

/-! what the generator yields -/
noncomputable def escI : Nat → Bool → List Nat → List (Nat × List Nat)
  | i, true, [] => [(i - 1, [92])]
  | _, false, [] => []
  | i, true, c :: r => (i, [92, c]) :: escI (i + 1) false r
  | i, false, c :: r => if c = 92 then escI (i + 1) true r else (i, [c]) :: escI (i + 1) false r

/-- whether a text ends inside an escape -/
noncomputable def escFin : Bool → List Nat → Bool
  | e, [] => e
  | true, _ :: r => escFin false r
  | false, c :: r => if c = 92 then escFin true r else escFin false r

noncomputable def IsItem (s : Shared) (v : Value) (x : Nat × List Nat) : Prop :=
  ∃ a tk z u, v = .ref a ∧ s.heap.get? a = some ({ cls := .type "tuple", data := .seq #[.int (x.1 : Nat) tk, .str z u] } : Obj) ∧ z.cps.toList = x.2
noncomputable def YG (C : Cx) (own : List Addr) (items : List (Nat × List Nat)) : Protocol := fun m s₀ v s kap =>
  (∃ x, items[items.length - 1 - m]? = some x ∧ IsItem s v x) ∧ Since own s₀ s ∧ (∀ b ∈ own, ∃ o, s.heap.get? b = some o) ∧
    ∀ s'' : Shared, (∀ b ∈ own, ∀ o, s.heap.get? b = some o → s''.heap.get? b = some o) → (∀ b o, C.g.get? b = some o → s''.heap.get? b = some o) → AllBare s''.gens → 1 ≤ s''.toks → kap (.send .none) s''
noncomputable def PG (own : List Addr) (n : Nat) (s₀ s : Shared) : Prop := n = 0 ∧ Since own s₀ s
noncomputable abbrev RG (own : List Addr) : GenEnd := fun n s₀ r s => r = .ok (.ret .none) ∧ PG own n s₀ s

theorem GRes.again {C : Cx} {env : Env} {X0 : List Res} {lv : LV} {s s'' : Shared} (G : GRes C env X0 lv s) (h1 : ∀ b ∈ env.locals :: X0.map (·.1), ∀ o, s.heap.get? b = some o → s''.heap.get? b = some o) (h2 : ∀ b o, C.g.get? b = some o → s''.heap.get? b = some o) (h3 : AllBare s''.gens) (h4 : 1 ≤ s''.toks) : GRes C env X0 lv s'' :=
  ⟨h2, h3, h4, let ⟨o, a, b⟩ := G.loc; ⟨o, h1 _ List.mem_cons_self _ a, b⟩, fun p hp => let ⟨o, a, b⟩ := G.xs p hp; ⟨o, h1 _ (List.mem_cons_of_mem _ (List.mem_map_of_mem hp)) _ a, b⟩⟩

theorem GRes.has {C : Cx} {env : Env} {X0 : List Res} {lv : LV} {s : Shared} (G : GRes C env X0 lv s) : ∀ b ∈ env.locals :: X0.map (·.1), ∃ o, s.heap.get? b = some o := fun b hb => by
  rcases List.mem_cons.mp hb with rfl | hb
  · exact let ⟨o, a, _⟩ := G.loc; ⟨o, a⟩
  · obtain ⟨p, hp, rfl⟩ := List.mem_map.mp hb
    exact let ⟨o, a, _⟩ := G.xs p hp; ⟨o, a⟩

theorem gen_tuple {C : Cx} {d : Nat} {A : Around} {env : Env} {X0 : List Res} {lv : LV} {s : Shared} {e₁ e₂ : Expr} {k : Nat} {pos : Pos} {f₁ f₂ : EF} {i : Nat} {q : List Nat} {Q : Value → Shared → Prop} {E : Value → Shared → Prop} (B : GB C env X0) (G : GRes C env X0 lv s) (hA : OkA A d) (hlv : plainLV lv = true)
    (h₁ : ∀ C' : Cx, C'.mg = C.mg → C'.W.dt = C.W.dt → SE C' d nmG e₁ f₁) (hf₁ : f₁ lv hnil = some (.int (i : Nat), hnil))
    (h₂ : ∀ C' : Cx, C'.mg = C.mg → C'.W.dt = C.W.dt → SE C' d nmG e₂ f₂) (hf₂ : f₂ lv hnil = some (.str (q.map .ch), hnil))
    (hst : ∀ env, starEach [e₁, e₂] env = [(false, eval e₁ env), (false, eval e₂ env)])
    (h : ∀ s' v, GRes C env X0 lv s' → Since (env.locals :: X0.map (·.1)) s s' → IsItem s' v (i, q) → Q v s') : wpAny C.M A (eval (.Tuple [e₁, e₂] k pos) env) Q E s := by
  rw [arm_eval_Tuple]
  refine wpAny_bind (wpAny_standAt (wpAny_bind ?_))
  rw [hst env]
  refine Calls.spliced_cons (genSE B G hA h₁ hf₁ hlv rfl fun s₁ v₁ G1 S1 r1 => Calls.spliced_cons (genSE B G1 hA h₂ hf₂ hlv rfl fun s₂ v₂ G2 S2 r2 => Calls.spliced_nil ?_))
  obtain ⟨t1, rfl⟩ := r1
  obtain ⟨z, t2, rfl, hz⟩ := r2
  refine wpAny_newTuple (h _ _ ?_ (S1.trans (S2.trans ⟨fun b o hb e => Heap.get?_push_of_some _ e, rfl, fun k gs e => e, Nat.le_refl _, G2.bare⟩)) ⟨_, t1, z, t2, rfl, Heap.get?_push_size _ rfl, ?_⟩) (by show 2 ≤ _; exact Nat.le_trans (by decide) sizeLine_ge)
  · exact G2.again (fun b _ o e => Heap.get?_push_of_some _ e) (fun b o e => Heap.get?_push_of_some _ (G2.keep b o e)) G2.bare G2.tpos
  · rw [hz, flat_ch]
end Mine
end

section
set_option maxHeartbeats 4000000
namespace Mine

/-! the generator's loop -/
noncomputable abbrev bsl : Str := Str.ofString "\\"
section
variable {C : Cx} {A : Around} {env : Env} {e it : Addr} {y : Str} {t : Tok} {items : List (Nat × List Nat)} {pF : Pos} {cF : Code}
  {a1 a2 a3 a4 a5 a6 a7 a8 a9 a10 a11 b1 b2 b3 b4 b5 b6 b7 b8 b9 b10 b11 b12 c1 d1 d2 d3 d4 d5 d6 d7 p1 p2 pt : Pos} {z1 z2 z3 z4 z5 k1 k2 k3 k : Nat}

noncomputable abbrev gBody (a1 a2 a3 a4 a5 a6 a7 a8 a9 a10 a11 b1 b2 b3 b4 b5 b6 b7 b8 b9 b10 b11 b12 c1 : Pos) (z1 z2 z3 z4 k1 k2 : Nat) : List Stmt :=
  [.If (.Name (Str.ofString "escape") a1) [.Expr (.Yield (some (.Tuple [.Name (Str.ofString "pos") a2, .BinOp (.Constant (.str bsl) z1 a3) .Add (.Name (Str.ofString "ch") a4) a5] k1 a6)) a7) a8, .Assign [.Name (Str.ofString "escape") a9] (.Constant (.bool false) z2 a10) a11]
    [.If (.Compare (.Name (Str.ofString "ch") b1) [.Eq] [.Constant (.str bsl) z3 b2] b3) [.Assign [.Name (Str.ofString "escape") b4] (.Constant (.bool true) z4 b5) b6] [.Expr (.Yield (some (.Tuple [.Name (Str.ofString "pos") b7, .Name (Str.ofString "ch") b8] k2 b9)) b10) b11] b12] c1]
noncomputable abbrev gTail (d1 d2 d3 d4 d5 d6 d7 : Pos) (z5 k3 : Nat) : List Stmt :=
  [.If (.Name (Str.ofString "escape") d1) [.Expr (.Yield (some (.Tuple [.Name (Str.ofString "pos") d2, .Constant (.str bsl) z5 d3] k3 d4)) d5) d6] [] d7]
noncomputable abbrev gK (env : Env) (f : Flow) : Sem Fin := .pure (.done (.ret (match f with | .ret v => v | _ => .none)))
noncomputable abbrev gH (env : Env) (x : Value) : Sem Fin := (leaving env x).wrap (fun _ => .raise x) .raise id id
noncomputable abbrev gK1 (tail : List Stmt) (env : Env) (f : Flow) : Sem Fin := match f with
  | .next => (execs tail env).wrap (gK env) (gH env) id id
  | f => gK env f
noncomputable abbrev gFs (tail : List Stmt) (env : Env) (cF : Code) (pF : Pos) : List Frame := [.ret (backK (gK1 tail env) (gH env) id id env) none false [] cF pF []]

theorem suffix_tail {α : Type} {items r : List α} {x : α} (h : items.drop (items.length - (x :: r).length) = x :: r) : items[items.length - 1 - r.length]? = some x ∧ items.drop (items.length - r.length) = r := by
  have hlen : r.length + 1 ≤ items.length := by
    have := congrArg List.length h
    rw [List.length_drop, List.length_cons] at this
    omega
  rw [List.length_cons] at h
  refine ⟨?_, ?_⟩
  · have : (items.drop (items.length - (r.length + 1)))[0]? = some x := by rw [h]; rfl
    rw [List.getElem?_drop] at this
    rw [show items.length - 1 - r.length = items.length - (r.length + 1) + 0 by omega]
    exact this
  · have h1 : (items.drop (items.length - (r.length + 1))).drop 1 = r := by rw [h]; rfl
    rw [List.drop_drop] at h1
    rw [show items.length - r.length = items.length - (r.length + 1) + 1 by omega]
    exact h1

theorem esc_name {C' : Cx} {d : Nat} {pos : Pos} : ST C' d nmG (.Name (Str.ofString "escape") pos) (tOf (eVar 2)) :=
  ST_plain (SE_name 2 (Str.ofString "escape") .local pos rfl (.inl rfl) (by decide) (by decide))
theorem dt_of {C C' : Cx} (hdt : DtOk C) (h : C'.W.dt = C.W.dt) : DtOk C' := fun k => by rw [h]; exact hdt k

theorem seg_item {R : GenEnd} {Y : Protocol} {n i c d : Nat} {s₀ s : Shared} {fs : List Frame} {body : List Stmt} {lv : LV} (B : GB C env (XG e it y t i)) (G : GRes C env (XG e it y t i) lv s)
    (hA : OkA (A.over (.forLoop (.Tuple [.Name (Str.ofString "pos") p1, .Name (Str.ofString "ch") p2] k pt) (.ref e) body [] env) fs) d) (hc : y.cps[i]? = some c) (hlv : plainLV lv = true)
    (h : ∀ s', GRes C env (XG e it y t (i + 1)) ((lv.set 1 (some (.int i))).set 3 (some (.str [.ch c]))) s' → Since [env.locals, e, it] s s' →
      Seg (model C.prog C.w) A R Y n s₀ (.forLoop (.Tuple [.Name (Str.ofString "pos") p1, .Name (Str.ofString "ch") p2] k pt) (.ref e) body [] env)
        ((execs body env).wrap (loopK (.Tuple [.Name (Str.ofString "pos") p1, .Name (Str.ofString "ch") p2] k pt) (.ref e) body [] env) (notedH env) id id) fs s') :
    Seg (model C.prog C.w) A R Y n s₀ (.forLoop (.Tuple [.Name (Str.ofString "pos") p1, .Name (Str.ofString "ch") p2] k pt) (.ref e) body [] env)
      ((model C.prog C.w).den (.forLoop (.Tuple [.Name (Str.ofString "pos") p1, .Name (Str.ofString "ch") p2] k pt) (.ref e) body [] env)) fs s := by
  refine seg_turn (wpAny_mono (gen_item (k := k) (p1 := p1) (p2 := p2) (pt := pt) (Q := fun s₃ => Seg (model C.prog C.w) A R Y n s₀ (.forLoop (.Tuple [.Name (Str.ofString "pos") p1, .Name (Str.ofString "ch") p2] k pt) (.ref e) body [] env)
        ((execs body env).wrap (loopK (.Tuple [.Name (Str.ofString "pos") p1, .Name (Str.ofString "ch") p2] k pt) (.ref e) body [] env) (notedH env) id id) fs s₃)
    (E1 := fun x s' => Seg (model C.prog C.w) A R Y n s₀ (.forLoop (.Tuple [.Name (Str.ofString "pos") p1, .Name (Str.ofString "ch") p2] k pt) (.ref e) body [] env) (notedH env x) fs s')
    (E2 := fun x s' => Seg (model C.prog C.w) A R Y n s₀ (.forLoop (.Tuple [.Name (Str.ofString "pos") p1, .Name (Str.ofString "ch") p2] k pt) (.ref e) body [] env) (notedH env x) fs s') B G hA hc hlv h) (fun r s₁ h => ?_) fun _ _ x => x)
  cases r with
  | none => exact h.elim
  | some v => exact h

theorem gen_loop (B : ∀ i, GB C env (XG e it y t i)) (hdt : DtOk C) (hco : env.scope.isCoroutine = false) (hint : interactive env = false)
    (hA1 : OkA (A.over (.forLoop (.Tuple [.Name (Str.ofString "pos") p1, .Name (Str.ofString "ch") p2] k pt) (.ref e) (gBody a1 a2 a3 a4 a5 a6 a7 a8 a9 a10 a11 b1 b2 b3 b4 b5 b6 b7 b8 b9 b10 b11 b12 c1 z1 z2 z3 z4 k1 k2) [] env) (gFs (gTail d1 d2 d3 d4 d5 d6 d7 z5 k3) env cF pF)) 12)
    (hA2 : OkA (A.over cF []) 12) :
    ∀ (rest : List Nat) (i : Nat) (esc : Bool) (p : Nat) (a0 : List At) (chv : Option MV) (s₀ s : Shared), y.cps.toList.drop i = rest → i ≤ y.cps.size → (esc = true → p = i - 1) → (plainLV [chv] = true) → escFin esc rest = false →
      items.drop (items.length - (escI i esc rest).length) = escI i esc rest →
      GRes C env (XG e it y t i) [some (.str a0), some (.int (p : Nat)), some (.bool esc), chv, none] s → Since [env.locals, e, it] s₀ s →
      Seg (model C.prog C.w) A (RG [env.locals, e, it]) (YG C [env.locals, e, it] items) (escI i esc rest).length s₀
        (.forLoop (.Tuple [.Name (Str.ofString "pos") p1, .Name (Str.ofString "ch") p2] k pt) (.ref e) (gBody a1 a2 a3 a4 a5 a6 a7 a8 a9 a10 a11 b1 b2 b3 b4 b5 b6 b7 b8 b9 b10 b11 b12 c1 z1 z2 z3 z4 k1 k2) [] env)
        ((model C.prog C.w).den (.forLoop (.Tuple [.Name (Str.ofString "pos") p1, .Name (Str.ofString "ch") p2] k pt) (.ref e) (gBody a1 a2 a3 a4 a5 a6 a7 a8 a9 a10 a11 b1 b2 b3 b4 b5 b6 b7 b8 b9 b10 b11 b12 c1 z1 z2 z3 z4 k1 k2) [] env))
        (gFs (gTail d1 d2 d3 d4 d5 d6 d7 z5 k3) env cF pF) s := by
  intro rest
  induction rest with
  | nil =>
    intro i esc p a0 chv s₀ s hr hle hp hch hend hit G S
    obtain ⟨oe, hoe, old, rfl⟩ := G.xs (e, EnuO it i) (by simp)
    obtain ⟨oi, hoi, hci, hdi⟩ := G.xs (it, SItO y t i) (by simp)
    have hin : y.cps.size ≤ i := by
      have := List.drop_eq_nil_iff.mp hr
      simpa using this
    have hii : i = y.cps.size := by omega
    have nd := (B i).nd
    simp only [List.map_cons, List.map_nil, List.nodup_cons, List.mem_cons, List.not_mem_nil, or_false, not_or] at nd
    have B0 : GB C env [] := ⟨(B i).kind, (B i).names, (B i).gl, (B i).bi, by simp, fun a ha => (B i).fresh a (by
      rcases List.mem_cons.mp ha with rfl | ha
      · exact List.mem_cons_self
      · cases ha)⟩
    have hlv : plainLV [some (.str a0), some (.int (p : Nat)), some (.bool esc), chv, none] = true := by
      have q1 : plainMV (.str a0) = true := rfl
      have q2 : plainMV (.int (p : Nat)) = true := rfl
      have q3 : plainMV (.bool esc) = true := rfl
      cases chv with
      | none => simp [plainLV, q1, q2, q3]
      | some m =>
        have hm : plainMV m = true := by simpa [plainLV] using hch
        simp [plainLV, q1, q2, q3, hm]
    have hstr : s.heap.IsStrIter it (strIterType y) y t y.cps.size := by rw [← hii]; exact ⟨oi, hoi, hci, hdi⟩
    have hD : ∀ A' : Around, A'.handled = none → Draws C.prog C.w A'.in1 it [it] y.cps.size (fun i v => ∃ c u, y.cps[i]? = some c ∧ v = .str ⟨#[c]⟩ u) (fun i h => h.IsStrIter it (strIterType y) y t i) := fun A' h => drawsS (A := A'.in1) h it y t
    refine seg_turn (wpAny_pyNext_enum_endD (St := fun i h => h.IsStrIter it (strIterType y) y t i) (n := y.cps.size) (fp := [it]) (P := fun i v => ∃ c u, y.cps[i]? = some c ∧ v = .str ⟨#[c]⟩ u) (hD _ hA1.hd) hoe hstr fun h' hx => ?_)
    have G0 : GRes C env [] [some (.str a0), some (.int (p : Nat)), some (.bool esc), chv, none] { s with heap := h' } := {
      keep := fun b o q => hx b o (fun x => by rw [x, (B i).fresh it (by simp)] at q; cases q) (G.keep b o q)
      bare := G.bare
      tpos := G.tpos
      loc := let ⟨o, a, b⟩ := G.loc; ⟨o, hx _ _ nd.1.2 a, b⟩
      xs := fun p hp => by cases hp }
    have S0 : Since [env.locals, e, it] s { s with heap := h' } := ⟨fun b o hb q => hx b o (fun x => hb (by simp [x])) q, rfl, fun k gs q => q, Nat.le_refl _, G.bare⟩
    have hown : ∀ {s s' : Shared}, Since (env.locals :: ([] : List Res).map (·.1)) s s' → Since [env.locals, e, it] s s' := fun x => x.mono fun b hb => by
      rcases List.mem_cons.mp hb with rfl | hb
      · simp
      · cases hb
    refine seg_again rfl ?_
    show Seg _ A _ _ _ s₀ _ (leafOf (.ok .next)) _ _
    refine seg_leaf (.ok .next) ?_
    show Seg _ A _ _ _ s₀ cF ((execs (gTail d1 d2 d3 d4 d5 d6 d7 z5 k3) env).wrap (gK env) (gH env) id id) [] _
    cases esc with
    | false =>
      refine seg_execs_cons (seg_If (genST (d := 12) (b := false) B0 G0 hA2 (fun _ _ => esc_name) rfl hlv fun s₂ G2 S2 => ?_))
      rw [if_neg (by decide)]
      refine seg_execs_nil (seg_execs_nil ?_)
      exact seg_end (.ok (.ret .none)) ⟨rfl, rfl, S.trans (S0.trans (hown S2))⟩
    | true =>
      cases hend
  | cons c rest ih =>
    intro i esc p a0 chv s₀ s hr hle hp hch hend hit G S
    have hc : y.cps[i]? = some c := by
      have : (y.cps.toList.drop i)[0]? = some c := by rw [hr]; rfl
      rw [List.getElem?_drop] at this
      simpa using this
    have hle' : i + 1 ≤ y.cps.size := (Array.getElem?_eq_some_iff.mp hc).1
    have hr' : y.cps.toList.drop (i + 1) = rest := by
      have : (y.cps.toList.drop i).drop 1 = rest := by rw [hr]; rfl
      rw [List.drop_drop] at this
      exact this
    have hlv : plainLV [some (.str a0), some (.int (p : Nat)), some (.bool esc), chv, none] = true := by
      have q1 : plainMV (.str a0) = true := rfl
      have q2 : plainMV (.int (p : Nat)) = true := rfl
      have q3 : plainMV (.bool esc) = true := rfl
      cases chv with
      | none => simp [plainLV, q1, q2, q3]
      | some m =>
        have hm : plainMV m = true := by simpa [plainLV] using hch
        simp [plainLV, q1, q2, q3, hm]
    refine seg_item (d := 12) (B i) G hA1 hc hlv fun s₁ G1 S1 => ?_
    have hown : ∀ {s s' : Shared}, Since (env.locals :: (XG e it y t (i + 1)).map (·.1)) s s' → Since [env.locals, e, it] s s' := fun x => x
    have hlv1 : plainLV [some (.str a0), some (.int (i : Nat)), some (.bool esc), some (.str [.ch c]), none] = true := rfl
    have G1 : GRes C env (XG e it y t (i + 1)) [some (.str a0), some (.int (i : Nat)), some (.bool esc), some (.str [.ch c]), none] s₁ := G1
    -- what comes behind a yield
    have ynext : ∀ (s' s'' : Shared) (lv : LV), GRes C env (XG e it y t (i + 1)) lv s' → (∀ b ∈ [env.locals, e, it], ∀ o, s'.heap.get? b = some o → s''.heap.get? b = some o) → (∀ b o, C.g.get? b = some o → s''.heap.get? b = some o) → AllBare s''.gens → 1 ≤ s''.toks → GRes C env (XG e it y t (i + 1)) lv s'' :=
      fun s' s'' lv G h1 h2 h3 h4 => G.again h1 h2 h3 h4
    cases esc with
    | true =>
      have hn : (escI i true (c :: rest)).length = (escI (i + 1) false rest).length + 1 := rfl
      obtain ⟨hitem, hit'⟩ := suffix_tail (r := escI (i + 1) false rest) hit
      rw [hn]
      refine seg_execs_cons (seg_If (genST (d := 12) (b := true) (B (i + 1)) G1 hA1 (fun _ _ => esc_name) rfl hlv1 fun s₂ G2 S2 => ?_))
      rw [if_pos rfl]
      refine seg_execs_cons (seg_Expr_Yield rfl rfl rfl (gen_tuple (d := 12) (i := i) (q := [92, c]) (B (i + 1)) G2 hA1 hlv1 (fun C' hm hd => SE_name 1 (Str.ofString "pos") .local a2 rfl (.inl rfl) (by decide) (by decide)) rfl
        (fun C' hm hd => SE_bin (op_add (dt_of hdt hd)) (SE_str bsl [92] z1 a3 (by decide)) (SE_name 3 (Str.ofString "ch") .local a4 rfl (.inl rfl) (by decide) (by decide))) rfl (fun _ => rfl) fun s₃ v G3 S3 I3 => ?_) hco hint)
      intro kap hkap
      refine ⟨⟨_, hitem, I3⟩, S.trans (S1.trans ((hown S2).trans (hown S3))), G3.has, fun s'' w1 w2 w3 w4 => hkap .none s'' ?_⟩
      have G4 := ynext s₃ s'' _ G3 w1 w2 w3 w4
      show Seg _ A _ _ _ s'' _ ((execs [_] env).wrap _ _ _ _) _ s''
      refine seg_stmt (genSS (d := 12) (B (i + 1)) G4 hA1 (fun C' hm => SS_assign 2 .local rfl (.inl rfl) (SE_bool false z2 a10) (fun _ _ _ => rfl)) rfl rfl fun s₅ G5 S5 => ⟨rfl, ?_⟩)
      refine seg_execs_nil ?_
      show Seg _ A _ _ _ s'' _ ((execs [] env).wrap _ _ _ _) _ s₅
      refine seg_execs_nil (seg_again rfl ?_)
      exact ih (i + 1) false i a0 _ s'' s₅ hr' hle' (fun q => by cases q) rfl (by first | exact hend | (have : escFin false (c :: rest) = escFin false rest := (by show (if c = 92 then _ else _) = _; rw [if_neg hcc]); rw [← this]; exact hend)) hit' G5 (hown S5)
    | false =>
      refine seg_execs_cons (seg_If (genST (d := 12) (b := false) (B (i + 1)) G1 hA1 (fun _ _ => esc_name) rfl hlv1 fun s₂ G2 S2 => ?_))
      rw [if_neg (by decide)]
      by_cases hcc : c = 92
      · subst hcc
        have hn : (escI i false (92 :: rest)) = escI (i + 1) true rest := rfl
        rw [hn] at hit ⊢
        refine seg_execs_cons (seg_If (genST (d := 12) (b := true) (B (i + 1)) G2 hA1 (fun C' hm => ST_cmp (d := 12) (op_eq (d := 3)) (SE_name 3 (Str.ofString "ch") .local b1 rfl (.inl rfl) (by decide) (by decide)) (SE_str bsl [92] z3 b2 (by decide))) rfl hlv1 fun s₃ G3 S3 => ?_))
        rw [if_pos rfl]
        refine seg_stmt (genSS (d := 12) (B (i + 1)) G3 hA1 (fun C' hm => SS_assign 2 .local rfl (.inl rfl) (SE_bool true z4 b5) (fun _ _ _ => rfl)) rfl rfl fun s₅ G5 S5 => ⟨rfl, ?_⟩)
        refine seg_execs_nil ?_
        show Seg _ A _ _ _ s₀ _ ((execs [] env).wrap _ _ _ _) _ s₅
        refine seg_execs_nil ?_
        show Seg _ A _ _ _ s₀ _ ((execs [] env).wrap _ _ _ _) _ s₅
        refine seg_execs_nil (seg_again rfl ?_)
        exact ih (i + 1) true i a0 _ s₀ s₅ hr' hle' (fun _ => rfl) rfl hend hit G5 (S.trans (S1.trans ((hown S2).trans ((hown S3).trans (hown S5)))))
      · have hn : (escI i false (c :: rest)) = (i, [c]) :: escI (i + 1) false rest := by
          show (if c = 92 then _ else _) = _
          rw [if_neg hcc]
        rw [hn] at hit ⊢
        obtain ⟨hitem, hit'⟩ := suffix_tail (r := escI (i + 1) false rest) hit
        rw [List.length_cons]
        have hne : tOf (eBin aEq (eVar 3) (fun _ σ => some (.str (List.map At.ch [92]), σ))) [some (.str a0), some (.int (i : Nat)), some (.bool false), some (.str [.ch c]), none] hnil = some (false, hnil) := by
          show some (((false != ([c] == [92]) : Bool)), hnil) = _
          have : ([c] == [92]) = false := by
            rw [beq_eq_false_iff_ne]
            intro q
            injection q with q _
            exact hcc q
          rw [this]; rfl
        refine seg_execs_cons (seg_If (genST (d := 12) (b := false) (B (i + 1)) G2 hA1 (fun C' hm => ST_cmp (d := 12) (op_eq (d := 3)) (SE_name 3 (Str.ofString "ch") .local b1 rfl (.inl rfl) (by decide) (by decide)) (SE_str bsl [92] z3 b2 (by decide))) hne hlv1 fun s₃ G3 S3 => ?_))
        rw [if_neg (by decide)]
        refine seg_execs_cons (seg_Expr_Yield rfl rfl rfl (gen_tuple (d := 12) (i := i) (q := [c]) (B (i + 1)) G3 hA1 hlv1 (fun C' hm hd => SE_name 1 (Str.ofString "pos") .local b7 rfl (.inl rfl) (by decide) (by decide)) rfl
          (fun C' hm hd => SE_name 3 (Str.ofString "ch") .local b8 rfl (.inl rfl) (by decide) (by decide)) rfl (fun _ => rfl) fun s₄ v G4 S4 I4 => ?_) hco hint)
        intro kap hkap
        refine ⟨⟨_, hitem, I4⟩, S.trans (S1.trans ((hown S2).trans ((hown S3).trans (hown S4)))), G4.has, fun s'' w1 w2 w3 w4 => hkap .none s'' ?_⟩
        have G5 := ynext s₄ s'' _ G4 w1 w2 w3 w4
        show Seg _ A _ _ _ s'' _ ((execs [] env).wrap _ _ _ _) _ s''
        refine seg_execs_nil ?_
        show Seg _ A _ _ _ s'' _ ((execs [] env).wrap _ _ _ _) _ s''
        refine seg_execs_nil ?_
        show Seg _ A _ _ _ s'' _ ((execs [] env).wrap _ _ _ _) _ s''
        refine seg_execs_nil (seg_again rfl ?_)
        exact ih (i + 1) false i a0 _ s'' s'' hr' hle' (fun q => by cases q) rfl (by first | exact hend | (have : escFin false (c :: rest) = escFin false rest := (by show (if c = 92 then _ else _) = _; rw [if_neg hcc]); rw [← this]; exact hend)) hit' G5 (Since.refl w3)
end
end Mine
end

section
set_option maxHeartbeats 4000000
namespace Mine

/-! the generator's start -/
section
variable {C : Cx} {A : Around} {env : Env} {y : Str} {t : Tok}
  {a1 a2 a3 a4 a5 a6 a7 a8 a9 a10 a11 b1 b2 b3 b4 b5 b6 b7 b8 b9 b10 b11 b12 c1 d1 d2 d3 d4 d5 d6 d7 p1 p2 pt f1 f2 f3 f4 f5 f6 f7 f8 f9 f10 : Pos} {z1 z2 z3 z4 z5 z6 z7 k1 k2 k3 k : Nat}

noncomputable abbrev gAll (f1 f2 f3 f4 f5 f6 f7 f8 f9 f10 : Pos) (z6 z7 k : Nat) (p1 p2 pt : Pos) (body tail : List Stmt) : List Stmt :=
  .Assign [.Name (Str.ofString "pos") f1] (.Constant (.int 0) z6 f2) f3 :: .Assign [.Name (Str.ofString "escape") f4] (.Constant (.bool false) z7 f5) f6 ::
    .For (.Tuple [.Name (Str.ofString "pos") p1, .Name (Str.ofString "ch") p2] k pt) (.Call (.Name (Str.ofString "enumerate") f7) [.Name (Str.ofString "addr") f8] [] f9) body [] f10 :: tail

theorem gen_start {s : Shared} {a0 : List At} (B0 : GB C env []) (hdt : DtOk C) (hm : C.mg (Str.ofString "enumerate") = none) (hco : env.scope.isCoroutine = false) (hint : interactive env = false)
    (hA1 : ∀ x p, OkA (A.over (.forLoop (.Tuple [.Name (Str.ofString "pos") p1, .Name (Str.ofString "ch") p2] k pt) (.ref x) (gBody a1 a2 a3 a4 a5 a6 a7 a8 a9 a10 a11 b1 b2 b3 b4 b5 b6 b7 b8 b9 b10 b11 b12 c1 z1 z2 z3 z4 k1 k2) [] env) (gFs (gTail d1 d2 d3 d4 d5 d6 d7 z5 k3) env (.func (gAll f1 f2 f3 f4 f5 f6 f7 f8 f9 f10 z6 z7 k p1 p2 pt (gBody a1 a2 a3 a4 a5 a6 a7 a8 a9 a10 a11 b1 b2 b3 b4 b5 b6 b7 b8 b9 b10 b11 b12 c1 z1 z2 z3 z4 k1 k2) (gTail d1 d2 d3 d4 d5 d6 d7 z5 k3)) env) p)) 12)
    (hA2 : OkA (A.over (.func (gAll f1 f2 f3 f4 f5 f6 f7 f8 f9 f10 z6 z7 k p1 p2 pt (gBody a1 a2 a3 a4 a5 a6 a7 a8 a9 a10 a11 b1 b2 b3 b4 b5 b6 b7 b8 b9 b10 b11 b12 c1 z1 z2 z3 z4 k1 k2) (gTail d1 d2 d3 d4 d5 d6 d7 z5 k3)) env) []) 12)
    (hkeep : ∀ b o, C.g.get? b = some o → s.heap.get? b = some o) (hbare : AllBare s.gens) (htp : 1 ≤ s.toks) {m : Str → Option Value} (hn : s.heap.Ns env.locals m) (hma : m (Str.ofString "addr") = some (.str y t)) (hy : y.cps.toList = flat C.W a0) (hend : escFin false y.cps.toList = false) :
    Seg (model C.prog C.w) A (RG [env.locals, s.heap.objs.size + 1, s.heap.objs.size]) (YG C [env.locals, s.heap.objs.size + 1, s.heap.objs.size] (escI 0 false y.cps.toList)) (escI 0 false y.cps.toList).length s
      (.func (gAll f1 f2 f3 f4 f5 f6 f7 f8 f9 f10 z6 z7 k p1 p2 pt (gBody a1 a2 a3 a4 a5 a6 a7 a8 a9 a10 a11 b1 b2 b3 b4 b5 b6 b7 b8 b9 b10 b11 b12 c1 z1 z2 z3 z4 k1 k2) (gTail d1 d2 d3 d4 d5 d6 d7 z5 k3)) env)
      ((model C.prog C.w).den (.func (gAll f1 f2 f3 f4 f5 f6 f7 f8 f9 f10 z6 z7 k p1 p2 pt (gBody a1 a2 a3 a4 a5 a6 a7 a8 a9 a10 a11 b1 b2 b3 b4 b5 b6 b7 b8 b9 b10 b11 b12 c1 z1 z2 z3 z4 k1 k2) (gTail d1 d2 d3 d4 d5 d6 d7 z5 k3)) env)) [] s := by
  have kn : ∀ (i : Nat) (x : Str) (kk : NameKind), nmG[i]? = some (x, kk) → env.kindOf x = some kk := fun i x kk h => by
    unfold Env.kindOf
    rw [B0.names]
    exact lookup_of (by decide) h
  have hL : env.locals < s.heap.objs.size := hn.lt
  have fr : ∀ b, s.heap.objs.size ≤ b → C.g.get? b = none := fun b hb => by
    cases q : C.g.get? b with
    | none => rfl
    | some o => exact absurd (Nat.lt_of_lt_of_le (Heap.lt_size (hkeep _ _ q)) hb) (Nat.lt_irrefl _)
  have fL : C.g.get? env.locals = none := B0.fresh _ List.mem_cons_self
  have hcls : (env.scope.kind == .class || (env.scope.kind == .module && env.locals != env.globals)) = false := by rw [B0.kind]; rfl
  refine seg_func (seg_stmt ?_)
  refine wpAny_Assign_Name (wpAny_Constant_int (wpAny_storeName_local (kn 1 _ _ rfl) hn (fun h₁ hn₁ hs₁ => ⟨rfl, ?_⟩) hcls)) rfl
  refine seg_stmt (wpAny_Assign_Name (wpAny_Constant_bool (wpAny_storeName_local (kn 2 _ _ rfl) hn₁ (fun h₂ hn₂ hs₂ => ⟨rfl, ?_⟩) hcls)) rfl)
  have hz : h₂.objs.size = s.heap.objs.size := hs₂.1.trans hs₁.1
  have kp : ∀ b o, b ≠ env.locals → s.heap.get? b = some o → h₂.get? b = some o := fun b o hb q => (hs₂.2 b hb).trans ((hs₁.2 b hb).trans q)
  have keep2 : ∀ b o, C.g.get? b = some o → h₂.get? b = some o := fun b o q => kp b o (fun x => by rw [x, fL] at q; cases q) (hkeep b o q)
  refine seg_execs_cons (seg_For ?_)
  have hg : h₂.Ns env.globals C.mg := by rw [B0.gl]; exact C.hg.keeps keep2
  have hb' : h₂.Ns env.builtins C.mb := by rw [B0.bi]; exact C.hb.keeps keep2
  refine wpAny_Call_NameR (Calls.Name_function_global B0.kind (kn 4 _ _ rfl) (Calls.loadGlobal_builtin hg hm hb' ((C.hbb _ (by decide)).trans (by rfl : bootBuiltins (Str.ofString "enumerate") = some (.type "enumerate"))) ?_) (by decide))
  refine PySem.callWith_type rfl (Calls.evalArgs_plain (Calls.spliced_cons (wpAny_Name (wpAny_loadName_local (v := .str y t) B0.kind (kn 0 _ _ rfl) hn₂ ?_ (Calls.spliced_nil ?_)) (by decide))))
  · show (if Str.ofString "addr" = Str.ofString "escape" then _ else if Str.ofString "addr" = Str.ofString "pos" then _ else m (Str.ofString "addr")) = _
    rw [if_neg (by decide), if_neg (by decide)]
    exact hma
  · refine call_enumerate_str fun h₃ he hit hsz hk => ?_
    replace he : IsEnum h₃ (h₂.objs.size + 1) h₂.objs.size 0 .none := he
    replace hit : h₃.IsStrIter h₂.objs.size (strIterType y) y t 0 := hit
    replace hk : ∀ b o, h₂.get? b = some o → h₃.get? b = some o := hk
    refine wpAny_pyIter_enum he fun p => ?_
    dsimp only
    rw [hz] at he hit ⊢
    obtain ⟨oL, es, ep, hoL, hdL, hsk, hfd⟩ := hn₂
    have hma2 : (if Str.ofString "addr" = Str.ofString "escape" then some (Value.bool false) else if Str.ofString "addr" = Str.ofString "pos" then some (Value.int 0 s.toks) else m (Str.ofString "addr")) = some (.str y t) := by
      rw [if_neg (by decide), if_neg (by decide)]
      exact hma
    have hLe : env.locals ≠ s.heap.objs.size + 1 := Nat.ne_of_lt (Nat.lt_succ_of_lt hL)
    have hLi : env.locals ≠ s.heap.objs.size := Nat.ne_of_lt hL
    have hB : ∀ i, GB C env (XG (s.heap.objs.size + 1) s.heap.objs.size y t i) := fun i => ⟨B0.kind, B0.names, B0.gl, B0.bi, by simp [hLe, hLi], fun a ha => by
      simp only [List.map_cons, List.map_nil, List.mem_cons, List.not_mem_nil, or_false] at ha
      rcases ha with rfl | rfl | rfl
      · exact fL
      · exact fr _ (Nat.le_succ _)
      · exact fr _ (Nat.le_refl _)⟩
    have hlen : (escI 0 false y.cps.toList).drop ((escI 0 false y.cps.toList).length - (escI 0 false y.cps.toList).length) = escI 0 false y.cps.toList := by
      rw [Nat.sub_self]; rfl
    refine gen_loop (e := s.heap.objs.size + 1) (it := s.heap.objs.size) (items := escI 0 false y.cps.toList) hB hdt hco hint (hA1 _ p) hA2 y.cps.toList 0 false 0 a0 none s _ rfl (Nat.zero_le _) (fun h => by cases h) rfl hend hlen ?_ ?_
    · exact {
        keep := fun b o q => hk b o (keep2 b o q)
        bare := hbare
        tpos := by show 1 ≤ s.toks + 1 + 1 + 1; omega
        loc := ⟨oL, hk _ _ hoL, _, ⟨es, ep, hdL, hsk, hfd⟩, fun i x mv e1 e2 => by
          match i, e1, e2 with
          | 0, e1, e2 => 
            cases e1; cases e2
            refine ⟨_, hma2, y, t, rfl, hy⟩
          | 1, e1, e2 => 
            cases e1; cases e2
            exact ⟨_, rfl, _, rfl⟩
          | 2, e1, e2 => 
            cases e1; cases e2
            exact ⟨_, rfl, rfl⟩
          | 3, e1, e2 => cases e2
          | 4, e1, e2 => cases e2
          | i + 5, e1, e2 => cases e2⟩
        xs := fun p hp => by
          rcases List.mem_cons.mp hp with rfl | hp
          · exact ⟨_, he, _, rfl⟩
          · rcases List.mem_cons.mp hp with rfl | hp
            · obtain ⟨o3, a3, b3, c3⟩ := hit
              exact ⟨o3, a3, b3, c3⟩
            · cases hp }
    · exact ⟨fun b o hb q => hk b o (kp b o (fun x => hb (by simp [x])) q), rfl, fun k gs q => q, (by show s.toks ≤ s.toks + 1 + 1 + 1; omega), hbare⟩
end
end Mine
end

section
set_option maxHeartbeats 1000000
namespace Mine

/-! the consumer's next, with the kept state known to be bare -/
section
variable {prog : Program} {w : World} {A : Around} {E : Value → Shared → Prop} {s : Shared}

theorem next_gen {a : Addr} {g n : Nat} {gs : GenState} {own : List Addr} {Y : Protocol} {Q : Option Value → Shared → Prop} (hh : A.handled = none)
    (hl : s.heap.NoLimit) (hroom : A.depth < recursionLimit) (hg : s.heap.IsGen a g) (hgs : s.gens[g]? = some gs)
    (hgo : gs.Goes (model prog w) A.in1 (RG own) Y n (.send .none) (s.setGen g .running))
    (hY : ∀ v s₁ gs', gs'.bare = true → Y (n - 1) (s.setGen g .running) v s₁ (fun r' s'' => match n with
        | 0 => False
        | m + 1 => gs'.Goes (model prog w) A.in1 (RG own) Y m r' s'') → Q (some v) (s₁.setGen g gs'))
    (hP : ∀ s₁, PG own n (s.setGen g .running) s₁ → ∀ h', (∀ b o, s₁.heap.get? b = some o → h'.get? b = some o) → Q none { s₁.setGen g .finished with heap := h' }) :
    wpAny (model prog w) A (pyNext (.ref a)) Q E s := by
  have hd : A.in1.handled = none := hh
  have alive : gs ≠ .running ∧ gs ≠ .finished := by
    constructor <;> (rintro rfl; exact hgo.elim)
  unfold pyNext
  refine wpAny_bind (wpAny_attempt (wpAny_callSpecial?_slot (name := Str.ofString "__next__") hg.typeIs slot_gen_next (wpAny_call_entry slot_gen_next hg.typeIs entry_gen_next ?_ (args_gen_next _))))
  show wpAny _ A.in1 (Builtin.Generator.genWake (.ref a) (.send .none)) _ _ s
  unfold Builtin.Generator.genWake
  refine wpAny_bind (wpAny_holding (wpAny_genNumber hg (wpAny_bind (wpAny_genState hgs ?_))))
  cases gs with
  | running => exact absurd rfl alive.1
  | finished => exact absurd rfl alive.2
  | _ =>
    refine wpAny_bind (wpAny_roomToWake hl hroom ?_)
    change wpAny _ A.in1 (.resume g (.send .none) [] _) _ _ s
    refine wpAny_resumeQ hgs hgo (fun x s₁ hx => ?_) (fun v s₁ gs' hb hv => wpAny_pure ⟨v, rfl, wpAny_pure (hY v s₁ gs' hb hv)⟩)
    obtain ⟨rfl, hp⟩ := hx
    change wpAny _ A.in1 (newExc (.type "StopIteration") [] >>= _) _ _ _
    refine wpAny_bind ?_
    simp only [newExc, newTuple]
    refine wpAny_bind (wpAny_newObj_type ?_ (by size_fits))
    refine wpAny_bind (m := firstArgMember _ _) (wpAny_of_eq (a := Value.none) (by first | rfl | (simp only [firstArgMember]; rfl)) ?_)
    refine wpAny_newObj_type ?_ (by size_fits)
    simp only [raiseNew]
    refine wpAny_bind (wpAny_bind (wpAny_handled ?_))
    first | rw [hd] | rw [hh]
    refine wpAny_throw (wpAny_bind (wpAny_isInstance (T := "StopIteration") (b := true) ⟨_, Heap.get?_push_size _ rfl, rfl⟩ isSubtype_stop ?_))
    exact wpAny_pure (hP s₁ hp _ fun b o hb => Heap.get?_push_of_some _ (Heap.get?_push_of_some _ hb))

theorem owned_gen {elts : List Expr} {x1 : Nat} {pos : Pos} {a T : Addr} {g : Nat} {Q : Unit → Shared → Prop} (hg : s.heap.IsGen a g) (hQ : Q () s) :
    wpAny (model prog w) A (letOwnedTupleGo (.Tuple elts x1 pos) (.ref a) (.ref T)) Q E s := by
  obtain ⟨o, nm, qn, ho, hc, hd, _⟩ := hg
  unfold letOwnedTupleGo
  refine wpAny_bind (wpAny_load ho ?_)
  rw [hc, hd]
  exact wpAny_pure hQ
end
end Mine
end

section
set_option maxHeartbeats 1000000
namespace Mine

/-! the call of the generator's def -/
structure GenDef (C : Cx) (a : Addr) (fd : FuncData) (body : List Stmt) : Prop where
  obj : ∃ o, C.g.get? a = some o ∧ o.data = .func fd
  body : fd.body = .stmts body
  names : fd.scope.names = nmG
  kind : fd.scope.kind = .function
  co : fd.scope.isCoroutine = false
  gen : fd.scope.isGenerator = true
  gl : fd.globals = mainGlobals
  bi : fd.builtins = builtinsNs
  code : C.g.CodeRec fd.code fd.qualname

theorem gen_call {C : Cx} {d : Nat} {a : Addr} {fd : FuncData} {body : List Stmt} (D : GenDef C a fd body) {A : Around} {φ : Phi} {σ : Hp} {X : List Res} {s : Shared} {y : Str} {t : Tok} {Q E : Value → Shared → Prop}
    (hA : OkA A (d + 1)) (R : C.R φ σ X s) (hbind : BindsTo s fd ⟨[.str y t], []⟩ [(Str.ofString "addr", .str y t)])
    (h : ∀ (s' : Shared) (ga : Addr) (g : Nat) (env : Env) (oG oL : Obj) (m : Str → Option Value), env.scope = fd.scope → env.globals = mainGlobals → env.builtins = builtinsNs →
      C.R φ σ ((ga, fun o => o = oG) :: (env.locals, fun o => o = oL) :: X) s' → s'.heap.IsGen ga g → s'.gens[g]? = some (.fresh (.func body env)) → (∀ p ∈ C.W.gk, p.1 < g) →
      NsO oL m → m (Str.ofString "addr") = some (.str y t) → 1 ≤ s'.toks → Q (.ref ga) s') : wpAny C.M A (call (.ref a) [.str y t] []) Q E s := by
  obtain ⟨o, ho, hd⟩ := D.obj
  have hcell : ∀ x ∈ fd.scope.names, x.2 ≠ .cell := fun x hx => by
    rw [D.names] at hx
    simp [nmG] at hx
    rcases hx with rfl | rfl | rfl | rfl | rfl <;> simp
  have hloc : ∀ x ∈ [(Str.ofString "addr", Value.str y t)], fd.scope.names.lookup x.1 = some .local := fun x hx => by
    rw [List.mem_singleton.mp hx, D.names]; rfl
  refine wpAny_call (codeAny_call_generator hA.room (R.keep _ _ ho) hd D.co D.gen D.body (D.code.keeps R.keep) (hbind _ _ _ _ ?_))
  refine wpAny_newFunctionEnv hcell hloc (fun h₀ hns₀ hsb₀ => ⟨(C.nolim.keeps R.keep).fresh _ hsb₀, ?_⟩) D.kind
  obtain ⟨oL, hoL, hNs⟩ := NsO.of hns₀
  have hk₀ : ∀ b o, s.heap.get? b = some o → h₀.get? b = some o := fun b o e => hsb₀.extBut b o (Nat.ne_of_lt (Heap.lt_size e)) (Heap.get?_push_of_some _ e)
  have R1 := R.push (s' := { s with heap := h₀, toks := s.toks + 1 }) (P := fun o => o = oL) hk₀ (Nat.le_refl _) hoL rfl
  generalize hoG : ({ cls := .type "generator", data := .fields #[.int s.gens.size 0, .str fd.name (s.toks + 1), .str fd.qualname (s.toks + 1 + 1)] } : Obj) = oG
  have hgG : (h₀.push oG).get? h₀.objs.size = some oG := Heap.get?_push_size _ (by rw [← hoG]; rfl)
  have R2 := R1.push (s' := { s with heap := h₀.push oG, toks := s.toks + 1 + 1 + 1 }) (P := fun o => o = oG) (fun b o e => Heap.get?_push_of_some _ e) (Nat.le_refl _) hgG rfl rfl rfl (Nat.le_trans (Nat.le_succ _) (Nat.le_succ _))
  have hlt : ∀ p ∈ C.W.gk, p.1 < s.gens.size := fun p hp => (Array.getElem?_eq_some_iff.mp (R.gk p hp)).1
  have R3 := R2.gens (gs := s.gens.push (.fresh (.func body (newEnv fd.scope s.heap.objs.size fd.globals fd.closure (fd.qualname ++ Str.ofString ".<locals>.") (some a) fd.code none fd.builtins)))) (R.bare.push rfl) fun p hp => by
    rw [Array.getElem?_push_lt (hlt p hp)]
    rw [← R.gk p hp, Array.getElem?_eq_getElem (hlt p hp)]
  refine h _ h₀.objs.size s.gens.size (newEnv fd.scope s.heap.objs.size fd.globals fd.closure (fd.qualname ++ Str.ofString ".<locals>.") (some a) fd.code none fd.builtins) oG oL _ rfl D.gl D.bi ?_ ?_ ?_ hlt hNs ?_ (Nat.le_add_left 1 _)
  · rw [← hoG] at R3 ⊢
    exact R3
  · refine ⟨oG, .str fd.name (s.toks + 1), .str fd.qualname (s.toks + 1 + 1), ?_, ?_, ?_, ?_⟩
    · rw [← hoG]; exact Heap.get?_push_size _ rfl
    · rw [← hoG]
    · rw [← hoG]
    · rw [← hoG]
  · exact Array.getElem?_push_size
  · rfl
end Mine
end

section
set_option maxHeartbeats 1000000
namespace Mine

/-! room inside the generator -/
theorem OkA.overLoop {A : Around} {d : Nat} {t : Expr} {it : Value} {b tl b2 : List Stmt} {env : Env} {p : Pos} (h : OkA A (d + 2)) : OkA (A.over (.forLoop t it b [] env) (gFs tl env (.func b2 env) p)) d := by
  refine ⟨h.hd, ?_, ?_⟩
  · have := h.dep
    show A.depth + 1 + 0 + d < _
    omega
  · have := h.un
    have e : (A.over (.forLoop t it b [] env) (gFs tl env (.func b2 env) p)).units ≤ A.units + 16 := by
      show A.units + _ + _ ≤ _
      rw [Nat.add_assoc]
      refine Nat.add_le_add_left ?_ _
      first | decide | (simp [gFs, unitsOf]; done) | exact Nat.le_of_ble_eq_true rfl
    omega
theorem OkA.overFunc {A : Around} {d : Nat} {b2 : List Stmt} {env : Env} (h : OkA A (d + 2)) : OkA (A.over (.func b2 env) []) d := by
  refine ⟨h.hd, ?_, ?_⟩
  · have := h.dep
    show A.depth + 0 + 1 + d < _
    omega
  · have := h.un
    have e : (A.over (.func b2 env) []).units ≤ A.units + 16 := by
      show A.units + _ + _ ≤ _
      rw [Nat.add_assoc]
      refine Nat.add_le_add_left ?_ _
      first | decide | exact Nat.le_of_ble_eq_true rfl
    omega

/-! a kept generator, as its consumer sees it -/
noncomputable def Live (C : Cx) (A : Around) (items : List (Nat × List Nat)) (n : Nat) (gs : GenState) (X1 : List (Addr × Obj)) : Prop :=
  ∀ s : Shared, (∀ p ∈ X1, s.heap.get? p.1 = some p.2) → (∀ b o, C.g.get? b = some o → s.heap.get? b = some o) → AllBare s.gens → 1 ≤ s.toks →
    ∃ own : List Addr, own.Nodup ∧ (∀ b ∈ own, b ∈ X1.map (·.1) ∨ s.heap.objs.size ≤ b) ∧ gs.Goes (model C.prog C.w) A.in1 (RG own) (YG C own items) n (.send .none) s

section
variable {a1 a2 a3 a4 a5 a6 a7 a8 a9 a10 a11 b1 b2 b3 b4 b5 b6 b7 b8 b9 b10 b11 b12 c1 d1 d2 d3 d4 d5 d6 d7 p1 p2 pt f1 f2 f3 f4 f5 f6 f7 f8 f9 f10 : Pos} {z1 z2 z3 z4 z5 z6 z7 k1 k2 k3 k : Nat}
theorem live_fresh {C : Cx} {A : Around} {env : Env} {y : Str} {t : Tok} {a0 : List At} {oL : Obj} {m : Str → Option Value} (B0 : GB C env []) (hdt : DtOk C) (hm : C.mg (Str.ofString "enumerate") = none) (hco : env.scope.isCoroutine = false) (hint : interactive env = false)
    (hA : OkA A.in1 14) (hns : NsO oL m) (hma : m (Str.ofString "addr") = some (.str y t)) (hy : y.cps.toList = flat C.W a0) (hend : escFin false y.cps.toList = false) :
    Live C A (escI 0 false y.cps.toList) (escI 0 false y.cps.toList).length (.fresh (.func (gAll f1 f2 f3 f4 f5 f6 f7 f8 f9 f10 z6 z7 k p1 p2 pt (gBody a1 a2 a3 a4 a5 a6 a7 a8 a9 a10 a11 b1 b2 b3 b4 b5 b6 b7 b8 b9 b10 b11 b12 c1 z1 z2 z3 z4 k1 k2) (gTail d1 d2 d3 d4 d5 d6 d7 z5 k3)) env)) [(env.locals, oL)] := by
  intro s h1 h2 h3 h4
  have hL := h1 _ List.mem_cons_self
  have hLs : env.locals < s.heap.objs.size := Heap.lt_size hL
  refine ⟨[env.locals, s.heap.objs.size + 1, s.heap.objs.size], ?_, fun b hb => ?_, rfl, ?_⟩
  · have q1 : env.locals ≠ s.heap.objs.size + 1 := Nat.ne_of_lt (Nat.lt_succ_of_lt hLs)
    have q2 : env.locals ≠ s.heap.objs.size := Nat.ne_of_lt hLs
    simp [q1, q2]
  · simp only [List.mem_cons, List.not_mem_nil, or_false] at hb
    rcases hb with rfl | rfl | rfl
    · exact .inl (by simp)
    · exact .inr (Nat.le_succ _)
    · exact .inr (Nat.le_refl _)
  · exact gen_start B0 hdt hm hco hint (fun x p => OkA.overLoop hA) (OkA.overFunc hA) h2 h3 h4 (NsO.ns hL hns) hma hy hend
end

theorem objsOf : ∀ {own : List Addr} {h : Heap}, (∀ b ∈ own, ∃ o, h.get? b = some o) → ∃ X1 : List (Addr × Obj), X1.map (·.1) = own ∧ ∀ p ∈ X1, h.get? p.1 = some p.2
  | [], _, _ => ⟨[], rfl, fun p hp => by cases hp⟩
  | b :: own, h, k => by
    obtain ⟨o, ho⟩ := k b List.mem_cons_self
    obtain ⟨X1, e, r⟩ := objsOf (own := own) (h := h) fun c hc => k c (List.mem_cons_of_mem _ hc)
    exact ⟨(b, o) :: X1, by rw [List.map_cons, e], fun p hp => by
      rcases List.mem_cons.mp hp with rfl | hp
      · exact ho
      · exact r p hp⟩

theorem live_after {C : Cx} {A : Around} {items : List (Nat × List Nat)} {own : List Addr} {n : Nat} {gs' : GenState} {s₀ s₁ : Shared} {v : Value} (hnd : own.Nodup)
    (h : YG C own items n s₀ v s₁ fun r' s'' => gs'.Goes (model C.prog C.w) A.in1 (RG own) (YG C own items) n r' s'') :
    ∃ X1 : List (Addr × Obj), X1.map (·.1) = own ∧ (∀ p ∈ X1, s₁.heap.get? p.1 = some p.2) ∧ Live C A items n gs' X1 := by
  obtain ⟨_, _, hex, hgo⟩ := h
  obtain ⟨X1, e, r⟩ := objsOf hex
  refine ⟨X1, e, r, fun s h1 h2 h3 h4 => ⟨own, hnd, fun b hb => .inl (by rw [e]; exact hb), hgo s (fun b hb o ho => ?_) h2 h3 h4⟩⟩
  rw [← e] at hb
  obtain ⟨p, hp, rfl⟩ := List.mem_map.mp hb
  rw [r p hp] at ho
  cases ho
  exact h1 p hp
end Mine
end

section
set_option maxHeartbeats 1000000
namespace Mine

/-! the consumer's side of a wake -/
noncomputable abbrev exact1 (X1 : List (Addr × Obj)) : List Res := X1.map fun p => (p.1, fun o => o = p.2)
theorem exact1_map (X1 : List (Addr × Obj)) : (exact1 X1).map (·.1) = X1.map (·.1) := by rw [List.map_map]; rfl

theorem Rel.wake {W : Val} {g : Heap} {os0 : OsState} {φ : Phi} {σ : Hp} {X1 X2 : List (Addr × Obj)} {Y : List Res} {s s₀ s₁ : Shared} {own : List Addr} (R : Rel W g os0 φ σ (exact1 X1 ++ Y) s)
    (h0 : s₀.heap = s.heap) (h0o : s₀.os = s.os) (h0t : s₀.toks = s.toks) (hg0 : ∀ p ∈ W.gk, s₀.gens[p.1]? = some p.2) (hown : ∀ b ∈ own, b ∈ X1.map (·.1) ∨ s.heap.objs.size ≤ b) (S : Since own s₀ s₁)
    (hnd : (X2.map (·.1)).Nodup) (he : ∀ b ∈ X2.map (·.1), b ∈ own) (h2 : ∀ p ∈ X2, s₁.heap.get? p.1 = some p.2) : Rel W g os0 φ σ (exact1 X2 ++ Y) s₁ := by
  have nd := R.nd
  rw [List.map_append, exact1_map] at nd
  have hnew : ∀ b ∈ φ.l ++ Y.map (·.1), b ∉ own := fun b hb hx => by
    have hlt : b < s.heap.objs.size := R.size (by
      rw [List.map_append]
      rcases List.mem_append.mp hb with q | q
      · exact List.mem_append_left _ q
      · exact List.mem_append_right _ (List.mem_append_right _ q))
    rcases hown b hx with q | q
    · rcases List.mem_append.mp hb with w | w
      · exact (List.nodup_append.mp nd).2.2 b w b (List.mem_append_left _ q) rfl
      · exact (List.nodup_append.mp (List.nodup_append.mp nd).2.1).2.2 b q b w rfl
    · exact Nat.lt_irrefl _ (Nat.lt_of_lt_of_le hlt q)
  have hfr : ∀ b ∈ own, g.get? b = none := fun b hb => by
    rcases hown b hb with q | q
    · exact R.fresh b (by rw [List.map_append, exact1_map]; exact List.mem_append_right _ (List.mem_append_left _ q))
    · cases e : g.get? b with
      | none => rfl
      | some o => exact absurd (Nat.lt_of_lt_of_le (Heap.lt_size (R.keep _ _ e)) q) (Nat.lt_irrefl _)
  have kp : ∀ b o, b ∉ own → s.heap.get? b = some o → s₁.heap.get? b = some o := fun b o hb e => S.heap b o hb (by rw [h0]; exact e)
  exact {
    keep := fun b o e => kp b o (fun q => by rw [hfr b q] at e; cases e) (R.keep b o e)
    len := R.len
    hok := R.hok
    lists := fun i a items e1 e2 => let ⟨o, q1, q2⟩ := R.lists i a items e1 e2; ⟨o, kp a o (hnew a (List.mem_append_left _ (List.mem_of_getElem? e1))) q1, q2⟩
    xs := fun p hp => by
      rcases List.mem_append.mp hp with hp | hp
      · obtain ⟨q, hq, rfl⟩ := List.mem_map.mp hp
        exact ⟨q.2, h2 q hq, rfl⟩
      · obtain ⟨o, q1, q2⟩ := R.xs p (List.mem_append_right _ hp)
        exact ⟨o, kp p.1 o (hnew p.1 (List.mem_append_right _ (List.mem_map_of_mem hp))) q1, q2⟩
    nd := by
      rw [List.map_append, exact1_map]
      have n1 := List.nodup_append.mp nd
      have n2 := List.nodup_append.mp n1.2.1
      refine List.nodup_append.mpr ⟨n1.1, List.nodup_append.mpr ⟨hnd, n2.2.1, fun a ha b hb e => hnew b (List.mem_append_right _ hb) (e ▸ he a ha)⟩, fun a ha b hb e => ?_⟩
      rcases List.mem_append.mp hb with hb | hb
      · exact hnew a (List.mem_append_left _ ha) (e ▸ he b hb)
      · exact n1.2.2 a ha b (List.mem_append_right _ hb) e
    fresh := fun a ha => by
      rw [List.map_append, exact1_map] at ha
      rcases List.mem_append.mp ha with ha | ha
      · exact R.fresh a (List.mem_append_left _ ha)
      · rcases List.mem_append.mp ha with ha | ha
        · exact hfr a (he a ha)
        · exact R.fresh a (by rw [List.map_append]; exact List.mem_append_right _ (List.mem_append_right _ ha))
    os := S.os.trans (h0o.trans R.os)
    bare := S.bare
    tpos := fun q => Nat.le_trans (R.tpos q) (h0t ▸ S.toks)
    tlt := fun p hp => ⟨(R.tlt p hp).1, Nat.lt_of_lt_of_le (R.tlt p hp).2 (h0t ▸ S.toks)⟩
    tfun := R.tfun
    gk := fun p hp => S.gens p.1 p.2 (hg0 p hp) }
end Mine
end

section
set_option maxHeartbeats 1000000
namespace Mine

noncomputable def GenO (g : Nat) (o : Obj) : Prop := ∃ nm qn, o.cls = .type "generator" ∧ o.data = .fields #[.int g 0, nm, qn] ∧ o.slots = #[]

theorem allBare_set {gens : Array GenState} {g : Nat} {x : GenState} (h : AllBare gens) (hx : x.bare = true) : AllBare (gens.setIfInBounds g x) := fun y hy => by
  rcases Array.mem_or_eq_of_mem_setIfInBounds hy with q | rfl
  · exact h y q
  · exact hx

theorem gen_turn {C : Cx} {A : Around} {d g n : Nat} {ga : Addr} {oG : Obj} {items : List (Nat × List Nat)} {gs : GenState} {X1 : List (Addr × Obj)} {φ : Phi} {σ : Hp} {Y : List Res} {s : Shared} {Q : Option Value → Shared → Prop} {E : Value → Shared → Prop}
    (hA : OkA A d) (hon : φ.tp = true) (R : C.R φ σ (exact1 X1 ++ ((ga, fun o => o = oG) :: Y)) s) (hG : GenO g oG) (hgs : s.gens[g]? = some gs) (hgk : ∀ p ∈ C.W.gk, p.1 < g) (L : Live C A items n gs X1)
    (hnone : n = 0 → ∀ s', C.R φ σ Y s' → Q none s')
    (hsome : ∀ m x v s' gs' X1', n = m + 1 → items[items.length - 1 - m]? = some x → IsItem s' v x → C.R φ σ (exact1 X1' ++ ((ga, fun o => o = oG) :: Y)) s' → s'.gens[g]? = some gs' → Live C A items m gs' X1' → Q (some v) s') :
    wpAny C.M A (pyNext (.ref ga)) Q E s := by
  obtain ⟨oG', h1, rfl⟩ := R.xs (ga, fun o => o = oG) (List.mem_append_right _ List.mem_cons_self)
  obtain ⟨nm, qn, q1, q2, q3⟩ := hG
  have hlt : g < s.gens.size := (Array.getElem?_eq_some_iff.mp hgs).1
  have hb : AllBare (s.setGen g .running).gens := allBare_set R.bare rfl
  have hx1 : ∀ p ∈ X1, s.heap.get? p.1 = some p.2 := fun p hp => by
    obtain ⟨o, e1, rfl⟩ := R.xs (p.1, fun o => o = p.2) (List.mem_append_left _ (List.mem_map_of_mem hp))
    exact e1
  obtain ⟨own, hnd, hown, hgo⟩ := L (s.setGen g .running) hx1 R.keep hb (R.tpos hon)
  have hgk0 : ∀ p ∈ C.W.gk, (s.setGen g .running).gens[p.1]? = some p.2 := fun p hp => by
    show (s.gens.setIfInBounds g _)[p.1]? = _
    rw [Array.getElem?_setIfInBounds_ne (Nat.ne_of_gt (hgk p hp))]
    exact R.gk p hp
  have regen : ∀ (s₁ : Shared) (x : GenState) (Z : List Res), x.bare = true → C.R φ σ Z s₁ → C.R φ σ Z (s₁.setGen g x) := fun s₁ x Z hx R1 =>
    R1.gens (allBare_set R1.bare hx) fun p hp => by
      rw [Array.getElem?_setIfInBounds_ne (Nat.ne_of_gt (hgk p hp))]
      exact R1.gk p hp
  refine next_gen hA.hd (C.nolim.keeps R.keep) hA.room ⟨_, nm, qn, h1, q1, q2, q3⟩ hgs hgo (fun v s₁ gs' hbr hy => ?_) fun s₁ hp h' hk => ?_
  · cases n with
    | zero =>
      exfalso
      obtain ⟨_, S, hex, hgo'⟩ := hy
      obtain ⟨X2, e2, r2⟩ := objsOf hex
      have R1 := Rel.wake (s₀ := s.setGen g .running) R rfl rfl rfl hgk0 hown S (e2 ▸ hnd) (fun b hb => e2 ▸ hb) r2
      exact hgo' s₁ (fun _ _ _ e => e) R1.keep R1.bare (R1.tpos hon)
    | succ m =>
      obtain ⟨X2, e2, r2, L2⟩ := live_after hnd hy
      obtain ⟨⟨x, hx, hit⟩, S, hex, hgo'⟩ := hy
      have R1 := Rel.wake (s₀ := s.setGen g .running) R rfl rfl rfl hgk0 hown S (e2 ▸ hnd) (fun b hb => e2 ▸ hb) r2
      have hs1 : g < s₁.gens.size := by
        have := S.gens g .running (by show (s.gens.setIfInBounds g _)[g]? = _; rw [Array.getElem?_setIfInBounds_self_of_lt hlt])
        exact (Array.getElem?_eq_some_iff.mp this).1
      exact hsome m x v _ gs' X2 rfl hx hit (regen s₁ gs' _ hbr R1) (by show (s₁.gens.setIfInBounds g _)[g]? = _; rw [Array.getElem?_setIfInBounds_self_of_lt hs1]) L2
  · obtain ⟨rfl, S⟩ := hp
    have R1 := Rel.wake (s₀ := s.setGen g .running) (X2 := []) R rfl rfl rfl hgk0 hown S List.nodup_nil (fun b hb => by cases hb) (fun p hp => by cases hp)
    refine hnone rfl _ ((regen s₁ .finished _ rfl R1.drop).ext hk)
end Mine
end

section
set_option maxHeartbeats 1000000
namespace Mine

/-! the for over the generator -/
theorem VRel_gk (W : Val) (l : List (Nat × GenState)) : VRel { W with gk := l } = VRel W := by
  funext φ m v; exact propext VRel.gk
theorem LObj_gk (W : Val) (l : List (Nat × GenState)) : LObj { W with gk := l } = LObj W := by
  funext φ items o; unfold LObj; rw [VRel_gk]
theorem PLoc_gk (W : Val) (l : List (Nat × GenState)) : PLoc { W with gk := l } = PLoc W := by
  funext nm lv φ o; unfold PLoc; rw [VRel_gk]
theorem PCell_gk (W : Val) (l : List (Nat × GenState)) : PCell { W with gk := l } = PCell W := by
  funext ov φ o; unfold PCell; rw [VRel_gk]
theorem vres_gk (W : Val) (l : List (Nat × GenState)) : vres { W with gk := l } = vres W := by
  funext env nm ci lv φ; unfold vres; rw [PLoc_gk, PCell_gk]
theorem Rel.gkTo {W : Val} {g : Heap} {os0 : OsState} {φ : Phi} {σ : Hp} {X : List Res} {s : Shared} {l : List (Nat × GenState)} (R : Rel W g os0 φ σ X s) (h : ∀ p ∈ l, s.gens[p.1]? = some p.2) : Rel { W with gk := l } g os0 φ σ X s :=
  { keep := R.keep, len := R.len, hok := R.hok, lists := by rw [LObj_gk]; exact R.lists, xs := R.xs, nd := R.nd, fresh := R.fresh, os := R.os, bare := R.bare, tpos := R.tpos, tlt := R.tlt, tfun := R.tfun, gk := h }
theorem EnvOk.gkTo {W : Val} {env : Env} {nm : Nm} {ci : List (Nat × Addr)} {lv : LV} {φ : Phi} {X : List Res} (l : List (Nat × GenState)) (K : EnvOk W env nm ci lv φ X) : EnvOk { W with gk := l } env nm ci lv φ X :=
  { kind := K.kind, names := K.names, gl := K.gl, bi := K.bi, ndn := K.ndn, ndc := K.ndc, cell := K.cell, free := by rw [PCell_gk]; exact K.free, cd := K.cd }

noncomputable def Cx.keepGen (C : Cx) (g : Nat) (gs : GenState) : Cx := { C with W := { C.W with gk := (g, gs) :: C.W.gk } }

section
variable {C : Cx} {A : Around} {env : Env} {nm : Nm} {ci : List (Nat × Addr)} {X : List Res} {lv : LV} {φ φ' : Phi} {σ σ' : Hp} {s s' : Shared} {d : Nat} {g : Nat} {gs : GenState}
theorem Good.keepIn (G : Good C env nm ci X lv φ σ s) (h : s.gens[g]? = some gs) : Good (C.keepGen g gs) env nm ci X lv φ σ s :=
  ⟨G.ok.gkTo _, by
    show Rel { C.W with gk := (g, gs) :: C.W.gk } C.g C.os0 φ σ (vres { C.W with gk := (g, gs) :: C.W.gk } env nm ci lv φ ++ X) s
    rw [vres_gk]
    exact G.rel.gkTo fun p hp => by
      rcases List.mem_cons.mp hp with rfl | hp
      · exact h
      · exact G.rel.gk p hp⟩
theorem Good.keepOut (G : Good (C.keepGen g gs) env nm ci X lv φ σ s) : Good C env nm ci X lv φ σ s ∧ s.gens[g]? = some gs := by
  have R := G.rel
  have h := R.gk (g, gs) List.mem_cons_self
  have R' : Rel { C.W with gk := (g, gs) :: C.W.gk } C.g C.os0 φ σ (vres { C.W with gk := (g, gs) :: C.W.gk } env nm ci lv φ ++ X) s := R
  rw [vres_gk] at R'
  refine ⟨⟨G.ok.gkTo C.W.gk, ?_⟩, h⟩
  exact R'.gkTo (l := C.W.gk) fun p hp => R.gk p (List.mem_cons_of_mem _ hp)
end

/-- the generator's def as its callers see it -/
structure GenSrc (C : Cx) (a : Addr) : Prop where
  ex : ∃ fd, GenDef C a fd (bodyAt 1) ∧ ∀ y t, bindArgs fd ⟨[.str y t], []⟩ = pure [(Str.ofString "addr", .str y t)]
  hdt : DtOk C
  enu : C.mg (Str.ofString "enumerate") = none

theorem live_body {C : Cx} {A : Around} {env : Env} {y : Str} {t : Tok} {a0 : List At} {oL : Obj} {m : Str → Option Value} (B0 : GB C env []) (hdt : DtOk C) (hm : C.mg (Str.ofString "enumerate") = none) (hco : env.scope.isCoroutine = false) (hint : interactive env = false)
    (hA : OkA A.in1 14) (hns : NsO oL m) (hma : m (Str.ofString "addr") = some (.str y t)) (hy : y.cps.toList = flat C.W a0) (hend : escFin false y.cps.toList = false) :
    Live C A (escI 0 false y.cps.toList) (escI 0 false y.cps.toList).length (.fresh (.func (bodyAt 1) env)) [(env.locals, oL)] :=
  live_fresh B0 hdt hm hco hint hA hns hma hy hend

noncomputable def xGen (i j : Nat) (body oe : XF) : List (Nat × List Nat) → XF
  | [] => oe
  | (p, q) :: r => fun lv σ => match body ((lv.set i (some (.int (p : Nat)))).set j (some (.str (q.map .ch)))) σ with
    | some (.next, lv', σ') => xGen i j body oe r lv' σ'
    | r => r
noncomputable def xForG (f : LF) (i j : Nat) (body oe : XF) : XF := fun lv σ => match f lv σ with
  | some ([.str x], σ') => match chs x with
    | some l => if escFin false l = true then none else xGen i j body oe (escI 0 false l) lv σ'
    | none => none
  | _ => none

theorem SS_forGen {C : Cx} {d : Nat} {nm : Nm} {a : Addr} (S : GenSrc C a) {i j k : Nat} {x y gname : Str} {p1 p2 pt p pos pos' : Pos} {e : Expr} {body orelse : List Stmt} {f : LF} {bf oe : XF}
    (hd : 15 ≤ d) (hm : C.mg gname = some (.ref a)) (hx : nm.lookup gname = some .globalImplicit) (hdb : (gname == ("__debug__" : Str)) = false)
    (hi : nm[i]? = some (x, .local)) (hj : nm[j]? = some (y, .local))
    (h₁ : SL C d nm [e] f) (hb : ∀ g gs, SB (C.keepGen g gs) d nm body bf) (ho : SB C d nm orelse oe)
    (hs : ∀ (env : Env) (x : Value), foldedSetIterable (.Call (.Name gname p) [e] [] pos) env x = pure x := by intros; rfl) :
    SS C d nm (.For (.Tuple [.Name x p1, .Name y p2] k pt) (.Call (.Name gname p) [e] [] pos) body orelse pos') (xForG f i j bf oe) := by
  intro A env ci X lv φ σ s fl lv' σ' Q E hA hO G hf h
  unfold xForG at hf
  split at hf
  · rename_i xs σ₁ e1
    split at hf
    · rename_i l e2
      split at hf
      · cases hf
      · rename_i hesc
        have hesc : escFin false l = false := by simpa using hesc
        obtain ⟨fd, GD, hbind⟩ := S.ex
        obtain ⟨o, ho', hdat⟩ := GD.obj
        refine wpAny_For ?_ (hs env)
        refine wpAny_Call_NameR (SE_glob (d := d) gname p a hm hx hdb A env ci X lv φ σ s _ _ _ _ hA G rfl fun φ₀ s₀ r p0 G0 r0 => ?_)
        obtain rfl : r = .ref a := r0
        refine Calls.callWith_function (o := o) (fd := fd) (h₁.args hA G0 e1 fun φ₁ s₁ xv p1' G1 r1 => ⟨⟨G1.rel.keep _ _ ho', hdat⟩, ?_⟩)
        obtain ⟨v, rfl, rv⟩ := r1.one
        obtain ⟨yy, t, rfl, hy⟩ := rv
        have hl : yy.cps.toList = l := by rw [hy]; exact chs_flat C.W e2
        refine gen_call (d := 0) GD (hA.mono (by omega)) G1.rel (BindsTo.of_eq (hbind yy t)) fun s₂ ga g genv oG oL m e3 e4 e5 R2' hG hgs hgk hns hma htp => ?_
        have R2 := R2'.turnOn htp
        refine wpAny_pyIter_gen hG ?_
        have hGO : GenO g oG := by
          obtain ⟨o1, nm1, qn1, q1, q2, q3, q4⟩ := hG
          obtain ⟨o2, w1, rfl⟩ := R2.xs _ List.mem_cons_self
          rw [w1] at q1; cases q1
          exact ⟨nm1, qn1, q2, q3, q4⟩
        have hisG : ∀ s' : Shared, s'.heap.get? ga = some oG → s'.heap.IsGen ga g := fun s' q => let ⟨nm1, qn1, q2, q3, q4⟩ := hGO; ⟨oG, nm1, qn1, q, q2, q3, q4⟩
        have hLf : C.g.get? genv.locals = none := R2.fresh _ (List.mem_append_right _ (by simp))
        have LV0 : Live C A (escI 0 false l) (escI 0 false l).length (.fresh (.func (bodyAt 1) genv)) [(genv.locals, oL)] := by
          rw [← hl]
          exact live_body (C := C) ⟨by rw [e3]; exact GD.kind, by rw [e3]; exact GD.names, e4, e5, by simp, fun b hb => by
            rcases List.mem_cons.mp hb with rfl | hb
            · exact hLf
            · cases hb⟩ S.hdt S.enu (by rw [e3]; exact GD.co) (interactive_fn (by rw [e3]; exact GD.kind)) ((hA.mono hd).in1) hns hma hy (by rw [hl]; exact hesc)
        generalize escI 0 false l = items at hf LV0
        have zz : ∀ (X1 : List (Addr × Obj)) (Y : List Res), exact1 X1 ++ ((ga, fun o => o = oG) :: Y) = (exact1 X1 ++ [(ga, fun o => o = oG)]) ++ Y := fun X1 Y => by simp
        refine codeAny_forLoop_any (fun n s => ∃ lv₁ φ₂ σ₂ X1 gs, Pre φ₁.on φ₂ ∧ EnvOk C.W env nm ci lv₁ φ₂ X ∧ C.R φ₂ σ₂ (exact1 X1 ++ ((ga, fun o => o = oG) :: (vres C.W env nm ci lv₁ φ₂ ++ X))) s ∧ s.gens[g]? = some gs ∧ Live C A items n gs X1 ∧ n ≤ items.length ∧
          xGen i j bf oe (items.drop (items.length - n)) lv₁ σ₂ = some (fl, lv', σ')) ?_ items.length
          ⟨lv, φ₁.on, σ₁, [(genv.locals, oL)], _, pre_refl _, G1.ok.mono Pre.on, (R2.imp (.cons (fun _ h => h) (.cons (fun _ h => h) ((vres_imp Pre.on ci).append (RImp.refl X))))).perm (List.Perm.swap _ _ _), hgs, LV0, Nat.le_refl _, by rw [Nat.sub_self]; exact hf⟩
        rintro n s₃ ⟨lv₁, φ₂, σ₂, X1, gs, pp, K1, R3, hgs3, L3, hle, hx3⟩
        refine gen_turn hA (pp.2.2 rfl) R3 hGO hgs3 hgk L3 (fun hn s₄ R4 => ?_) fun mm xx v s₄ gs' X1' hn hxx hit R4 hgs4 L4 => ?_
        · subst hn
          rw [Nat.sub_zero, List.drop_length] at hx3
          exact ho A env ci X lv₁ φ₂ σ₂ s₄ fl lv' σ' _ _ hA hO ⟨K1, R4⟩ hx3 fun φ₃ s₅ r p2' G2 r2 => h φ₃ s₅ r (pre_trans p0 (pre_trans p1' (pre_trans Pre.on (pre_trans pp p2')))) G2 r2
        · subst hn
          have hdrop : items.drop (items.length - (mm + 1)) = xx :: items.drop (items.length - mm) := by
            have hlt : items.length - (mm + 1) < items.length := by omega
            rw [List.drop_eq_getElem_cons hlt]
            have : items.length - (mm + 1) + 1 = items.length - mm := by omega
            rw [this]
            have h2 : items.length - 1 - mm = items.length - (mm + 1) := by omega
            rw [h2, List.getElem?_eq_getElem hlt] at hxx
            cases hxx
            rfl
          rw [hdrop] at hx3
          obtain ⟨q0, q1⟩ := xx
          obtain ⟨ta, tk, z, u, rfl, htup, hz⟩ := hit
          have hgaO : s₄.heap.get? ga = some oG := by
            obtain ⟨o2, w1, rfl⟩ := R4.xs (ga, fun o => o = oG) (List.mem_append_right _ List.mem_cons_self)
            exact w1
          refine owned_gen (hisG s₄ hgaO) ?_
          rw [zz] at R4
          have G4 : Good C env nm ci ((exact1 X1' ++ [(ga, fun o => o = oG)]) ++ X) lv₁ φ₂ σ₂ s₄ := Good.mk' K1 R4
          rw [arm_assign_Tuple]
          refine wpAny_bind (wpAny_standAt (wpAny_unpack_tuple hA.hd ⟨_, htup, rfl, 0, rfl⟩ rfl rfl fun h3 hx3' => ?_))
          have G5 : Good (C.keepGen g gs') env nm ci ((exact1 X1' ++ [(ga, fun o => o = oG)]) ++ X) lv₁ φ₂ σ₂ { s₄ with heap := h3 } := (Good.ext (s' := { s₄ with heap := h3 }) G4 (extFresh hx3')).keepIn hgs4
          show wpAny (C.keepGen g gs').M A (assignInOrder [assign (.Name x p1) env, assign (.Name y p2) env] [.int q0 tk, .str z u]) _ _ _
          simp only [assignInOrder]
          refine wpAny_bind (wpAny_holding (TG_loc (d := d) i x p1 hi A env ci _ lv₁ φ₂ σ₂ _ (.int (q0 : Nat)) _ _ _ _ hA G5 ⟨_, rfl⟩ rfl fun s6 G6 => ?_))
          refine wpAny_bind (wpAny_holding (TG_loc (d := d) j y p2 hj A env ci _ _ φ₂ σ₂ _ (.str (q1.map .ch)) _ _ _ _ hA G6 ⟨_, _, rfl, by rw [flat_ch]; exact hz⟩ rfl fun s7 G7 => ?_))
          refine wpAny_pure ?_
          unfold xGen at hx3
          split at hx3
          · rename_i lv₄ σ₄ e4
            refine hb g gs' A env ci _ _ φ₂ σ₂ s7 .next lv₄ σ₄ _ _ hA hO G7 e4 fun φ₃ s₈ r p3 G8 r3 => ?_
            obtain rfl : r = .next := r3
            obtain ⟨G9, hgs9⟩ := G8.keepOut
            refine ⟨mm, Nat.lt_succ_self mm, lv₄, φ₃, σ₄, X1', gs', pre_trans pp p3, Good.back (lv0 := lv₁) K1 G9, ?_, hgs9, L4, Nat.le_of_succ_le hle, hx3⟩
            rw [zz]
            exact G9.rel.perm (mid_perm _ _ _)
          · rename_i hne
            refine hb g gs' A env ci _ _ φ₂ σ₂ s7 fl lv' σ' _ _ hA hO G7 hx3 fun φ₃ s₈ r p3 G8 r3 => ?_
            cases fl with
            | next => exact absurd hx3 (hne _ _)
            | ret m =>
              obtain ⟨v, rfl, rv⟩ := r3
              obtain ⟨G9, _⟩ := G8.keepOut
              have rv' : VRel C.W φ₃ m v := VRel.gk.mp rv
              exact h φ₃ s₈ _ (pre_trans p0 (pre_trans p1' (pre_trans Pre.on (pre_trans pp p3)))) ⟨Good.back (lv0 := lv₁) K1 G9, (G9.rel.perm (mid_perm _ _ _)).drops⟩ ⟨v, rfl, rv'⟩
    · cases hf
  · cases hf
end Mine
end

section
set_option maxHeartbeats 1000000
namespace Mine

/-! operations on texts whose signs are known -/
section
variable {C : Cx} {d : Nat}
theorem chs_map : ∀ l : List Nat, chs (l.map At.ch) = some l
  | [] => rfl
  | c :: r => by show (match chs (r.map At.ch) with | some l => some (c :: l) | none => none) = _; rw [chs_map r]

noncomputable def aNotIn : B2 := fun a b σ => match a, b with
  | .str [.ch c], .str y => match chs y with
    | some l => some (.bool (!decide (c ∈ l)), σ)
    | none => none
  | _, _ => none
theorem op_notIn : Op2 C d (compareOp .NotIn) aNotIn := by
  intro A φ σ X s a b x y v σ' Q E hA R ra rb hf hq
  unfold aNotIn at hf
  split at hf
  · rename_i c z
    split at hf
    · rename_i l e
      cases hf
      obtain ⟨x, t, rfl, hx⟩ := ra
      obtain ⟨y, u, rfl, hy⟩ := rb
      have hx' : x = ⟨#[c]⟩ := by
        have h2 : x.cps = #[c] := Array.toList_inj.mp (by rw [hx]; rfl)
        cases x; simp at h2; rw [h2]
      subst hx'
      refine P.notIn_str ?_
      rw [StrLaws.found_one, hy, chs_flat C.W e]
      exact hq φ s _ (pre_refl φ) R rfl
    · cases hf
  · cases hf

theorem op_isub : Op2 C d (inplaceOp .Sub) (opI fSub) := Op2_int fun A s i j t u k Q E _ e h => by
  cases e
  exact P.isub_int (h _ _ (Nat.le_succ _) fun φ => ⟨_, rfl⟩)
theorem op_addI : Op2 C d (binaryOp .Add) (opI fAug) := Op2_int fun A s i j t u k Q E _ e h => by
  cases e
  exact P.add_int (h _ _ (Nat.le_succ _) fun φ => ⟨_, rfl⟩)

noncomputable def bLenS : F1 := fun ms σ => match ms with
  | [.str x] => match chs x with
    | some l => if l.length ≤ 1000 then some (.int l.length, σ) else none
    | none => none
  | _ => none
theorem bui_lenS : Bui C d "len" bLenS := by
  intro A φ σ X s ms vs v σ' Q E hA R hr hf hq
  unfold bLenS at hf
  split at hf
  · rename_i x
    split at hf
    · rename_i l e1
      split at hf
      · rename_i hl
        cases hf
        obtain ⟨_, rfl, ⟨y, t, rfl, hy⟩⟩ := hr.one
        have hlen : y.length = l.length := by rw [str_len, hy, chs_flat C.W e1]
        exact P.len_str (by omega) (hq φ _ _ (pre_refl φ) (R.toks _ (Nat.le_add_right _ 2)) ⟨_, by rw [hlen]⟩)
      · cases hf
    · cases hf
  · cases hf

noncomputable def catC : List MV → Option (List Nat)
  | [] => some []
  | .str x :: r => match chs x, catC r with
    | some l, some m => some (l ++ m)
    | _, _ => none
  | _ => none
noncomputable def mJoinL : F1 := fun ms σ => match ms with
  | [.str [], .ref r] => match (hget σ r) with
    | some xs => match catC xs with
      | some y => if y.length ≤ 1000 then some (.str (y.map .ch), σ) else none
      | none => none
    | none => none
  | _ => none
theorem catC_ok {W : Val} {φ : Phi} : ∀ {xs : List MV} {vs : List Value} {y : List Nat}, All2 (VRel W φ) xs vs → catC xs = some y →
    ∃ ys : List Str, StrsAre vs ys ∧ (ys.map fun s => s.cps.toList).flatten = y ∧ (ys.map (·.length)).sum = y.length
  | [], [], _, _, h => by cases h; exact ⟨[], .nil, rfl, rfl⟩
  | x :: xs, y :: vs, n, ⟨a, b⟩, h => by
    cases x <;> try (cases h)
    rename_i x
    unfold catC at h
    split at h
    · rename_i l m e1 e2
      cases h
      obtain ⟨y', u, rfl, ey⟩ := a
      obtain ⟨ys, g1, g2, g3⟩ := catC_ok b e2
      rw [chs_flat W e1] at ey
      refine ⟨y' :: ys, .cons y' u g1, ?_, ?_⟩
      · rw [List.map_cons, List.flatten_cons, g2, ey]
      · rw [List.map_cons, List.sum_cons, g3, str_len, ey, List.length_append]
    · cases h
  | [], _ :: _, _, x, _ => x.elim
  | _ :: _, [], _, x, _ => x.elim
theorem meth_joinL : Meth C d "str" "join" "str.join" mJoinL where
  pa := F.plainAttrs_str
  slot := F.slot_str_join
  ty := F.type_str_join
  op := by
    intro A φ σ X s ms vs v σ' Q E hA R hr hf hq
    unfold mJoinL at hf
    split at hf
    · rename_i r
      split at hf
      · rename_i xs e1
        split at hf
        · rename_i y e3
          split at hf
          · rename_i hl
            cases hf
            obtain ⟨x, y', rfl, ⟨k, t, rfl, ek⟩, ⟨a, ha, rfl⟩⟩ := hr.two
            have ek : k.cps.toList = [] := ek
            obtain ⟨a', us, q1, q2, q3⟩ := R.getList e1
            rw [ha] at q1; cases q1
            obtain ⟨ys, g1, g2, g3⟩ := catC_ok q3 e3
            have hk : k.length = 0 := by rw [str_len, ek]; rfl
            refine wpAny_with_toks (Nat.le_refl _) (join_list (ys := ys) q2.isList g1 ?_ fun t' tk ht => hq φ _ _ (pre_refl φ) (R.toks tk ht) ⟨_, _, rfl, ?_⟩)
            · rw [hk]; omega
            · show (Builtin.Str.glued k ys).cps.toList = _
              rw [StrLaws.glued_eq_join, join_flat ek, g2, flat_ch]
          · cases hf
        · cases hf
      · cases hf
    · cases hf

/-! slices of texts -/
noncomputable def sliceS (l : List Nat) : Option Int → Option Int → Option (List Nat)
  | some i, some j => if 0 ≤ i ∧ i ≤ j ∧ j ≤ l.length then some ((l.drop i.toNat).take (j - i).toNat) else none
  | some i, none => if 0 ≤ i ∧ i ≤ l.length then some (l.drop i.toNat) else none
  | _, _ => none
theorem slice_toList {y : Str} {l r : List Nat} (hy : y.cps.toList = l) {lo hi : Option Int} (h : sliceS l lo hi = some r) : (Txt.slice y lo hi).cps.toList = r := by
  subst hy
  unfold sliceS at h
  split at h
  · split at h
    · rename_i hc
      cases h
      rw [beq_iff_eq.mp (slice_closes hc)]
    · cases h
  · split at h
    · rename_i hc
      cases h
      rw [beq_iff_eq.mp (slice_closes_from hc)]
      show ((y.cps.toList.drop _).take _) = _
      rw [List.take_of_length_le]
      rw [List.length_drop]
      omega
    · cases h
  · cases h
noncomputable def eSliceS (g : EF) (p q : PF) : EF := fun lv σ => match g lv σ with
  | some (.str x, σ₁) => match p lv σ₁ with
    | some (lo, σ₂) => match q lv σ₂ with
      | some (hi, σ₃) => match chs x with
        | some l => if l.length ≤ 1000 then match sliceS l lo hi with
            | some r => some (.str (r.map .ch), σ₃)
            | none => none
          else none
        | none => none
      | none => none
    | none => none
  | _ => none
theorem part_of_isPart {v : Value} {o : Option Int} (h : IsPart v o) : ∃ l : Option (Int × Tok), v = partValue l ∧ l.map (·.1) = o := by
  cases h with
  | none => exact ⟨none, rfl, rfl⟩
  | int i t => exact ⟨some (i, t), rfl, rfl⟩
theorem SE_sliceS {nm : Nm} {value : Expr} {lower upper : Option Expr} {p pos : Pos} {f : EF} {f₁ f₂ : PF} (h₀ : SE C d nm value f) (h₁ : SP C d nm lower f₁) (h₂ : SP C d nm upper f₂)
    (ht : ∀ o r, letTemporaryGo value o r = pure () := by intro _ _; rfl) : SE C d nm (.Subscript value (.Slice lower upper none p) pos) (eSliceS f f₁ f₂) := by
  intro A env ci X lv φ σ s v σ' Q E hA G hf h
  unfold eSliceS at hf
  split at hf
  · rename_i x σ₁ e1
    split at hf
    · rename_i lo σ₂ e2
      split at hf
      · rename_i hi σ₃ e3
        split at hf
        · rename_i l e4
          split at hf
          · rename_i hl
            split at hf
            rotate_left
            · cases hf
            rename_i r e5
            cases hf
            refine wpAny_Subscript_Slice F.slot_str_getitem.lookup (h₀ A env ci X lv φ σ s _ σ₁ _ _ hA G e1 fun φ₁ s₁ o p1 G1 r1 => wpAny_Slice ?_) ht
            refine h₁ A env ci X lv φ₁ σ₁ s₁ lo σ₂ _ _ hA G1 e2 fun φ₂ s₂ vl p2 G2 r2 => h₂ A env ci X lv φ₂ σ₂ s₂ hi _ _ _ hA G2 e3 fun φ₃ s₃ vu p3 G3 r3 => ?_
            rw [evalPart_none]
            refine wpAny_pure ?_
            obtain ⟨y, t, rfl, hy⟩ := r1
            obtain ⟨pl, rfl, rfl⟩ := part_of_isPart r2
            obtain ⟨pu, rfl, rfl⟩ := part_of_isPart r3
            rw [chs_flat C.W e4] at hy
            have hlen : y.length = l.length := by rw [str_len, hy]
            have hle : y.length ≤ sizeLine := by rw [hlen]; exact Nat.le_trans hl sizeLine_ge
            refine ⟨typeIs_str _ y t, wpAny_with_toks (Nat.le_refl _) (wpAny_getItem_str_slice (l := pl) (u := pu) (st := none) ⟨_, Heap.get?_push_size _ rfl, rfl, rfl⟩ rfl (post_val_or_str ⟨Nat.le_trans (Txt.slice_le y _ _) hle, fun t' k ht => ?_⟩))⟩
            refine h φ₃ _ _ (pre_trans p1 (pre_trans p2 p3)) (G3.ext (fun b o e => Heap.get?_push_of_some _ e) rfl rfl ht) ⟨_, t', rfl, ?_⟩
            rw [flat_ch]
            exact slice_toList hy e5
          · cases hf
        · cases hf
      · cases hf
    · cases hf
  · cases hf
end
end Mine
end

section
set_option maxHeartbeats 4000000
namespace Mine

noncomputable def nm_strip : Nm := [(Str.ofString "addr", NameKind.local), (Str.ofString "start", NameKind.local), (Str.ofString "open_pos", NameKind.local), (Str.ofString "result", NameKind.local), (Str.ofString "pos", NameKind.local), (Str.ofString "ch", NameKind.local), (Str.ofString "_iter_escaped_chars", NameKind.globalImplicit), (Str.ofString "len", NameKind.globalImplicit)]
noncomputable def body_strip : List Stmt := match ((bodyAt 2)[4]? : Option Stmt) with
  | some (PySem.Stmt.For _ _ b _ _) => b
  | _ => []
noncomputable def X_strip_loop : XF := (xSeq (xIf (tOf (eBin aEq (eVar 5) (fun _ σ => some (.str (List.map At.ch [34]), σ)))) (xSeq (xIf (tOf (eBin aIs (eVar 2) (fun _ σ => some (.none, σ)))) (xSeq (xSet 2 (eVar 4))
  xNil) (xSeq (xIf (tOf (eBin aNe (eVar 1) (eVar 2))) (xSeq (xDrop (eMethL (eVar 3) (lCons (eSliceS (eVar 0) (pSome (eVar 1)) (pSome (eVar 2))) lNil) mAppend))
  xNil) xNil)
  (xSeq (xSet 1 (eBin (opI fAug) (eVar 4) (fun _ σ => some (.int 1, σ))))
  (xSeq (xSet 2 (fun _ σ => some (.none, σ)))
  xNil))))
  xNil) xNil)
  xNil)
noncomputable def X_strip : XF := (xSeq (xIf (tOf (eBin aNotIn (fun _ σ => some (.str (List.map At.ch [34]), σ)) (eVar 0))) (xSeq (xRet (eVar 0))
  xNil) xNil)
  (xSeq (xSet 1 (fun _ σ => some (.int 0, σ)))
  (xSeq (xSet 2 (fun _ σ => some (.none, σ)))
  (xSeq (xSet 3 (eList lNil))
  (xSeq (xForG (lCons (eVar 0) lNil) 4 5 X_strip_loop xNil)
  (xSeq (xIf (tOf (eBin aLt (eVar 1) (eCall (lCons (eVar 0) lNil) bLenS))) (xSeq (xDrop (eMethL (eVar 3) (lCons (eSliceS (eVar 0) (pSome (eVar 1)) pNone) lNil) mAppend))
  xNil) xNil)
  (xSeq (xRet (eMethS (fun _ σ => some (.str (List.map At.ch []), σ)) (lCons (eVar 3) lNil) mJoinL))
  xNil)))))))
noncomputable def F_strip : F1 := mkF 8 1 X_strip
noncomputable def nm_check : Nm := [(Str.ofString "addr", NameKind.local), (Str.ofString "opens", NameKind.local), (Str.ofString "pos", NameKind.local), (Str.ofString "ch", NameKind.local), (Str.ofString "_strip_quoted_realnames", NameKind.globalImplicit), (Str.ofString "_iter_escaped_chars", NameKind.globalImplicit)]
noncomputable def body_check : List Stmt := match ((bodyAt 3)[2]? : Option Stmt) with
  | some (PySem.Stmt.For _ _ b _ _) => b
  | _ => []
noncomputable def X_check_loop : XF := (xSeq (xIf (tOf (eBin aEq (eVar 3) (fun _ σ => some (.str (List.map At.ch [40]), σ)))) (xSeq (xAug 1 (opI fAug) (fun _ σ => some (.int 1, σ)))
  xNil) (xSeq (xIf (tOf (eBin aEq (eVar 3) (fun _ σ => some (.str (List.map At.ch [41]), σ)))) (xSeq (xAug 1 (opI fSub) (fun _ σ => some (.int 1, σ)))
  (xSeq (xIf (tOf (eBin aLt (eVar 1) (fun _ σ => some (.int 0, σ)))) (xSeq (xRet (fun _ σ => some (.bool false, σ)))
  xNil) xNil)
  xNil)) xNil)
  xNil))
  xNil)
noncomputable def X_check : XF := (xSeq (xSet 0 (eCall (lCons (eVar 0) lNil) F_strip))
  (xSeq (xSet 1 (fun _ σ => some (.int 0, σ)))
  (xSeq (xForG (lCons (eVar 0) lNil) 2 3 X_check_loop xNil)
  (xSeq (xRet (eBin aEq (eVar 1) (fun _ σ => some (.int 0, σ))))
  xNil))))
noncomputable def F_check : F1 := mkF 6 1 X_check
structure TxtDefs (C : Cx) : Prop where
  src : GenSrc C 21
  mgen : C.mg (Str.ofString "_iter_escaped_chars") = some (.ref 21)
  mstrip : C.mg (Str.ofString "_strip_quoted_realnames") = some (.ref 28)
  mlen : C.mg (Str.ofString "len") = none
  strip : Fn C 28 (bodyAt 2) nm_strip 1
  check : Fn C 35 (bodyAt 3) nm_check 1
theorem B_strip_loop {C : Cx} : SB C 15 nm_strip body_strip X_strip_loop :=
  (SB_cons (SS_if (ST_cmp op_eq (SE_name 5 "ch" .local _ rfl (.inl rfl) (by decide) (by decide)) (SE_str _ [34] _ _ (by decide))) (SB_cons (SS_if (ST_cmp op_is (SE_name 2 "open_pos" .local _ rfl (.inl rfl) (by decide) (by decide)) (SE_none _ _)) (SB_cons (SS_assign 2 .local rfl (.inl rfl) (SE_name 4 "pos" .local _ rfl (.inl rfl) (by decide) (by decide)) (fun _ _ _ => rfl))
  SB_nil) (SB_cons (SS_if (ST_cmp op_ne (SE_name 1 "start" .local _ rfl (.inl rfl) (by decide) (by decide)) (SE_name 2 "open_pos" .local _ rfl (.inl rfl) (by decide) (by decide))) (SB_cons (SS_expr (SE_methL meth_append (SE_name 3 "result" .local _ rfl (.inl rfl) (by decide) (by decide)) (SL_cons (SE_sliceS (SE_name 0 "addr" .local _ rfl (.inl rfl) (by decide) (by decide)) (SP_some (SE_name 1 "start" .local _ rfl (.inl rfl) (by decide) (by decide))) (SP_some (SE_name 2 "open_pos" .local _ rfl (.inl rfl) (by decide) (by decide)))) SL_nil)))
  SB_nil) SB_nil)
  (SB_cons (SS_assign 1 .local rfl (.inl rfl) (SE_bin op_addI (SE_name 4 "pos" .local _ rfl (.inl rfl) (by decide) (by decide)) (SE_int 1 _ _)) (fun _ _ _ => rfl))
  (SB_cons (SS_assign 2 .local rfl (.inl rfl) (SE_none _ _) (fun _ _ _ => rfl))
  SB_nil))))
  SB_nil) SB_nil)
  SB_nil)
theorem B_strip {C : Cx} (H : TxtDefs C) : SB C 15 nm_strip (bodyAt 2) X_strip :=
  (SB_cons (SS_if (ST_cmp op_notIn (SE_str _ [34] _ _ (by decide)) (SE_name 0 "addr" .local _ rfl (.inl rfl) (by decide) (by decide))) (SB_cons (SS_ret (SE_name 0 "addr" .local _ rfl (.inl rfl) (by decide) (by decide)))
  SB_nil) SB_nil)
  (SB_cons (SS_assign 1 .local rfl (.inl rfl) (SE_int 0 _ _) (fun _ _ _ => rfl))
  (SB_cons (SS_assign 2 .local rfl (.inl rfl) (SE_none _ _) (fun _ _ _ => rfl))
  (SB_cons (SS_assign 3 .local rfl (.inl rfl) (SE_list SL_nil) (fun _ _ _ => rfl))
  (SB_cons (SS_forGen H.src (by decide) H.mgen rfl (by decide) rfl rfl (SL_cons (SE_name 0 "addr" .local _ rfl (.inl rfl) (by decide) (by decide)) SL_nil) (fun g gs => (B_strip_loop : SB (C.keepGen g gs) _ _ _ _)) SB_nil)
  (SB_cons (SS_if (ST_cmp op_lt (SE_name 1 "start" .local _ rfl (.inl rfl) (by decide) (by decide)) (SE_callB "len" H.mlen rfl (by decide) (by decide) (by rfl) bui_lenS (SL_cons (SE_name 0 "addr" .local _ rfl (.inl rfl) (by decide) (by decide)) SL_nil))) (SB_cons (SS_expr (SE_methL meth_append (SE_name 3 "result" .local _ rfl (.inl rfl) (by decide) (by decide)) (SL_cons (SE_sliceS (SE_name 0 "addr" .local _ rfl (.inl rfl) (by decide) (by decide)) (SP_some (SE_name 1 "start" .local _ rfl (.inl rfl) (by decide) (by decide))) SP_none) SL_nil)))
  SB_nil) SB_nil)
  (SB_cons (SS_ret (SE_methS meth_joinL (SE_str _ [] _ _ (by decide)) (SL_cons (SE_name 3 "result" .local _ rfl (.inl rfl) (by decide) (by decide)) SL_nil)))
  SB_nil)))))))
theorem T_strip {C : Cx} (H : TxtDefs C) : Fun C 16 28 F_strip := Fn.run H.strip (B_strip H)
theorem B_check_loop {C : Cx} : SB C 16 nm_check body_check X_check_loop :=
  (SB_cons (SS_if (ST_cmp op_eq (SE_name 3 "ch" .local _ rfl (.inl rfl) (by decide) (by decide)) (SE_str _ [40] _ _ (by decide))) (SB_cons (SS_aug 1 rfl (by decide) op_iadd (SE_int 1 _ _))
  SB_nil) (SB_cons (SS_if (ST_cmp op_eq (SE_name 3 "ch" .local _ rfl (.inl rfl) (by decide) (by decide)) (SE_str _ [41] _ _ (by decide))) (SB_cons (SS_aug 1 rfl (by decide) op_isub (SE_int 1 _ _))
  (SB_cons (SS_if (ST_cmp op_lt (SE_name 1 "opens" .local _ rfl (.inl rfl) (by decide) (by decide)) (SE_int 0 _ _)) (SB_cons (SS_ret (SE_bool false _ _))
  SB_nil) SB_nil)
  SB_nil)) SB_nil)
  SB_nil))
  SB_nil)
theorem B_check {C : Cx} (H : TxtDefs C) : SB C 16 nm_check (bodyAt 3) X_check :=
  (SB_cons (SS_assign 0 .local rfl (.inl rfl) (SE_call 28 H.mstrip rfl (by decide) H.strip.isFn (T_strip H).up (SL_cons (SE_name 0 "addr" .local _ rfl (.inl rfl) (by decide) (by decide)) SL_nil)) (fun _ _ _ => rfl))
  (SB_cons (SS_assign 1 .local rfl (.inl rfl) (SE_int 0 _ _) (fun _ _ _ => rfl))
  (SB_cons (SS_forGen H.src (by decide) H.mgen rfl (by decide) rfl rfl (SL_cons (SE_name 0 "addr" .local _ rfl (.inl rfl) (by decide) (by decide)) SL_nil) (fun g gs => (B_check_loop : SB (C.keepGen g gs) _ _ _ _)) SB_nil)
  (SB_cons (SS_ret (SE_cmp op_eq (SE_name 1 "opens" .local _ rfl (.inl rfl) (by decide) (by decide)) (SE_int 0 _ _)))
  SB_nil))))
theorem T_check {C : Cx} (H : TxtDefs C) : Fun C 17 35 F_check := Fn.run H.check (B_check H)
end Mine
end

section
set_option maxHeartbeats 1000000
namespace Mine

/-! the plain law of the check -/
theorem escFin_append : ∀ (u v : List Nat) (e : Bool), escFin e u = false → escFin e (u ++ v) = escFin false v
  | [], v, e, h => by
    have h : e = false := h
    subst h; rfl
  | c :: u, v, true, h => escFin_append u v false h
  | c :: u, v, false, h => by
    have h : (if c = 92 then escFin true u else escFin false u) = false := h
    show (if c = 92 then escFin true (u ++ v) else escFin false (u ++ v)) = _
    by_cases hc : c = 92
    · rw [if_pos hc] at h ⊢; exact escFin_append u v true h
    · rw [if_neg hc] at h ⊢; exact escFin_append u v false h
theorem escI_append : ∀ (u v : List Nat) (i : Nat) (e : Bool), escFin e u = false → escI i e (u ++ v) = escI i e u ++ escI (i + u.length) false v
  | [], v, i, e, h => by
    have h : e = false := h
    subst h; rfl
  | c :: u, v, i, true, h => by
    show (i, [92, c]) :: escI (i + 1) false (u ++ v) = (i, [92, c]) :: escI (i + 1) false u ++ escI (i + (u.length + 1)) false v
    rw [escI_append u v (i + 1) false h, Nat.add_assoc i 1, Nat.add_comm 1 u.length]; rfl
  | c :: u, v, i, false, h => by
    have h : (if c = 92 then escFin true u else escFin false u) = false := h
    show (if c = 92 then escI (i + 1) true (u ++ v) else (i, [c]) :: escI (i + 1) false (u ++ v)) = (if c = 92 then escI (i + 1) true u else (i, [c]) :: escI (i + 1) false u) ++ escI (i + (u.length + 1)) false v
    by_cases hc : c = 92
    · rw [if_pos hc] at h
      rw [if_pos hc, if_pos hc, escI_append u v (i + 1) true h, Nat.add_assoc i 1, Nat.add_comm 1 u.length]
    · rw [if_neg hc] at h
      rw [if_neg hc, if_neg hc, escI_append u v (i + 1) false h, Nat.add_assoc i 1, Nat.add_comm 1 u.length]; rfl

/-- a dress without what stands in quotes -/
noncomputable def strT (t : List Nat) : List Nat := if t = [34, 40, 34] then [] else if t = [92, 92, 34, 41, 92, 34, 34] then [92, 92] else t
noncomputable def stripX (W : Val) : List At → List Nat
  | [] => []
  | .ch c :: r => c :: stripX W r
  | .dr k :: r => strT (W.dt k) ++ stripX W r

theorem HT.put_put : ∀ {t : HT} {n i : Nat} {x y : List MV}, t.Full n → i ≤ n → HT.put y (HT.put x t i) i = HT.put y t i
  | .leaf, n, i, x, y, h, hi => by
    have h : n = 0 := h
    have : i = 0 := by omega
    subst this; rfl
  | .node z l r, n, i, x, y, ⟨m, h1, h2, h3⟩, hi => by
    rcases HT.cases3 i with rfl | ⟨k, rfl⟩ | ⟨k, rfl⟩
    · rfl
    · rw [HT.put_odd, HT.put_odd, HT.put_odd, HT.put_put h2 (by omega)]
    · rw [HT.put_even, HT.put_even, HT.put_even, HT.put_put h3 (by omega)]
theorem HOk.set_push {h : Hp} (k : HOk h) {x y : List MV} : hset (hpush h x) (hlen h) y = hpush h y := by
  show (⟨h.n + 1, HT.put y (HT.put x h.t h.n) h.n⟩ : Hp) = ⟨h.n + 1, HT.put y h.t h.n⟩
  rw [HT.put_put k (Nat.le_refl _)]

/-! one turn of the first loop -/
noncomputable abbrev lvS (L : List At) (st : Nat) (op : MV) (r : Nat) (c4 c5 : Option MV) : LV := [some (.str L), some (.int (st : Nat)), some op, some (.ref r), c4, c5, none, none]
noncomputable abbrev GoS (items : List (Nat × List Nat)) : XF := xGen 4 5 X_strip_loop xNil items

theorem goS_plain {L : List At} {st r p : Nat} {op : MV} {c4 c5 : Option MV} {σ : Hp} {q : List Nat} {items : List (Nat × List Nat)} (hq : (q == [34]) = false) :
    GoS ((p, q) :: items) (lvS L st op r c4 c5) σ = GoS items (lvS L st op r (some (.int (p : Nat))) (some (.str (q.map .ch)))) σ := by
  have h : X_strip_loop (lvS L st op r (some (.int (p : Nat))) (some (.str (q.map .ch)))) σ = some (.next, lvS L st op r (some (.int (p : Nat))) (some (.str (q.map .ch))), σ) := by
    simp [X_strip_loop, xSeq, xIf, tOf, eBin, eVar, aEq, aEqF, MV.un, chs_map, chs, hq, xNil]
  show (match X_strip_loop (lvS L st op r (some (.int (p : Nat))) (some (.str (q.map .ch)))) σ with
    | some (.next, lv', σ') => GoS items lv' σ'
    | r => r) = _
  rw [h]
theorem goS_open {L : List At} {st r p : Nat} {c4 c5 : Option MV} {σ : Hp} {items : List (Nat × List Nat)} :
    GoS ((p, [34]) :: items) (lvS L st .none r c4 c5) σ = GoS items (lvS L st (.int (p : Nat)) r (some (.int (p : Nat))) (some (.str [.ch 34]))) σ := rfl
theorem goS_close {l : List Nat} {st o p : Nat} {c4 c5 : Option MV} {σ : Hp} (hok : HOk σ) {xs : List MV} {items : List (Nat × List Nat)} (h1 : st < o) (h2 : o ≤ l.length) (h3 : l.length ≤ 1000) (h4 : xs.length ≤ 1000) :
    GoS ((p, [34]) :: items) (lvS (l.map .ch) st (.int (o : Nat)) (hlen σ) c4 c5) (hpush σ xs) =
      GoS items (lvS (l.map .ch) (p + 1) .none (hlen σ) (some (.int (p : Nat))) (some (.str [.ch 34]))) (hpush σ (xs ++ [.str (((l.drop st).take (o - st)).map .ch)])) := by
  have hb : ((st : Int) == (o : Int)) = false := by rw [beq_eq_false_iff_ne]; omega
  have hs : sliceS l (some (st : Int)) (some (o : Int)) = some ((l.drop st).take (o - st)) := by
    show (if 0 ≤ (st : Int) ∧ (st : Int) ≤ o ∧ (o : Int) ≤ l.length then some ((l.drop (st : Int).toNat).take ((o : Int) - st).toNat) else none) = _
    rw [if_pos ⟨by omega, by omega, by omega⟩]
    have e1 : (st : Int).toNat = st := by omega
    have e2 : ((o : Int) - st).toNat = o - st := by omega
    rw [e1, e2]
  have h : X_strip_loop (lvS (l.map .ch) st (.int (o : Nat)) (hlen σ) (some (.int (p : Nat))) (some (.str [.ch 34]))) (hpush σ xs) =
      some (.next, lvS (l.map .ch) (p + 1) .none (hlen σ) (some (.int (p : Nat))) (some (.str [.ch 34])), hpush σ (xs ++ [.str (((l.drop st).take (o - st)).map .ch)])) := by
    simp [X_strip_loop, xSeq, xIf, tOf, eBin, eVar, aEq, aNe, aEqF, aIs, aIsB, MV.un, chs_map, chs, xNil, xSet, hb, xDrop, eMethL, lCons, lNil, eSliceS, pSome, hs, h3, mAppend, h4, opI, fAug, hok.get_push, hok.set_push]
  show (match X_strip_loop (lvS (l.map .ch) st (.int (o : Nat)) (hlen σ) (some (.int (p : Nat))) (some (.str [.ch 34]))) (hpush σ xs) with
    | some (.next, lv', σ') => GoS items lv' σ'
    | r => r) = _
  rw [h]
theorem goS_close0 {L : List At} {st r p : Nat} {c4 c5 : Option MV} {σ : Hp} {items : List (Nat × List Nat)} :
    GoS ((p, [34]) :: items) (lvS L st (.int (st : Nat)) r c4 c5) σ = GoS items (lvS L (p + 1) .none r (some (.int (p : Nat))) (some (.str [.ch 34]))) σ := by
  have h : X_strip_loop (lvS L st (.int (st : Nat)) r (some (.int (p : Nat))) (some (.str [.ch 34]))) σ = some (.next, lvS L (p + 1) .none r (some (.int (p : Nat))) (some (.str [.ch 34])), σ) := by
    simp [X_strip_loop, xSeq, xIf, tOf, eBin, eVar, aEq, aNe, aEqF, aIs, aIsB, MV.un, chs, xNil, xSet, opI, fAug]
  show (match X_strip_loop (lvS L st (.int (st : Nat)) r (some (.int (p : Nat))) (some (.str [.ch 34]))) σ with
    | some (.next, lv', σ') => GoS items lv' σ'
    | r => r) = _
  rw [h]
end Mine
end

section
set_option maxHeartbeats 1000000
namespace Mine

noncomputable abbrev segsMV (ss : List (List Nat)) : List MV := ss.map fun t => .str (t.map .ch)
noncomputable def StripEnd (l : List Nat) (σ : Hp) (want : List Nat) (res : Option (Fl × LV × Hp)) : Prop :=
  ∃ st op c4 c5 ss, res = some (.next, lvS (l.map .ch) st op (hlen σ) c4 c5, hpush σ (segsMV ss)) ∧ st ≤ l.length ∧ ss.flatten ++ l.drop st = want ∧ ss.length ≤ 1000

theorem okTail_cons {c : Nat} {r : List At} (h : okTail (.ch c :: r) = true) : (c = 40 ∨ c = 41) ∧ okTail r = true := by
  have h : ((c == 40 || c == 41) && okTail r) = true := h
  simpa using h
theorem par_ne {c : Nat} (h : c = 40 ∨ c = 41) : c ≠ 92 ∧ ([c] == [34]) = false := by
  rcases h with rfl | rfl <;> exact ⟨by decide, by decide⟩
theorem escI_par {c i : Nat} {v : List Nat} (h : c ≠ 92) : escI i false (c :: v) = (i, [c]) :: escI (i + 1) false v := by
  show (if c = 92 then _ else _) = _
  rw [if_neg h]

theorem strip_tail {W : Val} {L : List At} {st r : Nat} {op : MV} {σ : Hp} : ∀ (x : List At) (i : Nat) (c4 c5 : Option MV), okTail x = true →
    ∃ c4' c5', GoS (escI i false (flat W x)) (lvS L st op r c4 c5) σ = some (.next, lvS L st op r c4' c5', σ)
  | [], i, c4, c5, _ => ⟨c4, c5, rfl⟩
  | .dr k :: x, i, c4, c5, h => by cases h
  | .ch c :: x, i, c4, c5, h => by
    obtain ⟨hc, h⟩ := okTail_cons h
    obtain ⟨c4', c5', e⟩ := strip_tail (W := W) (L := L) (st := st) (r := r) (op := op) (σ := σ) x (i + 1) (some (.int (i : Nat))) (some (.str ([c].map .ch))) h
    refine ⟨c4', c5', ?_⟩
    show GoS (escI i false (c :: flat W x)) _ _ = _
    rw [escI_par (par_ne hc).1, goS_plain (par_ne hc).2, e]

theorem flat_tail {W : Val} : ∀ (x : List At), okTail x = true → flat W x = stripX W x
  | [], _ => rfl
  | .dr k :: x, h => by cases h
  | .ch c :: x, h => by
    show c :: flat W x = c :: stripX W x
    rw [flat_tail x (okTail_cons h).2]

theorem take_adv {l t v : List Nat} {i st : Nat} (h : l.drop i = t ++ v) (hs : st ≤ i) : (l.drop st).take (i + t.length - st) = (l.drop st).take (i - st) ++ t := by
  have e : l.drop st = (l.drop st).take (i - st) ++ (t ++ v) := by
    have h1 := (List.take_append_drop (i - st) (l.drop st)).symm
    rw [List.drop_drop, show st + (i - st) = i by omega, h] at h1
    exact h1
  have hlen : i ≤ l.length ∨ l.length < i := Nat.lt_or_ge l.length i |>.symm
  rcases hlen with hlen | hlen
  · have h2 : ((l.drop st).take (i - st)).length = i - st := by
      rw [List.length_take, List.length_drop]; omega
    have h3 : (((l.drop st).take (i - st) ++ t) ++ v).take (i + t.length - st) = (l.drop st).take (i - st) ++ t := by
      rw [List.take_append_of_le_length (by rw [List.length_append, h2]; omega), List.take_of_length_le (by rw [List.length_append, h2]; omega)]
    rw [List.append_assoc, ← e] at h3
    exact h3
  · have h0 : l.drop i = [] := List.drop_eq_nil_of_le (Nat.le_of_lt hlen)
    rw [h0] at h
    have ht : t = [] := (List.append_eq_nil_iff.mp h.symm).1
    subst ht; simp
theorem drop_adv {l t v : List Nat} {i : Nat} (h : l.drop i = t ++ v) : l.drop (i + t.length) = v := by
  rw [← List.drop_drop, h, List.drop_left]
theorem len_adv {l t v : List Nat} {i : Nat} (h : l.drop i = t ++ v) (hi : i ≤ l.length) : i + t.length ≤ l.length := by
  have := congrArg List.length h
  rw [List.length_drop, List.length_append] at this
  omega

theorem okTxt_ch {c : Nat} {r : List At} (h : okTxt (.ch c :: r) = true) : (c = 34 ∧ okTail r = true) ∨ ((c = 40 ∨ c = 41) ∧ okTxt r = true) := by
  have h : (if (c == 34) = true then okTail r else (c == 40 || c == 41) && okTxt r) = true := h
  by_cases hc : c = 34
  · subst hc
    exact .inl ⟨rfl, h⟩
  · rw [if_neg (by simpa using hc)] at h
    exact .inr (by simpa using h)

theorem strip_go {W : Val} (hT : ∀ k, W.dt k ∈ texts) {l : List Nat} (hl : l.length ≤ 1000) {σ : Hp} (hok : HOk σ) : ∀ (x : List At) (i st : Nat) (ss : List (List Nat)) (c4 c5 : Option MV), okTxt x = true → l.drop i = flat W x → st ≤ i → i ≤ l.length → ss.length + x.length ≤ 1000 →
    StripEnd l σ (ss.flatten ++ ((l.drop st).take (i - st) ++ stripX W x)) (GoS (escI i false (flat W x)) (lvS (l.map .ch) st .none (hlen σ) c4 c5) (hpush σ (segsMV ss)))
  | [], i, st, ss, c4, c5, _, hd, hs, hi, hn => by
    refine ⟨st, .none, c4, c5, ss, rfl, Nat.le_trans hs hi, ?_, by simp at hn; exact hn⟩
    have hi' : l.length ≤ i := List.drop_eq_nil_iff.mp hd
    show _ = ss.flatten ++ ((l.drop st).take (i - st) ++ [])
    rw [List.append_nil, List.take_of_length_le]
    rw [List.length_drop]; omega
  | .ch c :: x, i, st, ss, c4, c5, h, hd, hs, hi, hn => by
    have hd' : l.drop i = [c] ++ flat W x := hd
    rcases okTxt_ch h with ⟨rfl, h⟩ | ⟨hc, h⟩
    · obtain ⟨c4', c5', e⟩ := strip_tail (W := W) (L := l.map .ch) (st := st) (r := (hlen σ)) (op := .int (i : Nat)) (σ := hpush σ (segsMV ss)) x (i + 1) (some (.int (i : Nat))) (some (.str [.ch 34])) h
      show StripEnd l σ _ (GoS (escI i false (34 :: flat W x)) _ _)
      rw [escI_par (by decide), goS_open, e]
      refine ⟨st, _, c4', c5', ss, rfl, Nat.le_trans hs hi, ?_, by simp at hn; omega⟩
      congr 1
      have e2 : stripX W (.ch 34 :: x) = l.drop i := by
        rw [hd]
        show 34 :: stripX W x = 34 :: flat W x
        rw [flat_tail x h]
      rw [e2]
      have h1 := (List.take_append_drop (i - st) (l.drop st))
      rw [List.drop_drop, show st + (i - st) = i by omega] at h1
      exact h1.symm
    · have key := strip_go hT hl hok x (i + 1) st ss (some (.int (i : Nat))) (some (.str ([c].map .ch))) h (drop_adv hd') (Nat.le_succ_of_le hs) (len_adv hd' hi) (by simp at hn; omega)
      show StripEnd l σ _ (GoS (escI i false (c :: flat W x)) _ _)
      rw [escI_par (par_ne hc).1, goS_plain (par_ne hc).2]
      have e3 := take_adv hd' hs
      have e3 : (l.drop st).take (i + 1 - st) = (l.drop st).take (i - st) ++ [c] := e3
      rw [e3, List.append_assoc] at key
      exact key
  | .dr k :: x, i, st, ss, c4, c5, h, hd, hs, hi, hn => by
    have h : okTxt x = true := h
    have hd : l.drop i = W.dt k ++ flat W x := hd
    show StripEnd l σ (ss.flatten ++ ((l.drop st).take (i - st) ++ (strT (W.dt k) ++ stripX W x))) (GoS (escI i false (W.dt k ++ flat W x)) _ _)
    have hk := hT k
    generalize W.dt k = t at hd hk ⊢
    have hn' : ss.length + 1 + x.length ≤ 1000 := by simp at hn; omega
    have esc2 : ∀ c, t = [92, c] → (strT t = t) → StripEnd l σ (ss.flatten ++ ((l.drop st).take (i - st) ++ (strT t ++ stripX W x))) (GoS (escI i false (t ++ flat W x)) (lvS (l.map .ch) st .none (hlen σ) c4 c5) (hpush σ (segsMV ss))) := fun c e1 e2 => by
      subst e1
      have key := strip_go hT hl hok x (i + 2) st ss (some (.int ((i + 1 : Nat) : Int))) (some (.str ([92, c].map .ch))) h (drop_adv hd) (by omega) (len_adv hd hi) (by omega)
      have e3 : (l.drop st).take (i + 2 - st) = (l.drop st).take (i - st) ++ [92, c] := take_adv hd hs
      rw [e3, List.append_assoc] at key
      rw [e2, escI_append _ _ _ _ rfl]
      show StripEnd l σ _ (GoS ((i + 1, [92, c]) :: escI (i + 2) false (flat W x)) _ _)
      rw [goS_plain rfl]
      exact key
    simp only [texts, List.mem_cons, List.not_mem_nil, or_false] at hk
    rcases hk with e | e | e | e | e | e | e
    · subst e
      have key := strip_go hT hl hok x i st ss c4 c5 h hd hs hi (by omega)
      exact key
    · exact esc2 41 e (by rw [e]; decide)
    · exact esc2 40 e (by rw [e]; decide)
    · subst e
      rw [escI_append _ _ _ _ rfl]
      show StripEnd l σ _ (GoS ((i, [34]) :: (i + 1, [40]) :: (i + 2, [34]) :: escI (i + 3) false (flat W x)) _ _)
      rw [goS_open, goS_plain rfl]
      have hlen : i + 3 ≤ l.length := len_adv hd hi
      by_cases hst : st = i
      · subst hst
        rw [goS_close0]
        have key := strip_go hT hl hok x (st + 3) (st + 3) ss (some (.int ((st + 2 : Nat) : Int))) (some (.str [.ch 34])) h (drop_adv hd) (Nat.le_refl _) hlen (by omega)
        have e4 : (l.drop st).take (st - st) ++ (strT [34, 40, 34] ++ stripX W x) = (l.drop (st + 3)).take (st + 3 - (st + 3)) ++ stripX W x := by
          rw [Nat.sub_self, Nat.sub_self, List.take_zero, List.take_zero]; rfl
        rw [e4]
        exact key
      · rw [goS_close hok (by omega) hi hl (by simp; omega)]
        have key := strip_go hT hl hok x (i + 3) (i + 3) (ss ++ [(l.drop st).take (i - st)]) (some (.int ((i + 2 : Nat) : Int))) (some (.str [.ch 34])) h (drop_adv hd) (Nat.le_refl _) hlen (by simp; omega)
        rw [Nat.sub_self, List.take_zero, List.nil_append, List.flatten_append, List.append_assoc] at key
        have e5 : [(l.drop st).take (i - st)].flatten ++ stripX W x = (l.drop st).take (i - st) ++ (strT [34, 40, 34] ++ stripX W x) := by simp [strT]
        rw [e5] at key
        have e6 : segsMV (ss ++ [(l.drop st).take (i - st)]) = segsMV ss ++ [.str (((l.drop st).take (i - st)).map .ch)] := by simp
        rw [e6] at key
        exact key
    · exact esc2 92 e (by rw [e]; decide)
    · exact esc2 34 e (by rw [e]; decide)
    · subst e
      rw [escI_append _ _ _ _ rfl]
      show StripEnd l σ _ (GoS ((i + 1, [92, 92]) :: (i + 2, [34]) :: (i + 3, [41]) :: (i + 5, [92, 34]) :: (i + 6, [34]) :: escI (i + 7) false (flat W x)) _ _)
      rw [goS_plain rfl, goS_open, goS_plain rfl, goS_plain rfl]
      have hlen : i + 7 ≤ l.length := len_adv hd hi
      rw [goS_close hok (by omega) (by omega) hl (by simp; omega)]
      have hd2 : l.drop i = [92, 92] ++ ([34, 41, 92, 34, 34] ++ flat W x) := hd
      have e3 : (l.drop st).take (i + 2 - st) = (l.drop st).take (i - st) ++ [92, 92] := take_adv hd2 hs
      have key := strip_go hT hl hok x (i + 7) (i + 7) (ss ++ [(l.drop st).take (i + 2 - st)]) (some (.int ((i + 6 : Nat) : Int))) (some (.str [.ch 34])) h (drop_adv hd) (Nat.le_refl _) hlen (by simp; omega)
      rw [Nat.sub_self, List.take_zero, List.nil_append, List.flatten_append, List.append_assoc] at key
      have e5 : [(l.drop st).take (i + 2 - st)].flatten ++ stripX W x = (l.drop st).take (i - st) ++ (strT [92, 92, 34, 41, 92, 34, 34] ++ stripX W x) := by rw [e3]; simp [strT]
      rw [e5] at key
      have e6 : segsMV (ss ++ [(l.drop st).take (i + 2 - st)]) = segsMV ss ++ [.str (((l.drop st).take (i + 2 - st)).map .ch)] := by simp
      rw [e6] at key
      exact key
end Mine
end

section
set_option maxHeartbeats 1000000
namespace Mine

theorem texts_len {t : List Nat} (h : t ∈ texts) : t.length ≤ 10 ∧ (strT t).length ≤ 10 ∧ escFin false t = false ∧ escFin false (strT t) = false ∧ (34 ∉ t → strT t = t) := by
  simp only [texts, List.mem_cons, List.not_mem_nil, or_false] at h
  rcases h with rfl | rfl | rfl | rfl | rfl | rfl | rfl <;> decide
theorem okTxt_chars : ∀ {x : List At}, okTxt x = true → ∀ c, At.ch c ∈ x → c = 34 ∨ c = 40 ∨ c = 41
  | [], _, c, h => by cases h
  | .dr k :: x, ho, c, h => by
    rcases List.mem_cons.mp h with e | h
    · cases e
    · exact okTxt_chars (show okTxt x = true from ho) c h
  | .ch a :: x, ho, c, h => by
    have tail : ∀ {x : List At}, okTail x = true → ∀ c, At.ch c ∈ x → c = 34 ∨ c = 40 ∨ c = 41 := by
      intro x
      induction x with
      | nil => intro _ c h; cases h
      | cons b x ih =>
        intro ho c h
        cases b with
        | dr k => cases ho
        | ch b =>
          obtain ⟨hb, ho⟩ := okTail_cons ho
          rcases List.mem_cons.mp h with e | h
          · cases e; exact .inr hb
          · exact ih ho c h
    rcases okTxt_ch ho with ⟨rfl, ho⟩ | ⟨hc, ho⟩
    · rcases List.mem_cons.mp h with e | h
      · cases e; exact .inl rfl
      · exact tail ho c h
    · rcases List.mem_cons.mp h with e | h
      · cases e; exact .inr hc
      · exact okTxt_chars ho c h

section
variable {W : Val} (hT : ∀ k, W.dt k ∈ texts)
include hT
theorem strip_len : ∀ x : List At, (stripX W x).length ≤ 10 * x.length
  | [] => Nat.le_refl _
  | .ch c :: x => by
    have := strip_len x
    show (stripX W x).length + 1 ≤ 10 * (x.length + 1)
    omega
  | .dr k :: x => by
    have := strip_len x
    have := (texts_len (hT k)).2.1
    show (strT (W.dt k) ++ stripX W x).length ≤ 10 * (x.length + 1)
    rw [List.length_append]; omega
theorem flat_fin : ∀ x : List At, (∀ c, At.ch c ∈ x → c = 34 ∨ c = 40 ∨ c = 41) → escFin false (flat W x) = false
  | [], _ => rfl
  | .ch c :: x, h => by
    have hc : c ≠ 92 := by
      rcases h c List.mem_cons_self with rfl | rfl | rfl <;> decide
    show (if c = 92 then _ else escFin false (flat W x)) = _
    rw [if_neg hc]
    exact flat_fin x fun c hm => h c (List.mem_cons_of_mem _ hm)
  | .dr k :: x, h => by
    show escFin false (W.dt k ++ flat W x) = _
    rw [escFin_append _ _ _ (texts_len (hT k)).2.2.1]
    exact flat_fin x fun c hm => h c (List.mem_cons_of_mem _ hm)
theorem strip_fin : ∀ x : List At, (∀ c, At.ch c ∈ x → c = 34 ∨ c = 40 ∨ c = 41) → escFin false (stripX W x) = false
  | [], _ => rfl
  | .ch c :: x, h => by
    have hc : c ≠ 92 := by
      rcases h c List.mem_cons_self with rfl | rfl | rfl <;> decide
    show (if c = 92 then _ else escFin false (stripX W x)) = _
    rw [if_neg hc]
    exact strip_fin x fun c hm => h c (List.mem_cons_of_mem _ hm)
  | .dr k :: x, h => by
    show escFin false (strT (W.dt k) ++ stripX W x) = _
    rw [escFin_append _ _ _ (texts_len (hT k)).2.2.2.1]
    exact strip_fin x fun c hm => h c (List.mem_cons_of_mem _ hm)
theorem strip_none : ∀ x : List At, 34 ∉ flat W x → stripX W x = flat W x
  | [], _ => rfl
  | .ch c :: x, h => by
    show c :: stripX W x = c :: flat W x
    rw [strip_none x fun q => h (List.mem_cons_of_mem _ q)]
  | .dr k :: x, h => by
    have h : 34 ∉ W.dt k ++ flat W x := h
    show strT (W.dt k) ++ stripX W x = W.dt k ++ flat W x
    rw [strip_none x fun q => h (List.mem_append_right _ q), (texts_len (hT k)).2.2.2.2 fun q => h (List.mem_append_left _ q)]
end

theorem xSeq_next {f g : XF} {lv lv' : LV} {σ σ' : Hp} (h : f lv σ = some (.next, lv', σ')) : xSeq f g lv σ = g lv' σ' := by
  unfold xSeq; rw [h]
theorem xSeq_ret {f g : XF} {lv lv' : LV} {σ σ' : Hp} {v : MV} (h : f lv σ = some (.ret v, lv', σ')) : xSeq f g lv σ = some (.ret v, lv', σ') := by
  unfold xSeq; rw [h]
theorem catC_segs : ∀ ss : List (List Nat), catC (segsMV ss) = some ss.flatten
  | [] => rfl
  | t :: ss => by
    show (match chs (t.map .ch), catC (segsMV ss) with | some l, some m => some (l ++ m) | _, _ => none) = _
    rw [chs_map, catC_segs ss]; rfl

/-- the old lists stand as they stood -/
noncomputable def HExt (σ σ' : Hp) : Prop := HOk σ' ∧ ∀ i, i < hlen σ → hget σ' i = hget σ i
theorem HExt.refl {σ : Hp} (h : HOk σ) : HExt σ σ := ⟨h, fun _ _ => rfl⟩
theorem HExt.push {σ : Hp} (h : HOk σ) (xs : List MV) : HExt σ (hpush σ xs) := ⟨h.push, fun _ hi => h.get_push_lt hi⟩

theorem F_strip_eq {W : Val} (hT : ∀ k, W.dt k ∈ texts) {x : List At} (hx : okTxt x = true) (hx40 : x.length ≤ 40) {σ : Hp} (hok : HOk σ) :
    ∃ σ', F_strip [.str ((flat W x).map .ch)] σ = some (.str ((stripX W x).map .ch), σ') ∧ HExt σ σ' := by
  have hfl : (flat W x).length ≤ 1000 := Nat.le_trans (flat_len (fun k => (texts_len (hT k)).1) x) (by omega)
  have hsl : (stripX W x).length ≤ 1000 := Nat.le_trans (strip_len hT x) (by omega)
  have hfin := flat_fin hT x (okTxt_chars hx)
  generalize hl : flat W x = l at hfl hfin
  have body : ∀ σ' lv', HExt σ σ' → X_strip [some (.str (l.map .ch)), none, none, none, none, none, none, none] σ = some (.ret (.str ((stripX W x).map .ch)), lv', σ') → ∃ σ', F_strip [.str (l.map .ch)] σ = some (.str ((stripX W x).map .ch), σ') ∧ HExt σ σ' := fun σ' lv' hex e => by
    refine ⟨σ', ?_, hex⟩
    show (match X_strip [some (.str (l.map .ch)), none, none, none, none, none, none, none] σ with
      | some (.ret v, _, σ') => some (v, σ')
      | some (.next, _, σ') => some (.none, σ')
      | none => none) = _
    rw [e]
  by_cases hq : 34 ∈ l
  · have go := strip_go hT hfl hok x 0 0 [] none none hx (by rw [List.drop_zero]; exact hl.symm) (Nat.le_refl _) (Nat.zero_le _) (by simp; omega)
    obtain ⟨st, op, c4, c5, ss, e, h1, h2, h3⟩ := go
    have h2 : ss.flatten ++ l.drop st = stripX W x := h2
    have e : GoS (escI 0 false (flat W x)) (lvS (l.map .ch) 0 .none (hlen σ) none none) (hpush σ []) = some (.next, lvS (l.map .ch) st op (hlen σ) c4 c5, hpush σ (segsMV ss)) := e
    rw [hl] at e
    have t1 : xIf (tOf (eBin aNotIn (fun _ σ => some (.str (List.map At.ch [34]), σ)) (eVar 0))) (xSeq (xRet (eVar 0)) xNil) xNil [some (.str (l.map .ch)), none, none, none, none, none, none, none] σ = some (.next, [some (.str (l.map .ch)), none, none, none, none, none, none, none], σ) := by
      simp [xIf, tOf, eBin, eVar, aNotIn, chs_map, hq, xNil]
    have t2 : xForG (lCons (eVar 0) lNil) 4 5 X_strip_loop xNil (lvS (l.map .ch) 0 .none (hlen σ) none none) (hpush σ []) = some (.next, lvS (l.map .ch) st op (hlen σ) c4 c5, hpush σ (segsMV ss)) := by
      simp only [xForG, lCons, eVar, lNil, List.getElem?_cons_zero, chs_map, hfin, Bool.false_eq_true, if_false]
      exact e
    by_cases hst : st < l.length
    · refine body (hpush σ (segsMV (ss ++ [l.drop st]))) (lvS (l.map .ch) st op (hlen σ) c4 c5) (HExt.push hok _) ?_
      unfold X_strip
      rw [xSeq_next t1]
      refine (xSeq_next (lv' := [some (.str (l.map .ch)), some (.int 0), none, none, none, none, none, none]) (σ' := σ) rfl).trans ?_
      refine (xSeq_next (lv' := [some (.str (l.map .ch)), some (.int 0), some .none, none, none, none, none, none]) (σ' := σ) rfl).trans ?_
      refine (xSeq_next (lv' := lvS (l.map .ch) 0 .none (hlen σ) none none) (σ' := hpush σ []) rfl).trans ?_
      rw [xSeq_next t2]
      have hs : sliceS l (some (st : Int)) none = some (l.drop st) := by
        show (if 0 ≤ (st : Int) ∧ (st : Int) ≤ l.length then some (l.drop (st : Int).toNat) else none) = _
        rw [if_pos ⟨by omega, by omega⟩, Int.toNat_natCast]
      have hst' : (st : Int) < (l.length : Int) := by omega
      refine (xSeq_next (lv' := lvS (l.map .ch) st op (hlen σ) c4 c5) (σ' := hpush σ (segsMV ss ++ [.str ((l.drop st).map .ch)])) ?_).trans ?_
      · simp [xIf, tOf, eBin, eVar, aLt, MV.un, eCall, lCons, lNil, bLenS, chs_map, hfl, hst', xSeq, xDrop, eMethL, eSliceS, pSome, pNone, hs, mAppend, h3, xNil, hok.get_push, hok.set_push]
      · have e7 : segsMV ss ++ [.str ((l.drop st).map .ch)] = segsMV (ss ++ [l.drop st]) := by simp
        rw [e7]
        have e8 : (ss ++ [l.drop st]).flatten = stripX W x := by rw [← h2]; simp
        refine xSeq_ret ?_
        have e9 := catC_segs (ss ++ [l.drop st])
        rw [e8] at e9
        simp only [xRet, eMethS, List.map_nil, lCons, lNil, eVar, List.getElem?_cons_succ, List.getElem?_cons_zero, mJoinL, hok.get_push, e9, hsl, if_true]
    · refine body (hpush σ (segsMV ss)) (lvS (l.map .ch) st op (hlen σ) c4 c5) (HExt.push hok _) ?_
      unfold X_strip
      rw [xSeq_next t1]
      refine (xSeq_next (lv' := [some (.str (l.map .ch)), some (.int 0), none, none, none, none, none, none]) (σ' := σ) rfl).trans ?_
      refine (xSeq_next (lv' := [some (.str (l.map .ch)), some (.int 0), some .none, none, none, none, none, none]) (σ' := σ) rfl).trans ?_
      refine (xSeq_next (lv' := lvS (l.map .ch) 0 .none (hlen σ) none none) (σ' := hpush σ []) rfl).trans ?_
      rw [xSeq_next t2]
      have hst' : ¬ (st : Int) < (l.length : Int) := by omega
      refine (xSeq_next (lv' := lvS (l.map .ch) st op (hlen σ) c4 c5) (σ' := hpush σ (segsMV ss)) ?_).trans ?_
      · simp [xIf, tOf, eBin, eVar, aLt, MV.un, eCall, lCons, lNil, bLenS, chs_map, hfl, hst', xNil]
      · have e8 : ss.flatten = stripX W x := by
          rw [← h2, List.drop_eq_nil_of_le (by omega)]; simp
        refine xSeq_ret ?_
        have e9 := catC_segs ss
        rw [e8] at e9
        simp only [xRet, eMethS, List.map_nil, lCons, lNil, eVar, List.getElem?_cons_succ, List.getElem?_cons_zero, mJoinL, hok.get_push, e9, hsl, if_true]
  · refine body σ [some (.str (l.map .ch)), none, none, none, none, none, none, none] (HExt.refl hok) ?_
    have e0 : stripX W x = l := by rw [← hl]; exact strip_none hT x (by rw [hl]; exact hq)
    rw [e0]
    unfold X_strip
    refine xSeq_ret ?_
    simp [xIf, tOf, eBin, eVar, aNotIn, chs_map, hq, xSeq, xRet]
end Mine
end

section
set_option maxHeartbeats 1000000
namespace Mine

/-! the second loop -/
noncomputable abbrev lvC (L : List At) (o : Int) (c2 c3 : Option MV) : LV := [some (.str L), some (.int o), c2, c3, none, none]
noncomputable abbrev GoC (items : List (Nat × List Nat)) : XF := xGen 2 3 X_check_loop xNil items
section
variable {L : List At} {o : Int} {p : Nat} {c2 c3 : Option MV} {σ : Hp} {q : List Nat} {items : List (Nat × List Nat)}
theorem goC_plain (h1 : (q == [40]) = false) (h2 : (q == [41]) = false) :
    GoC ((p, q) :: items) (lvC L o c2 c3) σ = GoC items (lvC L o (some (.int (p : Nat))) (some (.str (q.map .ch)))) σ := by
  have h : X_check_loop (lvC L o (some (.int (p : Nat))) (some (.str (q.map .ch)))) σ = some (.next, lvC L o (some (.int (p : Nat))) (some (.str (q.map .ch))), σ) := by
    simp [X_check_loop, xSeq, xIf, tOf, eBin, eVar, aEq, aEqF, MV.un, chs_map, chs, h1, h2, xNil]
  show (match X_check_loop (lvC L o (some (.int (p : Nat))) (some (.str (q.map .ch)))) σ with
    | some (.next, lv', σ') => GoC items lv' σ'
    | r => r) = _
  rw [h]
theorem goC_open : GoC ((p, [40]) :: items) (lvC L o c2 c3) σ = GoC items (lvC L (o + 1) (some (.int (p : Nat))) (some (.str [.ch 40]))) σ := rfl
theorem goC_close (hn : ¬ o - 1 < 0) : GoC ((p, [41]) :: items) (lvC L o c2 c3) σ = GoC items (lvC L (o - 1) (some (.int (p : Nat))) (some (.str [.ch 41]))) σ := by
  have h : X_check_loop (lvC L o (some (.int (p : Nat))) (some (.str [.ch 41]))) σ = some (.next, lvC L (o - 1) (some (.int (p : Nat))) (some (.str [.ch 41])), σ) := by
    simp [X_check_loop, xSeq, xIf, tOf, eBin, eVar, aEq, aEqF, MV.un, chs, xNil, xAug, opI, fSub, aLt, hn]
  show (match X_check_loop (lvC L o (some (.int (p : Nat))) (some (.str [.ch 41]))) σ with
    | some (.next, lv', σ') => GoC items lv' σ'
    | r => r) = _
  rw [h]
theorem goC_neg (hn : o - 1 < 0) : GoC ((p, [41]) :: items) (lvC L o c2 c3) σ = some (.ret (.bool false), lvC L (o - 1) (some (.int (p : Nat))) (some (.str [.ch 41])), σ) := by
  have h : X_check_loop (lvC L o (some (.int (p : Nat))) (some (.str [.ch 41]))) σ = some (.ret (.bool false), lvC L (o - 1) (some (.int (p : Nat))) (some (.str [.ch 41])), σ) := by
    simp [X_check_loop, xSeq, xIf, tOf, eBin, eVar, aEq, aEqF, MV.un, chs, xAug, opI, fSub, aLt, hn, xRet]
  show (match X_check_loop (lvC L o (some (.int (p : Nat))) (some (.str [.ch 41]))) σ with
    | some (.next, lv', σ') => GoC items lv' σ'
    | r => r) = _
  rw [h]
end

noncomputable def CheckEnd (L : List At) (σ : Hp) (b : Bool) (res : Option (Fl × LV × Hp)) : Prop :=
  (∃ o c2 c3, res = some (.next, lvC L o c2 c3, σ) ∧ b = (o == 0)) ∨ (∃ lv', res = some (.ret (.bool false), lv', σ) ∧ b = false)

theorem check_go {W : Val} (hT : ∀ k, W.dt k ∈ texts) {L : List At} {σ : Hp} : ∀ (x : List At) (i : Nat) (o : Int) (c2 c3 : Option MV), (∀ c, At.ch c ∈ x → c = 34 ∨ c = 40 ∨ c = 41) →
    CheckEnd L σ (chkA o x) (GoC (escI i false (stripX W x)) (lvC L o c2 c3) σ)
  | [], i, o, c2, c3, _ => .inl ⟨o, c2, c3, rfl, rfl⟩
  | .ch c :: x, i, o, c2, c3, h => by
    have hx : ∀ c, At.ch c ∈ x → c = 34 ∨ c = 40 ∨ c = 41 := fun c hm => h c (List.mem_cons_of_mem _ hm)
    have hc := h c List.mem_cons_self
    show CheckEnd L σ _ (GoC (escI i false (c :: stripX W x)) _ _)
    rw [escI_par (by rcases hc with rfl | rfl | rfl <;> decide)]
    rcases hc with rfl | rfl | rfl
    · rw [goC_plain (by decide) (by decide)]
      exact check_go hT x (i + 1) o _ _ hx
    · rw [goC_open]
      exact check_go hT x (i + 1) (o + 1) _ _ hx
    · show CheckEnd L σ (if o - 1 < 0 then false else chkA (o - 1) x) _
      by_cases hn : o - 1 < 0
      · rw [if_pos hn, goC_neg hn]
        exact .inr ⟨_, rfl, rfl⟩
      · rw [if_neg hn, goC_close hn]
        exact check_go hT x (i + 1) (o - 1) _ _ hx
  | .dr k :: x, i, o, c2, c3, h => by
    have hx : ∀ c, At.ch c ∈ x → c = 34 ∨ c = 40 ∨ c = 41 := fun c hm => h c (List.mem_cons_of_mem _ hm)
    show CheckEnd L σ (chkA o x) (GoC (escI i false (strT (W.dt k) ++ stripX W x)) _ _)
    rw [escI_append _ _ _ _ (texts_len (hT k)).2.2.2.1]
    have hk := hT k
    simp only [texts, List.mem_cons, List.not_mem_nil, or_false] at hk
    have two : ∀ c, strT (W.dt k) = [92, c] → CheckEnd L σ (chkA o x) (GoC (escI i false (strT (W.dt k)) ++ escI (i + (strT (W.dt k)).length) false (stripX W x)) (lvC L o c2 c3) σ) := fun c e => by
      rw [e]
      show CheckEnd L σ _ (GoC ((i + 1, [92, c]) :: escI (i + 2) false (stripX W x)) _ _)
      rw [goC_plain rfl rfl]
      exact check_go hT x (i + 2) o _ _ hx
    have zero : strT (W.dt k) = [] → CheckEnd L σ (chkA o x) (GoC (escI i false (strT (W.dt k)) ++ escI (i + (strT (W.dt k)).length) false (stripX W x)) (lvC L o c2 c3) σ) := fun e => by
      rw [e]
      exact check_go hT x i o _ _ hx
    rcases hk with e | e | e | e | e | e | e
    · exact zero (by rw [e]; decide)
    · exact two 41 (by rw [e]; decide)
    · exact two 40 (by rw [e]; decide)
    · exact zero (by rw [e]; decide)
    · exact two 92 (by rw [e]; decide)
    · exact two 34 (by rw [e]; decide)
    · exact two 92 (by rw [e]; decide)

theorem F_check_eq {W : Val} (hT : ∀ k, W.dt k ∈ texts) {x : List At} (hx : okTxt x = true) (hx40 : x.length ≤ 40) {σ : Hp} (hok : HOk σ) :
    ∃ σ', F_check [.str ((flat W x).map .ch)] σ = some (.bool (chkA 0 x), σ') ∧ HExt σ σ' := by
  obtain ⟨σ', e, hex⟩ := F_strip_eq hT hx hx40 hok
  refine ⟨σ', ?_, hex⟩
  have hfin := strip_fin hT x (okTxt_chars hx)
  have go := check_go hT (L := (stripX W x).map .ch) (σ := σ') x 0 0 none none (okTxt_chars hx)
  have t0 : xSet 0 (eCall (lCons (eVar 0) lNil) F_strip) [some (.str ((flat W x).map .ch)), none, none, none, none, none] σ = some (.next, [some (.str ((stripX W x).map .ch)), none, none, none, none, none], σ') := by
    simp only [xSet, eCall, lCons, lNil, eVar, List.getElem?_cons_zero, e]
    rfl
  have t2 : xForG (lCons (eVar 0) lNil) 2 3 X_check_loop xNil (lvC ((stripX W x).map .ch) 0 none none) (σ') = GoC (escI 0 false (stripX W x)) (lvC ((stripX W x).map .ch) 0 none none) (σ') := by
    simp only [xForG, lCons, eVar, lNil, List.getElem?_cons_zero, chs_map, hfin, Bool.false_eq_true, if_false]
  have body : ∀ lv', X_check [some (.str ((flat W x).map .ch)), none, none, none, none, none] σ = some (.ret (.bool (chkA 0 x)), lv', σ') → F_check [.str ((flat W x).map .ch)] σ = some (.bool (chkA 0 x), σ') := fun lv' e => by
    show (match X_check [some (.str ((flat W x).map .ch)), none, none, none, none, none] σ with
      | some (.ret v, _, σ') => some (v, σ')
      | some (.next, _, σ') => some (.none, σ')
      | none => none) = _
    rw [e]
  rcases go with ⟨o, c2, c3, g1, g2⟩ | ⟨lv', g1, g2⟩
  · refine body (lvC ((stripX W x).map .ch) o c2 c3) ?_
    unfold X_check
    rw [xSeq_next t0]
    refine (xSeq_next (lv' := lvC ((stripX W x).map .ch) 0 none none) (σ' := σ') rfl).trans ?_
    rw [xSeq_next (t2.trans g1), g2]
    refine xSeq_ret ?_
    simp [xRet, eBin, eVar, aEq, aEqF, MV.un]
  · refine body lv' ?_
    unfold X_check
    rw [xSeq_next t0]
    refine (xSeq_next (lv' := lvC ((stripX W x).map .ch) 0 none none) (σ' := σ') rfl).trans ?_
    rw [g2]
    exact xSeq_ret (t2.trans g1)

/-! lists that are not needed any more -/
theorem Rel.shrink {W : Val} {g : Heap} {os0 : OsState} {φ φ' : Phi} {σ σ' : Hp} {X : List Res} {s s' : Shared} (R : Rel W g os0 φ σ X s) (h : Pre φ φ') (hex : HExt σ σ') (R' : Rel W g os0 φ' σ' X s') : Rel W g os0 ⟨φ.l, φ'.tk, φ'.tp⟩ σ X s' := by
  have hmem : ∀ a, a ∈ φ.l ++ X.map (·.1) → a ∈ φ'.l ++ X.map (·.1) := fun a ha => by
    rcases List.mem_append.mp ha with q | q
    · exact List.mem_append_left _ (h.1.subset q)
    · exact List.mem_append_right _ q
  have vr : ∀ {m : MV} {v v' : Value}, VRel W φ m v → VRel W φ' m v' → VRel W ⟨φ.l, φ'.tk, φ'.tp⟩ m v' := fun {m v v'} r r' => by
    cases m <;> try exact r'
    rename_i i
    obtain ⟨a, e1, rfl⟩ := r
    obtain ⟨a', e2, rfl⟩ := r'
    have e3 := pre_get h e1
    rw [e2] at e3; cases e3
    exact ⟨_, e1, rfl⟩
  have al : ∀ {ms : List MV} {vs vs' : List Value}, All2 (VRel W φ) ms vs → All2 (VRel W φ') ms vs' → All2 (VRel W ⟨φ.l, φ'.tk, φ'.tp⟩) ms vs' := by
    intro ms
    induction ms with
    | nil => intro vs vs' _ h'; cases vs' with
      | nil => trivial
      | cons => exact h'.elim
    | cons m ms ih =>
      intro vs vs' h h'
      cases vs with
      | nil => exact h.elim
      | cons v vs =>
        cases vs' with
        | nil => exact h'.elim
        | cons v' vs' => exact ⟨vr h.1 h'.1, ih h.2 h'.2⟩
  exact {
    keep := R'.keep
    len := R.len
    hok := R.hok
    lists := fun i a items e1 e2 => by
      obtain ⟨o, q1, vs, n, q2, q3⟩ := R.lists i a items e1 e2
      obtain ⟨o', w1, vs', n', w2, w3⟩ := R'.lists i a items (pre_get h e1) (by rw [hex.2 i (R.hok.lt e2)]; exact e2)
      exact ⟨o', w1, vs', n', w2, al q3 w3⟩
    xs := R'.xs
    nd := by
      have nd := R'.nd
      rw [List.nodup_append] at nd ⊢
      exact ⟨(List.IsPrefix.sublist h.1).nodup nd.1, nd.2.1, fun a ha b hb => nd.2.2 a (h.1.subset ha) b hb⟩
    fresh := fun a ha => R'.fresh a (hmem a ha)
    os := R'.os
    bare := R'.bare
    tpos := R'.tpos
    tlt := R'.tlt
    tfun := R'.tfun
    gk := R'.gk }

theorem chk_ok {C : Cx} (H : TxtDefs C) (hT : ∀ k, C.W.dt k ∈ texts) : Fun C 17 35 F_check_parenthesis := by
  intro A φ σ X s ms vs v σ' Q E hA R hr hf hq
  unfold F_check_parenthesis at hf
  split at hf
  · rename_i x
    split at hf
    · rename_i hc
      cases hf
      obtain ⟨h1, h2⟩ := Bool.and_eq_true_iff.mp hc
      obtain ⟨_, rfl, ⟨y, t, rfl, hy⟩⟩ := hr.one
      obtain ⟨σ₁, e, hex⟩ := F_check_eq hT h1 (Nat.le_of_ble_eq_true h2) R.hok
      refine T_check H A φ σ X s [.str ((flat C.W x).map .ch)] _ _ σ₁ Q E hA R ⟨⟨y, t, rfl, by rw [flat_ch]; exact hy⟩, trivial⟩ e fun φ' s' r p R' rr => ?_
      obtain rfl : r = .bool (chkA 0 x) := rr
      exact hq ⟨φ.l, φ'.tk, φ'.tp⟩ s' _ ⟨List.prefix_refl _, p.2⟩ (R.shrink p hex R') rfl
    · cases hf
  · cases hf
end Mine
end

section
set_option maxHeartbeats 1000000
namespace Mine

/-! the call of the law -/
theorem law_call {C : Cx} {par : List (Option Int)} {P : Addr} {ps : Array Value} (H : Ctx C par) (D : Defs C) (L : LamOk C P ps ⟨206, 51, 206, 79⟩) {A : Around} {s : Shared} (hA : OkA A 19) (R : C.R phi0 hnil [TabRes P ps] s)
    {lv' : LV} {σ' : Hp} (hrun : X_law par (initLv nm_law.length [.scr]) hnil = some (.ret (.bool true), lv', σ')) {Q E : Value → Shared → Prop}
    (h : ∀ φ' s', C.R φ' σ' [(P, IsTab)] s' → Q (.bool true) s') : wpAny C.M A (call (.ref 196) [.ref C.W.scr]) Q E s := by
  obtain ⟨fd, D1, hclo, hb2⟩ := D.law.ex
  obtain ⟨o, ho, hd⟩ := D1.obj
  have hpar : (nm_law.take 1).all (fun x => x.2 == .local || x.2 == .cell) = true := by decide
  have hl : nm_law.all (fun x => x.2 != .free) = true := by decide
  refine wpAny_call (codeAny_call_cellsT hA.room (R.keep _ _ ho) hd (C.nolim.keeps R.keep) (D1.code.keeps R.keep) D1.body (hb2 [.ref C.W.scr] rfl) hclo (fun x hx => ?_) (fun s₁ x ht => ?_) D1.co D1.gen D1.kind)
  · rw [binds_take 1 rfl] at hx
    obtain ⟨y, hy, he⟩ := List.mem_map.mp (List.of_mem_zip hx).1
    have h1 := List.all_eq_true.mp hpar y hy
    obtain ⟨i, hi, ei⟩ := List.mem_iff_getElem.mp (List.mem_of_mem_take hy)
    have h2 := lookup_of D1.nd (i := i) (x := y.1) (k := y.2) (by rw [List.getElem?_eq_getElem hi, ei])
    rw [D1.names, ← he, h2]
    simp only [Bool.or_eq_true, beq_iff_eq] at h1
    rcases h1 with h1 | h1
    · exact .inl (by rw [h1])
    · right
      refine ⟨by rw [h1], ?_⟩
      obtain ⟨c, hc⟩ := cidx_mem (i0 := 0) (n := s.heap.objs.size + 1) (nm := nm_law) (i := i) (x := y.1) (by rw [List.getElem?_eq_getElem hi, ei, ← h1])
      obtain ⟨z, q1, q2⟩ := cidx_lookup (acc := []) D1.nd hc
      have q1' : nm_law[i]? = some (z, .cell) := by simpa using q1
      rw [List.getElem?_eq_getElem hi, ei] at q1'
      rw [show y.1 = z from congrArg Prod.fst (Option.some.inj q1'), q2]; rfl
  · have G := cells_good D1.names D1.kind D1.gl D1.bi D1.nd hl R (ms := [.scr]) (vs := [.ref C.W.scr]) ⟨rfl, trivial⟩ x ht D1.cd
    have hO : Own nm_law (cidx nm_law 0 (s.heap.objs.size + 1)) := fun i x hi => by
      obtain ⟨c, hc⟩ := cidx_mem (i0 := 0) (n := s.heap.objs.size + 1) hi
      exact ⟨c, by simpa using hc⟩
    refine B_law H D L _ _ _ [] _ phi0 hnil _ _ lv' σ' _ _ (hA.deeper _) hO G hrun fun φ' s' r p G' r' => ?_
    obtain ⟨v', rfl, rfl⟩ := r'
    exact h φ' s' G'.rel.drops

/-! what the written part of the head says -/
structure FnK (K : Frag) (a : Addr) (i : Nat) (nm : Nm) (gen : Bool) (fd : FuncData) : Prop where
  obj : ∃ o, K.lookup a = some o ∧ o.data = .func fd
  body : fd.body = .stmts (bodyAt i)
  names : fd.scope.names = nm
  kind : fd.scope.kind = .function
  co : fd.scope.isCoroutine = false
  gen : fd.scope.isGenerator = gen
  gl : fd.globals = mainGlobals
  bi : fd.builtins = builtinsNs
  clo : fd.closure = []
  code : ∃ c o vs t, fd.code = .ref c ∧ K.lookup c = some o ∧ o.data = .fields vs ∧ vs[1]? = some (.str fd.qualname t)

section
variable {C : Cx} {K : Frag} {a : Addr} {i k : Nat} {nm : Nm} {fd : FuncData}
theorem FnK.codeRec {gen : Bool} (F : FnK K a i nm gen fd) {h : Heap} (X : K.In h) : h.CodeRec fd.code fd.qualname := by
  obtain ⟨c, o, vs, t, e1, e2, e3, e4⟩ := F.code
  exact ⟨c, o, vs, t, e1, X _ _ e2, e3, e4⟩
theorem FnK.defOk (F : FnK K a i nm false fd) (X : K.In C.g) (hk : k ≤ nm.length) (hn : (nm.map (·.1)).Nodup) (hcd : nm[0]? = some (Str.ofString "script", .cell) → fd.code = .ref C.W.lcd) : DefOk C a fd (bodyAt i) nm k :=
  ⟨let ⟨o, e1, e2⟩ := F.obj; ⟨o, X _ _ e1, e2⟩, F.body, F.names, F.kind, F.co, F.gen, F.gl, F.bi, F.codeRec X, hn, hk, hcd⟩
/-- a def without defaults, as the head lays it -/
noncomputable def FnS (K : Frag) (a : Addr) (i : Nat) (nm : Nm) (k : Nat) : Prop := ∃ fd, FnK K a i nm false fd ∧ ∀ vs, vs.length = k → bindArgs fd ⟨vs, []⟩ = pure ((nm.map (·.1)).zip vs)
theorem FnS.fn (F : FnS K a i nm k) (X : K.In C.g) (hk : k ≤ nm.length := by decide) (hn : (nm.map (·.1)).Nodup := by decide) (hcd : nm[0]? ≠ some (Str.ofString "script", .cell) := by decide) : Fn C a (bodyAt i) nm k :=
  let ⟨fd, G, hb⟩ := F
  ⟨fd, G.defOk X hk hn (fun q => absurd q hcd), G.clo, hb⟩
/-- a def with two defaults and a key -/
noncomputable def FnBS (K : Frag) (a : Addr) (i : Nat) (nm : Nm) : Prop := ∃ fd t0, FnK K a i nm false fd ∧
  ∀ (S : Setting) (x y : Value), peek K S (bindArgs fd ⟨[x, y], []⟩) = some ((nm.map (·.1)).zip [x, y, .int 0 t0, .none, .none]) ∧
    (∀ kv, peek K S (bindArgs fd ⟨[x, y], [(Str.ofString "key", kv)]⟩) = some ((nm.map (·.1)).zip [x, y, .int 0 t0, .none, kv])) ∧
    (∀ lo hi, peek K S (bindArgs fd ⟨[x, y, lo, hi], []⟩) = some ((nm.map (·.1)).zip [x, y, lo, hi, .none])) ∧
    (∀ lo hi kv, peek K S (bindArgs fd ⟨[x, y, lo, hi], [(Str.ofString "key", kv)]⟩) = some ((nm.map (·.1)).zip [x, y, lo, hi, kv]))
theorem FnBS.fn (F : FnBS K a i nm) (X : K.In C.g) (hk : 5 ≤ nm.length := by decide) (hn : (nm.map (·.1)).Nodup := by decide) (hcd : nm[0]? ≠ some (Str.ofString "script", .cell) := by decide) : FnB C a (bodyAt i) nm := by
  obtain ⟨fd, t0, G, hb⟩ := F
  refine ⟨fd, t0, G.defOk X hk hn (fun q => absurd q hcd), fun s hs x y => ?_⟩
  have X' : K.In s.heap := X.keeps hs
  exact ⟨kp_binds X' fun S => (hb S x y).1, fun kv => kp_binds X' fun S => (hb S x y).2.1 kv, fun lo hi => kp_binds X' fun S => (hb S x y).2.2.1 lo hi, fun lo hi kv => kp_binds X' fun S => (hb S x y).2.2.2 lo hi kv⟩
end

noncomputable def isRefB (o : Option (Option Value)) (a : Nat) : Bool := match o with
  | some (some (.ref b)) => b == a
  | _ => false
noncomputable def isNoB (o : Option (Option Value)) : Bool := match o with
  | some none => true
  | _ => false
theorem isRefB_eq {o : Option (Option Value)} {a : Nat} (h : isRefB o a = true) : o = some (some (.ref a)) := by
  unfold isRefB at h
  split at h
  · rw [beq_iff_eq.mp h]
  · cases h
theorem isNoB_eq {o : Option (Option Value)} (h : isNoB o = true) : o = some none := by
  unfold isNoB at h
  split at h
  · rfl
  · cases h

noncomputable def genFn (K : Frag) : Prop := ∃ fd, FnK K 21 1 nmG true fd ∧ ∀ y t, bindArgs fd ⟨[.str y t], []⟩ = pure [(Str.ofString "addr", .str y t)]
structure HeadK (K : Frag) : Prop where
  tabs : noTabs K = true
  cd : codeHdIn K 195 193 = true
  names : (fnAddrs.all fun p => isRefB (nsIn K mainGlobals p.1) p.2) = true
  gens : isRefB (nsIn K mainGlobals (Str.ofString "_iter_escaped_chars")) 21 = true
  strips : isRefB (nsIn K mainGlobals (Str.ofString "_strip_quoted_realnames")) 28 = true
  nones : (noNames.all fun x => isNoB (nsIn K mainGlobals x)) = true
  gen : genFn K
  strip : FnS K 28 2 nm_strip 1
  check : FnS K 35 3 nm_check 1
  law_dress : FnS K 155 22 nm_law_dress 1
  lt : FnS K 78 10 nm_lt 2
  gt : FnS K 85 11 nm_gt 2
  add : FnS K 92 12 nm_add 2
  mul : FnS K 99 13 nm_mul 2
  sub : FnS K 106 14 nm_sub 2
  concat : FnS K 113 15 nm_concat 2
  countOf : FnS K 120 16 nm_countOf 2
  delitem : FnS K 127 17 nm_delitem 2
  getitem : FnS K 134 18 nm_getitem 2
  indexOf : FnS K 141 19 nm_indexOf 2
  setitem : FnS K 148 20 nm_setitem 3
  law_middle : FnS K 191 28 nm_law_middle 1
  bisect_right : FnBS K 53 6 nm_bisect_right
  bisect_left : FnBS K 71 8 nm_bisect_left
  insort_right : FnBS K 44 5 nm_insort_right
  insort_left : FnBS K 62 7 nm_insort_left
  law_signs : FnS K 162 23 nm_law_signs 1
  law_mates : FnS K 169 24 nm_law_mates 1
  law_pairs : FnS K 174 25 nm_law_pairs 2
  law_order : FnS K 179 26 nm_law_order 1
  law_row : FnS K 184 27 nm_law_row 1
  law : ∃ fd, FnK K 196 29 nm_law false fd ∧ fd.code = .ref 195 ∧ ∀ vs, vs.length = 1 → bindArgs fd ⟨vs, []⟩ = pure ((nm_law.map (·.1)).zip vs)

theorem lookup_mem {x : Str} {a : Nat} : ∀ {l : List (Str × Nat)}, l.lookup x = some a → (x, a) ∈ l
  | [], h => by cases h
  | (y, b) :: r, h => by
    rw [List.lookup_cons] at h
    cases e : x == y with
    | true => rw [e] at h; cases h; rw [eq_of_beq e]; exact .head _
    | false => rw [e] at h; exact .tail _ (lookup_mem h)

theorem dressOf_texts (c : Int) : dressOf c ∈ texts := by
  unfold dressOf
  have h0 : 0 ≤ (c.fdiv 2).fmod 7 := by rw [Int.fmod_eq_emod_of_nonneg _ (by decide)]; exact Int.emod_nonneg _ (by decide)
  have h1 : (c.fdiv 2).fmod 7 < 7 := by rw [Int.fmod_eq_emod_of_nonneg _ (by decide)]; exact Int.emod_lt_of_pos _ (by decide)
  generalize (c.fdiv 2).fmod 7 = j at *
  obtain ⟨jn, rfl⟩ := Int.eq_ofNat_of_zero_le h0
  have hjn : jn < texts.length := by show jn < 7; omega
  rw [List.getD_eq_getElem?_getD, show ((jn : Int)).toNat = jn from rfl, List.getElem?_eq_getElem hjn]
  exact List.getElem_mem hjn

section
variable {C : Cx} {K : Frag} {par : List (Option Int)}
theorem HeadK.txtDefs (Z : HeadK K) (X : K.In C.g) (hdt : DtOk C) : TxtDefs C := by
  have hno : ∀ x : Str, noNames.contains x = true → C.mg x = none := fun x hx =>
    mg_none_of X C.hg (isNoB_eq (List.all_eq_true.mp Z.nones x (List.contains_iff_mem.mp hx)))
  obtain ⟨fd, G, hb⟩ := Z.gen
  exact ⟨⟨⟨fd, ⟨let ⟨o, e1, e2⟩ := G.obj; ⟨o, X _ _ e1, e2⟩, G.body, G.names, G.kind, G.co, G.gen, G.gl, G.bi, G.codeRec X⟩, hb⟩, hdt, hno (Str.ofString "enumerate") (by decide)⟩,
    mg_of X C.hg (isRefB_eq Z.gens), mg_of X C.hg (isRefB_eq Z.strips), hno (Str.ofString "len") (by decide), Z.strip.fn X, Z.check.fn X⟩
theorem HeadK.ctx (Z : HeadK K) (X : K.In C.g) (hT : ∀ k, C.W.dt k ∈ texts) (hp : ParOk C par) (hd : DressOk C) (hs : ScOk C) : Ctx C par where
  hdt := fun k => (texts_len (hT k)).1
  hpar := hp
  fn := fun x a h => mg_of X C.hg (isRefB_eq (List.all_eq_true.mp Z.names (x, a) (lookup_mem h)))
  no := fun x hx => mg_none_of X C.hg (isNoB_eq (List.all_eq_true.mp Z.nones x (List.contains_iff_mem.mp hx)))
  dress := hd
  sc := hs
  chk := chk_ok (Z.txtDefs X fun k => (texts_len (hT k)).1) hT
theorem HeadK.defs (Z : HeadK K) (X : K.In C.g) (hcd : C.W.lcd = 195) : Defs C where
  law_dress := Z.law_dress.fn X
  lt := Z.lt.fn X
  gt := Z.gt.fn X
  add := Z.add.fn X
  mul := Z.mul.fn X
  sub := Z.sub.fn X
  concat := Z.concat.fn X
  countOf := Z.countOf.fn X
  delitem := Z.delitem.fn X
  getitem := Z.getitem.fn X
  indexOf := Z.indexOf.fn X
  setitem := Z.setitem.fn X
  law_middle := Z.law_middle.fn X
  bisect_right := Z.bisect_right.fn X
  bisect_left := Z.bisect_left.fn X
  insort_right := Z.insort_right.fn X
  insort_left := Z.insort_left.fn X
  law_signs := Z.law_signs.fn X
  law_mates := Z.law_mates.fn X
  law_pairs := Z.law_pairs.fn X
  law_order := Z.law_order.fn X
  law_row := Z.law_row.fn X
  law := by
    obtain ⟨fd, G, hc, hb⟩ := Z.law
    exact ⟨fd, G.defOk X (by decide) (by decide) (fun _ => by rw [hc, hcd]), G.clo, hb⟩
  check_parenthesis := by
    obtain ⟨fd, G, _⟩ := Z.check
    obtain ⟨o, e1, e2⟩ := G.obj
    exact ⟨o, fd, X _ _ e1, e2⟩
end
end Mine
end

section
set_option maxHeartbeats 1000000
namespace Mine

/-! the law as its caller sees it -/
noncomputable def lawVal (l : Addr) (vs : List Value) : Val where
  sv := fun k => (numsOf (slicePick vs.toArray (some (k : Int)) none (some 10)).toList).sum
  dt := fun k => dressOf (base.getD k 0 + (numsOf (slicePick vs.toArray (some (k : Int)) none (some 10)).toList).sum)
  scr := l
  gk := []
  lcd := 195

theorem builtinsAt_of {h : Heap} {mg mb : Str → Option Value} {p : Program} {loose : List Str} {mean : ExcName → Option Value} {P : Addr} (T : Top p loose mean mg mb h) (hP : h.get? P = none) : h.BuiltinsAt mg P := by
  obtain ⟨bm, ob, a1, a2, a3, a4, a5, a6⟩ := T.bmain
  refine ⟨bm, ob, a1, a2, fun q => ?_, fun q => ?_, a3, a4, a5, a6⟩
  · obtain ⟨o, es, ep, e, hd, _⟩ := T.g
    rw [q, e] at a3
    cases a3
    rw [a6] at hd; cases hd
  · rw [q, hP] at a3; cases a3

theorem law_final {w : World} {s₁ : Shared} {mg mb : Str → Option Value} {K : Frag} {p : Program} {loose : List Str} {mean : ExcName → Option Value} {prog : Program} {l fa : Addr} {vs : List Value} {ns : List Int} (Z : HeadK K) (X : K.In s₁.heap) (hP : s₁.heap.get? 193 = some (tabObj #[]))
    (T : Top p loose mean mg mb s₁.heap) (hg : s₁.gens = #[]) (hl : s₁.heap.IsList l vs.toArray) (hi : IntsAre vs ns) (hlen : ns.length ≤ 63) (hmg : mg (Str.ofString "law") = some (.ref fa))
    (hev : ∀ sv : Nat → Int, ∃ par lv' σ', (∀ (k : Nat) (p : Int), par[k]? = some (some p) → (sv k).fmod 2 = p) ∧ X_law par (initLv nm_law.length [.scr]) hnil = some (.ret (.bool true), lv', σ'))
    {Q E : Value → Shared → Prop} (h : ∀ s', OldK s₁.heap s'.heap → s'.os = s₁.os → AllBare s'.gens → Q (.bool true) s') : wpAny (model prog w) callerA (call (.ref fa) [.ref l]) Q E s₁ := by
  have hT : TabsAt [(195, 193)] s₁.heap := List.forall_mem_cons.mpr ⟨⟨codeHd_of_K X Z.cd, hP⟩, fun _ h => nomatch h⟩
  have T' := ghost_top hT T
  have hG : (ghostOf s₁.heap [(195, 193)]).get? 193 = none := hideAll_none _ (by simp)
  let C : Cx := { prog := prog, w := w, W := lawVal l vs, g := ghostOf s₁.heap [(195, 193)], mg := mg, mb := mb, os0 := s₁.os, hg := T'.g, hb := T'.b, hbb := T'.builtins, nolim := T'.nolimit }
  have XG : K.In C.g := ghost_K hT X Z.tabs
  have hlist : C.g.IsList l vs.toArray := ghost_list hT hl
  have hints := IntsAre.allInts hi
  have hvl : vs.length = ns.length := hi.length
  obtain ⟨par, lv', σ', hpar, hrun⟩ := hev C.W.sv
  have hTx : ∀ k, C.W.dt k ∈ texts := fun k => dressOf_texts _
  have H : Ctx C par := Z.ctx XG hTx hpar (fun k x e => by
    show dressOf (base.getD k 0 + _) = _
    rw [List.getD_eq_getElem?_getD, e]; rfl) ⟨vs.toArray, hlist, hints, by rw [List.size_toArray]; omega, fun k => rfl⟩
  have D : Defs C := Z.defs XG rfl
  have L : LamOk C 193 #[] ⟨206, 51, 206, 79⟩ := ⟨(ghost_code hT).1, trivial, rfl, by decide, builtinsAt_of T' hG⟩
  have hfa : fa = 196 := by
    have e : mg (Str.ofString "law") = some (.ref 196) := H.fn _ _ (by decide)
    rw [hmg] at e; cases e; rfl
  subst hfa
  have R : C.R phi0 hnil [TabRes 193 #[]] s₁ := {
    keep := fun b o q => of_hideAll _ q
    len := rfl
    hok := HOk.nil
    lists := fun i a items q => by simp at q
    xs := fun q hq => by
      rcases List.mem_cons.mp hq with rfl | hq
      · exact ⟨_, hP, rfl⟩
      · cases hq
    nd := by simp
    fresh := fun a ha => by
      have : a = 193 := by simpa using ha
      subst this; exact hG
    os := rfl
    bare := by rw [hg]; exact fun y hy => by simp at hy
    tpos := fun q => by cases q
    tlt := fun q hq => by cases hq
    tfun := fun t i j q => by cases q
    gk := fun q hq => by cases hq }
  refine law_call (C := C) H D L (A := callerA) ⟨rfl, by decide, by decide⟩ R hrun fun φ' s' R' => h s' ?_ R'.os R'.bare
  have keep : ∀ b o, b ≠ 193 → s₁.heap.get? b = some o → s'.heap.get? b = some o := fun b o hb e => R'.keep b o (ghost_ne e (by simpa using hb))
  obtain ⟨o', q1, ps, rfl⟩ := R'.xs (193, IsTab) (by simp)
  refine ⟨fun b o e => ?_, fun b o e => ?_⟩
  · by_cases hb : b = 193
    · subst hb
      rw [hP] at e; cases e
      have hq := hT (195, 193) (by simp)
      exact .inr (.inl ⟨(hq.1.tab hq.2).isCodeTable, rfl, #[], ps, rfl, by rw [Array.empty_append]; exact q1⟩)
    · exact .inl (keep b o hb e)
  · by_cases hb : b = 193
    · subst hb; exact ⟨_, q1⟩
    · exact ⟨o, keep b o hb e⟩
end Mine
end

section
set_option maxHeartbeats 4000000
namespace Mine

/-! the part of the head that is looked at -/
noncomputable def paramsAt (i : Nat) : Arguments := match PySem.Challenge.pw_ux0021_01.main.body[i]? with
  | some (.FunctionDef _ a _ _ _ _ _ _ _ _) => a
  | _ => default
noncomputable def scopeAt (i : Nat) : Scope := match PySem.Challenge.pw_ux0021_01.main.body[i]? with
  | some (.FunctionDef _ _ _ _ _ _ s _ _ _) => s
  | _ => default
noncomputable def fnData (n : Str) (i : Nat) (dV kV pm : Value) (c : Addr) : FuncData :=
  { name := n, qualname := n, params := paramsAt i, body := .stmts (bodyAt i), scope := scopeAt i, globals := 3, closure := [], defaults := dV, kwdefaults := kV, pyModule := pm, code := .ref c }
noncomputable def fnObj (n : Str) (i : Nat) (dV kV pm : Value) (c : Addr) : Obj := { cls := .type "function", data := .func (fnData n i dV kV pm c) }
noncomputable def codeObj (vs : Array Value) : Obj := { cls := .type "code", data := .fields vs }
noncomputable def headO (P : Params) : Frag :=
  [(3, { cls := Value.type "dict", data := Data.dict #[{ hash := PyData.keyHash P (Str.ofString "__name__"), key := .str (Str.ofString "__name__") 165, val := .str (Str.ofString "law_ux0021_01") 373 }, { hash := PyData.keyHash P (Str.ofString "__doc__"), key := .str (Str.ofString "__doc__") 166, val := .none }, { hash := PyData.keyHash P (Str.ofString "__package__"), key := .str (Str.ofString "__package__") 167, val := .none }, { hash := PyData.keyHash P (Str.ofString "__loader__"), key := .str (Str.ofString "__loader__") 168, val := .builtin "__main__.__loader__#opaque" }, { hash := PyData.keyHash P (Str.ofString "__spec__"), key := .str (Str.ofString "__spec__") 169, val := .none }, { hash := PyData.keyHash P (Str.ofString "__annotations__"), key := .str (Str.ofString "__annotations__") 170, val := .ref 6 }, { hash := PyData.keyHash P (Str.ofString "__builtins__"), key := .str (Str.ofString "__builtins__") 171, val := .ref 4 }, { hash := PyData.keyHash P (Str.ofString "__file__"), key := .str (Str.ofString "__file__") 173, val := .str (Str.ofString "/claim/cut.py") 172 }, { hash := PyData.keyHash P (Str.ofString "__cached__"), key := .str (Str.ofString "__cached__") 174, val := .none }, { hash := PyData.keyHash P (Str.ofString "_iter_escaped_chars"), key := .str (Str.ofString "_iter_escaped_chars") 198, val := .ref 21 }, { hash := PyData.keyHash P (Str.ofString "_strip_quoted_realnames"), key := .str (Str.ofString "_strip_quoted_realnames") 210, val := .ref 28 }, { hash := PyData.keyHash P (Str.ofString "_check_parenthesis"), key := .str (Str.ofString "_check_parenthesis") 220, val := .ref 35 }, { hash := PyData.keyHash P (Str.ofString "insort_right"), key := .str (Str.ofString "insort_right") 235, val := .ref 44 }, { hash := PyData.keyHash P (Str.ofString "bisect_right"), key := .str (Str.ofString "bisect_right") 249, val := .ref 53 }, { hash := PyData.keyHash P (Str.ofString "insort_left"), key := .str (Str.ofString "insort_left") 262, val := .ref 62 }, { hash := PyData.keyHash P (Str.ofString "bisect_left"), key := .str (Str.ofString "bisect_left") 276, val := .ref 71 }, { hash := PyData.keyHash P (Str.ofString "lt"), key := .str (Str.ofString "lt") 286, val := .ref 78 }, { hash := PyData.keyHash P (Str.ofString "gt"), key := .str (Str.ofString "gt") 294, val := .ref 85 }, { hash := PyData.keyHash P (Str.ofString "add"), key := .str (Str.ofString "add") 302, val := .ref 92 }, { hash := PyData.keyHash P (Str.ofString "mul"), key := .str (Str.ofString "mul") 310, val := .ref 99 }, { hash := PyData.keyHash P (Str.ofString "sub"), key := .str (Str.ofString "sub") 318, val := .ref 106 }, { hash := PyData.keyHash P (Str.ofString "concat"), key := .str (Str.ofString "concat") 327, val := .ref 113 }, { hash := PyData.keyHash P (Str.ofString "countOf"), key := .str (Str.ofString "countOf") 337, val := .ref 120 }, { hash := PyData.keyHash P (Str.ofString "delitem"), key := .str (Str.ofString "delitem") 345, val := .ref 127 }, { hash := PyData.keyHash P (Str.ofString "getitem"), key := .str (Str.ofString "getitem") 353, val := .ref 134 }, { hash := PyData.keyHash P (Str.ofString "indexOf"), key := .str (Str.ofString "indexOf") 363, val := .ref 141 }, { hash := PyData.keyHash P (Str.ofString "setitem"), key := .str (Str.ofString "setitem") 372, val := .ref 148 }, { hash := PyData.keyHash P (Str.ofString "_law_dress"), key := .str (Str.ofString "_law_dress") 381, val := .ref 155 }, { hash := PyData.keyHash P (Str.ofString "_law_signs"), key := .str (Str.ofString "_law_signs") 391, val := .ref 162 }, { hash := PyData.keyHash P (Str.ofString "_law_mates"), key := .str (Str.ofString "_law_mates") 401, val := .ref 169 }, { hash := PyData.keyHash P (Str.ofString "_law_pairs"), key := .str (Str.ofString "_law_pairs") 407, val := .ref 174 }, { hash := PyData.keyHash P (Str.ofString "_law_order"), key := .str (Str.ofString "_law_order") 413, val := .ref 179 }, { hash := PyData.keyHash P (Str.ofString "_law_row"), key := .str (Str.ofString "_law_row") 419, val := .ref 184 }, { hash := PyData.keyHash P (Str.ofString "_law_middle"), key := .str (Str.ofString "_law_middle") 426, val := .ref 191 }, { hash := PyData.keyHash P (Str.ofString "law"), key := .str (Str.ofString "law") 432, val := .ref 196 }] 35 }),
   (20, codeObj #[.str (Str.ofString "_iter_escaped_chars") 189, .str (Str.ofString "_iter_escaped_chars") 190, .str (Str.ofString "/claim/cut.py") 191, .int 2 0, .int 1 0, .int 0 0, .int 0 0, .int 35 0, .ref 15, .bool true, .int 181 0, .ref 16, .none, .ref 17, .ref 18, .ref 19, .int 196 0, .int 2 0, .str (Str.ofString "/claim/cut.py") 197]),
   (21, fnObj (Str.ofString "_iter_escaped_chars") 1 (.none) (.none) (.str (Str.ofString "cpy313.email.utils") 187) 20),
   (27, codeObj #[.str (Str.ofString "_strip_quoted_realnames") 199, .str (Str.ofString "_strip_quoted_realnames") 200, .str (Str.ofString "/claim/cut.py") 201, .int 15 0, .int 1 0, .int 0 0, .int 0 0, .int 3 0, .ref 22, .bool true, .int 181 0, .ref 23, .none, .ref 24, .ref 25, .ref 26, .int 208 0, .int 15 0, .str (Str.ofString "/claim/cut.py") 209]),
   (28, fnObj (Str.ofString "_strip_quoted_realnames") 2 (.none) (.none) (.str (Str.ofString "cpy313.email.utils") 187) 27),
   (34, codeObj #[.str (Str.ofString "_check_parenthesis") 211, .str (Str.ofString "_check_parenthesis") 212, .str (Str.ofString "/claim/cut.py") 213, .int 33 0, .int 1 0, .int 0 0, .int 0 0, .int 3 0, .ref 29, .bool true, .int 181 0, .ref 30, .none, .ref 31, .ref 32, .ref 33, .int 218 0, .int 33 0, .str (Str.ofString "/claim/cut.py") 219]),
   (35, fnObj (Str.ofString "_check_parenthesis") 3 (.none) (.none) (.str (Str.ofString "cpy313.email.utils") 187) 34),
   (36, { cls := Value.type "tuple", data := Data.seq #[.int 0 223, .none] }),
   (37, { cls := Value.type "dict", data := Data.dict #[{ hash := PyData.keyHash P (Str.ofString "key"), key := .str (Str.ofString "key") 224, val := .none }] 1 }),
   (43, codeObj #[.str (Str.ofString "insort_right") 225, .str (Str.ofString "insort_right") 226, .str (Str.ofString "/claim/cut.py") 227, .int 45 0, .int 4 0, .int 0 0, .int 1 0, .int 3 0, .ref 38, .bool true, .int 181 0, .ref 39, .none, .ref 40, .ref 41, .ref 42, .int 233 0, .int 45 0, .str (Str.ofString "/claim/cut.py") 234]),
   (44, fnObj (Str.ofString "insort_right") 5 (.ref 36) (.ref 37) (.str (Str.ofString "cpy313.bisect") 221) 43),
   (45, { cls := Value.type "tuple", data := Data.seq #[.int 0 236, .none] }),
   (46, { cls := Value.type "dict", data := Data.dict #[{ hash := PyData.keyHash P (Str.ofString "key"), key := .str (Str.ofString "key") 237, val := .none }] 1 }),
   (52, codeObj #[.str (Str.ofString "bisect_right") 238, .str (Str.ofString "bisect_right") 239, .str (Str.ofString "/claim/cut.py") 240, .int 51 0, .int 4 0, .int 0 0, .int 1 0, .int 3 0, .ref 47, .bool true, .int 181 0, .ref 48, .none, .ref 49, .ref 50, .ref 51, .int 247 0, .int 51 0, .str (Str.ofString "/claim/cut.py") 248]),
   (53, fnObj (Str.ofString "bisect_right") 6 (.ref 45) (.ref 46) (.str (Str.ofString "cpy313.bisect") 221) 52),
   (54, { cls := Value.type "tuple", data := Data.seq #[.int 0 250, .none] }),
   (55, { cls := Value.type "dict", data := Data.dict #[{ hash := PyData.keyHash P (Str.ofString "key"), key := .str (Str.ofString "key") 251, val := .none }] 1 }),
   (61, codeObj #[.str (Str.ofString "insort_left") 252, .str (Str.ofString "insort_left") 253, .str (Str.ofString "/claim/cut.py") 254, .int 71 0, .int 4 0, .int 0 0, .int 1 0, .int 3 0, .ref 56, .bool true, .int 181 0, .ref 57, .none, .ref 58, .ref 59, .ref 60, .int 260 0, .int 71 0, .str (Str.ofString "/claim/cut.py") 261]),
   (62, fnObj (Str.ofString "insort_left") 7 (.ref 54) (.ref 55) (.str (Str.ofString "cpy313.bisect") 221) 61),
   (63, { cls := Value.type "tuple", data := Data.seq #[.int 0 263, .none] }),
   (64, { cls := Value.type "dict", data := Data.dict #[{ hash := PyData.keyHash P (Str.ofString "key"), key := .str (Str.ofString "key") 264, val := .none }] 1 }),
   (70, codeObj #[.str (Str.ofString "bisect_left") 265, .str (Str.ofString "bisect_left") 266, .str (Str.ofString "/claim/cut.py") 267, .int 77 0, .int 4 0, .int 0 0, .int 1 0, .int 3 0, .ref 65, .bool true, .int 181 0, .ref 66, .none, .ref 67, .ref 68, .ref 69, .int 274 0, .int 77 0, .str (Str.ofString "/claim/cut.py") 275]),
   (71, fnObj (Str.ofString "bisect_left") 8 (.ref 63) (.ref 64) (.str (Str.ofString "cpy313.bisect") 221) 70),
   (77, codeObj #[.str (Str.ofString "lt") 279, .str (Str.ofString "lt") 280, .str (Str.ofString "/claim/cut.py") 281, .int 98 0, .int 2 0, .int 0 0, .int 0 0, .int 3 0, .ref 72, .bool true, .int 181 0, .ref 73, .none, .ref 74, .ref 75, .ref 76, .int 284 0, .int 98 0, .str (Str.ofString "/claim/cut.py") 285]),
   (78, fnObj (Str.ofString "lt") 10 (.none) (.none) (.str (Str.ofString "cpy313.operator") 277) 77),
   (84, codeObj #[.str (Str.ofString "gt") 287, .str (Str.ofString "gt") 288, .str (Str.ofString "/claim/cut.py") 289, .int 100 0, .int 2 0, .int 0 0, .int 0 0, .int 3 0, .ref 79, .bool true, .int 181 0, .ref 80, .none, .ref 81, .ref 82, .ref 83, .int 292 0, .int 100 0, .str (Str.ofString "/claim/cut.py") 293]),
   (85, fnObj (Str.ofString "gt") 11 (.none) (.none) (.str (Str.ofString "cpy313.operator") 277) 84),
   (91, codeObj #[.str (Str.ofString "add") 295, .str (Str.ofString "add") 296, .str (Str.ofString "/claim/cut.py") 297, .int 102 0, .int 2 0, .int 0 0, .int 0 0, .int 3 0, .ref 86, .bool true, .int 181 0, .ref 87, .none, .ref 88, .ref 89, .ref 90, .int 300 0, .int 102 0, .str (Str.ofString "/claim/cut.py") 301]),
   (92, fnObj (Str.ofString "add") 12 (.none) (.none) (.str (Str.ofString "cpy313.operator") 277) 91),
   (98, codeObj #[.str (Str.ofString "mul") 303, .str (Str.ofString "mul") 304, .str (Str.ofString "/claim/cut.py") 305, .int 104 0, .int 2 0, .int 0 0, .int 0 0, .int 3 0, .ref 93, .bool true, .int 181 0, .ref 94, .none, .ref 95, .ref 96, .ref 97, .int 308 0, .int 104 0, .str (Str.ofString "/claim/cut.py") 309]),
   (99, fnObj (Str.ofString "mul") 13 (.none) (.none) (.str (Str.ofString "cpy313.operator") 277) 98),
   (105, codeObj #[.str (Str.ofString "sub") 311, .str (Str.ofString "sub") 312, .str (Str.ofString "/claim/cut.py") 313, .int 106 0, .int 2 0, .int 0 0, .int 0 0, .int 3 0, .ref 100, .bool true, .int 181 0, .ref 101, .none, .ref 102, .ref 103, .ref 104, .int 316 0, .int 106 0, .str (Str.ofString "/claim/cut.py") 317]),
   (106, fnObj (Str.ofString "sub") 14 (.none) (.none) (.str (Str.ofString "cpy313.operator") 277) 105),
   (112, codeObj #[.str (Str.ofString "concat") 319, .str (Str.ofString "concat") 320, .str (Str.ofString "/claim/cut.py") 321, .int 108 0, .int 2 0, .int 0 0, .int 0 0, .int 3 0, .ref 107, .bool true, .int 181 0, .ref 108, .none, .ref 109, .ref 110, .ref 111, .int 325 0, .int 108 0, .str (Str.ofString "/claim/cut.py") 326]),
   (113, fnObj (Str.ofString "concat") 15 (.none) (.none) (.str (Str.ofString "cpy313.operator") 277) 112),
   (119, codeObj #[.str (Str.ofString "countOf") 328, .str (Str.ofString "countOf") 329, .str (Str.ofString "/claim/cut.py") 330, .int 113 0, .int 2 0, .int 0 0, .int 0 0, .int 3 0, .ref 114, .bool true, .int 181 0, .ref 115, .none, .ref 116, .ref 117, .ref 118, .int 335 0, .int 113 0, .str (Str.ofString "/claim/cut.py") 336]),
   (120, fnObj (Str.ofString "countOf") 16 (.none) (.none) (.str (Str.ofString "cpy313.operator") 277) 119),
   (126, codeObj #[.str (Str.ofString "delitem") 338, .str (Str.ofString "delitem") 339, .str (Str.ofString "/claim/cut.py") 340, .int 119 0, .int 2 0, .int 0 0, .int 0 0, .int 3 0, .ref 121, .bool true, .int 181 0, .ref 122, .none, .ref 123, .ref 124, .ref 125, .int 343 0, .int 119 0, .str (Str.ofString "/claim/cut.py") 344]),
   (127, fnObj (Str.ofString "delitem") 17 (.none) (.none) (.str (Str.ofString "cpy313.operator") 277) 126),
   (133, codeObj #[.str (Str.ofString "getitem") 346, .str (Str.ofString "getitem") 347, .str (Str.ofString "/claim/cut.py") 348, .int 121 0, .int 2 0, .int 0 0, .int 0 0, .int 3 0, .ref 128, .bool true, .int 181 0, .ref 129, .none, .ref 130, .ref 131, .ref 132, .int 351 0, .int 121 0, .str (Str.ofString "/claim/cut.py") 352]),
   (134, fnObj (Str.ofString "getitem") 18 (.none) (.none) (.str (Str.ofString "cpy313.operator") 277) 133),
   (140, codeObj #[.str (Str.ofString "indexOf") 354, .str (Str.ofString "indexOf") 355, .str (Str.ofString "/claim/cut.py") 356, .int 123 0, .int 2 0, .int 0 0, .int 0 0, .int 3 0, .ref 135, .bool true, .int 181 0, .ref 136, .none, .ref 137, .ref 138, .ref 139, .int 361 0, .int 123 0, .str (Str.ofString "/claim/cut.py") 362]),
   (141, fnObj (Str.ofString "indexOf") 19 (.none) (.none) (.str (Str.ofString "cpy313.operator") 277) 140),
   (147, codeObj #[.str (Str.ofString "setitem") 364, .str (Str.ofString "setitem") 365, .str (Str.ofString "/claim/cut.py") 366, .int 129 0, .int 3 0, .int 0 0, .int 0 0, .int 3 0, .ref 142, .bool true, .int 181 0, .ref 143, .none, .ref 144, .ref 145, .ref 146, .int 370 0, .int 129 0, .str (Str.ofString "/claim/cut.py") 371]),
   (148, fnObj (Str.ofString "setitem") 20 (.none) (.none) (.str (Str.ofString "cpy313.operator") 277) 147),
   (154, codeObj #[.str (Str.ofString "_law_dress") 375, .str (Str.ofString "_law_dress") 376, .str (Str.ofString "/claim/cut.py") 377, .int 132 0, .int 1 0, .int 0 0, .int 0 0, .int 3 0, .ref 149, .bool true, .int 181 0, .ref 150, .none, .ref 151, .ref 152, .ref 153, .int 379 0, .int 132 0, .str (Str.ofString "/claim/cut.py") 380]),
   (155, fnObj (Str.ofString "_law_dress") 22 (.none) (.none) (.str (Str.ofString "law_ux0021_01") 373) 154),
   (161, codeObj #[.str (Str.ofString "_law_signs") 382, .str (Str.ofString "_law_signs") 383, .str (Str.ofString "/claim/cut.py") 384, .int 134 0, .int 1 0, .int 0 0, .int 0 0, .int 3 0, .ref 156, .bool true, .int 181 0, .ref 157, .none, .ref 158, .ref 159, .ref 160, .int 389 0, .int 134 0, .str (Str.ofString "/claim/cut.py") 390]),
   (162, fnObj (Str.ofString "_law_signs") 23 (.none) (.none) (.str (Str.ofString "law_ux0021_01") 373) 161),
   (168, codeObj #[.str (Str.ofString "_law_mates") 392, .str (Str.ofString "_law_mates") 393, .str (Str.ofString "/claim/cut.py") 394, .int 140 0, .int 1 0, .int 0 0, .int 0 0, .int 3 0, .ref 163, .bool true, .int 181 0, .ref 164, .none, .ref 165, .ref 166, .ref 167, .int 399 0, .int 140 0, .str (Str.ofString "/claim/cut.py") 400]),
   (169, fnObj (Str.ofString "_law_mates") 24 (.none) (.none) (.str (Str.ofString "law_ux0021_01") 373) 168),
   (173, codeObj #[.str (Str.ofString "_law_pairs") 402, .str (Str.ofString "_law_pairs") 403, .str (Str.ofString "/claim/cut.py") 404, .int 148 0, .int 2 0, .int 0 0, .int 0 0, .int 3 0, .ref 170, .bool true, .int 181 0, .ref 171, .none, .none, .none, .ref 172, .int 405 0, .int 148 0, .str (Str.ofString "/claim/cut.py") 406]),
   (174, fnObj (Str.ofString "_law_pairs") 25 (.none) (.none) (.str (Str.ofString "law_ux0021_01") 373) 173),
   (178, codeObj #[.str (Str.ofString "_law_order") 408, .str (Str.ofString "_law_order") 409, .str (Str.ofString "/claim/cut.py") 410, .int 158 0, .int 1 0, .int 0 0, .int 0 0, .int 3 0, .ref 175, .bool true, .int 181 0, .ref 176, .none, .none, .none, .ref 177, .int 411 0, .int 158 0, .str (Str.ofString "/claim/cut.py") 412]),
   (179, fnObj (Str.ofString "_law_order") 26 (.none) (.none) (.str (Str.ofString "law_ux0021_01") 373) 178),
   (183, codeObj #[.str (Str.ofString "_law_row") 414, .str (Str.ofString "_law_row") 415, .str (Str.ofString "/claim/cut.py") 416, .int 173 0, .int 1 0, .int 0 0, .int 0 0, .int 3 0, .ref 180, .bool true, .int 181 0, .ref 181, .none, .none, .none, .ref 182, .int 417 0, .int 173 0, .str (Str.ofString "/claim/cut.py") 418]),
   (184, fnObj (Str.ofString "_law_row") 27 (.none) (.none) (.str (Str.ofString "law_ux0021_01") 373) 183),
   (190, codeObj #[.str (Str.ofString "_law_middle") 420, .str (Str.ofString "_law_middle") 421, .str (Str.ofString "/claim/cut.py") 422, .int 185 0, .int 1 0, .int 0 0, .int 0 0, .int 3 0, .ref 185, .bool true, .int 181 0, .ref 186, .none, .ref 187, .ref 188, .ref 189, .int 424 0, .int 185 0, .str (Str.ofString "/claim/cut.py") 425]),
   (191, fnObj (Str.ofString "_law_middle") 28 (.none) (.none) (.str (Str.ofString "law_ux0021_01") 373) 190),
   (195, codeObj #[.str (Str.ofString "law") 427, .str (Str.ofString "law") 428, .str (Str.ofString "/claim/cut.py") 429, .int 187 0, .int 1 0, .int 0 0, .int 0 0, .int 3 0, .ref 192, .bool true, .int 181 0, .ref 193, .none, .none, .none, .ref 194, .int 430 0, .int 187 0, .str (Str.ofString "/claim/cut.py") 431]),
   (196, fnObj (Str.ofString "law") 29 (.none) (.none) (.str (Str.ofString "law_ux0021_01") 373) 195)]
theorem fnK_of {K : Frag} {n : Str} {a c : Addr} {i : Nat} {dV kV pm : Value} {nm : Nm} {g : Bool} {vs : Array Value} {t : Tok} (h1 : K.lookup a = some (fnObj n i dV kV pm c)) (h2 : K.lookup c = some (codeObj vs)) (h3 : vs[1]? = some (.str n t))
    (h4 : (scopeAt i).names = nm) (h5 : (scopeAt i).kind = .function) (h6 : (scopeAt i).isCoroutine = false) (h7 : (scopeAt i).isGenerator = g) : FnK K a i nm g (fnData n i dV kV pm c) :=
  ⟨⟨_, h1, rfl⟩, rfl, h4, h5, h6, h7, rfl, rfl, rfl, ⟨c, _, vs, t, rfl, h2, rfl, h3⟩⟩
theorem z_law_dress (P : Params) : FnS (headO P) 155 22 nm_law_dress 1 :=
  ⟨fnData (Str.ofString "_law_dress") 22 (.none) (.none) (.str (Str.ofString "law_ux0021_01") 373) 154, (fnK_of (vs := #[.str (Str.ofString "_law_dress") 375, .str (Str.ofString "_law_dress") 376, .str (Str.ofString "/claim/cut.py") 377, .int 132 0, .int 1 0, .int 0 0, .int 0 0, .int 3 0, .ref 149, .bool true, .int 181 0, .ref 150, .none, .ref 151, .ref 152, .ref 153, .int 379 0, .int 132 0, .str (Str.ofString "/claim/cut.py") 380]) (t := 376) (by kernel_rfl) (by kernel_rfl) (by kernel_rfl) (by kernel_rfl) (by kernel_rfl) (by kernel_rfl) (by kernel_rfl)), fun vs h => by
    match vs, h with
    | [x], _ => kernel_rfl⟩
theorem z_lt (P : Params) : FnS (headO P) 78 10 nm_lt 2 :=
  ⟨fnData (Str.ofString "lt") 10 (.none) (.none) (.str (Str.ofString "cpy313.operator") 277) 77, (fnK_of (vs := #[.str (Str.ofString "lt") 279, .str (Str.ofString "lt") 280, .str (Str.ofString "/claim/cut.py") 281, .int 98 0, .int 2 0, .int 0 0, .int 0 0, .int 3 0, .ref 72, .bool true, .int 181 0, .ref 73, .none, .ref 74, .ref 75, .ref 76, .int 284 0, .int 98 0, .str (Str.ofString "/claim/cut.py") 285]) (t := 280) (by kernel_rfl) (by kernel_rfl) (by kernel_rfl) (by kernel_rfl) (by kernel_rfl) (by kernel_rfl) (by kernel_rfl)), fun vs h => by
    match vs, h with
    | [x, y], _ => kernel_rfl⟩
theorem z_gt (P : Params) : FnS (headO P) 85 11 nm_gt 2 :=
  ⟨fnData (Str.ofString "gt") 11 (.none) (.none) (.str (Str.ofString "cpy313.operator") 277) 84, (fnK_of (vs := #[.str (Str.ofString "gt") 287, .str (Str.ofString "gt") 288, .str (Str.ofString "/claim/cut.py") 289, .int 100 0, .int 2 0, .int 0 0, .int 0 0, .int 3 0, .ref 79, .bool true, .int 181 0, .ref 80, .none, .ref 81, .ref 82, .ref 83, .int 292 0, .int 100 0, .str (Str.ofString "/claim/cut.py") 293]) (t := 288) (by kernel_rfl) (by kernel_rfl) (by kernel_rfl) (by kernel_rfl) (by kernel_rfl) (by kernel_rfl) (by kernel_rfl)), fun vs h => by
    match vs, h with
    | [x, y], _ => kernel_rfl⟩
theorem z_add (P : Params) : FnS (headO P) 92 12 nm_add 2 :=
  ⟨fnData (Str.ofString "add") 12 (.none) (.none) (.str (Str.ofString "cpy313.operator") 277) 91, (fnK_of (vs := #[.str (Str.ofString "add") 295, .str (Str.ofString "add") 296, .str (Str.ofString "/claim/cut.py") 297, .int 102 0, .int 2 0, .int 0 0, .int 0 0, .int 3 0, .ref 86, .bool true, .int 181 0, .ref 87, .none, .ref 88, .ref 89, .ref 90, .int 300 0, .int 102 0, .str (Str.ofString "/claim/cut.py") 301]) (t := 296) (by kernel_rfl) (by kernel_rfl) (by kernel_rfl) (by kernel_rfl) (by kernel_rfl) (by kernel_rfl) (by kernel_rfl)), fun vs h => by
    match vs, h with
    | [x, y], _ => kernel_rfl⟩
theorem z_mul (P : Params) : FnS (headO P) 99 13 nm_mul 2 :=
  ⟨fnData (Str.ofString "mul") 13 (.none) (.none) (.str (Str.ofString "cpy313.operator") 277) 98, (fnK_of (vs := #[.str (Str.ofString "mul") 303, .str (Str.ofString "mul") 304, .str (Str.ofString "/claim/cut.py") 305, .int 104 0, .int 2 0, .int 0 0, .int 0 0, .int 3 0, .ref 93, .bool true, .int 181 0, .ref 94, .none, .ref 95, .ref 96, .ref 97, .int 308 0, .int 104 0, .str (Str.ofString "/claim/cut.py") 309]) (t := 304) (by kernel_rfl) (by kernel_rfl) (by kernel_rfl) (by kernel_rfl) (by kernel_rfl) (by kernel_rfl) (by kernel_rfl)), fun vs h => by
    match vs, h with
    | [x, y], _ => kernel_rfl⟩
theorem z_sub (P : Params) : FnS (headO P) 106 14 nm_sub 2 :=
  ⟨fnData (Str.ofString "sub") 14 (.none) (.none) (.str (Str.ofString "cpy313.operator") 277) 105, (fnK_of (vs := #[.str (Str.ofString "sub") 311, .str (Str.ofString "sub") 312, .str (Str.ofString "/claim/cut.py") 313, .int 106 0, .int 2 0, .int 0 0, .int 0 0, .int 3 0, .ref 100, .bool true, .int 181 0, .ref 101, .none, .ref 102, .ref 103, .ref 104, .int 316 0, .int 106 0, .str (Str.ofString "/claim/cut.py") 317]) (t := 312) (by kernel_rfl) (by kernel_rfl) (by kernel_rfl) (by kernel_rfl) (by kernel_rfl) (by kernel_rfl) (by kernel_rfl)), fun vs h => by
    match vs, h with
    | [x, y], _ => kernel_rfl⟩
theorem z_concat (P : Params) : FnS (headO P) 113 15 nm_concat 2 :=
  ⟨fnData (Str.ofString "concat") 15 (.none) (.none) (.str (Str.ofString "cpy313.operator") 277) 112, (fnK_of (vs := #[.str (Str.ofString "concat") 319, .str (Str.ofString "concat") 320, .str (Str.ofString "/claim/cut.py") 321, .int 108 0, .int 2 0, .int 0 0, .int 0 0, .int 3 0, .ref 107, .bool true, .int 181 0, .ref 108, .none, .ref 109, .ref 110, .ref 111, .int 325 0, .int 108 0, .str (Str.ofString "/claim/cut.py") 326]) (t := 320) (by kernel_rfl) (by kernel_rfl) (by kernel_rfl) (by kernel_rfl) (by kernel_rfl) (by kernel_rfl) (by kernel_rfl)), fun vs h => by
    match vs, h with
    | [x, y], _ => kernel_rfl⟩
theorem z_countOf (P : Params) : FnS (headO P) 120 16 nm_countOf 2 :=
  ⟨fnData (Str.ofString "countOf") 16 (.none) (.none) (.str (Str.ofString "cpy313.operator") 277) 119, (fnK_of (vs := #[.str (Str.ofString "countOf") 328, .str (Str.ofString "countOf") 329, .str (Str.ofString "/claim/cut.py") 330, .int 113 0, .int 2 0, .int 0 0, .int 0 0, .int 3 0, .ref 114, .bool true, .int 181 0, .ref 115, .none, .ref 116, .ref 117, .ref 118, .int 335 0, .int 113 0, .str (Str.ofString "/claim/cut.py") 336]) (t := 329) (by kernel_rfl) (by kernel_rfl) (by kernel_rfl) (by kernel_rfl) (by kernel_rfl) (by kernel_rfl) (by kernel_rfl)), fun vs h => by
    match vs, h with
    | [x, y], _ => kernel_rfl⟩
theorem z_delitem (P : Params) : FnS (headO P) 127 17 nm_delitem 2 :=
  ⟨fnData (Str.ofString "delitem") 17 (.none) (.none) (.str (Str.ofString "cpy313.operator") 277) 126, (fnK_of (vs := #[.str (Str.ofString "delitem") 338, .str (Str.ofString "delitem") 339, .str (Str.ofString "/claim/cut.py") 340, .int 119 0, .int 2 0, .int 0 0, .int 0 0, .int 3 0, .ref 121, .bool true, .int 181 0, .ref 122, .none, .ref 123, .ref 124, .ref 125, .int 343 0, .int 119 0, .str (Str.ofString "/claim/cut.py") 344]) (t := 339) (by kernel_rfl) (by kernel_rfl) (by kernel_rfl) (by kernel_rfl) (by kernel_rfl) (by kernel_rfl) (by kernel_rfl)), fun vs h => by
    match vs, h with
    | [x, y], _ => kernel_rfl⟩
theorem z_getitem (P : Params) : FnS (headO P) 134 18 nm_getitem 2 :=
  ⟨fnData (Str.ofString "getitem") 18 (.none) (.none) (.str (Str.ofString "cpy313.operator") 277) 133, (fnK_of (vs := #[.str (Str.ofString "getitem") 346, .str (Str.ofString "getitem") 347, .str (Str.ofString "/claim/cut.py") 348, .int 121 0, .int 2 0, .int 0 0, .int 0 0, .int 3 0, .ref 128, .bool true, .int 181 0, .ref 129, .none, .ref 130, .ref 131, .ref 132, .int 351 0, .int 121 0, .str (Str.ofString "/claim/cut.py") 352]) (t := 347) (by kernel_rfl) (by kernel_rfl) (by kernel_rfl) (by kernel_rfl) (by kernel_rfl) (by kernel_rfl) (by kernel_rfl)), fun vs h => by
    match vs, h with
    | [x, y], _ => kernel_rfl⟩
theorem z_indexOf (P : Params) : FnS (headO P) 141 19 nm_indexOf 2 :=
  ⟨fnData (Str.ofString "indexOf") 19 (.none) (.none) (.str (Str.ofString "cpy313.operator") 277) 140, (fnK_of (vs := #[.str (Str.ofString "indexOf") 354, .str (Str.ofString "indexOf") 355, .str (Str.ofString "/claim/cut.py") 356, .int 123 0, .int 2 0, .int 0 0, .int 0 0, .int 3 0, .ref 135, .bool true, .int 181 0, .ref 136, .none, .ref 137, .ref 138, .ref 139, .int 361 0, .int 123 0, .str (Str.ofString "/claim/cut.py") 362]) (t := 355) (by kernel_rfl) (by kernel_rfl) (by kernel_rfl) (by kernel_rfl) (by kernel_rfl) (by kernel_rfl) (by kernel_rfl)), fun vs h => by
    match vs, h with
    | [x, y], _ => kernel_rfl⟩
theorem z_setitem (P : Params) : FnS (headO P) 148 20 nm_setitem 3 :=
  ⟨fnData (Str.ofString "setitem") 20 (.none) (.none) (.str (Str.ofString "cpy313.operator") 277) 147, (fnK_of (vs := #[.str (Str.ofString "setitem") 364, .str (Str.ofString "setitem") 365, .str (Str.ofString "/claim/cut.py") 366, .int 129 0, .int 3 0, .int 0 0, .int 0 0, .int 3 0, .ref 142, .bool true, .int 181 0, .ref 143, .none, .ref 144, .ref 145, .ref 146, .int 370 0, .int 129 0, .str (Str.ofString "/claim/cut.py") 371]) (t := 365) (by kernel_rfl) (by kernel_rfl) (by kernel_rfl) (by kernel_rfl) (by kernel_rfl) (by kernel_rfl) (by kernel_rfl)), fun vs h => by
    match vs, h with
    | [x, y, z], _ => kernel_rfl⟩
theorem z_law_middle (P : Params) : FnS (headO P) 191 28 nm_law_middle 1 :=
  ⟨fnData (Str.ofString "_law_middle") 28 (.none) (.none) (.str (Str.ofString "law_ux0021_01") 373) 190, (fnK_of (vs := #[.str (Str.ofString "_law_middle") 420, .str (Str.ofString "_law_middle") 421, .str (Str.ofString "/claim/cut.py") 422, .int 185 0, .int 1 0, .int 0 0, .int 0 0, .int 3 0, .ref 185, .bool true, .int 181 0, .ref 186, .none, .ref 187, .ref 188, .ref 189, .int 424 0, .int 185 0, .str (Str.ofString "/claim/cut.py") 425]) (t := 421) (by kernel_rfl) (by kernel_rfl) (by kernel_rfl) (by kernel_rfl) (by kernel_rfl) (by kernel_rfl) (by kernel_rfl)), fun vs h => by
    match vs, h with
    | [x], _ => kernel_rfl⟩
theorem z_law_signs (P : Params) : FnS (headO P) 162 23 nm_law_signs 1 :=
  ⟨fnData (Str.ofString "_law_signs") 23 (.none) (.none) (.str (Str.ofString "law_ux0021_01") 373) 161, (fnK_of (vs := #[.str (Str.ofString "_law_signs") 382, .str (Str.ofString "_law_signs") 383, .str (Str.ofString "/claim/cut.py") 384, .int 134 0, .int 1 0, .int 0 0, .int 0 0, .int 3 0, .ref 156, .bool true, .int 181 0, .ref 157, .none, .ref 158, .ref 159, .ref 160, .int 389 0, .int 134 0, .str (Str.ofString "/claim/cut.py") 390]) (t := 383) (by kernel_rfl) (by kernel_rfl) (by kernel_rfl) (by kernel_rfl) (by kernel_rfl) (by kernel_rfl) (by kernel_rfl)), fun vs h => by
    match vs, h with
    | [x], _ => kernel_rfl⟩
theorem z_law_mates (P : Params) : FnS (headO P) 169 24 nm_law_mates 1 :=
  ⟨fnData (Str.ofString "_law_mates") 24 (.none) (.none) (.str (Str.ofString "law_ux0021_01") 373) 168, (fnK_of (vs := #[.str (Str.ofString "_law_mates") 392, .str (Str.ofString "_law_mates") 393, .str (Str.ofString "/claim/cut.py") 394, .int 140 0, .int 1 0, .int 0 0, .int 0 0, .int 3 0, .ref 163, .bool true, .int 181 0, .ref 164, .none, .ref 165, .ref 166, .ref 167, .int 399 0, .int 140 0, .str (Str.ofString "/claim/cut.py") 400]) (t := 393) (by kernel_rfl) (by kernel_rfl) (by kernel_rfl) (by kernel_rfl) (by kernel_rfl) (by kernel_rfl) (by kernel_rfl)), fun vs h => by
    match vs, h with
    | [x], _ => kernel_rfl⟩
theorem z_law_pairs (P : Params) : FnS (headO P) 174 25 nm_law_pairs 2 :=
  ⟨fnData (Str.ofString "_law_pairs") 25 (.none) (.none) (.str (Str.ofString "law_ux0021_01") 373) 173, (fnK_of (vs := #[.str (Str.ofString "_law_pairs") 402, .str (Str.ofString "_law_pairs") 403, .str (Str.ofString "/claim/cut.py") 404, .int 148 0, .int 2 0, .int 0 0, .int 0 0, .int 3 0, .ref 170, .bool true, .int 181 0, .ref 171, .none, .none, .none, .ref 172, .int 405 0, .int 148 0, .str (Str.ofString "/claim/cut.py") 406]) (t := 403) (by kernel_rfl) (by kernel_rfl) (by kernel_rfl) (by kernel_rfl) (by kernel_rfl) (by kernel_rfl) (by kernel_rfl)), fun vs h => by
    match vs, h with
    | [x, y], _ => kernel_rfl⟩
theorem z_law_order (P : Params) : FnS (headO P) 179 26 nm_law_order 1 :=
  ⟨fnData (Str.ofString "_law_order") 26 (.none) (.none) (.str (Str.ofString "law_ux0021_01") 373) 178, (fnK_of (vs := #[.str (Str.ofString "_law_order") 408, .str (Str.ofString "_law_order") 409, .str (Str.ofString "/claim/cut.py") 410, .int 158 0, .int 1 0, .int 0 0, .int 0 0, .int 3 0, .ref 175, .bool true, .int 181 0, .ref 176, .none, .none, .none, .ref 177, .int 411 0, .int 158 0, .str (Str.ofString "/claim/cut.py") 412]) (t := 409) (by kernel_rfl) (by kernel_rfl) (by kernel_rfl) (by kernel_rfl) (by kernel_rfl) (by kernel_rfl) (by kernel_rfl)), fun vs h => by
    match vs, h with
    | [x], _ => kernel_rfl⟩
theorem z_law_row (P : Params) : FnS (headO P) 184 27 nm_law_row 1 :=
  ⟨fnData (Str.ofString "_law_row") 27 (.none) (.none) (.str (Str.ofString "law_ux0021_01") 373) 183, (fnK_of (vs := #[.str (Str.ofString "_law_row") 414, .str (Str.ofString "_law_row") 415, .str (Str.ofString "/claim/cut.py") 416, .int 173 0, .int 1 0, .int 0 0, .int 0 0, .int 3 0, .ref 180, .bool true, .int 181 0, .ref 181, .none, .none, .none, .ref 182, .int 417 0, .int 173 0, .str (Str.ofString "/claim/cut.py") 418]) (t := 415) (by kernel_rfl) (by kernel_rfl) (by kernel_rfl) (by kernel_rfl) (by kernel_rfl) (by kernel_rfl) (by kernel_rfl)), fun vs h => by
    match vs, h with
    | [x], _ => kernel_rfl⟩
theorem z_strip (P : Params) : FnS (headO P) 28 2 nm_strip 1 :=
  ⟨fnData (Str.ofString "_strip_quoted_realnames") 2 (.none) (.none) (.str (Str.ofString "cpy313.email.utils") 187) 27, (fnK_of (vs := #[.str (Str.ofString "_strip_quoted_realnames") 199, .str (Str.ofString "_strip_quoted_realnames") 200, .str (Str.ofString "/claim/cut.py") 201, .int 15 0, .int 1 0, .int 0 0, .int 0 0, .int 3 0, .ref 22, .bool true, .int 181 0, .ref 23, .none, .ref 24, .ref 25, .ref 26, .int 208 0, .int 15 0, .str (Str.ofString "/claim/cut.py") 209]) (t := 200) (by kernel_rfl) (by kernel_rfl) (by kernel_rfl) (by kernel_rfl) (by kernel_rfl) (by kernel_rfl) (by kernel_rfl)), fun vs h => by
    match vs, h with
    | [x], _ => kernel_rfl⟩
theorem z_check (P : Params) : FnS (headO P) 35 3 nm_check 1 :=
  ⟨fnData (Str.ofString "_check_parenthesis") 3 (.none) (.none) (.str (Str.ofString "cpy313.email.utils") 187) 34, (fnK_of (vs := #[.str (Str.ofString "_check_parenthesis") 211, .str (Str.ofString "_check_parenthesis") 212, .str (Str.ofString "/claim/cut.py") 213, .int 33 0, .int 1 0, .int 0 0, .int 0 0, .int 3 0, .ref 29, .bool true, .int 181 0, .ref 30, .none, .ref 31, .ref 32, .ref 33, .int 218 0, .int 33 0, .str (Str.ofString "/claim/cut.py") 219]) (t := 212) (by kernel_rfl) (by kernel_rfl) (by kernel_rfl) (by kernel_rfl) (by kernel_rfl) (by kernel_rfl) (by kernel_rfl)), fun vs h => by
    match vs, h with
    | [x], _ => kernel_rfl⟩
theorem z_bisect_right (P : Params) : FnBS (headO P) 53 6 nm_bisect_right :=
  ⟨fnData (Str.ofString "bisect_right") 6 (.ref 45) (.ref 46) (.str (Str.ofString "cpy313.bisect") 221) 52, 236, (fnK_of (vs := #[.str (Str.ofString "bisect_right") 238, .str (Str.ofString "bisect_right") 239, .str (Str.ofString "/claim/cut.py") 240, .int 51 0, .int 4 0, .int 0 0, .int 1 0, .int 3 0, .ref 47, .bool true, .int 181 0, .ref 48, .none, .ref 49, .ref 50, .ref 51, .int 247 0, .int 51 0, .str (Str.ofString "/claim/cut.py") 248]) (t := 239) (by kernel_rfl) (by kernel_rfl) (by kernel_rfl) (by kernel_rfl) (by kernel_rfl) (by kernel_rfl) (by kernel_rfl)), fun S x y => ⟨by kernel_rfl, fun kv => by kernel_rfl, fun lo hi => by kernel_rfl, fun lo hi kv => by kernel_rfl⟩⟩
theorem z_bisect_left (P : Params) : FnBS (headO P) 71 8 nm_bisect_left :=
  ⟨fnData (Str.ofString "bisect_left") 8 (.ref 63) (.ref 64) (.str (Str.ofString "cpy313.bisect") 221) 70, 263, (fnK_of (vs := #[.str (Str.ofString "bisect_left") 265, .str (Str.ofString "bisect_left") 266, .str (Str.ofString "/claim/cut.py") 267, .int 77 0, .int 4 0, .int 0 0, .int 1 0, .int 3 0, .ref 65, .bool true, .int 181 0, .ref 66, .none, .ref 67, .ref 68, .ref 69, .int 274 0, .int 77 0, .str (Str.ofString "/claim/cut.py") 275]) (t := 266) (by kernel_rfl) (by kernel_rfl) (by kernel_rfl) (by kernel_rfl) (by kernel_rfl) (by kernel_rfl) (by kernel_rfl)), fun S x y => ⟨by kernel_rfl, fun kv => by kernel_rfl, fun lo hi => by kernel_rfl, fun lo hi kv => by kernel_rfl⟩⟩
theorem z_insort_right (P : Params) : FnBS (headO P) 44 5 nm_insort_right :=
  ⟨fnData (Str.ofString "insort_right") 5 (.ref 36) (.ref 37) (.str (Str.ofString "cpy313.bisect") 221) 43, 223, (fnK_of (vs := #[.str (Str.ofString "insort_right") 225, .str (Str.ofString "insort_right") 226, .str (Str.ofString "/claim/cut.py") 227, .int 45 0, .int 4 0, .int 0 0, .int 1 0, .int 3 0, .ref 38, .bool true, .int 181 0, .ref 39, .none, .ref 40, .ref 41, .ref 42, .int 233 0, .int 45 0, .str (Str.ofString "/claim/cut.py") 234]) (t := 226) (by kernel_rfl) (by kernel_rfl) (by kernel_rfl) (by kernel_rfl) (by kernel_rfl) (by kernel_rfl) (by kernel_rfl)), fun S x y => ⟨by kernel_rfl, fun kv => by kernel_rfl, fun lo hi => by kernel_rfl, fun lo hi kv => by kernel_rfl⟩⟩
theorem z_insort_left (P : Params) : FnBS (headO P) 62 7 nm_insort_left :=
  ⟨fnData (Str.ofString "insort_left") 7 (.ref 54) (.ref 55) (.str (Str.ofString "cpy313.bisect") 221) 61, 250, (fnK_of (vs := #[.str (Str.ofString "insort_left") 252, .str (Str.ofString "insort_left") 253, .str (Str.ofString "/claim/cut.py") 254, .int 71 0, .int 4 0, .int 0 0, .int 1 0, .int 3 0, .ref 56, .bool true, .int 181 0, .ref 57, .none, .ref 58, .ref 59, .ref 60, .int 260 0, .int 71 0, .str (Str.ofString "/claim/cut.py") 261]) (t := 253) (by kernel_rfl) (by kernel_rfl) (by kernel_rfl) (by kernel_rfl) (by kernel_rfl) (by kernel_rfl) (by kernel_rfl)), fun S x y => ⟨by kernel_rfl, fun kv => by kernel_rfl, fun lo hi => by kernel_rfl, fun lo hi kv => by kernel_rfl⟩⟩
theorem z_gen (P : Params) : genFn (headO P) := ⟨fnData (Str.ofString "_iter_escaped_chars") 1 (.none) (.none) (.str (Str.ofString "cpy313.email.utils") 187) 20, (fnK_of (vs := #[.str (Str.ofString "_iter_escaped_chars") 189, .str (Str.ofString "_iter_escaped_chars") 190, .str (Str.ofString "/claim/cut.py") 191, .int 2 0, .int 1 0, .int 0 0, .int 0 0, .int 35 0, .ref 15, .bool true, .int 181 0, .ref 16, .none, .ref 17, .ref 18, .ref 19, .int 196 0, .int 2 0, .str (Str.ofString "/claim/cut.py") 197]) (t := 190) (by kernel_rfl) (by kernel_rfl) (by kernel_rfl) (by kernel_rfl) (by kernel_rfl) (by kernel_rfl) (by kernel_rfl)), fun y t => by kernel_rfl⟩
theorem z_law (P : Params) : ∃ fd, FnK (headO P) 196 29 nm_law false fd ∧ fd.code = .ref 195 ∧ ∀ vs, vs.length = 1 → bindArgs fd ⟨vs, []⟩ = pure ((nm_law.map (·.1)).zip vs) :=
  ⟨fnData (Str.ofString "law") 29 (.none) (.none) (.str (Str.ofString "law_ux0021_01") 373) 195, (fnK_of (vs := #[.str (Str.ofString "law") 427, .str (Str.ofString "law") 428, .str (Str.ofString "/claim/cut.py") 429, .int 187 0, .int 1 0, .int 0 0, .int 0 0, .int 3 0, .ref 192, .bool true, .int 181 0, .ref 193, .none, .none, .none, .ref 194, .int 430 0, .int 187 0, .str (Str.ofString "/claim/cut.py") 431]) (t := 428) (by kernel_rfl) (by kernel_rfl) (by kernel_rfl) (by kernel_rfl) (by kernel_rfl) (by kernel_rfl) (by kernel_rfl)), rfl, fun vs h => by
    match vs, h with
    | [x], _ => kernel_rfl⟩
theorem headK (P : Params) : HeadK (headO P) where
  tabs := by kernel_rfl
  cd := by kernel_rfl
  names := by kernel_rfl
  gens := by kernel_rfl
  strips := by kernel_rfl
  nones := by kernel_rfl
  gen := z_gen P
  strip := z_strip P
  check := z_check P
  law_dress := z_law_dress P
  lt := z_lt P
  gt := z_gt P
  add := z_add P
  mul := z_mul P
  sub := z_sub P
  concat := z_concat P
  countOf := z_countOf P
  delitem := z_delitem P
  getitem := z_getitem P
  indexOf := z_indexOf P
  setitem := z_setitem P
  law_middle := z_law_middle P
  bisect_right := z_bisect_right P
  bisect_left := z_bisect_left P
  insort_right := z_insort_right P
  insort_left := z_insort_left P
  law_signs := z_law_signs P
  law_mates := z_law_mates P
  law_pairs := z_law_pairs P
  law_order := z_law_order P
  law_row := z_law_row P
  law := z_law P
end Mine
end

section
set_option maxHeartbeats 4000000
namespace Mine

/-! the runs -/
noncomputable def isT (r : Option (Fl × LV × Hp)) : Bool := match r with
  | some (.ret (.bool true), _) => true
  | _ => false
theorem isT_eq {r : Option (Fl × LV × Hp)} (h : isT r = true) : ∃ lv σ, r = some (.ret (.bool true), lv, σ) := by
  unfold isT at h
  split at h
  · rename_i q; exact ⟨q.1, q.2, rfl⟩
  · cases h
noncomputable abbrev runs (par : List (Option Int)) : Bool := isT (X_law par (initLv 49 [.scr]) hnil)
noncomputable def parL (sv : Nat → Int) : Nat → List (Option Int) → Prop
  | _, [] => True
  | i, none :: r => parL sv (i + 1) r
  | i, some p :: r => (sv i).fmod 2 = p ∧ parL sv (i + 1) r
theorem parL_get {sv : Nat → Int} : ∀ {r : List (Option Int)} {i : Nat}, parL sv i r → ∀ (k : Nat) (p : Int), r[k]? = some (some p) → (sv (i + k)).fmod 2 = p
  | [], _, _, k, p, e => by simp at e
  | none :: r, i, h, 0, p, e => by simp at e
  | none :: r, i, h, k + 1, p, e => by
    have := parL_get (r := r) (i := i + 1) h k p (by simpa using e)
    rw [show i + (k + 1) = i + 1 + k by omega]; exact this
  | some q :: r, i, h, 0, p, e => by
    have : q = p := by simpa using e
    rw [← this]; exact h.1
  | some q :: r, i, h, k + 1, p, e => by
    have := parL_get (r := r) (i := i + 1) h.2 k p (by simpa using e)
    rw [show i + (k + 1) = i + 1 + k by omega]; exact this
theorem use_leaf {sv : Nat → Int} {par : List (Option Int)} (hr : runs par = true) (h : parL sv 0 par) :
    ∃ par lv' σ', (∀ (k : Nat) (p : Int), par[k]? = some (some p) → (sv k).fmod 2 = p) ∧ X_law par (initLv nm_law.length [.scr]) hnil = some (.ret (.bool true), lv', σ') := by
  obtain ⟨lv, σ, e⟩ := isT_eq hr
  exact ⟨par, lv, σ, fun k p q => by have := parL_get h k p q; rwa [Nat.zero_add] at this, e⟩
theorem fmod2 (x : Int) : x.fmod 2 = 0 ∨ x.fmod 2 = 1 := by
  rw [Int.fmod_eq_emod_of_nonneg _ (by decide)]; omega
theorem run_0 : runs [none, some 0, some 0, some 0, some 0, some 0, some 0, none, none, none] = true := by decide +kernel
theorem run_1 : runs [none, some 0, some 0, some 0, some 0, some 0, some 1, some 0, none, none] = true := by decide +kernel
theorem run_2 : runs [none, some 0, some 0, some 0, some 0, some 0, some 1, some 1, none, none] = true := by decide +kernel
theorem run_3 : runs [none, some 0, some 0, some 0, some 0, some 1, none, none, none, none] = true := by decide +kernel
theorem run_4 : runs [none, some 0, some 0, some 0, some 1, some 0, none, some 0, none, none] = true := by decide +kernel
theorem run_5 : runs [none, some 0, some 0, some 0, some 1, some 0, none, some 1, none, none] = true := by decide +kernel
theorem run_6 : runs [none, some 0, some 0, some 0, some 1, some 1, some 0, none, none, none] = true := by decide +kernel
theorem run_7 : runs [none, some 0, some 0, some 0, some 1, some 1, some 1, some 0, none, none] = true := by decide +kernel
theorem run_8 : runs [none, some 0, some 0, some 0, some 1, some 1, some 1, some 1, none, none] = true := by decide +kernel
theorem run_9 : runs [none, some 0, some 0, some 1, none, some 0, none, some 0, none, none] = true := by decide +kernel
theorem run_10 : runs [none, some 0, some 0, some 1, none, some 0, none, some 1, none, none] = true := by decide +kernel
theorem run_11 : runs [none, some 0, some 0, some 1, none, some 1, some 0, none, none, none] = true := by decide +kernel
theorem run_12 : runs [none, some 0, some 0, some 1, none, some 1, some 1, some 0, none, none] = true := by decide +kernel
theorem run_13 : runs [none, some 0, some 0, some 1, none, some 1, some 1, some 1, none, none] = true := by decide +kernel
theorem run_14 : runs [none, some 0, some 1, some 0, some 0, none, none, none, none, none] = true := by decide +kernel
theorem run_15 : runs [none, some 0, some 1, some 0, some 1, some 0, some 0, none, none, none] = true := by decide +kernel
theorem run_16 : runs [none, some 0, some 1, some 0, some 1, some 0, some 1, some 0, none, none] = true := by decide +kernel
theorem run_17 : runs [none, some 0, some 1, some 0, some 1, some 0, some 1, some 1, none, none] = true := by decide +kernel
theorem run_18 : runs [none, some 0, some 1, some 0, some 1, some 1, none, none, none, none] = true := by decide +kernel
theorem run_19 : runs [none, some 0, some 1, some 1, some 0, some 0, some 0, none, none, none] = true := by decide +kernel
theorem run_20 : runs [none, some 0, some 1, some 1, some 0, some 0, some 1, some 0, none, none] = true := by decide +kernel
theorem run_21 : runs [none, some 0, some 1, some 1, some 0, some 0, some 1, some 1, none, none] = true := by decide +kernel
theorem run_22 : runs [none, some 0, some 1, some 1, some 0, some 1, none, none, none, none] = true := by decide +kernel
theorem run_23 : runs [none, some 0, some 1, some 1, some 1, some 0, none, some 0, none, none] = true := by decide +kernel
theorem run_24 : runs [none, some 0, some 1, some 1, some 1, some 0, none, some 1, none, none] = true := by decide +kernel
theorem run_25 : runs [none, some 0, some 1, some 1, some 1, some 1, some 0, none, none, none] = true := by decide +kernel
theorem run_26 : runs [none, some 0, some 1, some 1, some 1, some 1, some 1, some 0, none, none] = true := by decide +kernel
theorem run_27 : runs [none, some 0, some 1, some 1, some 1, some 1, some 1, some 1, none, none] = true := by decide +kernel
theorem run_28 : runs [none, some 1, none, some 0, some 0, some 0, some 0, none, none, none] = true := by decide +kernel
theorem run_29 : runs [none, some 1, none, some 0, some 0, some 0, some 1, some 0, none, none] = true := by decide +kernel
theorem run_30 : runs [none, some 1, none, some 0, some 0, some 0, some 1, some 1, none, none] = true := by decide +kernel
theorem run_31 : runs [none, some 1, none, some 0, some 0, some 1, none, none, none, none] = true := by decide +kernel
theorem run_32 : runs [none, some 1, none, some 0, some 1, some 0, none, some 0, none, none] = true := by decide +kernel
theorem run_33 : runs [none, some 1, none, some 0, some 1, some 0, none, some 1, none, none] = true := by decide +kernel
theorem run_34 : runs [none, some 1, none, some 0, some 1, some 1, some 0, none, none, none] = true := by decide +kernel
theorem run_35 : runs [none, some 1, none, some 0, some 1, some 1, some 1, some 0, none, none] = true := by decide +kernel
theorem run_36 : runs [none, some 1, none, some 0, some 1, some 1, some 1, some 1, none, none] = true := by decide +kernel
theorem run_37 : runs [none, some 1, none, some 1, none, some 0, none, some 0, none, none] = true := by decide +kernel
theorem run_38 : runs [none, some 1, none, some 1, none, some 0, none, some 1, none, none] = true := by decide +kernel
theorem run_39 : runs [none, some 1, none, some 1, none, some 1, some 0, none, none, none] = true := by decide +kernel
theorem run_40 : runs [none, some 1, none, some 1, none, some 1, some 1, some 0, none, none] = true := by decide +kernel
theorem run_41 : runs [none, some 1, none, some 1, none, some 1, some 1, some 1, none, none] = true := by decide +kernel
theorem ev_all (sv : Nat → Int) : ∃ par lv' σ', (∀ (k : Nat) (p : Int), par[k]? = some (some p) → (sv k).fmod 2 = p) ∧ X_law par (initLv nm_law.length [.scr]) hnil = some (.ret (.bool true), lv', σ') := by
  have hp : ∀ k, (sv k).fmod 2 = 0 ∨ (sv k).fmod 2 = 1 := fun k => fmod2 _
  rcases hp 1 with h1 | h1
  · rcases hp 2 with h2 | h2
    · rcases hp 3 with h3 | h3
      · rcases hp 4 with h4 | h4
        · rcases hp 5 with h5 | h5
          · rcases hp 6 with h6 | h6
            · exact use_leaf run_0 ⟨h1, h2, h3, h4, h5, h6, trivial⟩
            · rcases hp 7 with h7 | h7
              · exact use_leaf run_1 ⟨h1, h2, h3, h4, h5, h6, h7, trivial⟩
              · exact use_leaf run_2 ⟨h1, h2, h3, h4, h5, h6, h7, trivial⟩
          · exact use_leaf run_3 ⟨h1, h2, h3, h4, h5, trivial⟩
        · rcases hp 5 with h5 | h5
          · rcases hp 7 with h7 | h7
            · exact use_leaf run_4 ⟨h1, h2, h3, h4, h5, h7, trivial⟩
            · exact use_leaf run_5 ⟨h1, h2, h3, h4, h5, h7, trivial⟩
          · rcases hp 6 with h6 | h6
            · exact use_leaf run_6 ⟨h1, h2, h3, h4, h5, h6, trivial⟩
            · rcases hp 7 with h7 | h7
              · exact use_leaf run_7 ⟨h1, h2, h3, h4, h5, h6, h7, trivial⟩
              · exact use_leaf run_8 ⟨h1, h2, h3, h4, h5, h6, h7, trivial⟩
      · rcases hp 5 with h5 | h5
        · rcases hp 7 with h7 | h7
          · exact use_leaf run_9 ⟨h1, h2, h3, h5, h7, trivial⟩
          · exact use_leaf run_10 ⟨h1, h2, h3, h5, h7, trivial⟩
        · rcases hp 6 with h6 | h6
          · exact use_leaf run_11 ⟨h1, h2, h3, h5, h6, trivial⟩
          · rcases hp 7 with h7 | h7
            · exact use_leaf run_12 ⟨h1, h2, h3, h5, h6, h7, trivial⟩
            · exact use_leaf run_13 ⟨h1, h2, h3, h5, h6, h7, trivial⟩
    · rcases hp 3 with h3 | h3
      · rcases hp 4 with h4 | h4
        · exact use_leaf run_14 ⟨h1, h2, h3, h4, trivial⟩
        · rcases hp 5 with h5 | h5
          · rcases hp 6 with h6 | h6
            · exact use_leaf run_15 ⟨h1, h2, h3, h4, h5, h6, trivial⟩
            · rcases hp 7 with h7 | h7
              · exact use_leaf run_16 ⟨h1, h2, h3, h4, h5, h6, h7, trivial⟩
              · exact use_leaf run_17 ⟨h1, h2, h3, h4, h5, h6, h7, trivial⟩
          · exact use_leaf run_18 ⟨h1, h2, h3, h4, h5, trivial⟩
      · rcases hp 4 with h4 | h4
        · rcases hp 5 with h5 | h5
          · rcases hp 6 with h6 | h6
            · exact use_leaf run_19 ⟨h1, h2, h3, h4, h5, h6, trivial⟩
            · rcases hp 7 with h7 | h7
              · exact use_leaf run_20 ⟨h1, h2, h3, h4, h5, h6, h7, trivial⟩
              · exact use_leaf run_21 ⟨h1, h2, h3, h4, h5, h6, h7, trivial⟩
          · exact use_leaf run_22 ⟨h1, h2, h3, h4, h5, trivial⟩
        · rcases hp 5 with h5 | h5
          · rcases hp 7 with h7 | h7
            · exact use_leaf run_23 ⟨h1, h2, h3, h4, h5, h7, trivial⟩
            · exact use_leaf run_24 ⟨h1, h2, h3, h4, h5, h7, trivial⟩
          · rcases hp 6 with h6 | h6
            · exact use_leaf run_25 ⟨h1, h2, h3, h4, h5, h6, trivial⟩
            · rcases hp 7 with h7 | h7
              · exact use_leaf run_26 ⟨h1, h2, h3, h4, h5, h6, h7, trivial⟩
              · exact use_leaf run_27 ⟨h1, h2, h3, h4, h5, h6, h7, trivial⟩
  · rcases hp 3 with h3 | h3
    · rcases hp 4 with h4 | h4
      · rcases hp 5 with h5 | h5
        · rcases hp 6 with h6 | h6
          · exact use_leaf run_28 ⟨h1, h3, h4, h5, h6, trivial⟩
          · rcases hp 7 with h7 | h7
            · exact use_leaf run_29 ⟨h1, h3, h4, h5, h6, h7, trivial⟩
            · exact use_leaf run_30 ⟨h1, h3, h4, h5, h6, h7, trivial⟩
        · exact use_leaf run_31 ⟨h1, h3, h4, h5, trivial⟩
      · rcases hp 5 with h5 | h5
        · rcases hp 7 with h7 | h7
          · exact use_leaf run_32 ⟨h1, h3, h4, h5, h7, trivial⟩
          · exact use_leaf run_33 ⟨h1, h3, h4, h5, h7, trivial⟩
        · rcases hp 6 with h6 | h6
          · exact use_leaf run_34 ⟨h1, h3, h4, h5, h6, trivial⟩
          · rcases hp 7 with h7 | h7
            · exact use_leaf run_35 ⟨h1, h3, h4, h5, h6, h7, trivial⟩
            · exact use_leaf run_36 ⟨h1, h3, h4, h5, h6, h7, trivial⟩
    · rcases hp 5 with h5 | h5
      · rcases hp 7 with h7 | h7
        · exact use_leaf run_37 ⟨h1, h3, h5, h7, trivial⟩
        · exact use_leaf run_38 ⟨h1, h3, h5, h7, trivial⟩
      · rcases hp 6 with h6 | h6
        · exact use_leaf run_39 ⟨h1, h3, h5, h6, trivial⟩
        · rcases hp 7 with h7 | h7
          · exact use_leaf run_40 ⟨h1, h3, h5, h6, h7, trivial⟩
          · exact use_leaf run_41 ⟨h1, h3, h5, h6, h7, trivial⟩
end Mine
end

section
set_option maxHeartbeats 8000000
namespace Mine

/-! the head -/
noncomputable abbrev pw : Program := PySem.Challenge.pw_ux0021_01
noncomputable def keepIx : List Nat := [1, 2, 3, 10, 11, 12, 13, 14, 15, 16, 17, 18, 19, 20, 22, 23, 24, 25, 26, 27, 28, 29]
noncomputable def viewQ : Program := { pw with main := { pw.main with body := keepIx.filterMap (pw.main.body[·]?) } }
noncomputable def looseQ : List Str := [Str.ofString "insort_right", Str.ofString "bisect_right", Str.ofString "insort_left", Str.ofString "bisect_left"]
noncomputable abbrev rowQ : OpenRow := PySem.Challenge.rw_ux0021_01.row
noncomputable def hookQ : Hook := kmHook headO [3, 20, 21, 27, 28, 34, 35, 36, 37, 43, 44, 45, 46, 52, 53, 54, 55, 61, 62, 63, 64, 70, 71, 77, 78, 84, 85, 91, 92, 98, 99, 105, 106, 112, 113, 119, 120, 126, 127, 133, 134, 140, 141, 147, 148, 154, 155, 161, 162, 168, 169, 173, 174, 178, 179, 183, 184, 190, 191, 195, 196] (fun P => by kernel_rfl) [193]
theorem said : PySem.Challenge.rw_ux0021_01.wellSaid = true := by kernel_rfl
theorem leftQ : LeftO pw viewQ looseQ (fun s => xlAt viewQ [] s && recOk (RowW.records rowQ.toRowW) s) (Hook.obs hookQ) (Hook.val hookQ) 1842 := by
  intro w
  kernel_rfl
end Mine
end

section
set_option maxHeartbeats 8000000
theorem PySem.Challenge.cw_ux0021_01_holds : PySem.Challenge.rw_ux0021_01.Holds := by
  refine holds_law Mine.said fun hsaid => ?_
  refine holds_open (q := Mine.viewQ) (loose := Mine.looseQ) (Xt := fun s => xlAt Mine.viewQ [] s && recOk (RowW.records Mine.rowQ.toRowW) s) (XP := XL Mine.viewQ []) (Yf := Hook.obs Mine.hookQ) (Ya := Hook.val Mine.hookQ) (YP := Hook.says Mine.hookQ) (N := 1842)
    Mine.leftQ (Hook.of Mine.hookQ) (Hook.keeps Mine.hookQ) (fun s e => xl_of s (Bool.and_eq_true_iff.mp e).1) XL.keeps (by rfl) (by rfl) (by rfl) (fun s e => recFacts_of (Bool.and_eq_true_iff.mp e).2) (by rfl) hsaid (by decide +kernel) ⟨rfl, rfl, rfl, rfl, rfl, by decide +kernel⟩ ?hw ?hc
  case hw => exact ⟨[.list [.int 3, .int 1]], by decide +kernel, by decide +kernel⟩
  case hc =>
    intro w s₀ s₁ mg mb G Y fa o pm cd doc dV kV ho hdd hcd hD hmg hg args vals as hpre hlay hrd hwl hlo
    have KX := km_in_of Y
    have hT8 := km_tabs_of Y
    refine Ground.open G ?_
    intro T B D TE TW
    wrow_args hpre hlay hrd hwl hlo
    rename IntsAre _ _ => hI
    rename Heap.IsList _ _ _ => hL
    rename ¬ _ < _ => hc
    refine Mine.law_final (Mine.headK w.params) KX (hT8 193 (by simp)) T hg hL hI (by omega) hmg Mine.ev_all fun s' h1 h2 h3 => ?_
    exact ⟨.inl ⟨_, _, _, rfl, fun _ => rfl, .bool true, (by exact postW_of rfl (w_eq_bool (w_res rfl) w_lit) rfl), fun _ => ⟨List.nodup_nil, fun a ha => by cases ha⟩⟩, h1, h2, h3⟩
#print axioms PySem.Challenge.cw_ux0021_01_holds
end
