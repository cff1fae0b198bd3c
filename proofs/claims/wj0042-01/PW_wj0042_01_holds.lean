import PyProof.Rows.All
import Wide.All
import OpenK.AllK
import Wide.FinOn
import PySem.Challenge.RW_wj0042_01
set_option Elab.async false
section
open PySem PySem.W PyProof.Rows
set_option maxRecDepth 100000
set_option maxHeartbeats 8000000
namespace Mine
open_top hd for PySem.Challenge.rw_wj0042_01
end Mine
end
section
open PySem PySem.W PyProof.Rows PySem.Calls PySem.Spec
set_option maxRecDepth 100000
namespace Mine

theorem no_some {α : Type} {x : α} (h : (none : Option α) = some x) : False := by cases h
noncomputable def orr {α : Type} : Option α → Option α → Option α
  | some d, _ => some d
  | none, y => y
theorem orr_some {α : Type} {x y : Option α} {d : α} (h : orr x y = some d) : x = some d ∨ y = some d := by
  cases x with
  | none => exact .inr h
  | some z => exact .inl h
noncomputable def bind2 {α β γ : Type} (x : Option α) (y : Option β) (f : α → β → Option γ) : Option γ := x.bind fun a => y.bind fun b => f a b
theorem bind_ex {α β : Type} {x : Option α} {f : α → Option β} {d : β} (h : x.bind f = some d) : ∃ a, x = some a ∧ f a = some d := by
  cases x with
  | none => exfalso; exact no_some h
  | some a => exact ⟨a, rfl, h⟩
theorem map_ex {α β : Type} {x : Option α} {f : α → β} {d : β} (h : x.map f = some d) : ∃ a, x = some a ∧ f a = d := by
  cases x with
  | none => exfalso; exact no_some h
  | some a => exact ⟨a, rfl, Option.some.inj h⟩
theorem bind2_ex {α β γ : Type} {x : Option α} {y : Option β} {f : α → β → Option γ} {d : γ} (h : bind2 x y f = some d) : ∃ a b, x = some a ∧ y = some b ∧ f a b = some d := by
  obtain ⟨a, ha, h⟩ := bind_ex h
  obtain ⟨b, hb, h⟩ := bind_ex h
  exact ⟨a, b, ha, hb, h⟩
theorem ite_ex {α : Type} {c : Prop} [Decidable c] {x : Option α} {d : α} (h : (if c then x else none) = some d) : c ∧ x = some d := by
  by_cases q : c
  · rw [if_pos q] at h; exact ⟨q, h⟩
  · rw [if_neg q] at h; exfalso; exact no_some h
theorem ite_eq {α : Type} {c : Prop} [Decidable c] {x d : α} (h : (if c then some x else none) = some d) : c ∧ x = d := ⟨(ite_ex h).1, Option.some.inj (ite_ex h).2⟩

noncomputable def one? {α : Type} : List α → Option α
  | [a] => some a
  | [] => none
  | _ :: _ :: _ => none
theorem one_eq {α : Type} {l : List α} {a : α} (h : one? l = some a) : l = [a] := by
  cases l with
  | nil => exfalso; exact no_some h
  | cons b l => cases l with
    | nil => rw [Option.some.inj h]
    | cons => exfalso; exact no_some h
noncomputable def pair? {α : Type} : List α → Option (α × α)
  | a :: l => (one? l).map fun b => (a, b)
  | [] => none
theorem pair_eq {α : Type} {l : List α} {p : α × α} (h : pair? l = some p) : l = [p.1, p.2] := by
  cases l with
  | nil => exfalso; exact no_some h
  | cons a l =>
    obtain ⟨b, hb, rfl⟩ := map_ex h
    rw [one_eq hb]
theorem len1 {α : Type} {l : List α} (h : l.length = 1) : ∃ a, l = [a] := List.length_eq_one_iff.mp h
theorem len_cons {α : Type} {l : List α} {n : Nat} (h : l.length = n + 1) : ∃ a r, l = a :: r ∧ r.length = n := by
  cases l with
  | nil => exact absurd h (Nat.succ_ne_zero n).symm
  | cons a r => exact ⟨a, r, rfl, Nat.succ.inj h⟩
theorem len2 {α : Type} {l : List α} (h : l.length = 2) : ∃ a b, l = [a, b] := by
  obtain ⟨a, r, rfl, h2⟩ := len_cons h
  obtain ⟨b, rfl⟩ := len1 h2
  exact ⟨a, b, rfl⟩
theorem len3 {α : Type} {l : List α} (h : l.length = 3) : ∃ a b c, l = [a, b, c] := by
  obtain ⟨a, r, rfl, h2⟩ := len_cons h
  obtain ⟨b, c, rfl⟩ := len2 h2
  exact ⟨a, b, c, rfl⟩
theorem all_nil {α : Type} {P : α → Prop} : ∀ q ∈ ([] : List α), P q := fun _ h => (List.not_mem_nil h).elim
theorem all_cons {α : Type} {P : α → Prop} {a : α} {l : List α} (h : P a) (t : ∀ q ∈ l, P q) : ∀ q ∈ a :: l, P q := fun _ m => match m with
  | .head _ => h
  | .tail _ m => t _ m
theorem m0 {α : Type} {a : α} {l : List α} : a ∈ a :: l := .head _
theorem m1 {α : Type} {a b : α} {l : List α} : b ∈ a :: b :: l := .tail _ m0
theorem m2 {α : Type} {a b c : α} {l : List α} : c ∈ a :: b :: c :: l := .tail _ m1
theorem m3 {α : Type} {a b c d : α} {l : List α} : d ∈ a :: b :: c :: d :: l := .tail _ m2
theorem m4 {α : Type} {a b c d e : α} {l : List α} : e ∈ a :: b :: c :: d :: e :: l := .tail _ m3
noncomputable def trip? {α : Type} : List α → Option (α × α × α)
  | a :: l => (pair? l).map fun b => (a, b)
  | [] => none
theorem trip_eq {α : Type} {l : List α} {p : α × α × α} (h : trip? l = some p) : l = [p.1, p.2.1, p.2.2] := by
  cases l with
  | nil => exfalso; exact no_some h
  | cons a l =>
    obtain ⟨b, hb, rfl⟩ := map_ex h
    rw [pair_eq hb]
theorem getD_ex {o : Option Bool} (h : o.getD false = true) : o = some true := by
  cases o with
  | none => exfalso; exact Bool.false_ne_true h
  | some b => exact congrArg some h
/-- a product of powers of the three unknowns -/
structure Mo where
  a : Nat
  b : Nat
  c : Nat
noncomputable abbrev Po := List (Mo × Int)

/-- what the unknowns are; o: what is known of the values that are not looked into -/
structure Rho where
  x : Int
  y : Int
  z : Int
  hx : x.natAbs ≤ 3
  hy : y.natAbs ≤ 81
  hz : z.natAbs ≤ 81
  o : Nat → Value → Prop

noncomputable def Mo.ev [ρ : Inhabited Rho] (m : Mo) : Int := ρ.default.x ^ m.a * ρ.default.y ^ m.b * ρ.default.z ^ m.c
noncomputable def Po.ev [Inhabited Rho] : Po → Int
  | [] => 0
  | (m, c) :: r => c * m.ev + Po.ev r

noncomputable def Mo.same (m n : Mo) : Bool := Nat.beq m.a n.a && (Nat.beq m.b n.b && Nat.beq m.c n.c)
noncomputable def Mo.mul (m n : Mo) : Mo := ⟨m.a + n.a, m.b + n.b, m.c + n.c⟩
noncomputable def Po.consZ (m : Mo) (c : Int) (r : Po) : Po := match c with
  | .ofNat 0 => r
  | c => (m, c) :: r
noncomputable def Po.ins (m : Mo) (c : Int) : Po → Po
  | [] => [(m, c)]
  | (n, e) :: r => if m.same n then Po.consZ m (c + e) r else (n, e) :: Po.ins m c r
noncomputable def Po.add : Po → Po → Po
  | [], q => q
  | (m, c) :: r, q => Po.ins m c (Po.add r q)
noncomputable def Po.term (m : Mo) (c : Int) : Po → Po
  | [] => []
  | (n, e) :: r => (m.mul n, c * e) :: Po.term m c r
noncomputable def Po.mul : Po → Po → Po
  | [], _ => []
  | (m, c) :: r, q => Po.add (Po.term m c q) (Po.mul r q)
noncomputable def Po.neg : Po → Po
  | [] => []
  | (m, c) :: r => (m, -c) :: Po.neg r
noncomputable def Po.nul : Po → Bool
  | [] => true
  | (_, .ofNat 0) :: r => Po.nul r
  | _ => false
noncomputable def Po.bnd : Po → Nat
  | [] => 0
  | (m, c) :: r => c.natAbs * (3 ^ m.a * 81 ^ m.b * 81 ^ m.c) + Po.bnd r
noncomputable def Po.con (i : Int) : Po := [(⟨0, 0, 0⟩, i)]
noncomputable def Po.pow (p : Po) : Nat → Po
  | 0 => Po.con 1
  | n + 1 => Po.mul (Po.pow p n) p

section
variable [ρ : Inhabited Rho]
theorem Mo.ev_mul (m n : Mo) : (m.mul n).ev = m.ev * n.ev := by
  simp only [Mo.ev, Mo.mul, Int.pow_add]
  ac_rfl
theorem Mo.ev_same {m n : Mo} (h : m.same n = true) : m.ev = n.ev := by
  unfold Mo.same at h
  rw [Bool.and_eq_true, Bool.and_eq_true] at h
  obtain ⟨a, b, c⟩ := h
  unfold Mo.ev
  rw [Nat.eq_of_beq_eq_true a, Nat.eq_of_beq_eq_true b, Nat.eq_of_beq_eq_true c]
theorem Po.ev_consZ (m : Mo) (c : Int) (r : Po) : (Po.consZ m c r).ev = c * m.ev + Po.ev r := by
  unfold Po.consZ
  split
  · simp
  · rfl
theorem Po.ev_ins (m : Mo) (c : Int) : ∀ p : Po, (Po.ins m c p).ev = c * m.ev + p.ev
  | [] => rfl
  | (n, e) :: r => by
    unfold Po.ins
    split
    · rename_i h
      rw [Po.ev_consZ]
      show (c + e) * m.ev + (Po.ev r) = c * m.ev + (e * n.ev + (Po.ev r))
      rw [Mo.ev_same h, Int.add_mul, Int.add_assoc]
    · show e * n.ev + (Po.ins m c r).ev = c * m.ev + (e * n.ev + (Po.ev r))
      rw [Po.ev_ins m c r]
      omega
theorem Po.ev_add : ∀ p q : Po, (Po.add p q).ev = p.ev + q.ev
  | [], q => by show q.ev = 0 + q.ev; omega
  | (m, c) :: r, q => by
    show (Po.ins m c (Po.add r q)).ev = c * m.ev + (Po.ev r) + q.ev
    rw [Po.ev_ins, Po.ev_add r q]
    omega
theorem Po.ev_term (m : Mo) (c : Int) : ∀ p : Po, (Po.term m c p).ev = c * m.ev * p.ev
  | [] => by show (0 : Int) = c * m.ev * 0; omega
  | (n, e) :: r => by
    show c * e * (m.mul n).ev + (Po.term m c r).ev = c * m.ev * (e * n.ev + (Po.ev r))
    rw [Po.ev_term m c r, Mo.ev_mul, Int.mul_add]
    congr 1
    ac_rfl
theorem Po.ev_mul : ∀ p q : Po, (Po.mul p q).ev = p.ev * q.ev
  | [], q => by show (0 : Int) = 0 * q.ev; omega
  | (m, c) :: r, q => by
    show (Po.add (Po.term m c q) (Po.mul r q)).ev = (c * m.ev + (Po.ev r)) * q.ev
    rw [Po.ev_add, Po.ev_term, Po.ev_mul r q, Int.add_mul]
theorem Po.ev_neg : ∀ p : Po, (Po.neg p).ev = -p.ev
  | [] => rfl
  | (m, c) :: r => by
    show -c * m.ev + (Po.neg r).ev = -(c * m.ev + (Po.ev r))
    rw [Po.ev_neg r, Int.neg_mul]
    omega
theorem Po.ev_nul : ∀ p : Po, Po.nul p = true → p.ev = 0
  | [], _ => rfl
  | (m, .ofNat 0) :: r, h => by
    show (Int.ofNat 0) * m.ev + (Po.ev r) = 0
    rw [Po.ev_nul r h]
    simp
  | (_, .ofNat (_ + 1)) :: _, h => by cases h
  | (_, .negSucc _) :: _, h => by cases h
theorem Po.ev_con (i : Int) : (Po.con i).ev = i := by
  show i * (ρ.default.x ^ 0 * ρ.default.y ^ 0 * ρ.default.z ^ 0) + 0 = i
  simp
theorem Po.ev_pow (p : Po) : ∀ n : Nat, (Po.pow p n).ev = p.ev ^ n
  | 0 => by rw [Po.pow, Po.ev_con, Int.pow_zero]
  | n + 1 => by rw [Po.pow, Po.ev_mul, Po.ev_pow p n, Int.pow_succ]
omit ρ in
theorem pow_abs {i : Int} {k : Nat} (h : i.natAbs ≤ k) : ∀ n : Nat, (i ^ n).natAbs ≤ k ^ n
  | 0 => by simp
  | n + 1 => by rw [Int.pow_succ, Int.natAbs_mul, Nat.pow_succ]; exact Nat.mul_le_mul (pow_abs h n) h
theorem Mo.ev_abs (m : Mo) : m.ev.natAbs ≤ 3 ^ m.a * 81 ^ m.b * 81 ^ m.c := by
  unfold Mo.ev
  rw [Int.natAbs_mul, Int.natAbs_mul]
  exact Nat.mul_le_mul (Nat.mul_le_mul (pow_abs ρ.default.hx _) (pow_abs ρ.default.hy _)) (pow_abs ρ.default.hz _)
theorem Po.ev_abs : ∀ p : Po, p.ev.natAbs ≤ p.bnd
  | [] => Nat.le_refl _
  | (m, c) :: r => by
    show (c * m.ev + (Po.ev r)).natAbs ≤ c.natAbs * (3 ^ m.a * 81 ^ m.b * 81 ^ m.c) + Po.bnd r
    refine Nat.le_trans (Int.natAbs_add_le _ _) (Nat.add_le_add ?_ (Po.ev_abs r))
    rw [Int.natAbs_mul]
    exact Nat.mul_le_mul (Nat.le_refl _) (Mo.ev_abs m)
end

/-- values that are known in part -/
inductive Sy where
  | po (p : Po) | dec (p : Po) | opq (i : Nat) | ex (p : Po) | pmod (k : Int) (p : Po) | ai | rg (k : Int) | raw (v : Value)
noncomputable def SyR [ρ : Inhabited Rho] : Sy → Value → Prop
  | .po p, v => ∃ t, v = .int p.ev t
  | .dec p, v => ∃ t, v = .str (Str.ofString (toString p.ev)) t
  | .opq i, v => ρ.default.o i v
  | .ex p, v => ∃ (k : Int) (t : Tok), v = .int k t ∧ 0 ≤ k ∧ k ≤ 8 ∧ ρ.default.x ^ k.toNat = p.ev
  | .pmod k p, v => ∃ (i : Int) (t : Tok), v = .int i t ∧ i.fmod k = p.ev
  | .ai, v => ∃ (i : Int) (t : Tok), v = .int i t
  | .rg k, v => ∃ (i : Int) (t : Tok), v = .int i t ∧ 0 ≤ i ∧ i < k
  | .raw u, v => v = u
end Mine
end
section
open PySem PySem.W PyProof.Rows PySem.Calls PySem.Spec
set_option linter.unusedSectionVars false
set_option maxRecDepth 100000
namespace Mine
variable [Inhabited Rho]

/-- what a value is, seen from outside the heap -/
inductive D where
  | non | bool (b : Bool) | int (i : Int) | mod (k m : Int) | str (x : PySem.Str) | dec (i : Int) | par (k : Int)
  | list (l : List D) | tup (l : List D) | hdr (l : List D) | sy (x : Sy)

noncomputable abbrev Ow := Addr → Prop

noncomputable def ParOk (b : Array UInt8) (k : Int) : Prop :=
  (k = 1 ∧ (b = #[40] ∨ b = #[34, 41, 41, 34, 40] ∨ b = #[41, 40, 34, 92, 34, 41, 34, 40])) ∨
  (k = -1 ∧ (b = #[41] ∨ b = #[41, 34, 40, 34] ∨ b = #[34, 40, 92, 92, 34, 41, 41, 40]))

noncomputable def hdrCls : Addr := 203

/-- a Headers object at a, its dict at d, its list at b -/
structure IsHdr (h : Heap) (a d b : Addr) : Prop where
  obj : h.get? a = some (instObj hdrCls d)
  ns : ∃ hsh t n, h.get? d = some (dictOf [⟨hsh, .str (Str.ofString "_headers") t, .ref b⟩] n)

/-- a list with no dict of its own -/
noncomputable def PL (h : Heap) (a : Addr) (its : Array Value) : Prop := ∃ o, h.get? a = some o ∧ o.cls = .type "list" ∧ o.dict = none ∧ o.slots = #[] ∧ ∃ n, o.data = .seq its n
theorem PL.isList {h : Heap} {a : Addr} {its : Array Value} (x : PL h a its) : h.IsList a its := let ⟨o, ho, c, _, _, r⟩ := x; ⟨o, ho, c, r⟩
theorem PL.plain {h : Heap} {a : Addr} {its : Array Value} (x : PL h a its) : h.PlainList a its := by
  obtain ⟨⟨c, d, dt, sl⟩, ho, h1, h2, h3, n, h4⟩ := x
  simp only at h1 h2 h3 h4
  subst h1 h2 h3 h4
  exact ⟨n, ho⟩
theorem PL.of {h : Heap} {a : Addr} {its : Array Value} (x : h.PlainList a its) : PL h a its := let ⟨n, e⟩ := x; ⟨_, e, rfl, rfl, rfl, n, rfl⟩

noncomputable def Kp (h h' : Heap) : Prop := ∀ b o, h.get? b = some o → h'.get? b = some o
theorem Kp.refl (h : Heap) : Kp h h := fun _ _ e => e
theorem Kp.trans {a b c : Heap} (x : Kp a b) (y : Kp b c) : Kp a c := fun i o e => y i o (x i o e)

mutual
inductive R (O : Ow) (h : Heap) : D → Value → Prop
  | non : R O h .non .none
  | bool (b : Bool) : R O h (.bool b) (.bool b)
  | int (i : Int) (t : Tok) : R O h (.int i) (.int i t)
  | mod (k m i : Int) (t : Tok) : 0 < k → i.fmod k = m → R O h (.mod k m) (.int i t)
  | str (x : PySem.Str) (t : Tok) : R O h (.str x) (.str x t)
  | dec (i : Int) (t : Tok) : R O h (.dec i) (.str (Str.ofString (toString i)) t)
  | par (k : Int) (b : Array UInt8) (t : Tok) : ParOk b k → R O h (.par k) (.bytes b t)
  | sy (x : Sy) (v : Value) : SyR x v → R O h (.sy x) v
  | list (l : List D) (a : Addr) (its : Array Value) : ¬ O a → h.IsList a its → RL O h l its.toList → R O h (.list l) (.ref a)
  | tup (l : List D) (a : Addr) (its : Array Value) : ¬ O a → h.IsTuple a its → RL O h l its.toList → R O h (.tup l) (.ref a)
  | hdr (l : List D) (a d b : Addr) (its : Array Value) : ¬ O a → ¬ O d → ¬ O b → IsHdr h a d b → h.IsList b its → RL O h l its.toList → R O h (.hdr l) (.ref a)
inductive RL (O : Ow) (h : Heap) : List D → List Value → Prop
  | nil : RL O h [] []
  | cons (d : D) (l : List D) (v : Value) (vs : List Value) : R O h d v → RL O h l vs → RL O h (d :: l) (v :: vs)
end

noncomputable def Tr (O : Ow) (h : Heap) (O' : Ow) (h' : Heap) : Prop := ∀ b o, h.get? b = some o → ¬ O b → h'.get? b = some o ∧ ¬ O' b
theorem Tr.of_kp {O : Ow} {h h' : Heap} (k : Kp h h') : Tr O h O h' := fun b o e n => ⟨k b o e, n⟩
theorem Tr.refl {O : Ow} {h : Heap} : Tr O h O h := fun _ _ e n => ⟨e, n⟩
theorem Tr.sub {O O' : Ow} {h : Heap} (s : ∀ b, O' b → O b) : Tr O h O' h := fun b _ e n => ⟨e, fun x => n (s b x)⟩
theorem Tr.trans {O O' O'' : Ow} {h h' h'' : Heap} (x : Tr O h O' h') (y : Tr O' h' O'' h'') : Tr O h O'' h'' := fun b o e n => let ⟨e', n'⟩ := x b o e n; y b o e' n'

theorem isList_tr {O O' : Ow} {h h' : Heap} (T : Tr O h O' h') {a : Addr} {its : Array Value} (n : ¬ O a) (l : h.IsList a its) : h'.IsList a its ∧ ¬ O' a := by
  obtain ⟨o, ho, r⟩ := l
  have z := T a o ho n
  exact ⟨⟨o, z.1, r⟩, z.2⟩
theorem isTuple_tr {O O' : Ow} {h h' : Heap} (T : Tr O h O' h') {a : Addr} {its : Array Value} (n : ¬ O a) (l : h.IsTuple a its) : h'.IsTuple a its ∧ ¬ O' a := by
  obtain ⟨o, ho, r⟩ := l
  have z := T a o ho n
  exact ⟨⟨o, z.1, r⟩, z.2⟩
theorem ns_at {h h' : Heap} {a : Addr} {m : PySem.Str → Option Value} (n : h.Ns a m) (k : ∀ o, h.get? a = some o → h'.get? a = some o) : h'.Ns a m := by
  obtain ⟨o, es, ep, ho, r⟩ := n
  exact ⟨o, es, ep, k o ho, r⟩
theorem isHdr_tr {O O' : Ow} {h h' : Heap} (T : Tr O h O' h') {a d b : Addr} (na : ¬ O a) (nd : ¬ O d) (x : IsHdr h a d b) : IsHdr h' a d b ∧ ¬ O' a ∧ ¬ O' d := by
  obtain ⟨g, t, n, hd⟩ := x.ns
  exact ⟨⟨(T a _ x.obj na).1, g, t, n, (T d _ hd nd).1⟩, (T a _ x.obj na).2, (T d _ hd nd).2⟩

theorem R.tr {O O' : Ow} {h h' : Heap} (T : Tr O h O' h') {d : D} {v : Value} (r : R O h d v) : R O' h' d v :=
  R.rec (motive_1 := fun d v _ => R O' h' d v) (motive_2 := fun l vs _ => RL O' h' l vs) .non (fun b => .bool b) (fun i t => .int i t) (fun k m i t p q => .mod k m i t p q) (fun x t => .str x t) (fun i t => .dec i t) (fun k b t p => .par k b t p) (fun x v p => .sy x v p)
    (fun l a its n hl _ r => .list l a its (isList_tr T n hl).2 (isList_tr T n hl).1 r) (fun l a its n hl _ r => .tup l a its (isTuple_tr T n hl).2 (isTuple_tr T n hl).1 r)
    (fun l a d b its na nd nb x hl _ r => .hdr l a d b its (isHdr_tr T na nd x).2.1 (isHdr_tr T na nd x).2.2 (isList_tr T nb hl).2 (isHdr_tr T na nd x).1 (isList_tr T nb hl).1 r)
    .nil (fun d l v vs _ _ r rs => .cons d l v vs r rs) r
theorem RL.ind {O : Ow} {h : Heap} {P : List D → List Value → Prop} (n : P [] []) (c : ∀ d l v vs, R O h d v → RL O h l vs → P l vs → P (d :: l) (v :: vs)) {l : List D} {vs : List Value} (r : RL O h l vs) : P l vs :=
  RL.rec (motive_1 := fun _ _ _ => True) (motive_2 := fun l vs _ => P l vs) trivial (fun _ => trivial) (fun _ _ => trivial) (fun _ _ _ _ _ _ => trivial) (fun _ _ => trivial) (fun _ _ => trivial) (fun _ _ _ _ => trivial) (fun _ _ _ => trivial)
    (fun _ _ _ _ _ _ _ => trivial) (fun _ _ _ _ _ _ _ => trivial) (fun _ _ _ _ _ _ _ _ _ _ _ _ => trivial) n (fun d l v vs r rs _ ih => c d l v vs r rs ih) r
theorem RL.tr {O O' : Ow} {h h' : Heap} (T : Tr O h O' h') {l : List D} {vs : List Value} (r : RL O h l vs) : RL O' h' l vs :=
  RL.ind .nil (fun d l v vs r _ rs => .cons d l v vs (R.tr T r) rs) r
theorem RL.uncons {O : Ow} {h : Heap} {d : D} {l : List D} {vs : List Value} (r : RL O h (d :: l) vs) : ∃ v vs', vs = v :: vs' ∧ R O h d v ∧ RL O h l vs' := by
  cases r with | cons _ _ v vs' r rs => exact ⟨v, vs', rfl, r, rs⟩
theorem RL.unnil {O : Ow} {h : Heap} {vs : List Value} (r : RL O h [] vs) : vs = [] := by cases r; rfl
theorem RL.one {O : Ow} {h : Heap} {d : D} {vs : List Value} (r : RL O h [d] vs) : ∃ v, vs = [v] ∧ R O h d v := by
  obtain ⟨v, vs', rfl, r, rs⟩ := r.uncons
  exact ⟨v, by rw [rs.unnil], r⟩
theorem RL.two {O : Ow} {h : Heap} {d e : D} {vs : List Value} (r : RL O h [d, e] vs) : ∃ v u, vs = [v, u] ∧ R O h d v ∧ R O h e u := by
  obtain ⟨v, vs', rfl, r1, rs⟩ := r.uncons
  obtain ⟨u, rfl, r2⟩ := rs.one
  exact ⟨v, u, rfl, r1, r2⟩
theorem RL.three {O : Ow} {h : Heap} {d e f : D} {vs : List Value} (r : RL O h [d, e, f] vs) : ∃ v u w, vs = [v, u, w] ∧ R O h d v ∧ R O h e u ∧ R O h f w := by
  obtain ⟨v, vs', rfl, r1, rs⟩ := r.uncons
  obtain ⟨u, w, rfl, r2, r3⟩ := rs.two
  exact ⟨v, u, w, rfl, r1, r2, r3⟩
section
variable {O : Ow} {h : Heap} {v : Value}
theorem R.non_v (r : R O h .non v) : v = .none := by cases r; rfl
theorem R.bool_v {b : Bool} (r : R O h (.bool b) v) : v = .bool b := by cases r; rfl
theorem R.int_v {i : Int} (r : R O h (.int i) v) : ∃ t, v = .int i t := by cases r; exact ⟨_, rfl⟩
theorem R.mod_v {k m : Int} (r : R O h (.mod k m) v) : ∃ i t, v = .int i t ∧ 0 < k ∧ i.fmod k = m := by cases r; exact ⟨_, _, rfl, ‹_›, ‹_›⟩
theorem R.str_v {x : PySem.Str} (r : R O h (.str x) v) : ∃ t, v = .str x t := by cases r; exact ⟨_, rfl⟩
theorem R.dec_v {i : Int} (r : R O h (.dec i) v) : ∃ t, v = .str (Str.ofString (toString i)) t := by cases r; exact ⟨_, rfl⟩
theorem R.par_v {k : Int} (r : R O h (.par k) v) : ∃ b t, v = .bytes b t ∧ ParOk b k := by cases r; exact ⟨_, _, rfl, ‹_›⟩
theorem R.sy_v {x : Sy} (r : R O h (.sy x) v) : SyR x v := by cases r; assumption
theorem R.list_v {l : List D} (r : R O h (.list l) v) : ∃ a its, v = .ref a ∧ ¬ O a ∧ h.IsList a its ∧ RL O h l its.toList := by cases r; exact ⟨_, _, rfl, ‹_›, ‹_›, ‹_›⟩
theorem R.tup_v {l : List D} (r : R O h (.tup l) v) : ∃ a its, v = .ref a ∧ ¬ O a ∧ h.IsTuple a its ∧ RL O h l its.toList := by cases r; exact ⟨_, _, rfl, ‹_›, ‹_›, ‹_›⟩
theorem R.hdr_v {l : List D} (r : R O h (.hdr l) v) : ∃ a d b its, v = .ref a ∧ ¬ O a ∧ ¬ O d ∧ ¬ O b ∧ IsHdr h a d b ∧ h.IsList b its ∧ RL O h l its.toList := by
  cases r with | hdr _ a d b its p q r x y z => exact ⟨a, d, b, its, rfl, p, q, r, x, y, z⟩
end
noncomputable def D.bool? : D → Option Bool
  | .bool b => some b
  | _ => none
noncomputable def D.int? : D → Option Int
  | .int i => some i
  | _ => none
noncomputable def D.mod? : D → Option (Int × Int)
  | .mod k m => some (k, m)
  | _ => none
noncomputable def D.str? : D → Option PySem.Str
  | .str x => some x
  | _ => none
noncomputable def D.dec? : D → Option Int
  | .dec x => some x
  | _ => none
noncomputable def D.hdr? : D → Option (List D)
  | .hdr x => some x
  | _ => none
noncomputable def D.par? : D → Option Int
  | .par x => some x
  | _ => none
noncomputable def D.list? : D → Option (List D)
  | .list x => some x
  | _ => none
noncomputable def D.tup? : D → Option (List D)
  | .tup x => some x
  | _ => none
noncomputable def D.sy? : D → Option Sy
  | .sy x => some x
  | _ => none
section
variable {a : D}
omit [Inhabited Rho]
theorem bool_eq {b : Bool} (e : a.bool? = some b) : a = .bool b := by
  cases a <;> first | exact Option.some.inj e ▸ rfl | (exfalso; exact no_some e)
theorem int_eq {b : Int} (e : a.int? = some b) : a = .int b := by
  cases a <;> first | exact Option.some.inj e ▸ rfl | (exfalso; exact no_some e)
theorem mod_eq {b : Int × Int} (e : a.mod? = some b) : a = .mod b.1 b.2 := by
  cases a <;> first | exact Option.some.inj e ▸ rfl | (exfalso; exact no_some e)
theorem str_eq {b : PySem.Str} (e : a.str? = some b) : a = .str b := by
  cases a <;> first | exact Option.some.inj e ▸ rfl | (exfalso; exact no_some e)
theorem dec_eq {b : Int} (e : a.dec? = some b) : a = .dec b := by
  cases a <;> first | exact Option.some.inj e ▸ rfl | (exfalso; exact no_some e)
theorem hdr_eq {b : List D} (e : a.hdr? = some b) : a = .hdr b := by
  cases a <;> first | exact Option.some.inj e ▸ rfl | (exfalso; exact no_some e)
theorem par_eq {b : Int} (e : a.par? = some b) : a = .par b := by
  cases a <;> first | exact Option.some.inj e ▸ rfl | (exfalso; exact no_some e)
theorem list_eq {b : List D} (e : a.list? = some b) : a = .list b := by
  cases a <;> first | exact Option.some.inj e ▸ rfl | (exfalso; exact no_some e)
theorem tup_eq {b : List D} (e : a.tup? = some b) : a = .tup b := by
  cases a <;> first | exact Option.some.inj e ▸ rfl | (exfalso; exact no_some e)
theorem sy_eq {b : Sy} (e : a.sy? = some b) : a = .sy b := by
  cases a <;> first | exact Option.some.inj e ▸ rfl | (exfalso; exact no_some e)
end
section
variable {O : Ow} {h : Heap} {v : Value} {a : D}
theorem boolR {b : Bool} (r : R O h a v) (e : a.bool? = some b) : v = .bool b := (bool_eq e ▸ r).bool_v
theorem intR {i : Int} (r : R O h a v) (e : a.int? = some i) : ∃ t, v = .int i t := (int_eq e ▸ r).int_v
theorem modR {b : Int × Int} (r : R O h a v) (e : a.mod? = some b) : ∃ i t, v = .int i t ∧ 0 < b.1 ∧ i.fmod b.1 = b.2 := (mod_eq e ▸ r).mod_v
theorem strR {x : PySem.Str} (r : R O h a v) (e : a.str? = some x) : ∃ t, v = .str x t := (str_eq e ▸ r).str_v
theorem decR' {i : Int} (r : R O h a v) (e : a.dec? = some i) : ∃ t, v = .str (Str.ofString (toString i)) t := (dec_eq e ▸ r).dec_v
theorem parR {k : Int} (r : R O h a v) (e : a.par? = some k) : ∃ b t, v = .bytes b t ∧ ParOk b k := (par_eq e ▸ r).par_v
theorem listR {l : List D} (r : R O h a v) (e : a.list? = some l) : ∃ a its, v = .ref a ∧ ¬ O a ∧ h.IsList a its ∧ RL O h l its.toList := (list_eq e ▸ r).list_v
theorem tupR {l : List D} (r : R O h a v) (e : a.tup? = some l) : ∃ a its, v = .ref a ∧ ¬ O a ∧ h.IsTuple a its ∧ RL O h l its.toList := (tup_eq e ▸ r).tup_v
theorem syR {x : Sy} (r : R O h a v) (e : a.sy? = some x) : SyR x v := (sy_eq e ▸ r).sy_v
end
theorem RL.length {O : Ow} {h : Heap} {l : List D} {vs : List Value} (r : RL O h l vs) : l.length = vs.length :=
  RL.ind (P := fun l vs => l.length = vs.length) rfl (fun _ _ _ _ _ _ ih => congrArg Nat.succ ih) r
theorem RL.append {O : Ow} {h : Heap} {l' : List D} {vs' : List Value} (y : RL O h l' vs') {l : List D} {vs : List Value} (r : RL O h l vs) : RL O h (l ++ l') (vs ++ vs') :=
  RL.ind (P := fun l vs => RL O h (l ++ l') (vs ++ vs')) y (fun _ _ _ _ r _ ih => .cons _ _ _ _ r ih) r
theorem RL.get {O : Ow} {h : Heap} {l : List D} {vs : List Value} (r : RL O h l vs) (i : Nat) {d : D} (e : l[i]? = some d) : ∃ v, vs[i]? = some v ∧ R O h d v :=
  RL.ind (P := fun l vs => ∀ (i : Nat) {d : D}, l[i]? = some d → ∃ v, vs[i]? = some v ∧ R O h d v) (fun i d e => by cases e) (fun _ _ v _ r _ ih i d e => by
    cases i with
    | zero => cases e; exact ⟨v, rfl, r⟩
    | succ i => exact ih i e) r i e
theorem RL.set {O : Ow} {h : Heap} {d : D} {v : Value} (y : R O h d v) {l : List D} {vs : List Value} (r : RL O h l vs) (i : Nat) : RL O h (l.set i d) (vs.set i v) :=
  RL.ind (P := fun l vs => ∀ i, RL O h (l.set i d) (vs.set i v)) (fun _ => .nil) (fun _ _ _ _ r rs ih i => by
    cases i with
    | zero => exact .cons _ _ _ _ y rs
    | succ i => exact .cons _ _ _ _ r (ih i)) r i

/-- the names' part of an evaluator's context -/
structure Cx where
  kinds : List (PySem.Str × NameKind)
  mine : List PySem.Str
  vars : List (PySem.Str × D)
  own : List (PySem.Str × List D)

noncomputable def del {α : Type} (x : PySem.Str) (l : List (PySem.Str × α)) : List (PySem.Str × α) := l.filter fun p => !(p.1 == x)
theorem lookup_del {α : Type} {x y : PySem.Str} : ∀ {l : List (PySem.Str × α)}, (del x l).lookup y = if y = x then none else l.lookup y
  | [] => by simp [del]
  | (k, v) :: r => by
    have ih := @lookup_del α x y r
    unfold del at ih ⊢
    rw [List.filter_cons]
    by_cases hk : k = x
    · subst hk
      simp only [beq_self_eq_true, Bool.not_true, Bool.false_eq_true, if_false]
      rw [ih, List.lookup_cons]
      by_cases hy : y = k
      · simp [hy]
      · have : (y == k) = false := by simpa using hy
        simp [hy, this]
    · have : (k == x) = false := by simpa using hk
      simp only [this, Bool.not_false, if_true]
      rw [List.lookup_cons, List.lookup_cons, ih]
      by_cases hy : y = k
      · subst hy; simp [hk]
      · have : (y == k) = false := by simpa using hy
        simp [this]

noncomputable def Cx.set (cx : Cx) (x : PySem.Str) (d : D) : Cx := { cx with vars := (x, d) :: cx.vars, own := del x cx.own }
noncomputable def Cx.setOwn (cx : Cx) (x : PySem.Str) (l : List D) : Cx := { cx with vars := del x cx.vars, own := (x, l) :: del x cx.own }

noncomputable def Lk (h : Heap) (env : Env) (x : PySem.Str) (v : Value) : Prop :=
  (env.kindOf x = some .local ∧ ∃ m, h.Ns env.locals m ∧ m x = some v) ∨
  (env.kindOf x = some .cell ∧ ∃ c, env.cells.lookup x = some c ∧ h.IsCell c (some v))
noncomputable def Stg (env : Env) (b : Addr) : Prop := b = env.locals ∨ ∃ x, env.cells.lookup x = some b
noncomputable def Own (ad : PySem.Str → Addr) (cx : Cx) (b : Addr) : Prop := ∃ x l, cx.own.lookup x = some l ∧ ad x = b
noncomputable def Oo (W : Ow) (ad : PySem.Str → Addr) (env : Env) (cx : Cx) : Ow := fun b => W b ∨ Stg env b ∨ Own ad cx b

theorem Lk.at {h h' : Heap} {env : Env} {x : PySem.Str} {v : Value} (k : ∀ b o, Stg env b → h.get? b = some o → h'.get? b = some o) (l : Lk h env x v) : Lk h' env x v := by
  rcases l with ⟨a, m, n, e⟩ | ⟨a, c, e, o, ho, y⟩
  · exact .inl ⟨a, m, ns_at n fun o e => k _ o (.inl rfl) e, e⟩
  · exact .inr ⟨a, c, e, o, k _ o (.inr ⟨x, e⟩) ho, y⟩

structure ER (h₀ : Heap) (W : Ow) (ad : PySem.Str → Addr) (h : Heap) (env : Env) (cx : Cx) : Prop where
  base : Kp h₀ h
  kind : env.scope.kind = .function
  names : env.scope.names = cx.kinds
  glob : env.globals = mainGlobals
  bi : env.builtins = builtinsNs
  wl : ∀ b, W b → ∃ o, h.get? b = some o
  ns : ∃ m, h.Ns env.locals m
  nl : ¬ W env.locals
  nl0 : h₀.get? env.locals = none
  cells : ∀ x c, env.cells.lookup x = some c → ∃ v, h.IsCell c v
  cw : ∀ x c, env.cells.lookup x = some c → W c → ∃ o, h₀.get? c = some o
  cinj : ∀ x y c, env.cells.lookup x = some c → env.cells.lookup y = some c → x = y
  mine : ∀ x, x ∈ cx.mine → env.kindOf x = some .local ∨ (env.kindOf x = some .cell ∧ ∃ c, env.cells.lookup x = some c ∧ h₀.get? c = none ∧ ¬ W c)
  vars : ∀ x d, cx.vars.lookup x = some d → ∃ v, Lk h env x v ∧ R (Oo W ad env cx) h d v
  own : ∀ x l, cx.own.lookup x = some l → Lk h env x (.ref (ad x)) ∧ h₀.get? (ad x) = none ∧ ¬ W (ad x) ∧ ∃ its, PL h (ad x) its ∧ RL (Oo W ad env cx) h l its.toList
  inj : ∀ x y l l', cx.own.lookup x = some l → cx.own.lookup y = some l' → ad x = ad y → x = y

theorem ER.live {h₀ : Heap} {W : Ow} {ad : PySem.Str → Addr} {h : Heap} {env : Env} {cx : Cx} (e : ER h₀ W ad h env cx) (b : Addr) (hb : Oo W ad env cx b) : ∃ o, h.get? b = some o := by
  rcases hb with w | (rfl | ⟨x, hx⟩) | ⟨x, l, hx, rfl⟩
  · exact e.wl b w
  · obtain ⟨m, o, _, _, ho, _⟩ := e.ns; exact ⟨o, ho⟩
  · obtain ⟨v, o, ho, _⟩ := e.cells x b hx; exact ⟨o, ho⟩
  · obtain ⟨_, _, _, its, ⟨o, ho, _⟩, _⟩ := e.own x l hx; exact ⟨o, ho⟩

/-- a change that touches M only -/
theorem ER.frame {h₀ : Heap} {W : Ow} {ad : PySem.Str → Addr} {h h' : Heap} {env : Env} {cx : Cx} (e : ER h₀ W ad h env cx) (M : Ow) (hM : ∀ b, M b → W b ∧ h₀.get? b = none)
    (k : ∀ b o, h.get? b = some o → ¬ M b → h'.get? b = some o) (wl : ∀ b, M b → ∃ o, h'.get? b = some o) : ER h₀ W ad h' env cx := by
  have T : Tr (Oo W ad env cx) h (Oo W ad env cx) h' := fun b o hb n => ⟨k b o hb fun m => n (.inl (hM b m).1), n⟩
  have S : ∀ b o, Stg env b → h.get? b = some o → h'.get? b = some o := fun b o sb hb => by
    refine k b o hb fun m => ?_
    rcases sb with rfl | ⟨x, hx⟩
    · exact e.nl (hM _ m).1
    · obtain ⟨o', ho'⟩ := e.cw x b hx (hM b m).1
      rw [(hM b m).2] at ho'; cases ho'
  exact { base := fun b o hb => k b o (e.base b o hb) fun m => by rw [(hM b m).2] at hb; cases hb
          kind := e.kind, names := e.names, glob := e.glob, bi := e.bi
          wl := fun b w => by
            by_cases m : M b
            · exact wl b m
            · obtain ⟨o, ho⟩ := e.wl b w; exact ⟨o, k b o ho m⟩
          ns := let ⟨m, n⟩ := e.ns; ⟨m, ns_at n fun o ho => S _ o (.inl rfl) ho⟩
          nl := e.nl, nl0 := e.nl0
          cells := fun x c hx => let ⟨v, o, ho, y⟩ := e.cells x c hx; ⟨v, o, S _ o (.inr ⟨x, hx⟩) ho, y⟩
          cw := e.cw, cinj := e.cinj, mine := e.mine
          vars := fun x d hx => let ⟨v, l, r⟩ := e.vars x d hx; ⟨v, l.at S, r.tr T⟩
          own := fun x l hx => by
            obtain ⟨lk, a, b, its, ⟨o, ho, y⟩, r⟩ := e.own x l hx
            exact ⟨lk.at S, a, b, its, ⟨o, k _ o ho fun m => b (hM _ m).1, y⟩, r.tr T⟩
          inj := e.inj }
theorem ER.kp {h₀ : Heap} {W : Ow} {ad : PySem.Str → Addr} {h h' : Heap} {env : Env} {cx : Cx} (e : ER h₀ W ad h env cx) (k : Kp h h') : ER h₀ W ad h' env cx :=
  e.frame (fun _ => False) (fun _ f => f.elim) (fun b o hb _ => k b o hb) (fun _ f => f.elim)

theorem kindOf_eq {h₀ : Heap} {W : Ow} {ad : PySem.Str → Addr} {h : Heap} {env : Env} {cx : Cx} (e : ER h₀ W ad h env cx) (x : PySem.Str) : env.kindOf x = cx.kinds.lookup x := by
  rw [Env.kindOf, e.names]

/-- what has changed when x got v -/
structure Stored (h : Heap) (env : Env) (x : PySem.Str) (v : Value) (h' : Heap) : Prop where
  same : ∀ b o, h.get? b = some o → ¬ Stg env b → h'.get? b = some o
  back : ∀ b o, h.get? b = some o → ∃ o', h'.get? b = some o'
  here : Lk h' env x v
  other : ∀ y u, y ≠ x → Lk h env y u → Lk h' env y u
  ns : ∃ m, h'.Ns env.locals m
  cells : ∀ y c, env.cells.lookup y = some c → ∃ u, h'.IsCell c u
  only : ∀ b o, h.get? b = some o → (env.kindOf x = some .local → b ≠ env.locals) → (env.kindOf x = some .cell → env.cells.lookup x ≠ some b) → h'.get? b = some o

section
variable {h₀ : Heap} {W : Ow} {ad : PySem.Str → Addr} {env : Env} {cx : Cx} {s : Shared} {M : Model} {A : Around} {E : Value → Shared → Prop}
theorem sameBut_back {a : Addr} {h h' : Heap} (x : Heap.SameBut a h h') (ha : ∃ o, h'.get? a = some o) (b : Addr) (o : Obj) (e : h.get? b = some o) : ∃ o', h'.get? b = some o' := by
  by_cases q : b = a
  · subst q; exact ha
  · exact ⟨o, (x.2 b q).trans e⟩

theorem store_wp (e : ER h₀ W ad s.heap env cx) {x : PySem.Str} {v : Value} (hx : x ∈ cx.mine) {Q : Unit → Shared → Prop}
    (hQ : ∀ h' tk, Stored s.heap env x v h' → Q () { s with heap := h', toks := tk }) : wpAny M A (storeName env x v) Q E s := by
  have hcl : ∀ y c, env.cells.lookup y = some c → c ≠ env.locals := fun y c hy q => by
    obtain ⟨u, o, ho, hd⟩ := e.cells y c hy
    obtain ⟨m, o', es, ep, ho', hd', _⟩ := e.ns
    rw [q] at ho; rw [ho] at ho'; cases ho'; rw [hd] at hd'; cases hd'
  rcases e.mine x hx with hl | ⟨hc, c, hcx, -, -⟩
  · obtain ⟨m, hn⟩ := e.ns
    refine wpAny_storeName_local hl hn (fun h' hn' hs' => hQ _ _ ?_) (by rw [e.kind]; rfl)
    refine ⟨fun b o ho nb => (hs'.2 b fun q => nb (.inl q)).trans ho, sameBut_back hs' (let ⟨o, _, _, ho, _⟩ := hn'; ⟨o, ho⟩), .inl ⟨hl, _, hn', by simp⟩, fun y u hy lk => ?_, ⟨_, hn'⟩, fun y c hy => ?_, fun b o ho nb _ => (hs'.2 b (nb hl)).trans ho⟩
    · rcases lk with ⟨a, m', n', e'⟩ | ⟨a, c, e', y'⟩
      · refine .inl ⟨a, _, hn', ?_⟩
        simp only [hy, if_false]
        rw [← n'.agree hn y]; exact e'
      · exact .inr ⟨a, c, e', y'.sameBut hs' (hcl y c e')⟩
    · obtain ⟨u, z⟩ := e.cells y c hy
      exact ⟨u, z.sameBut hs' (hcl y c hy)⟩
  · obtain ⟨v₀, z⟩ := e.cells x c hcx
    obtain ⟨m, hn⟩ := e.ns
    refine wpAny_storeName_cell e.kind hc hcx z (fun h' hc' hs' => ?_)
    have := hQ h' s.toks ⟨fun b o ho nb => (hs'.2 b fun q => nb (.inr ⟨x, q ▸ hcx⟩)).trans ho, sameBut_back hs' (let ⟨o, ho, _⟩ := hc'; ⟨o, ho⟩), .inr ⟨hc, c, hcx, hc'⟩, fun y u hy lk => ?_, ⟨m, hn.sameBut hs' (Ne.symm (hcl x c hcx))⟩, fun y c' hy => ?_, fun b o ho _ nb => (hs'.2 b fun q => nb hc (q ▸ hcx)).trans ho⟩
    · exact this
    · rcases lk with ⟨a, m', n', e'⟩ | ⟨a, c', e', y'⟩
      · exact .inl ⟨a, m', n'.sameBut hs' (Ne.symm (hcl x c hcx)), e'⟩
      · exact .inr ⟨a, c', e', y'.sameBut hs' fun q => hy (e.cinj y x c (q ▸ e') hcx)⟩
    · obtain ⟨u, z'⟩ := e.cells y c' hy
      by_cases q : c' = c
      · subst q; exact ⟨_, hc'⟩
      · exact ⟨u, z'.sameBut hs' q⟩
end
end Mine
end
section
open PySem PySem.W PyProof.Rows PySem.Calls PySem.Spec
set_option linter.unusedSectionVars false
set_option maxRecDepth 100000
namespace Mine
variable [Inhabited Rho]

noncomputable def KW (W : Ow) (h h' : Heap) : Prop := ∀ b, W b → ∀ o, h.get? b = some o → h'.get? b = some o
theorem KW.of_kp {W : Ow} {h h' : Heap} (k : Kp h h') : KW W h h' := fun b _ o e => k b o e
theorem KW.trans {W : Ow} {a b c : Heap} (x : KW W a b) (y : KW W b c) : KW W a c := fun i w o e => y i w o (x i w o e)

section
variable {h₀ : Heap} {W : Ow} {ad : PySem.Str → Addr} {env : Env} {cx : Cx} {h h' : Heap}

theorem lookup_set_vars {x y : PySem.Str} {d : D} : (cx.set x d).vars.lookup y = if y = x then some d else cx.vars.lookup y := by
  simp only [Cx.set, List.lookup_cons]
  by_cases q : y = x
  · simp [q]
  · have : (y == x) = false := by simpa using q
    simp [q, this]
theorem lookup_set_own {x y : PySem.Str} {d : D} : (cx.set x d).own.lookup y = if y = x then none else cx.own.lookup y := lookup_del
theorem own_set {x : PySem.Str} {d : D} {b : Addr} (hb : Own ad (cx.set x d) b) : Own ad cx b := by
  obtain ⟨y, l, hy, e⟩ := hb
  rw [lookup_set_own] at hy
  split at hy
  · exfalso; first | exact no_some hy | cases hy
  · exact ⟨y, l, hy, e⟩
theorem oo_set {x : PySem.Str} {d : D} (b : Addr) (hb : Oo W ad env (cx.set x d) b) : Oo W ad env cx b := by
  rcases hb with w | g | o
  · exact .inl w
  · exact .inr (.inl g)
  · exact .inr (.inr (own_set o))

theorem stored_w (e : ER h₀ W ad h env cx) {x : PySem.Str} {v : Value} (hx : x ∈ cx.mine) (z : Stored h env x v h') : KW W h h' := fun b w o ho => by
  refine z.only b o ho (fun _ q => e.nl (q ▸ w)) fun hk q => ?_
  rcases e.mine x hx with hl | ⟨hc, c, hcx, -, hw⟩
  · rw [hl] at hk; cases hk
  · rw [hcx] at q; cases q; exact hw w
theorem stored_base (e : ER h₀ W ad h env cx) {x : PySem.Str} {v : Value} (hx : x ∈ cx.mine) (z : Stored h env x v h') : Kp h₀ h' := fun b o ho => by
  refine z.only b o (e.base b o ho) (fun _ q => by rw [q, e.nl0] at ho; cases ho) fun hk q => ?_
  rcases e.mine x hx with hl | ⟨hc, c, hcx, hn, -⟩
  · rw [hl] at hk; cases hk
  · rw [hcx] at q; cases q; rw [hn] at ho; cases ho

theorem list_ne_stg (e : ER h₀ W ad h env cx) {a : Addr} {its : Array Value} (il : h.IsList a its) : ¬ Stg env a := by
  obtain ⟨o, ho, _, n, hd⟩ := il
  rintro (rfl | ⟨x, hx⟩)
  · obtain ⟨m, o', es, ep, ho', hd', _⟩ := e.ns
    rw [ho] at ho'; cases ho'; rw [hd] at hd'; cases hd'
  · obtain ⟨v, o', ho', hd'⟩ := e.cells x a hx
    rw [ho] at ho'; cases ho'; rw [hd] at hd'; cases hd'

theorem ER.set (e : ER h₀ W ad h env cx) {x : PySem.Str} {v : Value} {d : D} (hx : x ∈ cx.mine) (r : R (Oo W ad env cx) h d v) (z : Stored h env x v h') :
    ER h₀ W ad h' env (cx.set x d) ∧ Tr (Oo W ad env cx) h (Oo W ad env (cx.set x d)) h' ∧ KW W h h' := by
  have T : Tr (Oo W ad env cx) h (Oo W ad env (cx.set x d)) h' := fun b o hb n => ⟨z.same b o hb fun g => n (.inr (.inl g)), fun q => n (oo_set b q)⟩
  refine ⟨?_, T, stored_w e hx z⟩
  exact { base := stored_base e hx z, kind := e.kind, names := e.names, glob := e.glob, bi := e.bi
          wl := fun b w => let ⟨o, ho⟩ := e.wl b w; z.back b o ho
          ns := z.ns, nl := e.nl, nl0 := e.nl0, cells := z.cells, cw := e.cw, cinj := e.cinj, mine := e.mine
          vars := fun y dy hy => by
            rw [lookup_set_vars] at hy
            split at hy
            · rename_i q; cases hy; subst q; exact ⟨v, z.here, r.tr T⟩
            · rename_i q
              obtain ⟨u, l, ru⟩ := e.vars y dy hy
              exact ⟨u, z.other y u q l, ru.tr T⟩
          own := fun y l hy => by
            rw [lookup_set_own] at hy
            split at hy
            · exfalso; first | exact no_some hy | cases hy
            · rename_i q
              obtain ⟨lk, a, b, its, il, rl⟩ := e.own y l hy
              refine ⟨z.other y _ q lk, a, b, its, ?_, rl.tr T⟩
              have ng := list_ne_stg e il.isList
              obtain ⟨o, ho, r'⟩ := il
              exact ⟨o, z.same _ o ho ng, r'⟩
          inj := fun y y' l l' hy hy' => by
            rw [lookup_set_own] at hy hy'
            split at hy
            · exfalso; first | exact no_some hy | cases hy
            · split at hy'
              · cases hy'
              · exact e.inj y y' l l' hy hy' }

theorem ER.freeze (e : ER h₀ W ad h env cx) {x : PySem.Str} {l : List D} (hx : cx.own.lookup x = some l) : ER h₀ W ad h env (cx.set x (.list l)) := by
  have T : Tr (Oo W ad env cx) h (Oo W ad env (cx.set x (.list l))) h := .sub oo_set
  exact { base := e.base, kind := e.kind, names := e.names, glob := e.glob, bi := e.bi, wl := e.wl, ns := e.ns, nl := e.nl, nl0 := e.nl0, cells := e.cells, cw := e.cw, cinj := e.cinj, mine := e.mine
          vars := fun y dy hy => by
            rw [lookup_set_vars] at hy
            split at hy
            · rename_i q; cases hy; subst q
              obtain ⟨lk, a, b, its, il, rl⟩ := e.own y l hx
              refine ⟨_, lk, .list l _ its ?_ il.isList (rl.tr T)⟩
              rintro (w | g | ⟨z, lz, hz, ez⟩)
              · exact b w
              · exact list_ne_stg e il.isList g
              · rw [lookup_set_own] at hz
                split at hz
                · exfalso; first | exact no_some hz | cases hz
                · rename_i q; exact q (e.inj z y lz l hz hx ez)
            · obtain ⟨u, lk, ru⟩ := e.vars y dy hy
              exact ⟨u, lk, ru.tr T⟩
          own := fun y l' hy => by
            rw [lookup_set_own] at hy
            split at hy
            · exfalso; first | exact no_some hy | cases hy
            · obtain ⟨lk, a, b, its, il, rl⟩ := e.own y l' hy
              exact ⟨lk, a, b, its, il, rl.tr T⟩
          inj := fun y y' l₁ l' hy hy' => by
            rw [lookup_set_own] at hy hy'
            split at hy
            · exfalso; first | exact no_some hy | cases hy
            · split at hy'
              · cases hy'
              · exact e.inj y y' l₁ l' hy hy' }

noncomputable def upd (ad : PySem.Str → Addr) (x : PySem.Str) (a : Addr) : PySem.Str → Addr := fun y => if y = x then a else ad y
theorem lookup_setOwn_own {x y : PySem.Str} {l : List D} : (cx.setOwn x l).own.lookup y = if y = x then some l else cx.own.lookup y := by
  simp only [Cx.setOwn, List.lookup_cons]
  by_cases q : y = x
  · simp [q]
  · have : (y == x) = false := by simpa using q
    simp [q, this, lookup_del]
theorem lookup_setOwn_vars {x y : PySem.Str} {l : List D} : (cx.setOwn x l).vars.lookup y = if y = x then none else cx.vars.lookup y := lookup_del

theorem ER.setOwn {hb : Heap} (e : ER h₀ W ad hb env cx) {x : PySem.Str} {a : Addr} {l : List D} {its : Array Value} (hx : x ∈ cx.mine) (na : hb.get? a = none) (k : Kp hb h) (rl : RL (Oo W ad env cx) hb l its.toList)
    (il : PL h a its) (z : Stored h env x (.ref a) h') :
    ER h₀ W (upd ad x a) h' env (cx.setOwn x l) ∧ Tr (Oo W ad env cx) hb (Oo W (upd ad x a) env (cx.setOwn x l)) h' ∧ KW W hb h' := by
  have e' := e.kp k
  have oo : ∀ b, Oo W (upd ad x a) env (cx.setOwn x l) b → Oo W ad env cx b ∨ b = a := by
    rintro b (w | g | ⟨y, ly, hy, ey⟩)
    · exact .inl (.inl w)
    · exact .inl (.inr (.inl g))
    · rw [lookup_setOwn_own] at hy
      unfold upd at ey
      split at hy
      · rename_i q; rw [if_pos q] at ey; exact .inr ey.symm
      · rename_i q; rw [if_neg q] at ey; exact .inl (.inr (.inr ⟨y, ly, hy, ey⟩))
  have T : Tr (Oo W ad env cx) hb (Oo W (upd ad x a) env (cx.setOwn x l)) h' := fun b o ho n => by
    refine ⟨z.same b o (k b o ho) fun g => n (.inr (.inl g)), fun q => ?_⟩
    rcases oo b q with q | q
    · exact n q
    · rw [q, na] at ho; cases ho
  have aW : ¬ W a := fun w => by obtain ⟨o, ho⟩ := e.wl a w; rw [na] at ho; cases ho
  have aO : ∀ y ly, cx.own.lookup y = some ly → ad y ≠ a := fun y ly hy q => by
    obtain ⟨_, _, _, its', ⟨o, ho, _⟩, _⟩ := e.own y ly hy
    rw [q, na] at ho; cases ho
  have a0 : h₀.get? a = none := by
    cases q : h₀.get? a with
    | none => rfl
    | some o => have := e.base a o q; rw [na] at this; cases this
  refine ⟨?_, T, (KW.of_kp k).trans (stored_w e' hx z)⟩
  exact { base := stored_base e' hx z, kind := e.kind, names := e.names, glob := e.glob, bi := e.bi
          wl := fun b w => let ⟨o, ho⟩ := e'.wl b w; z.back b o ho
          ns := z.ns, nl := e.nl, nl0 := e.nl0, cells := z.cells, cw := e.cw, cinj := e.cinj, mine := e.mine
          vars := fun y dy hy => by
            rw [lookup_setOwn_vars] at hy
            split at hy
            · exfalso; first | exact no_some hy | cases hy
            · rename_i q
              obtain ⟨u, lk, ru⟩ := e.vars y dy hy
              exact ⟨u, z.other y u q (lk.at fun b o _ ho => k b o ho), ru.tr T⟩
          own := fun y l' hy => by
            rw [lookup_setOwn_own] at hy
            unfold upd
            split at hy
            · rename_i q; cases hy; subst q
              rw [if_pos rfl]
              have ng := list_ne_stg e' il.isList
              refine ⟨z.here, a0, aW, its, ?_, rl.tr T⟩
              obtain ⟨o, ho, r'⟩ := il
              exact ⟨o, z.same _ o ho ng, r'⟩
            · rename_i q
              rw [if_neg q]
              obtain ⟨lk, a1, b1, its', il', rl'⟩ := e'.own y l' hy
              obtain ⟨_, _, _, its₂, il₂, rl₂⟩ := e.own y l' hy
              refine ⟨z.other y _ q lk, a1, b1, its₂, ?_, rl₂.tr T⟩
              have il₃ : PL h (ad y) its₂ := let ⟨o, ho, r⟩ := il₂; ⟨o, k _ o ho, r⟩
              have ng := list_ne_stg e' il₃.isList
              obtain ⟨o, ho, r'⟩ := il₃
              exact ⟨o, z.same _ o ho ng, r'⟩
          inj := fun y y' l₁ l₂ hy hy' => by
            rw [lookup_setOwn_own] at hy hy'
            unfold upd
            split at hy <;> split at hy'
            · rename_i q q'; intro _; rw [q, q']
            · rename_i q q'; rw [if_pos q, if_neg q']; intro w; exact absurd w.symm (aO y' l₂ hy')
            · rename_i q q'; rw [if_neg q, if_pos q']; intro w; exact absurd w (aO y l₁ hy)
            · rename_i q q'; rw [if_neg q, if_neg q']; exact e.inj y y' l₁ l₂ hy hy' }

noncomputable def Cx.upd (cx : Cx) (x : PySem.Str) (l : List D) : Cx := { cx with own := (x, l) :: del x cx.own }
theorem lookup_upd_own {x y : PySem.Str} {l : List D} : (cx.upd x l).own.lookup y = if y = x then some l else cx.own.lookup y := by
  simp only [Cx.upd, List.lookup_cons]
  by_cases q : y = x
  · simp [q]
  · have : (y == x) = false := by simpa using q
    simp [q, this, lookup_del]

theorem ER.change (e : ER h₀ W ad h env cx) {x : PySem.Str} {l₀ l : List D} {its : Array Value} (hx : cx.own.lookup x = some l₀) (sb : Heap.SameBut (ad x) h h') (il : PL h' (ad x) its) (rl : RL (Oo W ad env cx) h l its.toList) :
    ER h₀ W ad h' env (cx.upd x l) ∧ Tr (Oo W ad env cx) h (Oo W ad env (cx.upd x l)) h' ∧ KW W h h' := by
  obtain ⟨lk₀, a0, aW, its₀, il₀, rl₀⟩ := e.own x l₀ hx
  have oo : ∀ b, Oo W ad env (cx.upd x l) b → Oo W ad env cx b := by
    rintro b (w | g | ⟨y, ly, hy, ey⟩)
    · exact .inl w
    · exact .inr (.inl g)
    · rw [lookup_upd_own] at hy
      split at hy
      · rename_i q; subst q; exact .inr (.inr ⟨y, l₀, hx, ey⟩)
      · exact .inr (.inr ⟨y, ly, hy, ey⟩)
  have kk : ∀ b o, b ≠ ad x → h.get? b = some o → h'.get? b = some o := fun b o q ho => (sb.2 b q).trans ho
  have T : Tr (Oo W ad env cx) h (Oo W ad env (cx.upd x l)) h' := fun b o ho n => ⟨kk b o (fun q => n (.inr (.inr ⟨x, l₀, hx, q.symm⟩))) ho, fun q => n (oo b q)⟩
  have ng := list_ne_stg e il₀.isList
  have S : ∀ b o, Stg env b → h.get? b = some o → h'.get? b = some o := fun b o sb' ho => kk b o (fun q => ng (q ▸ sb')) ho
  refine ⟨?_, T, fun b w o ho => kk b o (fun q => aW (q ▸ w)) ho⟩
  exact { base := fun b o ho => kk b o (fun q => by rw [q, a0] at ho; cases ho) (e.base b o ho), kind := e.kind, names := e.names, glob := e.glob, bi := e.bi
          wl := fun b w => let ⟨o, ho⟩ := e.wl b w; ⟨o, kk b o (fun q => aW (q ▸ w)) ho⟩
          ns := let ⟨m, n⟩ := e.ns; ⟨m, ns_at n fun o ho => S _ o (.inl rfl) ho⟩
          nl := e.nl, nl0 := e.nl0
          cells := fun y c hy => let ⟨v, o, ho, r⟩ := e.cells y c hy; ⟨v, o, S _ o (.inr ⟨y, hy⟩) ho, r⟩
          cw := e.cw, cinj := e.cinj, mine := e.mine
          vars := fun y d hy => let ⟨v, lk, r⟩ := e.vars y d hy; ⟨v, lk.at S, r.tr T⟩
          own := fun y l' hy => by
            rw [lookup_upd_own] at hy
            split at hy
            · rename_i q; cases hy; subst q; exact ⟨lk₀.at S, a0, aW, its, il, rl.tr T⟩
            · rename_i q
              obtain ⟨lk, a1, b1, its', ⟨o, ho, r'⟩, rl'⟩ := e.own y l' hy
              exact ⟨lk.at S, a1, b1, its', ⟨o, kk _ o (fun w => q (e.inj y x l' l₀ hy hx w)) ho, r'⟩, rl'.tr T⟩
          inj := fun y y' l₁ l₂ hy hy' => by
            rw [lookup_upd_own] at hy hy'
            split at hy <;> split at hy'
            · rename_i q q'; intro _; rw [q, q']
            · rename_i q q'; subst q; exact e.inj y y' l₀ l₂ hx hy'
            · rename_i q q'; subst q'; exact e.inj y y' l₁ l₀ hy hx
            · exact e.inj y y' l₁ l₂ hy hy' }

theorem ER.weaken {cx' : Cx} (e : ER h₀ W ad h env cx') (hk : cx.kinds = cx'.kinds) (hm : ∀ x, x ∈ cx.mine → x ∈ cx'.mine) (hv : ∀ x d, cx.vars.lookup x = some d → cx'.vars.lookup x = some d) (ho : ∀ x, cx.own.lookup x = cx'.own.lookup x) : ER h₀ W ad h env cx := by
  have oo : ∀ b, Oo W ad env cx b → Oo W ad env cx' b := by
    rintro b (w | g | ⟨y, l, hy, e⟩)
    · exact .inl w
    · exact .inr (.inl g)
    · exact .inr (.inr ⟨y, l, by rw [← ho]; exact hy, e⟩)
  exact { base := e.base, kind := e.kind, names := e.names.trans hk.symm, glob := e.glob, bi := e.bi, wl := e.wl, ns := e.ns, nl := e.nl, nl0 := e.nl0, cells := e.cells, cw := e.cw, cinj := e.cinj
          mine := fun x hx => e.mine x (hm x hx)
          vars := fun x d hx => let ⟨v, l, r⟩ := e.vars x d (hv x d hx); ⟨v, l, r.tr (.sub oo)⟩
          own := fun x l hx => let ⟨a, b, c, its, i, r⟩ := e.own x l (by rw [← ho]; exact hx); ⟨a, b, c, its, i, r.tr (.sub oo)⟩
          inj := fun x y l l' hx hy => e.inj x y l l' (by rw [← ho]; exact hx) (by rw [← ho]; exact hy) }

/-- more is kept from being changed: new objects -/
theorem ER.grow {hp : Heap} (e : ER h₀ W ad hp env cx) (k : Kp hp h) {M : Ow} (fresh : ∀ b, M b → hp.get? b = none) (lv : ∀ b, M b → ∃ o, h.get? b = some o) :
    ER h₀ (fun b => W b ∨ M b) ad h env cx ∧ Tr (Oo W ad env cx) hp (Oo (fun b => W b ∨ M b) ad env cx) h := by
  have T : Tr (Oo W ad env cx) hp (Oo (fun b => W b ∨ M b) ad env cx) h := fun b o hb n => by
    refine ⟨k b o hb, ?_⟩
    rintro ((w | m) | g | q)
    · exact n (.inl w)
    · rw [fresh b m] at hb; cases hb
    · exact n (.inr (.inl g))
    · exact n (.inr (.inr q))
  have e' := e.kp k
  refine ⟨?_, T⟩
  exact { base := e'.base, kind := e.kind, names := e.names, glob := e.glob, bi := e.bi
          wl := fun b w => w.elim (e'.wl b) (lv b)
          ns := e'.ns
          nl := fun w => w.elim e.nl fun m => by obtain ⟨m', o, _, _, ho, _⟩ := e.ns; rw [fresh _ m] at ho; cases ho
          nl0 := e.nl0, cells := e'.cells
          cw := fun x c hx w => w.elim (e.cw x c hx) fun m => by obtain ⟨v, o, ho, _⟩ := e.cells x c hx; rw [fresh _ m] at ho; cases ho
          cinj := e.cinj
          mine := fun x hx => by
            rcases e.mine x hx with a | ⟨a, c, hc, h0, hw⟩
            · exact .inl a
            · refine .inr ⟨a, c, hc, h0, fun w => w.elim hw fun m => ?_⟩
              obtain ⟨v, o, ho, _⟩ := e.cells x c hc; rw [fresh _ m] at ho; cases ho
          vars := fun x d hx => let ⟨v, l, r⟩ := e.vars x d hx; ⟨v, l.at fun b o _ ho => k b o ho, r.tr T⟩
          own := fun x l hx => by
            obtain ⟨lk, a, b, its, il, r⟩ := e.own x l hx
            obtain ⟨o, ho, z⟩ := id il
            refine ⟨lk.at fun b o _ ho => k b o ho, a, ?_, its, ⟨o, k _ o ho, z⟩, r.tr T⟩
            rintro (w | m)
            · exact b w
            · rw [fresh _ m] at ho; cases ho
          inj := e.inj }
/-- what is let go may have been changed -/
theorem ER.drop {M : Ow} (e : ER h₀ (fun b => W b ∨ M b) ad h env cx) (hM : ∀ b, M b → h₀.get? b = none ∧ ¬ W b) (k : ∀ b o, h.get? b = some o → ¬ M b → h'.get? b = some o) :
    ER h₀ W ad h' env cx ∧ Tr (Oo (fun b => W b ∨ M b) ad env cx) h (Oo W ad env cx) h' := by
  have T : Tr (Oo (fun b => W b ∨ M b) ad env cx) h (Oo W ad env cx) h' := fun b o hb n => by
    refine ⟨k b o hb fun m => n (.inl (.inr m)), ?_⟩
    rintro (w | g | q)
    · exact n (.inl (.inl w))
    · exact n (.inr (.inl g))
    · exact n (.inr (.inr q))
  have S : ∀ b o, Stg env b → h.get? b = some o → h'.get? b = some o := fun b o sb hb => by
    refine k b o hb fun m => ?_
    rcases sb with rfl | ⟨x, hx⟩
    · exact e.nl (.inr m)
    · obtain ⟨o', ho'⟩ := e.cw x b hx (.inr m)
      rw [(hM b m).1] at ho'; cases ho'
  refine ⟨?_, T⟩
  exact { base := fun b o hb => k b o (e.base b o hb) fun m => by rw [(hM b m).1] at hb; cases hb
          kind := e.kind, names := e.names, glob := e.glob, bi := e.bi
          wl := fun b w => by obtain ⟨o, ho⟩ := e.wl b (.inl w); exact ⟨o, k b o ho fun m => (hM b m).2 w⟩
          ns := let ⟨m, n⟩ := e.ns; ⟨m, ns_at n fun o ho => S _ o (.inl rfl) ho⟩
          nl := fun w => e.nl (.inl w), nl0 := e.nl0
          cells := fun x c hx => let ⟨v, o, ho, y⟩ := e.cells x c hx; ⟨v, o, S _ o (.inr ⟨x, hx⟩) ho, y⟩
          cw := fun x c hx w => e.cw x c hx (.inl w), cinj := e.cinj
          mine := fun x hx => (e.mine x hx).imp id fun ⟨a, c, hc, h0, hw⟩ => ⟨a, c, hc, h0, fun w => hw (.inl w)⟩
          vars := fun x d hx => let ⟨v, l, r⟩ := e.vars x d hx; ⟨v, l.at S, r.tr T⟩
          own := fun x l hx => by
            obtain ⟨lk, a, b, its, ⟨o, ho, y⟩, r⟩ := e.own x l hx
            exact ⟨lk.at S, a, fun w => b (.inl w), its, ⟨o, k _ o ho fun m => b (.inr m), y⟩, r.tr T⟩
          inj := e.inj }
end
end Mine
end
section
open PySem PySem.W PyProof.Rows PySem.Calls PySem.Spec PySem.NumText
set_option maxRecDepth 100000
namespace Mine
noncomputable def sm10 (i : Int) : Bool := decide (-10000000000 < i) && decide (i < 10000000000)
theorem sm10_bd {i : Int} (h : sm10 i = true) : -10000000000 < i ∧ i < 10000000000 := by
  unfold sm10 at h
  rw [Bool.and_eq_true, decide_eq_true_eq, decide_eq_true_eq] at h
  exact h

theorem neg_cps {i : Int} (h : i < 0) : (Str.ofString (toString i)).cps.toList = 45 :: (Str.ofString (toString (0 - i))).cps.toList := by
  rw [signs_ofString, signs_ofString, toString_neg h, String.toList_append]
  rfl
theorem dec_len {i : Int} (h : sm10 i = true) : (Str.ofString (toString i)).length ≤ 11 := by
  obtain ⟨h1, h2⟩ := sm10_bd h
  by_cases q : 0 ≤ i
  · exact Nat.le_trans (toString_length_le q (by decide) (k := 10) (by omega)) (by decide)
  · have := toString_length_le (v := 0 - i) (by omega) (by decide) (k := 10) (by omega)
    rw [len_text_neg (by omega)]
    omega
theorem dec_reads {i : Int} (h : sm10 i = true) : PySem.intText? (Str.ofString (toString i)) = some i ∧ (Str.ofString (toString i)).length ≤ 640 := by
  refine ⟨?_, Nat.le_trans (dec_len h) (by decide)⟩
  obtain ⟨h1, h2⟩ := sm10_bd h
  by_cases q : 0 ≤ i
  · exact KIN.num_reads q (by omega)
  · obtain ⟨m, hm⟩ := Int.eq_ofNat_of_zero_le (show 0 ≤ 0 - i by omega)
    have hd : AllDigits (Str.ofString (toString (0 - i))).cps.toList := by
      rw [hm]
      intro c hc
      rw [KIN.signs_num] at hc
      obtain ⟨ch, hch, e⟩ := List.mem_map.mp hc
      have r := digit_range (Nat.isDigit_of_mem_toDigits (by decide) (by decide) hch)
      rw [← e]
      exact r
    have hne : (Str.ofString (toString (0 - i))).cps.toList ≠ [] := by
      rw [hm, KIN.signs_num]
      intro e
      have h := toDigits_len_ge 10 m
      rw [List.map_eq_nil_iff.mp e] at h
      exact absurd h (by decide)
    have e := intText_neg (neg_cps (by omega)) hd hne (Nat.le_trans (dec_len h) (by decide))
    rw [e, hm, KIN.signs_num, KIN.val_back]
    congr 1
    omega
end Mine
end
section
open PySem PySem.W PyProof.Rows PySem.Calls PySem.Spec PySem.NumText Builtin.Str
set_option maxRecDepth 100000
namespace Mine
theorem int_text_any (c : Percent) (h1 : c.alt = false) (h2 : c.type = 100) (h3 : c.prec = none) {n : Int} : percentInt c (decide (n < 0)) (Str.ofString (toString ((n.natAbs : Nat) : Int))).cps.toList = (Str.ofString (toString n)).cps.toList := by
  by_cases q : n < 0
  · rw [neg_cps q]
    have e : ((n.natAbs : Nat) : Int) = 0 - n := by omega
    rw [e, decide_eq_true q]
    unfold percentInt
    simp [h1, h2, h3]
  · have e : ((n.natAbs : Nat) : Int) = n := by omega
    rw [e, decide_eq_false q]
    unfold percentInt
    simp [h1, h2, h3]
section
variable {M : Model} {A : Around} {E : Value → Shared → Prop} {s : Shared} {l : List Nat} {p : List Value} {r : List Nat}
  {f : Nat → List Value × Writer × List Nat → Sem (ForInStep (List Value × Writer × List Nat))} {Q : List Value × Writer × List Nat → Shared → Prop}
  {w : Writer} {T x y : PySem.Str} {N K : Nat} {o : Option Value}
theorem after_any {c : Percent} {n : Int} {d : List Nat} (g : KPc.Good w PySem.Str.empty N) (h1 : c.alt = false) (h2 : c.type = 100) (h3 : c.prec = none) (hn : sm10 n = true)
    (hd : d = (PySem.Str.ofString (toString ((n.natAbs : Nat) : Int))).cps.toList) (ho : o = none) (h : ∀ w', KPc.Good w' (PySem.Str.ofString (toString n)) (N + 11) → wpAny M A (forIn l (p, w', r) f) Q E s) :
    wpAny M A (forIn l (p, w.add ⟨(percentInt c (decide (n < 0)) d).toArray⟩ o, r) f) Q E s := by
  rw [hd, int_text_any c h1 h2 h3]
  exact KPc.after_str0 g (dec_len hn) (KPc.obj_none ho) h
end
theorem percent_meets (n : Int) (t u : Tok) (hn : sm10 n = true) (e1 : n.natAbs.log2 < 1920) (e2 : ((n.natAbs : Nat) : Int).natAbs.log2 < 1920) : Meets («Builtin».«str.__mod__» ⟨[.str (Str.mk #[37, 100]) t, .int n u], []⟩) (fun _ R s => ∀ t' k, R (.ok (.ret (.str (Str.ofString (toString n)) t'))) { s with toks := k }) := by
  apply KPc.meets_of
  intro _ _ _ _ _ _ hfin
  rw [KPc.entry_is]
  unfold Builtin.Str.percentFormat
  refine wpAny_bind (wpAny_isInstance (typeIs_int _ _ _) F.sub_int_tuple ?_)
  refine wpAny_bind (wpAny_of_eq (a := none) rfl ?_)
  refine wpAny_bind (wpAny_of_eq (KPc.fills _ _) ?_)
  kpc_if
  refine wpAny_bind (wpAny_pure ?_)
  refine wpAny_bind ?_
  rw [KPc.range_list]
  refine KPc.start ?_
  intro w' hw'
  refine KPc.turn ?_
  kpc_check
  repeat kpc_if
  refine wpAny_bind ?_
  refine wpAny_holding ?_
  repeat kpc_if
  kpc_conv
  refine wpAny_pure ?_
  refine wpAny_pure ?_
  refine after_any hw' rfl rfl rfl hn rfl (by kpc_none) ?_
  intro w2 hw2
  kpc_turns
theorem percent_d {prog : Program} {w : World} {s : Shared} {i : Int} {t u : Tok} {Q : Value → Shared → Prop} {E : Value → Shared → Prop} {A : Around} (hi : sm10 i = true) (h : ∀ t' k, Q (.str (Str.ofString (toString i)) t') { s with toks := k }) :
    wpAny (model prog w) A (binaryOp .Mod (.str (Str.mk #[37, 100]) t) (.int i u)) Q E s :=
  KPc.mod_lit rfl (by
    have := sm10_bd hi
    have e : i.natAbs < 2 ^ 1920 := Nat.lt_of_lt_of_le (show i.natAbs < 2 ^ 40 by omega) (Nat.pow_le_pow_right (by decide) (by decide))
    by_cases z : i.natAbs = 0
    · rw [z]; decide
    · exact (Nat.log2_lt z).mpr e) (percent_meets i t u hi) h
end Mine
end
section
open PySem PySem.W PyProof.Rows PySem.Calls PySem.Spec
set_option linter.unusedSectionVars false
set_option maxRecDepth 100000
namespace Mine
variable [Inhabited Rho]

noncomputable def sm (i : Int) : Bool := decide (-4611686018427387904 < i) && decide (i < 4611686018427387904)
theorem sm_bits {i : Int} (h : sm i = true) : Builtin.Int.intBits i ≤ 64 := by
  unfold sm at h
  rw [Bool.and_eq_true, decide_eq_true_eq, decide_eq_true_eq] at h
  exact PySem.intBits_le_64 (by omega) (by omega)
noncomputable def b2I (b : Bool) : Int := if b then 1 else 0
noncomputable def repS (x : PySem.Str) (n : Nat) : PySem.Str := ⟨(List.replicate n x.cps.toList).flatten.toArray⟩

noncomputable def Ar (n : Nat) : Around := { handled := none, depth := 400 + 10 * min n 50, frames := none, guards := none, units := 100 + 20 * min n 50 }
theorem ar_units (n : Nat) : (Ar n).units < cLine := by show 100 + 20 * min n 50 < 9900; omega

/-- a tree gives a value that is d -/
noncomputable def Gives (prog : Program) (w : World) (n : Nat) (O : Ow) (t : Sem Value) (d : D) (s : Shared) : Prop :=
  ∀ (Q : Value → Shared → Prop) (E : Value → Shared → Prop), (∀ v h' tk, Kp s.heap h' → R O h' d v → Q v { s with heap := h', toks := tk }) → wpAny (model prog w) (Ar n) t Q E s

section
variable {prog : Program} {w : World} {n : Nat} {O : Ow} {s : Shared} {d : D}
theorem Gives.pure {v : Value} (r : R O s.heap d v) : Gives prog w n O (pure v) d s := fun _ _ h => wpAny_pure (h v s.heap s.toks (Kp.refl _) r)
theorem Gives.bind {d' : D} {t : Sem Value} {f : Value → Sem Value} (x : Gives prog w n O t d' s) (y : ∀ v h' tk, Kp s.heap h' → R O h' d' v → Gives prog w n O (f v) d { s with heap := h', toks := tk }) : Gives prog w n O (t.bind f) d s :=
  fun Q E h => wpAny_bind (x _ _ fun v h' tk k r => y v h' tk k r Q E fun v' h'' tk' k' r' => h v' h'' tk' (k.trans k') r')
end

noncomputable def asPo : D → Option Po
  | .int i => some (Po.con i)
  | .sy (.po p) => some p
  | _ => none
noncomputable def lim62 : Nat := 4611686018427387904
noncomputable def isX : Po → Bool
  | [(m, .ofNat c)] => Nat.beq c 1 && m.same ⟨1, 0, 0⟩
  | _ => false
noncomputable def numS (op : Operator) (p q : Po) : Option D := match op with
  | .Add => some (.sy (.po (Po.add p q)))
  | .Sub => some (.sy (.po (Po.add p (Po.neg q))))
  | .Mult => if p.bnd < lim62 then some (.sy (.po (Po.mul p q))) else none
  | _ => none
noncomputable def syI (op : Operator) (x : Sy) (b : Int) : Option D := match x with
  | .pmod k p => (match op with | .Mod => if b = k ∧ b ≠ 0 then some (.sy (.po p)) else none | _ => none)
  | .ai => (match op with | .Mod => if 0 < b then some (.sy (.rg b)) else none | .FloorDiv => if 0 < b ∧ b < 1000000000 then some (.sy .ai) else none | _ => none)
  | .po p => (match op with | .Pow => if 0 ≤ b ∧ b ≤ 64 ∧ p.bnd < lim62 then some (.sy (.po (Po.pow p b.toNat))) else none | _ => none)
  | _ => none
noncomputable def sySy (op : Operator) (x y : Sy) : Option D := match op with
  | .Pow => (match x with | .po p => (match y with | .ex q => if isX p then some (.sy (.po q)) else none | _ => none) | _ => none)
  | _ => none
noncomputable def strSy (op : Operator) (x : PySem.Str) (y : Sy) : Option D := match op with
  | .Mod => (match y with | .po p => if x = Str.mk #[37, 100] ∧ p.bnd < 10000000000 then some (.sy (.dec p)) else none | _ => none)
  | _ => none
noncomputable def binS (op : Operator) (a b : D) : Option D := orr (bind2 a.sy? b.int? (syI op)) (orr (bind2 a.sy? b.sy? (sySy op)) (orr (bind2 a.str? b.sy? (strSy op)) (bind2 (asPo a) (asPo b) (numS op))))
noncomputable def binMI (op : Operator) (km : Int × Int) (b : Int) : Option D := match op with
  | .Mod => if 0 < b ∧ km.1.fmod b = 0 then some (.int (km.2.fmod b)) else none
  | .FloorDiv => if 0 < b ∧ b < 1000000000 ∧ km.1.fmod b = 0 then some (.mod (km.1.fdiv b) (km.2.fdiv b)) else none
  | .RShift => if 0 ≤ b ∧ km.1.fmod (2 ^ b.toNat) = 0 then some (.mod (km.1.fdiv (2 ^ b.toNat)) (km.2.fdiv (2 ^ b.toNat))) else none
  | .BitAnd => if b = 1 ∧ km.1.fmod 2 = 0 then some (.int (km.2.fmod 2)) else none
  | _ => none
noncomputable def binII (op : Operator) (a b : Int) : Option D := match op with
  | .Add => some (.int (a + b))
  | .Sub => some (.int (a - b))
  | .Mult => if sm a then some (.int (a * b)) else none
  | .Mod => if b ≠ 0 then some (.int (a.fmod b)) else none
  | .FloorDiv => if b ≠ 0 ∧ b.natAbs < 1000000000 then some (.int (a.fdiv b)) else none
  | .Pow => if 0 ≤ b ∧ b ≤ 64 ∧ sm a = true then some (.int (a ^ b.toNat)) else none
  | .RShift => if 0 ≤ b then some (.int (a.fdiv (2 ^ b.toNat))) else none
  | .BitAnd => some (.int (Builtin.bitAnd a b))
  | _ => none
noncomputable def binTI (op : Operator) (x : PySem.Str) (n : Int) : Option D := match op with
  | .Mult => if x.length ≤ 1000 ∧ 0 ≤ n ∧ n ≤ 1000 then some (.str (Txt.mul x n)) else none
  | .Mod => if x = Str.mk #[37, 100] ∧ sm10 n = true then some (.dec n) else none
  | _ => none
noncomputable def binBB (op : Operator) (a b : Bool) : Option D := match op with
  | .Sub => some (.int (b2I a - b2I b))
  | _ => none
noncomputable def binTT (op : Operator) (x y : PySem.Str) : Option D := match op with
  | .Add => if x.length ≤ 1000 ∧ y.length ≤ 1000 then some (.str (x ++ y)) else none
  | _ => none
noncomputable def binLL (op : Operator) (l m : List D) : Option D := match op with
  | .Add => if l.length ≤ 1000 ∧ m.length ≤ 1000 then some (.list (l ++ m)) else none
  | _ => none
noncomputable def bin (op : Operator) (a b : D) : Option D := orr (bind2 a.int? b.int? (binII op)) (orr (bind2 a.mod? b.int? (binMI op)) (orr (bind2 a.str? b.int? (binTI op)) (orr (bind2 a.str? b.str? (binTT op)) (orr (bind2 a.list? b.list? (binLL op)) (orr (bind2 a.bool? b.bool? (binBB op)) (binS op a b))))))

section
variable {prog : Program} {w : World} {A : Around} {E : Value → Shared → Prop} {s : Shared}
theorem list_add {l b : Addr} {vs ws : Array Value} {Q : Value → Shared → Prop} (hl : s.heap.IsList l vs) (hb : s.heap.IsList b ws) (hsz : vs.size + ws.size ≤ sizeLine)
    (h : Q (.ref s.heap.objs.size) { s with heap := s.heap.push { cls := .type "list", data := .seq (vs ++ ws) } }) :
    wpAny (model prog w) A (binaryOp .Add (.ref l) (.ref b)) Q E s := by
  obtain ⟨⟨cls, dd, data, sl⟩, ho, hc, n, hd⟩ := id hl
  obtain ⟨⟨cls2, dd2, data2, sl2⟩, ho2, hc2, n2, hd2⟩ := id hb
  simp only at hc hd hc2 hd2
  subst hc hd hc2 hd2
  exact concat_meets ⟨_, ho, rfl⟩ ⟨_, ho2, rfl⟩ noFill_list_add seq_list_add PySem.F.slot_list_add PySem.F.entry_list_add (PySem.F.args_list_add_2 _ _) (list_addW l b vs ws n n2 dd dd2 sl sl2 hsz) ⟨ho, ho2, h⟩
end

section
variable {prog : Program} {w : World} {n : Nat} {O : Ow} {s : Shared} {d : D}
theorem gives_tok {v : Tok → Value} (h : ∀ t, R O s.heap d (v t)) {t : Sem Value} (x : ∀ (Q : Value → Shared → Prop) (E : Value → Shared → Prop), (∀ t k, Q (v t) { s with toks := k }) → wpAny (model prog w) (Ar n) t Q E s) : Gives prog w n O t d s :=
  fun Q E hQ => x Q E fun t k => hQ _ s.heap k (Kp.refl _) (h t)
theorem live_fresh (lv : ∀ b, O b → ∃ o, s.heap.get? b = some o) {a : Addr} (h : s.heap.get? a = none) : ¬ O a := fun oa => by
  obtain ⟨o, ho⟩ := lv a oa
  rw [h] at ho; cases ho
theorem size_none (h : Heap) : h.get? h.objs.size = none := by
  cases e : h.get? h.objs.size with
  | none => rfl
  | some o => exact absurd (Heap.lt_size e) (Nat.lt_irrefl _)
theorem kp_push (h : Heap) (o : Obj) : Kp h (h.push o) := fun _ _ e => Heap.get?_push_of_some _ e
theorem new_list (lv : ∀ b, O b → ∃ o, s.heap.get? b = some o) {l : List D} {its : Array Value} (r : RL O s.heap l its.toList) (h : Heap) (e : h = s.heap.push { cls := .type "list", data := .seq its }) :
    R O h (.list l) (.ref s.heap.objs.size) := by
  subst e
  exact .list l _ its (live_fresh lv (size_none _)) ⟨_, Heap.get?_push_size _ rfl, rfl, _, rfl⟩ (r.tr (.of_kp (kp_push _ _)))
theorem new_tup (lv : ∀ b, O b → ∃ o, s.heap.get? b = some o) {l : List D} {its : Array Value} (r : RL O s.heap l its.toList) (h : Heap) (e : h = s.heap.push { cls := .type "tuple", data := .seq its }) :
    R O h (.tup l) (.ref s.heap.objs.size) := by
  subst e
  exact .tup l _ its (live_fresh lv (size_none _)) ⟨_, Heap.get?_push_size _ rfl, rfl, _, rfl⟩ (r.tr (.of_kp (kp_push _ _)))

theorem list_gives (lv : ∀ b, O b → ∃ o, s.heap.get? b = some o) {l m : List D} {a b : Addr} {i1 i2 : Array Value} (h1 : s.heap.IsList a i1) (r1 : RL O s.heap l i1.toList) (h2 : s.heap.IsList b i2) (r2 : RL O s.heap m i2.toList)
    (hsz : l.length + m.length ≤ sizeLine) : Gives prog w n O (binaryOp .Add (.ref a) (.ref b)) (.list (l ++ m)) s := fun Q E hQ => by
  have e1 : l.length = i1.size := by have := r1.length; simpa using this
  have e2 : m.length = i2.size := by have := r2.length; simpa using this
  refine list_add h1 h2 (by omega) (hQ _ _ s.toks (kp_push _ _) (new_list lv ?_ _ rfl))
  rw [Array.toList_append]
  exact r2.append r1
theorem mod_mod {k b i : Int} (hk : 0 < k) (hb : 0 < b) (h : k.fmod b = 0) : i.fmod b = (i.fmod k).fmod b := by
  rw [Int.fmod_eq_emod_of_nonneg _ (by omega), Int.fmod_eq_emod_of_nonneg _ (by omega), Int.fmod_eq_emod_of_nonneg _ (by omega)]
  rw [Int.fmod_eq_emod_of_nonneg _ (by omega)] at h
  exact (Int.emod_emod_of_dvd i (Int.dvd_of_emod_eq_zero h)).symm
theorem mod_pos {k b : Int} (hk : 0 < k) (hb : 0 < b) (h : k.fmod b = 0) : 0 < k.fdiv b := by
  rw [Int.fmod_eq_emod_of_nonneg _ (by omega)] at h
  rw [Int.fdiv_eq_ediv_of_nonneg _ (by omega)]
  obtain ⟨c, rfl⟩ := Int.dvd_of_emod_eq_zero h
  rw [Int.mul_ediv_cancel_left _ (by omega)]
  by_cases q : 0 < c
  · exact q
  · have := Int.mul_le_mul_of_nonneg_left (show c ≤ 0 by omega) (show (0:Int) ≤ b by omega)
    rw [Int.mul_zero] at this; omega
theorem mod_div {k b i : Int} (hk : 0 < k) (hb : 0 < b) (h : k.fmod b = 0) : (i.fdiv b).fmod (k.fdiv b) = (i.fmod k).fdiv b := by
  have hp := mod_pos hk hb h
  rw [Int.fmod_eq_emod_of_nonneg _ (by omega)] at h
  obtain ⟨c, rfl⟩ := Int.dvd_of_emod_eq_zero h
  rw [Int.fdiv_eq_ediv_of_nonneg _ (by omega), Int.mul_ediv_cancel_left _ (by omega)] at hp
  rw [Int.fdiv_eq_ediv_of_nonneg _ (by omega), Int.fdiv_eq_ediv_of_nonneg _ (by omega), Int.fdiv_eq_ediv_of_nonneg _ (by omega), Int.mul_ediv_cancel_left _ (by omega)]
  rw [Int.fmod_eq_emod_of_nonneg _ (by omega), Int.fmod_eq_emod_of_nonneg _ (by omega)]
  have e1 := Int.emod_add_mul_ediv i (b * c)
  have e2 := Int.emod_nonneg i (b := b * c) (by omega)
  have e3 := Int.emod_lt_of_pos i hk
  generalize i % (b * c) = m at *
  generalize i / (b * c) = q at *
  have e4 : i = m + b * (c * q) := by rw [← e1, Int.mul_assoc]
  have e5 : i / b = m / b + c * q := by rw [e4, Int.add_mul_ediv_left _ _ (by omega)]
  rw [e5, Int.add_mul_emod_self_left]
  refine Int.emod_eq_of_lt (Int.ediv_nonneg e2 (by omega)) ?_
  rw [Int.ediv_lt_iff_lt_mul hb, Int.mul_comm]; exact e3

theorem asPo_R {h : Heap} {a : D} {v : Value} {p : Po} (r : R O h a v) (e : asPo a = some p) : ∃ t, v = .int p.ev t := by
  cases a with
  | int i =>
    obtain ⟨t, rfl⟩ := r.int_v
    exact ⟨t, by rw [← Option.some.inj e, Po.ev_con]⟩
  | sy x =>
    have := r.sy_v
    cases x with
    | po q => rw [← Option.some.inj e]; exact this
    | _ => exfalso; exact no_some e
  | _ => exfalso; exact no_some e
theorem poR {h : Heap} {p : Po} {i : Int} (t : Tok) (e : i = p.ev) : R O h (.sy (.po p)) (.int i t) := .sy _ _ ⟨t, by rw [e]⟩
theorem aiR {h : Heap} {i : Int} (t : Tok) : R O h (.sy .ai) (.int i t) := .sy _ _ ⟨i, t, rfl⟩
theorem rgR {h : Heap} {i k : Int} (t : Tok) (h0 : 0 ≤ i) (h1 : i < k) : R O h (.sy (.rg k)) (.int i t) := .sy _ _ ⟨i, t, rfl, h0, h1⟩
theorem decR {h : Heap} {p : Po} (t : Tok) : R O h (.sy (.dec p)) (.str (Str.ofString (toString p.ev)) t) := .sy _ _ ⟨t, rfl⟩
theorem sm_of {i : Int} {n : Nat} (h : i.natAbs ≤ n) (hn : n < lim62) : sm i = true := by
  unfold lim62 at hn
  unfold sm
  rw [Bool.and_eq_true, decide_eq_true_eq, decide_eq_true_eq]
  omega
theorem isX_ev {p : Po} (h : isX p = true) : p.ev = (default : Rho).x := by
  unfold isX at h
  split at h
  · rename_i m c
    rw [Bool.and_eq_true] at h
    obtain ⟨h1, h2⟩ := h
    have e := Mo.ev_same h2
    have : c = 1 := Nat.eq_of_beq_eq_true h1
    subst this
    show (Int.ofNat 1) * m.ev + 0 = _
    rw [e]
    simp [Mo.ev]
    exact Int.pow_one _
  · exfalso; first | exact no_some h | cases h
theorem syI_sound {op : Operator} {x : Sy} {v : Value} {b : Int} {u : Tok} (hx : SyR x v) (h : syI op x b = some d) : Gives prog w n O (binaryOp op v (.int b u)) d s := by
  cases x with
  | pmod k p =>
    obtain ⟨i, t, rfl, hq⟩ := hx
    cases op with
    | Mod =>
      obtain ⟨⟨rfl, h0⟩, rfl⟩ := ite_eq h
      exact gives_tok (v := fun t => .int (i.fmod b) t) (fun t => poR t hq) fun Q E hQ => mod_int' h0 (hQ _ _)
    | _ => exfalso; exact no_some h
  | ai =>
    obtain ⟨i, t, rfl⟩ := hx
    cases op with
    | Mod =>
      obtain ⟨hs, rfl⟩ := ite_eq h
      refine gives_tok (v := fun t => .int (i.fmod b) t) (fun t => rgR t ?_ ?_) fun Q E hQ => mod_int' (Ne.symm (Int.ne_of_lt hs)) (hQ _ _)
      · rw [Int.fmod_eq_emod_of_nonneg _ (Int.le_of_lt hs)]; exact Int.emod_nonneg _ (Ne.symm (Int.ne_of_lt hs))
      · rw [Int.fmod_eq_emod_of_nonneg _ (Int.le_of_lt hs)]; exact Int.emod_lt_of_pos _ hs
    | FloorDiv =>
      obtain ⟨hs, rfl⟩ := ite_eq h
      exact gives_tok (v := fun t => .int (i.fdiv b) t) (fun t => aiR t) fun Q E hQ => floordiv_int (by omega) (hQ _ _) (Or.inl (PyProof.noPylong_small (by omega)))
    | _ => exfalso; exact no_some h
  | po p =>
    obtain ⟨t, rfl⟩ := hx
    cases op with
    | Pow =>
      obtain ⟨⟨h0, h1, h2⟩, rfl⟩ := ite_eq h
      refine gives_tok (v := fun t => .int (Po.ev p ^ b.toNat) t) (fun t => poR t ?_) fun Q E hQ => pow_int h0 ?_ (hQ _ _)
      · rw [Po.ev_pow]
      · have hz : Builtin.Int.intBits (Po.ev p) ≤ 64 := sm_bits (sm_of (Po.ev_abs p) h2)
        have : (Builtin.Int.intBits (Po.ev p) : Int) * b ≤ 64 * 64 := Int.mul_le_mul (by omega) h1 h0 (by decide)
        omega
    | _ => exfalso; exact no_some h
  | _ => exfalso; exact no_some h
theorem sySy_sound {op : Operator} {x y : Sy} {v u : Value} (hx : SyR x v) (hy : SyR y u) (h : sySy op x y = some d) : Gives prog w n O (binaryOp op v u) d s := by
  cases op with
  | Pow =>
    cases x with
    | po p =>
      cases y with
      | ex q =>
        obtain ⟨hs, rfl⟩ := ite_eq h
        obtain ⟨t, rfl⟩ := hx
        obtain ⟨k, u, rfl, h0, h1, h2⟩ := hy
        refine gives_tok (v := fun t => .int ((Po.ev p) ^ k.toNat) t) (fun t => poR t ?_) fun Q E hQ => pow_int h0 ?_ (hQ _ _)
        · rw [isX_ev hs, h2]
        · have hz : Builtin.Int.intBits (Po.ev p) ≤ 64 := sm_bits (sm_of (n := 3) (by rw [isX_ev hs]; exact (default : Rho).hx) (by decide))
          have : (Builtin.Int.intBits (Po.ev p) : Int) * k ≤ 64 * 64 := Int.mul_le_mul (by omega) (by omega) h0 (by decide)
          omega
      | _ => exfalso; exact no_some h
    | _ => exfalso; exact no_some h
  | _ => exfalso; exact no_some h
theorem strSy_sound {op : Operator} {x : PySem.Str} {y : Sy} {t : Tok} {u : Value} (hy : SyR y u) (h : strSy op x y = some d) : Gives prog w n O (binaryOp op (.str x t) u) d s := by
  cases op with
  | Mod =>
    cases y with
    | po p =>
      obtain ⟨⟨rfl, hs⟩, rfl⟩ := ite_eq h
      obtain ⟨u, rfl⟩ := hy
      exact gives_tok (v := fun t => .str (Str.ofString (toString (Po.ev p))) t) (fun t => decR t) fun Q E hQ => percent_d (by
        have := Po.ev_abs p
        unfold sm10
        rw [Bool.and_eq_true, decide_eq_true_eq, decide_eq_true_eq]
        omega) (fun t k => hQ t k)
    | _ => exfalso; exact no_some h
  | _ => exfalso; exact no_some h
theorem numS_sound {op : Operator} {p q : Po} {t u : Tok} (h : numS op p q = some d) : Gives prog w n O (binaryOp op (.int p.ev t) (.int q.ev u)) d s := by
  cases op with
  | Add => rw [← Option.some.inj h]; exact gives_tok (v := fun t => .int ((Po.ev p) + (Po.ev q)) t) (fun t => poR t (Po.ev_add p q).symm) fun Q E hQ => add_int (hQ _ _)
  | Sub => rw [← Option.some.inj h]; exact gives_tok (v := fun t => .int ((Po.ev p) - (Po.ev q)) t) (fun t => poR t (by rw [Po.ev_add, Po.ev_neg, Int.sub_eq_add_neg])) fun Q E hQ => sub_int (hQ _ _)
  | Mult =>
    obtain ⟨hs, rfl⟩ := ite_eq h
    exact gives_tok (v := fun t => .int ((Po.ev p) * (Po.ev q)) t) (fun t => poR t (Po.ev_mul p q).symm) fun Q E hQ => PyProof.Rows.mul_int (hQ _ _) (IntMulOk.of_left (sm_bits (sm_of (Po.ev_abs p) hs)))
  | _ => exfalso; exact no_some h
theorem binS_sound (op : Operator) (a b : D) (va vb : Value) (ra : R O s.heap a va) (rb : R O s.heap b vb) (hb : binS op a b = some d) : Gives prog w n O (binaryOp op va vb) d s := by
  rcases orr_some hb with h | hb
  · obtain ⟨x, i, ha, hi, h⟩ := bind2_ex h
    obtain ⟨t, rfl⟩ := intR rb hi
    exact @syI_sound _ prog w n O s d op x _ i t (syR ra ha) h
  rcases orr_some hb with h | hb
  · obtain ⟨x, y, ha, hi, h⟩ := bind2_ex h
    exact @sySy_sound _ prog w n O s d op x y va vb (syR ra ha) (syR rb hi) h
  rcases orr_some hb with h | h
  · obtain ⟨x, y, ha, hi, h⟩ := bind2_ex h
    obtain ⟨t, rfl⟩ := strR ra ha
    exact @strSy_sound _ prog w n O s d op x y t vb (syR rb hi) h
  · obtain ⟨p, q, hp, hq, h⟩ := bind2_ex h
    obtain ⟨t, rfl⟩ := asPo_R ra hp
    obtain ⟨u, rfl⟩ := asPo_R rb hq
    exact @numS_sound _ prog w n O s d op p q t u h
theorem binII_sound {op : Operator} {a b : Int} {t u : Tok} (h : binII op a b = some d) : Gives prog w n O (binaryOp op (.int a t) (.int b u)) d s := by
  have g : ∀ i : Int, i = i → ∀ t, R O s.heap (.int i) (.int i t) := fun i _ t => .int i t
  cases op with
  | Add => rw [← Option.some.inj h]; exact gives_tok (g _ rfl) fun Q E hQ => add_int (hQ _ _)
  | Sub => rw [← Option.some.inj h]; exact gives_tok (g _ rfl) fun Q E hQ => sub_int (hQ _ _)
  | Mult => obtain ⟨hs, rfl⟩ := ite_eq h; exact gives_tok (g _ rfl) fun Q E hQ => PyProof.Rows.mul_int (hQ _ _) (IntMulOk.of_left (sm_bits hs))
  | Mod => obtain ⟨hs, rfl⟩ := ite_eq h; exact gives_tok (g _ rfl) fun Q E hQ => mod_int' hs (hQ _ _)
  | FloorDiv => obtain ⟨hs, rfl⟩ := ite_eq h; exact gives_tok (g _ rfl) fun Q E hQ => floordiv_int hs.1 (hQ _ _) (Or.inl (PyProof.noPylong_small (by omega)))
  | Pow =>
    obtain ⟨⟨h0, h1, hs⟩, rfl⟩ := ite_eq h
    refine gives_tok (g _ rfl) fun Q E hQ => pow_int h0 ?_ (hQ _ _)
    have hz := sm_bits hs
    have : (Builtin.Int.intBits a : Int) * b ≤ 64 * 64 := Int.mul_le_mul (by omega) h1 h0 (by decide)
    omega
  | RShift => obtain ⟨hs, rfl⟩ := ite_eq h; exact gives_tok (g _ rfl) fun Q E hQ => rshift_int hs (hQ _ _)
  | BitAnd => rw [← Option.some.inj h]; exact gives_tok (g _ rfl) fun Q E hQ => and_int (hQ _ _)
  | _ => exfalso; exact no_some h
theorem binMI_sound {op : Operator} {km : Int × Int} {i b : Int} {t u : Tok} (hk : 0 < km.1) (hm : i.fmod km.1 = km.2) (h : binMI op km b = some d) : Gives prog w n O (binaryOp op (.int i t) (.int b u)) d s := by
  cases op with
  | Mod =>
    obtain ⟨hs, rfl⟩ := ite_eq h
    refine gives_tok (v := fun t => .int _ t) (fun t => ?_) fun Q E hQ => mod_int' (Ne.symm (Int.ne_of_lt hs.1)) (hQ _ _)
    rw [← hm, ← mod_mod hk hs.1 hs.2]; exact .int _ t
  | FloorDiv =>
    obtain ⟨hs, rfl⟩ := ite_eq h
    exact gives_tok (v := fun t => .int _ t) (fun t => .mod _ _ _ t (mod_pos hk hs.1 hs.2.2) (hm ▸ mod_div hk hs.1 hs.2.2)) fun Q E hQ => floordiv_int (Ne.symm (Int.ne_of_lt hs.1)) (hQ _ _) (Or.inl (PyProof.noPylong_small (by omega)))
  | RShift =>
    obtain ⟨hs, rfl⟩ := ite_eq h
    exact gives_tok (v := fun t => .int _ t) (fun t => .mod _ _ _ t (mod_pos hk (Int.pow_pos (by decide)) hs.2) (hm ▸ mod_div hk (Int.pow_pos (by decide)) hs.2)) fun Q E hQ => rshift_int hs.1 (hQ _ _)
  | BitAnd =>
    obtain ⟨⟨rfl, hs⟩, rfl⟩ := ite_eq h
    refine gives_tok (v := fun t => .int _ t) (fun t => ?_) fun Q E hQ => and_int (hQ _ _)
    rw [bitAnd_m1, ← hm, ← mod_mod hk (by decide) hs, Int.fmod_eq_emod_of_nonneg _ (by decide)]; exact .int _ t
  | _ => exfalso; exact no_some h
theorem binTI_sound {op : Operator} {x : PySem.Str} {b : Int} {t u : Tok} (h : binTI op x b = some d) : Gives prog w n O (binaryOp op (.str x t) (.int b u)) d s := by
  cases op with
  | Mult =>
    obtain ⟨hs, rfl⟩ := ite_eq h
    exact gives_tok (v := fun t => .str _ t) (fun t => .str _ t) fun Q E hQ => SB.mul (mulOk_of 1000 1000 hs.1 (by omega) (by omega) (by decide) (by decide)) (fun t k => hQ t k)
  | Mod =>
    obtain ⟨⟨rfl, hs⟩, rfl⟩ := ite_eq h
    exact gives_tok (v := fun t => .str _ t) (fun t => .dec _ t) fun Q E hQ => percent_d hs (fun t k => hQ t k)
  | _ => exfalso; exact no_some h
theorem binTT_sound {op : Operator} {x y : PySem.Str} {t u : Tok} (h : binTT op x y = some d) : Gives prog w n O (binaryOp op (.str x t) (.str y u)) d s := by
  cases op with
  | Add =>
    obtain ⟨hs, rfl⟩ := ite_eq h
    exact gives_tok (v := fun t => .str _ t) (fun t => .str _ t) fun Q E hQ => PyProof.Rows.add_str (fun t k => hQ t k) (by rw [sizeLine_eq]; omega)
  | _ => exfalso; exact no_some h
theorem binLL_sound (lv : ∀ b, O b → ∃ o, s.heap.get? b = some o) {op : Operator} {x y : List D} {va vb : Value} (ra : R O s.heap (.list x) va) (rb : R O s.heap (.list y) vb) (h : binLL op x y = some d) : Gives prog w n O (binaryOp op va vb) d s := by
  obtain ⟨p, i1, rfl, _, h1, r1⟩ := ra.list_v
  obtain ⟨q, i2, rfl, _, h2, r2⟩ := rb.list_v
  cases op with
  | Add =>
    obtain ⟨hs, rfl⟩ := ite_eq h
    exact list_gives lv h1 r1 h2 r2 (by rw [sizeLine_eq]; omega)
  | _ => exfalso; exact no_some h
theorem binBB_sound {op : Operator} {x y : Bool} (h : binBB op x y = some d) : Gives prog w n O (binaryOp op (.bool x) (.bool y)) d s := by
  cases op with
  | Sub => rw [← Option.some.inj h]; exact gives_tok (v := fun t => .int _ t) (fun t => .int _ t) fun Q E hQ => sub_bool (hQ _ _)
  | _ => exfalso; exact no_some h
theorem bin_sound (lv : ∀ b, O b → ∃ o, s.heap.get? b = some o) (op : Operator) (a b : D) (va vb : Value) (ra : R O s.heap a va) (rb : R O s.heap b vb) (hb : bin op a b = some d) : Gives prog w n O (binaryOp op va vb) d s := by
  rcases orr_some hb with h | hb
  · obtain ⟨x, i, ha, hi, h⟩ := bind2_ex h
    obtain ⟨t, rfl⟩ := intR ra ha
    obtain ⟨u, rfl⟩ := intR rb hi
    exact @binII_sound _ prog w n O s d op x i t u h
  rcases orr_some hb with h | hb
  · obtain ⟨x, i, ha, hi, h⟩ := bind2_ex h
    obtain ⟨j, t, rfl, p, q⟩ := modR ra ha
    obtain ⟨u, rfl⟩ := intR rb hi
    exact @binMI_sound _ prog w n O s d op x j i t u p q h
  rcases orr_some hb with h | hb
  · obtain ⟨x, i, ha, hi, h⟩ := bind2_ex h
    obtain ⟨t, rfl⟩ := strR ra ha
    obtain ⟨u, rfl⟩ := intR rb hi
    exact @binTI_sound _ prog w n O s d op x i t u h
  rcases orr_some hb with h | hb
  · obtain ⟨x, i, ha, hi, h⟩ := bind2_ex h
    obtain ⟨t, rfl⟩ := strR ra ha
    obtain ⟨u, rfl⟩ := strR rb hi
    exact @binTT_sound _ prog w n O s d op x i t u h
  rcases orr_some hb with h | hb
  · obtain ⟨x, i, ha, hi, h⟩ := bind2_ex h
    exact @binLL_sound _ prog w n O s d lv op x i va vb (list_eq ha ▸ ra) (list_eq hi ▸ rb) h
  rcases orr_some hb with h | hb
  · obtain ⟨x, i, ha, hi, h⟩ := bind2_ex h
    rw [boolR ra ha, boolR rb hi]
    exact @binBB_sound _ prog w n O s d op x i h
  · exact @binS_sound _ prog w n O s d op a b va vb ra rb hb
end
end Mine
end
section
open PySem PySem.W PyProof.Rows PySem.Calls PySem.Spec
set_option linter.unusedSectionVars false
set_option maxRecDepth 100000
namespace Mine
variable [Inhabited Rho]

noncomputable def cstB (b : Array UInt8) : Option D :=
  orr (if b = #[40] ∨ b = #[34, 41, 41, 34, 40] ∨ b = #[41, 40, 34, 92, 34, 41, 34, 40] then some (.par 1) else none) (if b = #[41] ∨ b = #[41, 34, 40, 34] ∨ b = #[34, 40, 92, 92, 34, 41, 41, 40] then some (.par (-1)) else none)
theorem cstB_ex {b : Array UInt8} {d : D} (h : cstB b = some d) : ∃ k, ParOk b k ∧ D.par k = d := by
  rcases orr_some h with h | h
  · exact ⟨1, .inl ⟨rfl, (ite_eq h).1⟩, (ite_eq h).2⟩
  · exact ⟨-1, .inr ⟨rfl, (ite_eq h).1⟩, (ite_eq h).2⟩
noncomputable def cst : Const → Option D
  | .none => some .non
  | .bool b => some (.bool b)
  | .int i => some (.int i)
  | .str x => some (.str x)
  | .bytes b => cstB b.toArray
  | _ => none

noncomputable def Sy.rg? : Sy → Option Int
  | .rg k => some k
  | _ => none
omit [Inhabited Rho] in
theorem rg_eq {x : Sy} {k : Int} (e : x.rg? = some k) : x = .rg k := by
  cases x <;> first | exact Option.some.inj e ▸ rfl | (exfalso; exact no_some e)
noncomputable def ixL (n : Nat) (i : Int) : Option Nat := if 0 ≤ i then (if i < 2 ^ 63 then some i.toNat else none) else if -(n : Int) ≤ i ∧ -(2 ^ 63) ≤ i then some (i + n).toNat else none
noncomputable def ixS (n : Nat) (i : Int) : Option Nat := if -(2 ^ 63) ≤ i ∧ i < 2 ^ 63 then seqIndex? i n else none
noncomputable def isPar (j : Int) (d : D) : Bool := d.par? == some j
noncomputable def allPar : List D → Option Int
  | d :: r => d.par?.bind fun j => if r.all (isPar j) then some j else none
  | [] => none
noncomputable def sub (a b : D) : Option D :=
  orr (bind2 a.list? b.int? fun l i => (ixL l.length i).bind (l[·]?))
    (orr (bind2 a.tup? b.int? fun l i => (ixS l.length i).bind (l[·]?))
      (orr (bind2 a.str? b.int? fun x i => (ixS x.length i).bind fun j => (x.cps[j]?).map fun c => .str ⟨#[c]⟩)
        (bind2 a.tup? (b.sy?.bind Sy.rg?) fun l k => if k ≤ l.length ∧ l.length ≤ 1000 then (allPar l).map .par else none)))
noncomputable def prt : Option D → Option (Option Int)
  | none => some none
  | some (.int i) => some (some i)
  | _ => none
noncomputable def pickD (l : List D) (lo hi st : Option Int) : List D := (sliceRange (sliceBounds lo hi st l.length).1 (sliceBounds lo hi st l.length).2.1 (sliceBounds lo hi st l.length).2.2).filterMap (l[·]?)
noncomputable def slc (d : D) (lo hi st : Option Int) : Option D :=
  orr (d.list?.bind fun l => if l.length ≤ 1000 ∧ st ≠ some 0 then some (.list (pickD l lo hi st)) else none) (d.str?.bind fun x => if x.length ≤ 1000 ∧ st = none then some (.str (Txt.slice x lo hi)) else none)
noncomputable def eqD (a b : D) : Option Bool := orr (bind2 a.int? b.int? fun i j => some (i == j)) (bind2 a.str? b.str? fun i j => some (i == j))
noncomputable def eqL : List D → List D → Option (List Bool)
  | [], [] => some []
  | a :: as, b :: bs => (eqD a b).bind fun c => (eqL as bs).map (c :: ·)
  | [], _ :: _ => none
  | _ :: _, [] => none
noncomputable def cmpS (op : CmpOp) (a b : D) : Option Bool := (asPo a).bind fun p => (asPo b).bind fun q => if Po.nul (Po.add p (Po.neg q)) then (match op with
  | .Eq => some true
  | .NotEq => some false
  | _ => none) else none
noncomputable def cmpI (op : CmpOp) (a b : Int) : Option Bool := match op with
  | .Lt => some (decide (a < b))
  | .Gt => some (decide (b < a))
  | .Eq => some (a == b)
  | .NotEq => some (a != b)
  | _ => none
noncomputable def cmpT (op : CmpOp) (x y : PySem.Str) : Option Bool := match op with
  | .Eq => some (x == y)
  | .Lt => some (decide (x.cps.toList < y.cps.toList))
  | .Gt => some (decide (y.cps.toList < x.cps.toList))
  | _ => none
noncomputable def cmpL (op : CmpOp) (a b : List D) : Option Bool := match op with
  | .NotEq => (eqL a b).map fun bs => !(bs.all id)
  | _ => none
noncomputable def cmp (op : CmpOp) (a b : D) : Option Bool := orr (bind2 a.int? b.int? (cmpI op)) (orr (bind2 a.str? b.str? (cmpT op)) (orr (bind2 a.list? b.list? (cmpL op)) (cmpS op a b)))
noncomputable def asInts : List D → Option (List Int)
  | [] => some []
  | d :: r => d.int?.bind fun i => (asInts r).map (i :: ·)
noncomputable def asPos : List D → Option Po
  | [] => some []
  | d :: r => (asPo d).bind fun p => (asPos r).map (Po.add p)
noncomputable def asStrs : List D → Option (List PySem.Str)
  | [] => some []
  | d :: r => d.str?.bind fun i => (asStrs r).map (i :: ·)

section
variable {prog : Program} {w : World} {n : Nat} {O : Ow} {s : Shared} {d : D}

noncomputable def GivesL (prog : Program) (w : World) (n : Nat) (O : Ow) (t : Sem (List Value)) (ds : List D) (s : Shared) : Prop :=
  ∀ (Q : List Value → Shared → Prop) (E : Value → Shared → Prop), (∀ vs h' tk, Kp s.heap h' → RL O h' ds vs → Q vs { s with heap := h', toks := tk }) → wpAny (model prog w) (Ar n) t Q E s
noncomputable def GivesB (prog : Program) (w : World) (n : Nat) (t : Sem Bool) (b : Bool) (s : Shared) : Prop :=
  ∀ (Q : Bool → Shared → Prop) (E : Value → Shared → Prop), (∀ h' tk, Kp s.heap h' → Q b { s with heap := h', toks := tk }) → wpAny (model prog w) (Ar n) t Q E s

theorem cst_sound {env : Env} {c : Const} {k : Nat} {pos : Pos} (h : cst c = some d) : Gives prog w n O (eval (.Constant c k pos) env) d s := fun Q E hQ => by
  cases c with
  | none => exact wpAny_Constant_none (hQ _ s.heap s.toks (Kp.refl _) (Option.some.inj h ▸ .non))
  | bool b => exact wpAny_Constant_bool (hQ _ s.heap s.toks (Kp.refl _) (Option.some.inj h ▸ .bool b))
  | int i => exact wpAny_Constant_int (hQ _ s.heap _ (Kp.refl _) (Option.some.inj h ▸ .int i _))
  | str x => exact wpAny_Constant_str (hQ _ s.heap _ (Kp.refl _) (Option.some.inj h ▸ .str x _))
  | bytes b =>
    obtain ⟨k, hk, rfl⟩ := cstB_ex h
    exact fun _ _ _ => hQ (.bytes b.toArray s.toks) s.heap (s.toks + 1) (Kp.refl _) (.par k _ _ hk)
  | _ => exfalso; exact no_some h

theorem item_list_gives {l : List D} {a : Addr} {its : Array Value} {i : Int} {t : Tok} (il : s.heap.IsList a its) (rl : RL O s.heap l its.toList) (h : (ixL l.length i).bind (l[·]?) = some d) :
    Gives prog w n O (getItem (.ref a) (.int i t)) d s := fun Q E hQ => by
  have e1 : l.length = its.size := by have := rl.length; simpa using this
  cases hj : ixL l.length i with
  | none => rw [hj] at h; cases h
  | some j =>
    rw [hj] at h
    obtain ⟨v, hv, r⟩ := rl.get j h
    have hv' : its[j]? = some v := by simpa using hv
    unfold ixL at hj
    split at hj
    · split at hj
      · cases hj; exact wpAny_getItem_list il (by assumption) (by assumption) hv' (hQ v s.heap s.toks (Kp.refl _) r)
      · exfalso; first | exact no_some hj | cases hj
    · split at hj
      · rename_i h0 h1; cases hj; rw [e1] at h1 hv'
        exact wpAny_getItem_list_neg il (by omega) h1.1 h1.2 hv' (hQ v s.heap s.toks (Kp.refl _) r)
      · exfalso; first | exact no_some hj | cases hj

theorem ixS_ex {m : Nat} {i : Int} {j : Nat} (h : ixS m i = some j) : (-(2 ^ 63) ≤ i ∧ i < 2 ^ 63) ∧ seqIndex? i m = some j := ite_ex h
theorem sub_tup {l : List D} {i : Int} {va : Value} {t : Tok} (ra : R O s.heap (.tup l) va) (h : (ixS l.length i).bind (l[·]?) = some d) : Gives prog w n O (getItem va (.int i t)) d s := fun Q E hQ => by
  obtain ⟨j, hj, h⟩ := bind_ex h
  obtain ⟨q, hj⟩ := ixS_ex hj
  obtain ⟨a, its, rfl, no, it, rl⟩ := ra.tup_v
  obtain ⟨v, hv, r⟩ := rl.get j h
  exact getItem_tuple it q.1 q.2 (by rw [← Array.length_toList, ← rl.length]; exact hj) (by simpa using hv) (hQ v s.heap s.toks (Kp.refl _) r)
theorem sub_str {x : PySem.Str} {i : Int} {t u : Tok} (h : ((ixS x.length i).bind fun j => (x.cps[j]?).map fun c => (.str ⟨#[c]⟩ : D)) = some d) : Gives prog w n O (getItem (.str x u) (.int i t)) d s := fun Q E hQ => by
  obtain ⟨j, hj, h⟩ := bind_ex h
  obtain ⟨q, hj⟩ := ixS_ex hj
  obtain ⟨c, hc, rfl⟩ := map_ex h
  exact P.getItem_str (c := c) (by simp; omega) (by rw [hj]; exact hc) (hQ _ s.heap _ (Kp.refl _) (.str _ _))
theorem allPar_at {l : List D} {j : Int} (hj : allPar l = some j) {m : Nat} (hm : m < l.length) : l[m]? = some (.par j) := by
  cases l with
  | nil => exact absurd hm (Nat.not_lt_zero _)
  | cons d r =>
    obtain ⟨k, hk, hj⟩ := bind_ex hj
    obtain ⟨hall, rfl⟩ := ite_eq hj
    cases m with
    | zero => exact congrArg some (par_eq hk)
    | succ m =>
      have hm : m < r.length := Nat.lt_of_succ_lt_succ hm
      rw [List.all_eq_true] at hall
      rw [List.getElem?_cons_succ, List.getElem?_eq_getElem hm, par_eq (beq_iff_eq.mp (hall r[m] (List.getElem_mem hm)))]
theorem sub_rg {l : List D} {k : Int} {va vb : Value} (ra : R O s.heap (.tup l) va) (hb : SyR (.rg k) vb) (h : (if k ≤ l.length ∧ l.length ≤ 1000 then (allPar l).map .par else none) = some d) : Gives prog w n O (getItem va vb) d s := fun Q E hQ => by
  obtain ⟨hk, h⟩ := ite_ex h
  obtain ⟨j, hj, rfl⟩ := map_ex h
  obtain ⟨a, its, rfl, no, it, rl⟩ := ra.tup_v
  obtain ⟨i, t, rfl, h0, h1⟩ := hb
  have e1 : l.length = its.size := rl.length
  have hlt : i.toNat < l.length := by omega
  obtain ⟨v, hv, r⟩ := rl.get _ (allPar_at hj hlt)
  refine getItem_tuple it (Int.le_trans (by decide) h0) (by omega) (j := i.toNat) ?_ (by simpa using hv) (hQ v s.heap s.toks (Kp.refl _) r)
  unfold seqIndex?
  rw [if_neg (Int.not_lt.mpr h0)]
  refine if_pos ?_
  rw [Bool.and_eq_true, decide_eq_true_eq, decide_eq_true_eq]
  exact ⟨h0, by omega⟩
theorem sub_sound {a b : D} {va vb : Value} (ra : R O s.heap a va) (rb : R O s.heap b vb) (h : sub a b = some d) : Gives prog w n O (getItem va vb) d s := by
  rcases orr_some h with h | h
  · obtain ⟨l, i, ha, hb, h⟩ := bind2_ex h
    obtain ⟨t, rfl⟩ := intR rb hb
    obtain ⟨a, its, rfl, _, il, rl⟩ := listR ra ha
    exact @item_list_gives _ prog w n O s d l a its i t il rl h
  rcases orr_some h with h | h
  · obtain ⟨l, i, ha, hb, h⟩ := bind2_ex h
    obtain ⟨t, rfl⟩ := intR rb hb
    exact @sub_tup _ prog w n O s d l i va t (tup_eq ha ▸ ra) h
  rcases orr_some h with h | h
  · obtain ⟨x, i, ha, hb, h⟩ := bind2_ex h
    obtain ⟨t, rfl⟩ := intR rb hb
    obtain ⟨u, rfl⟩ := strR ra ha
    exact @sub_str _ prog w n O s d x i t u h
  · obtain ⟨l, k, ha, hb, h⟩ := bind2_ex h
    obtain ⟨x, hx, hb⟩ := bind_ex hb
    exact @sub_rg _ prog w n O s d l k va vb (tup_eq ha ▸ ra) (rg_eq hb ▸ syR rb hx) h

theorem eqD_sound {h : Heap} {a b : D} {va vb : Value} {c : Bool} (ra : R O h a va) (rb : R O h b vb) (e : eqD a b = some c) (A : Around) (s : Shared) : SeqAt.EqAt A s va vb c := by
  rcases orr_some e with e | e
  · obtain ⟨i, j, ha, hb, e⟩ := bind2_ex e
    obtain ⟨t, rfl⟩ := intR ra ha
    obtain ⟨u, rfl⟩ := intR rb hb
    exact Option.some.inj e ▸ SeqAt.EqAt.int_int _ _ _ _
  · obtain ⟨i, j, ha, hb, e⟩ := bind2_ex e
    obtain ⟨t, rfl⟩ := strR ra ha
    obtain ⟨u, rfl⟩ := strR rb hb
    exact Option.some.inj e ▸ SeqAt.EqAt.str_str _ _ _ _
noncomputable def LsEq (vs us : List Value) (cs : List Bool) : Prop := vs.length = us.length ∧ cs.length = vs.length ∧ ∀ (A : Around) (s : Shared) (j : Nat) (h1 : j < vs.length) (h2 : j < us.length), SeqAt.EqAt A s vs[j] us[j] (cs.getD j true)
theorem LsEq.cons {v u : Value} {vs us : List Value} {c : Bool} {cs : List Bool} (x : ∀ (A : Around) (s : Shared), SeqAt.EqAt A s v u c) (y : LsEq vs us cs) : LsEq (v :: vs) (u :: us) (c :: cs) :=
  ⟨congrArg Nat.succ y.1, congrArg Nat.succ y.2.1, fun A s j h1 h2 => match j, h1, h2 with
    | 0, _, _ => x A s
    | j + 1, h1, h2 => y.2.2 A s j (Nat.lt_of_succ_lt_succ h1) (Nat.lt_of_succ_lt_succ h2)⟩
theorem eqL_sound {h : Heap} {as : List D} {vs : List Value} (r : RL O h as vs) : ∀ {bs : List D} {us : List Value} {cs : List Bool}, RL O h bs us → eqL as bs = some cs → LsEq vs us cs :=
  RL.ind (P := fun as vs => ∀ {bs : List D} {us : List Value} {cs : List Bool}, RL O h bs us → eqL as bs = some cs → LsEq vs us cs) (fun {bs us cs} r' e => by
    cases bs with
    | nil =>
      rw [r'.unnil, ← Option.some.inj e]
      exact ⟨rfl, rfl, fun _ _ j h1 => absurd h1 (Nat.not_lt_zero _)⟩
    | cons => exfalso; exact no_some e) (fun a as v vs r rs ih {bs us cs} r' e => by
    cases bs with
    | nil => exfalso; exact no_some e
    | cons b bs =>
      obtain ⟨u, us, rfl, ru, r'⟩ := r'.uncons
      obtain ⟨c, hc, e⟩ := bind_ex e
      obtain ⟨cs', hcs, rfl⟩ := map_ex e
      exact (ih r' hcs).cons (eqD_sound r ru hc)) r
theorem all_range (cs : List Bool) : (List.range cs.length).all (fun j => cs.getD j true) = cs.all id := by
  rw [Bool.eq_iff_iff, List.all_eq_true, List.all_eq_true]
  constructor
  · intro h x hx
    obtain ⟨i, hi, rfl⟩ := List.getElem_of_mem hx
    have := h i (by simpa using hi)
    simpa [List.getD_eq_getElem?_getD, hi] using this
  · intro h j hj
    have hj' : j < cs.length := by simpa using hj
    have := h cs[j] (List.getElem_mem hj')
    simpa [List.getD_eq_getElem?_getD, hj'] using this

theorem cmpS_sound {op : CmpOp} {a b : D} {va vb : Value} {c : Bool} (ra : R O s.heap a va) (rb : R O s.heap b vb) (h : cmpS op a b = some c) {A : Around} {Q : Value → Shared → Prop} {E : Value → Shared → Prop}
    (hQ : Q (.bool c) s) : wpAny (model prog w) A (compareOp op va vb) Q E s := by
  obtain ⟨p, hp, h⟩ := bind_ex h
  obtain ⟨q, hq, h⟩ := bind_ex h
  obtain ⟨hn, h⟩ := ite_ex h
  have hz := Po.ev_nul _ hn
  rw [Po.ev_add, Po.ev_neg] at hz
  have he : Po.ev p = Po.ev q := by omega
  obtain ⟨t, rfl⟩ := asPo_R ra hp
  obtain ⟨u, rfl⟩ := asPo_R rb hq
  rw [he]
  cases op with
  | Eq => refine eq_int ?_; rw [beq_self_eq_true]; exact Option.some.inj h ▸ hQ
  | NotEq => refine ne_int ?_; rw [bne_self_eq_false]; exact Option.some.inj h ▸ hQ
  | _ => exfalso; exact no_some h
theorem cmpI_sound {op : CmpOp} {a b : Int} {t u : Tok} {c : Bool} (h : cmpI op a b = some c) {A : Around} {Q : Value → Shared → Prop} {E : Value → Shared → Prop}
    (hQ : Q (.bool c) s) : wpAny (model prog w) A (compareOp op (.int a t) (.int b u)) Q E s := by
  cases op with
  | Lt => exact lt_int (Option.some.inj h ▸ hQ)
  | Gt => exact gt_int (Option.some.inj h ▸ hQ)
  | Eq => exact eq_int (Option.some.inj h ▸ hQ)
  | NotEq => exact ne_int (Option.some.inj h ▸ hQ)
  | _ => exfalso; exact no_some h
theorem cmpT_sound {op : CmpOp} {a b : PySem.Str} {t u : Tok} {c : Bool} (h : cmpT op a b = some c) {A : Around} {Q : Value → Shared → Prop} {E : Value → Shared → Prop}
    (hQ : Q (.bool c) s) : wpAny (model prog w) A (compareOp op (.str a t) (.str b u)) Q E s := by
  cases op with
  | Lt => exact PyProof.Rows.lt_str (Option.some.inj h ▸ hQ)
  | Gt => exact PySem.P.gt_str (Option.some.inj h ▸ hQ)
  | Eq => exact PyProof.Rows.eq_str (Option.some.inj h ▸ hQ)
  | _ => exfalso; exact no_some h
theorem cmpL_sound {op : CmpOp} {a b : List D} {va vb : Value} {c : Bool} (ra : R O s.heap (.list a) va) (rb : R O s.heap (.list b) vb) (h : cmpL op a b = some c) {A : Around} {Q : Value → Shared → Prop} {E : Value → Shared → Prop}
    (hu : A.units < cLine) (hQ : Q (.bool c) s) : wpAny (model prog w) A (compareOp op va vb) Q E s := by
  cases op with
  | NotEq =>
    obtain ⟨cs, hc, rfl⟩ := map_ex h
    obtain ⟨x, ia, rfl, _, il, rla⟩ := ra.list_v
    obtain ⟨y, ib, rfl, _, jl, rlb⟩ := rb.list_v
    obtain ⟨l1, l2, f⟩ := eqL_sound rla rlb hc
    refine EqBoolInt.of_rcne (SeqAt.RcNeAt.lists (e := fun j => cs.getD j true) il jl l1 hu fun j h1 h2 => ?_) ?_
    · have := f A.in1 s j h1 h2
      simpa using this
    · rw [← Array.length_toList, ← l2, all_range]; exact hQ
  | _ => exfalso; exact no_some h
theorem cmp_sound {op : CmpOp} {a b : D} {va vb : Value} {c : Bool} (ra : R O s.heap a va) (rb : R O s.heap b vb) (h : cmp op a b = some c) {A : Around} {Q : Value → Shared → Prop} {E : Value → Shared → Prop}
    (hu : A.units < cLine) (hQ : Q (.bool c) s) : wpAny (model prog w) A (compareOp op va vb) Q E s := by
  rcases orr_some h with h | h
  · obtain ⟨l, i, ha, hb, h⟩ := bind2_ex h
    obtain ⟨t, rfl⟩ := intR ra ha
    obtain ⟨u, rfl⟩ := intR rb hb
    exact @cmpI_sound _ prog w s op l i t u c h A Q E hQ
  rcases orr_some h with h | h
  · obtain ⟨l, i, ha, hb, h⟩ := bind2_ex h
    obtain ⟨t, rfl⟩ := strR ra ha
    obtain ⟨u, rfl⟩ := strR rb hb
    exact @cmpT_sound _ prog w s op l i t u c h A Q E hQ
  rcases orr_some h with h | h
  · obtain ⟨l, i, ha, hb, h⟩ := bind2_ex h
    exact @cmpL_sound _ prog w O s op l i va vb c (list_eq ha ▸ ra) (list_eq hb ▸ rb) h A Q E hu hQ
  · exact @cmpS_sound _ prog w O s op a b va vb c ra rb h A Q E hQ

theorem RL.filterMap {h : Heap} {l : List D} {vs : List Value} (r : RL O h l vs) : ∀ js : List Nat, RL O h (js.filterMap (l[·]?)) (js.filterMap (vs[·]?))
  | [] => .nil
  | j :: js => by
    have ih := RL.filterMap r js
    cases hn : l[j]? with
    | some d =>
      obtain ⟨v, hv, rv⟩ := r.get j hn
      simp only [List.filterMap_cons, hn, hv]
      exact .cons _ _ _ _ rv ih
    | none =>
      have hv : vs[j]? = none := by
        rw [List.getElem?_eq_none_iff] at hn ⊢
        rw [← r.length]; exact hn
      simp only [List.filterMap_cons, hn, hv]
      exact ih
theorem RL.pick {h : Heap} {l : List D} {its : Array Value} (r : RL O h l its.toList) (lo hi st : Option Int) : RL O h (pickD l lo hi st) (slicePick its lo hi st).toList := by
  have e1 : l.length = its.size := by have := r.length; simpa using this
  have := r.filterMap (sliceRange (sliceBounds lo hi st l.length).1 (sliceBounds lo hi st l.length).2.1 (sliceBounds lo hi st l.length).2.2)
  unfold pickD slicePick
  rw [← e1]
  simpa using this

theorem RL.asInts {h : Heap} {l : List D} {vs : List Value} (r : RL O h l vs) : ∀ {ns : List Int}, asInts l = some ns → AllInts vs.toArray ∧ numsOf vs = ns :=
  RL.ind (P := fun l vs => ∀ {ns : List Int}, Mine.asInts l = some ns → AllInts vs.toArray ∧ numsOf vs = ns) (fun {ns} e => Option.some.inj e ▸ ⟨fun v hv => (by simp at hv), rfl⟩) (fun d l v vs r rs ih {ns} e => by
    obtain ⟨i, hi, e⟩ := bind_ex e
    obtain ⟨ns', e', rfl⟩ := map_ex e
    obtain ⟨t, rfl⟩ := intR r hi
    obtain ⟨p, q⟩ := ih e'
    refine ⟨fun v hv => ?_, by simp [numsOf, q]⟩
    simp at hv
    rcases hv with rfl | hv
    · exact ⟨i, t, rfl⟩
    · exact p v (by simpa using hv)) r
theorem RL.asPos {h : Heap} {l : List D} {vs : List Value} (r : RL O h l vs) : ∀ {p : Po}, asPos l = some p → AllInts vs.toArray ∧ (numsOf vs).sum = Po.ev p :=
  RL.ind (P := fun l vs => ∀ {p : Po}, Mine.asPos l = some p → AllInts vs.toArray ∧ (numsOf vs).sum = Po.ev p) (fun {p} e => Option.some.inj e ▸ ⟨fun v hv => (by simp at hv), rfl⟩) (fun d l v vs r rs ih {p} e => by
    obtain ⟨q, hq, e⟩ := bind_ex e
    obtain ⟨q', e', rfl⟩ := map_ex e
    obtain ⟨a, b⟩ := ih e'
    obtain ⟨t, rfl⟩ := asPo_R r hq
    refine ⟨fun v hv => ?_, by rw [Po.ev_add, ← b]; simp [numsOf]⟩
    simp at hv
    rcases hv with rfl | hv
    · exact ⟨_, t, rfl⟩
    · exact a v (by simpa using hv)) r
theorem RL.asStrs {h : Heap} {l : List D} {vs : List Value} (r : RL O h l vs) : ∀ {ns : List PySem.Str}, asStrs l = some ns → StrsAre vs ns :=
  RL.ind (P := fun l vs => ∀ {ns : List PySem.Str}, Mine.asStrs l = some ns → StrsAre vs ns) (fun {ns} e => Option.some.inj e ▸ .nil) (fun d l v vs r rs ih {ns} e => by
    obtain ⟨i, hi, e⟩ := bind_ex e
    obtain ⟨ns', e', rfl⟩ := map_ex e
    obtain ⟨t, rfl⟩ := strR r hi
    exact .cons i t (ih e')) r
end
end Mine
end
section
open PySem PySem.W PyProof.Rows PySem.Calls PySem.Spec
set_option linter.unusedSectionVars false
set_option maxRecDepth 100000
namespace Mine
variable [Inhabited Rho]

noncomputable abbrev Ev := Cx → Expr → Option D
noncomputable abbrev Pr := PySem.Str → List D → Option D

noncomputable def evs (r : Ev) (cx : Cx) : List Expr → Option (List D)
  | [] => some []
  | e :: es => (r cx e).bind fun d => (evs r cx es).map (d :: ·)
noncomputable def opt (r : Ev) (cx : Cx) : Option Expr → Option (Option Int)
  | none => some none
  | some e => (r cx e).bind fun d => d.int?.map some
noncomputable def gname (cx : Cx) (x : PySem.Str) : Bool := (cx.kinds.lookup x == some .globalImplicit) && (!(x == ("__debug__" : PySem.Str)) && !(x == (".get_all" : PySem.Str)))
noncomputable def sumD (l : List D) : Option D := match asInts l with
  | some ns => some (.int ns.sum)
  | none => (asPos l).map fun p => .sy (.po p)
noncomputable def Sy.dec? : Sy → Option Po
  | .dec p => some p
  | _ => none
omit [Inhabited Rho] in
theorem sdec_eq {x : Sy} {p : Po} (e : x.dec? = some p) : x = .dec p := by
  cases x <;> first | exact Option.some.inj e ▸ rfl | (exfalso; exact no_some e)
noncomputable def toInt (a : D) : Option D :=
  orr (a.dec?.bind fun i => if sm10 i then some (.int i) else none) (orr (a.str?.bind fun x => if x.length ≤ 640 then (PySem.intText? x).map .int else none) ((a.sy?.bind Sy.dec?).bind fun p => if p.bnd < 10000000000 then some (.sy (.po p)) else none))
noncomputable def bcall1 (x : PySem.Str) (a : D) : Option D := orr (if x = "len" then a.list?.bind fun l => if l.length ≤ 1000 then some (.int l.length) else none else none) (orr (if x = "sum" then a.list?.bind sumD else none) (if x = "int" then toInt a else none))
noncomputable def bcall (x : PySem.Str) (ds : List D) : Option D := (one? ds).bind (bcall1 x)
noncomputable def Expr.cmp? : Expr → Option (Expr × List CmpOp × List Expr)
  | .Compare l ops es _ => some (l, ops, es)
  | _ => none
omit [Inhabited Rho] in
theorem Expr.cmp_eq {e : Expr} {x : Expr × List CmpOp × List Expr} (h : Expr.cmp? e = some x) : ∃ p, e = .Compare x.1 x.2.1 x.2.2 p := by
  cases e <;> first | (exfalso; exact no_some h) | exact Option.some.inj h ▸ ⟨_, rfl⟩
noncomputable def tst1 (r : Ev) (cx : Cx) (l : Expr) (op : CmpOp) (e : Expr) : Option Bool := if behindInMarks op e = false then (r cx l).bind fun a => (r cx e).bind fun b => cmp op a b else none
noncomputable def tst2 (r : Ev) (cx : Cx) (l : Expr) (op op2 : CmpOp) (e e2 : Expr) : Option Bool :=
  if behindInMarks op2 e2 = false then (r cx l).bind fun a => (r cx e).bind fun b => (cmp op a b).bind fun c => if c then (r cx e2).bind fun b2 => cmp op2 b b2 else some false else none
noncomputable def tstC (r : Ev) (cx : Cx) (l : Expr) (ops : List CmpOp) (es : List Expr) : Option Bool := orr (bind2 (one? ops) (one? es) (tst1 r cx l)) (bind2 (pair? ops) (pair? es) fun o e => tst2 r cx l o.1 o.2 e.1 e.2)
noncomputable def tst (r : Ev) (cx : Cx) (e : Expr) : Option Bool := (Expr.cmp? e).bind fun x => tstC r cx x.1 x.2.1 x.2.2
noncomputable def Expr.nm? : Expr → Option PySem.Str
  | .Name x _ => some x
  | _ => none
omit [Inhabited Rho] in
theorem Expr.nm_eq {e : Expr} {x : PySem.Str} (h : Expr.nm? e = some x) : ∃ p, e = .Name x p := by
  cases e <;> first | (exfalso; exact no_some h) | exact Option.some.inj h ▸ ⟨_, rfl⟩
noncomputable def nocall : Expr → Bool
  | .Call .. => false
  | _ => true

section
variable (P : Pr) (r : Ev) (cx : Cx)
noncomputable def lenArg (x : PySem.Str) (args : List Expr) : Option (PySem.Str × List D) := if x = "len" then ((one? args).bind Expr.nm?).bind fun y => (cx.own.lookup y).map fun l => (y, l) else none
/-- calls of a name, and of a method -/
noncomputable def evCall (x : PySem.Str) (args : List Expr) : Option D :=
  if gname cx x then
    match lenArg cx x args with
    | some p => if p.2.length ≤ 1000 ∧ (p.1 == ("__debug__" : PySem.Str)) = false then some (.int p.2.length) else none
    | none => (evs r cx args).bind fun ds => orr (bcall x ds) (match ds with
      | [] => none
      | a :: r => P x (a :: r))
  else none
end

noncomputable def gname0 (x : PySem.Str) : Bool := !(x == (".get_all" : PySem.Str))
structure Bg (prog : Program) (w : World) (gl : PySem.Str → Option Value) (h : Heap) : Prop where
  nm : ∀ x v, gl x = some v → (gname0 x = true → Looks (model prog w) h (nsGet mainGlobals x) (some v) ∨ (Looks (model prog w) h (nsGet mainGlobals x) none ∧ ∃ mb, h.Ns builtinsNs mb ∧ mb x = some v))
  kp : ∀ x v h', gl x = some v → Kp h h' → ∃ k, (k = Keeper.frame ∨ k = Keeper.machine ∨ k = Keeper.boundFrame) ∧ Looks (model prog w) h' (keeperOf v) k
  len : gl "len" = some (.builtin "len")
  sum : gl "sum" = some (.builtin "sum")
  int : gl "int" = some (.type "int")
  list : gl "list" = some (.type "list")
  range : gl "range" = some (.type "range")
  enum : gl "enumerate" = some (.type "enumerate")
  zip : gl "zip" = some (.type "zip")
  gm : ∀ f, gl ".get_all" = some f → ∀ (O : Ow) (s : Shared) (ov : Value) (l : List D), Kp h s.heap → R O s.heap (.hdr l) ov → ∀ (pl : Sem Bool) (A : Around) (Q : Value × List Value → Shared → Prop) (E : Value → Shared → Prop),
    Q (f, [ov]) s → wpAny (model prog w) A (getMethod ov "get_all" pl) Q E s

noncomputable def PrimOk (prog : Program) (w : World) (n : Nat) (gl : PySem.Str → Option Value) (P : Pr) (hB : Heap) : Prop :=
  (∀ x ds d, ds ≠ [] → P x ds = some d → ∃ f, gl x = some f ∧ ∀ (O : Ow) (s : Shared) (vs : List Value), Kp hB s.heap → (∀ b, O b → ∃ o, s.heap.get? b = some o) → RL O s.heap ds vs → Gives prog w n O (call f vs) d s) ∧
  ∀ x d, P x [] = some d → ∃ v, gl x = some v ∧ ∀ (O : Ow) (h : Heap), R O h d v

section
variable {prog : Program} {w : World} {n : Nat} {gl : PySem.Str → Option Value} {hB : Heap}
noncomputable def EvOk (prog : Program) (w : World) (n : Nat) (hB : Heap) (r : Ev) : Prop :=
  ∀ cx e d, r cx e = some d → ∀ (h₀ : Heap) (W : Ow) (ad : PySem.Str → Addr) (env : Env) (s : Shared), Kp hB h₀ → ER h₀ W ad s.heap env cx → Gives prog w n (Oo W ad env cx) (eval e env) d s

variable {h₀ : Heap} {W : Ow} {ad : PySem.Str → Addr} {env : Env} {cx : Cx} {s : Shared} {d : D}
theorem star_ne {e : Expr} {rest : List Expr} (h : ∀ v p, e ≠ .Starred v p) : starEach (e :: rest) env = (false, eval e env) :: starEach rest env := by
  cases e <;> first | rfl | exact (h _ _ rfl).elim
noncomputable def NoStar (r : Ev) : Prop := ∀ cx v p, r cx (.Starred v p) = none
theorem ne_star {r : Ev} (ns : NoStar r) {e : Expr} (h : r cx e = some d) : ∀ v p, e ≠ .Starred v p := by
  rintro v p rfl
  exact no_some ((ns _ _ _).symm.trans h)

theorem evs_sound {r : Ev} (ok : EvOk prog w n hB r) (ns : NoStar r) (hb : Kp hB h₀) {pos : Pos} : ∀ (es : List Expr) (ds : List D) (s : Shared), evs r cx es = some ds → ER h₀ W ad s.heap env cx → GivesL prog w n (Oo W ad env cx) (spliced (backTo pos (starEach es env))) ds s
  | [], ds, s, h, e => Option.some.inj h ▸ fun Q E hQ => args_nil (hQ [] s.heap s.toks (Kp.refl _) .nil)
  | e :: es, ds, s, h, er => by
    unfold evs at h
    obtain ⟨d, hd, h⟩ := bind_ex h
    obtain ⟨ds', hds, rfl⟩ := map_ex h
    exact fun Q E hQ => args_cons (ok cx e d hd h₀ W ad env s hb er _ E fun v h' tk k rv => evs_sound ok ns hb es ds' _ hds (er.kp k) _ E fun vs h'' tk' k' rvs =>
      hQ _ h'' tk' (k.trans k') (.cons _ _ _ _ (rv.tr (.of_kp k')) rvs)) (star_ne (ne_star ns hd))

theorem plain_back {pos : Pos} : ∀ (es : List Expr), (∀ e ∈ es, ∀ v p, e ≠ .Starred v p) → (backTo pos (starEach es env)).any (·.1) = false
  | [], _ => rfl
  | e :: es, h => by
    rw [star_ne (h e (by simp))]
    have := plain_back (pos := pos) es fun e' he => h e' (by simp [he])
    exact this
theorem evs_plain {r : Ev} (ns : NoStar r) : ∀ (es : List Expr) (ds : List D), evs r cx es = some ds → ∀ e ∈ es, ∀ v p, e ≠ .Starred v p
  | [], _, _ => by simp
  | e :: es, ds, h => by
    unfold evs at h
    obtain ⟨d, hd, h⟩ := bind_ex h
    obtain ⟨ds', hds, rfl⟩ := map_ex h
    intro e' he
    rcases List.mem_cons.mp he with rfl | he
    · exact ne_star ns hd
    · exact evs_plain ns es ds' hds e' he
end
end Mine
end
section
open PySem PySem.W PyProof.Rows PySem.Calls PySem.Spec
set_option linter.unusedSectionVars false
set_option maxRecDepth 100000
namespace Mine
variable [Inhabited Rho]
section
variable {prog : Program} {w : World} {n : Nat} {gl : PySem.Str → Option Value} {hB : Heap} {h₀ : Heap} {W : Ow} {ad : PySem.Str → Addr} {env : Env} {cx : Cx} {s : Shared} {d : D}

theorem Bg.at {h : Heap} (B : Bg prog w gl hB) (k : Kp hB h) : Bg prog w gl h where
  nm := fun x v hx hn => by
    rcases B.nm x v hx hn with r | ⟨r, mb, nb, q⟩
    · exact .inl (r.keeps k)
    · exact .inr ⟨r.keeps k, mb, ns_at nb fun o e => k _ o e, q⟩
  kp := fun x v h' hx kk => B.kp x v h' hx (k.trans kk)
  len := B.len
  sum := B.sum
  int := B.int
  list := B.list
  range := B.range
  enum := B.enum
  zip := B.zip
  gm := fun f hf O s ov l kk => B.gm f hf O s ov l (k.trans kk)

theorem name_glob {M : Model} {A : Around} {x : PySem.Str} {p : Pos} (kd : env.scope.kind = .function) (hk : env.kindOf x = some .globalImplicit) (hd : (x == ("__debug__" : PySem.Str)) = false) {Q : Value → Shared → Prop} {E : Value → Shared → Prop}
    (h : wpAny M A (loadGlobal env x) Q E s) : wpAny M A (eval (.Name x p) env) Q E s := by
  refine wpAny_Name ?_ hd
  unfold loadName
  simp only [Env.blockKind, kd, hk, ScopeKind.isAnnotationScope, Bool.false_and, Bool.false_eq_true, if_false]
  exact h
/-- a global name, then a built-in's -/
theorem name_globV {A : Around} {x : PySem.Str} {v : Value} {p : Pos} (L : Looks (model prog w) s.heap (nsGet mainGlobals x) (some v)) (kd : env.scope.kind = .function) (hk : env.kindOf x = some .globalImplicit) (hg : env.globals = mainGlobals) (hd : (x == ("__debug__" : PySem.Str)) = false) {Q : Value → Shared → Prop} {E : Value → Shared → Prop}
    (h : Q v s) : wpAny (model prog w) A (eval (.Name x p) env) Q E s := by
  refine name_glob kd hk hd ?_
  unfold loadGlobal
  rw [hg]
  exact wpAny_bind (L.here (wpAny_pure h))
theorem name_globB {A : Around} {x : PySem.Str} {v : Value} {p : Pos} (L : Looks (model prog w) s.heap (nsGet mainGlobals x) none) {mb : PySem.Str → Option Value} (nb : s.heap.Ns builtinsNs mb) (hv : mb x = some v) (kd : env.scope.kind = .function) (hk : env.kindOf x = some .globalImplicit) (hg : env.globals = mainGlobals) (hbi : env.builtins = builtinsNs)
    (hd : (x == ("__debug__" : PySem.Str)) = false) {Q : Value → Shared → Prop} {E : Value → Shared → Prop} (h : Q v s) : wpAny (model prog w) A (eval (.Name x p) env) Q E s := by
  refine name_glob kd hk hd ?_
  unfold loadGlobal
  rw [hg, hbi]
  refine wpAny_bind (L.here (wpAny_bind (wpAny_nsGet nb ?_)))
  rw [hv]; exact wpAny_pure h
theorem glob_name (B : Bg prog w gl s.heap) (e : ER h₀ W ad s.heap env cx) {x : PySem.Str} {v : Value} {p : Pos} (hg : gname cx x = true) (hx : gl x = some v) {A : Around} {Q : Value → Shared → Prop} {E : Value → Shared → Prop}
    (h : Q v s) : wpAny (model prog w) A (eval (.Name x p) env) Q E s := by
  unfold gname at hg
  rw [Bool.and_eq_true, Bool.and_eq_true, Bool.not_eq_true', beq_iff_eq] at hg
  have hk : env.kindOf x = some .globalImplicit := (kindOf_eq e x).trans hg.1
  rcases B.nm x v hx hg.2.2 with r | ⟨r, mb, nb, q⟩
  · exact name_globV r e.kind hk e.glob hg.2.1 h
  · exact name_globB r nb q e.kind hk e.glob e.bi hg.2.1 h
theorem load_lk (hk : env.scope.kind = .function) {x : PySem.Str} {v : Value} (lk : Lk s.heap env x v) {A : Around} {Q : Value → Shared → Prop} {E : Value → Shared → Prop} (h : Q v s) : wpAny (model prog w) A (loadName env x) Q E s := by
  rcases lk with ⟨a, m, nm, e⟩ | ⟨a, c, e, z⟩
  · exact wpAny_loadName_local hk a nm e h
  · exact wpAny_loadName_cell hk a e z h

theorem call_name {r : Ev} (ok : EvOk prog w n hB r) (ns : NoStar r) (B : Bg prog w gl hB) (hb : Kp hB h₀) (er : ER h₀ W ad s.heap env cx) {x : PySem.Str} {f : Value} {p pos : Pos} {args : List Expr} {ds : List D}
    (hg : gname cx x = true) (hx : gl x = some f) (he : evs r cx args = some ds) (hne : ds ≠ [])
    (h : ∀ vs h' tk, Kp s.heap h' → RL (Oo W ad env cx) h' ds vs → Gives prog w n (Oo W ad env cx) (call f vs) d { s with heap := h', toks := tk }) :
    Gives prog w n (Oo W ad env cx) (eval (.Call (.Name x p) args [] pos) env) d s := fun Q E hQ => by
  refine wpAny_Call_NameR (glob_name (B.at (hb.trans er.base)) er hg hx ?_)
  have pl := plain_back (env := env) (pos := pos) args (evs_plain ns args ds he)
  refine callWith_of (P := fun h' => Kp s.heap h') (by rw [pl]; rfl) (fun h' k => (B.at (hb.trans er.base)).kp x f h' hx k) ?_
  have body : wpAny (model prog w) (Ar n) (spliced (backTo pos (starEach args env))) (fun vs s₁ => Kp s.heap s₁.heap ∧ wpAny (model prog w) (Ar n) (call f ([] ++ vs)) Q E s₁) E s :=
    evs_sound ok ns hb args ds s he er _ E fun vs h' tk k rl => ⟨k, h vs h' tk k rl Q E fun v h'' tk' k' rv => hQ v h'' tk' (k.trans k') rv⟩
  cases args with
  | nil => exact (hne (Option.some.inj he).symm).elim
  | cons e es =>
    have hs := star_ne (env := env) (rest := es) (evs_plain ns (e :: es) ds he e (by simp))
    rw [hs] at body ⊢
    exact evalArgs_plain body

theorem sum_gives {O : Ow} {its : List Value} {a : Addr} (il : s.heap.IsList a its.toArray) (ai : AllInts its.toArray) {k : Int} (hk : (numsOf its).sum = k) (hd : ∀ h' t, R O h' d (.int k t)) : Gives prog w n O (call (.builtin "sum") [.ref a]) d s := fun Q E hQ => by
  obtain ⟨xs, ex⟩ := AllInts.items ai
  have ex' : its.toArray = intItems xs := by rw [← ex]
  rw [ex'] at il
  refine sum_intListG rfl il fun h' tk t' kk => ?_
  have := hQ (.int k t') h' tk kk (hd _ _)
  rw [preSum_eq, List.take_of_length_le (by simp), ← nums_intItems, ← ex']
  simpa [hk] using this
theorem sumD_gives {O : Ow} {l : List D} {v : Value} (rl : R O s.heap (.list l) v) (h : sumD l = some d) : Gives prog w n O (call (.builtin "sum") [v]) d s := by
  obtain ⟨a, its, rfl, no, il, rl⟩ := rl.list_v
  unfold sumD at h
  cases hn : asInts l with
  | some ns =>
    rw [hn] at h
    obtain ⟨ai, en⟩ := RL.asInts rl hn
    exact Option.some.inj h ▸ sum_gives (its := its.toList) il ai (by rw [en]) fun _ _ => .int _ _
  | none =>
    rw [hn] at h
    obtain ⟨p, hp, rfl⟩ := map_ex h
    obtain ⟨ai, en⟩ := RL.asPos rl hp
    exact sum_gives (its := its.toList) il ai en fun _ t => poR t rfl
theorem len_gives {O : Ow} {l : List D} {a : Addr} {its : Array Value} (il : s.heap.IsList a its) (e : l.length = its.size) (h : l.length ≤ 1000) : Gives prog w n O (call (.builtin "len") [.ref a]) (.int l.length) s := fun Q E hQ => by
  refine call_len_list il (by omega) ?_
  rw [← e]
  exact hQ _ s.heap _ (Kp.refl _) (.int _ _)

theorem toInt_sound {O : Ow} {a : D} {v : Value} (r : R O s.heap a v) (h : toInt a = some d) : Gives prog w n O (call (.type "int") [v]) d s := fun Q E hQ => by
  rcases orr_some h with h | h
  · obtain ⟨i, hi, h⟩ := bind_ex h
    obtain ⟨q, rfl⟩ := ite_eq h
    obtain ⟨t, rfl⟩ := decR' r hi
    exact KIN.call_text (dec_reads q).1 (dec_reads q).2 (hQ _ s.heap _ (Kp.refl _) (.int _ _))
  rcases orr_some h with h | h
  · obtain ⟨y, hy, h⟩ := bind_ex h
    obtain ⟨hl, h⟩ := ite_ex h
    obtain ⟨j, hj, rfl⟩ := map_ex h
    obtain ⟨t, rfl⟩ := strR r hy
    exact KIN.call_text hj hl (hQ _ s.heap _ (Kp.refl _) (.int _ _))
  · obtain ⟨p, hp, h⟩ := bind_ex h
    obtain ⟨x, hx, hp⟩ := bind_ex hp
    obtain ⟨q, rfl⟩ := ite_eq h
    have hs := syR r hx
    rw [sdec_eq hp] at hs
    obtain ⟨t, rfl⟩ := hs
    have hs : sm10 (Po.ev p) = true := by
      have := Po.ev_abs p
      unfold sm10
      rw [Bool.and_eq_true, decide_eq_true_eq, decide_eq_true_eq]
      omega
    exact KIN.call_text (dec_reads hs).1 (dec_reads hs).2 (hQ _ s.heap _ (Kp.refl _) (poR _ rfl))
noncomputable def Calls (prog : Program) (w : World) (n : Nat) (f : Value) (ds : List D) (d : D) : Prop := ∀ (O : Ow) (s : Shared) (vs : List Value), RL O s.heap ds vs → Gives prog w n O (call f vs) d s
theorem Calls.one {f : Value} {a : D} (h : ∀ (O : Ow) (s : Shared) (v : Value), R O s.heap a v → Gives prog w n O (call f [v]) d s) : Calls prog w n f [a] d := fun O s vs rl => by
  obtain ⟨v, rfl, r⟩ := rl.one
  exact h O s v r
theorem bcall_sound (B : Bg prog w gl hB) {x : PySem.Str} {ds : List D} (h : bcall x ds = some d) : ds ≠ [] ∧ ∃ f, gl x = some f ∧ Calls prog w n f ds d := by
  obtain ⟨a, ha, h⟩ := bind_ex h
  rw [one_eq ha]
  refine ⟨List.cons_ne_nil _ _, ?_⟩
  rcases orr_some h with h | h
  · obtain ⟨q, h⟩ := ite_ex h
    obtain ⟨l, hl, h⟩ := bind_ex h
    obtain ⟨h1, rfl⟩ := ite_eq h
    refine ⟨_, q ▸ B.len, Calls.one fun O s v r => ?_⟩
    obtain ⟨p, its, rfl, no, il, rl⟩ := listR r hl
    exact len_gives il rl.length h1
  rcases orr_some h with h | h
  · obtain ⟨q, h⟩ := ite_ex h
    obtain ⟨l, hl, h⟩ := bind_ex h
    exact ⟨_, q ▸ B.sum, Calls.one fun O s v r => sumD_gives (list_eq hl ▸ r) h⟩
  · obtain ⟨q, h⟩ := ite_ex h
    exact ⟨_, q ▸ B.int, Calls.one fun O s v r => toInt_sound r h⟩
theorem lenArg_ex {x : PySem.Str} {args : List Expr} {y : PySem.Str} {l : List D} (h : lenArg cx x args = some (y, l)) : x = "len" ∧ (∃ p, args = [.Name y p]) ∧ cx.own.lookup y = some l := by
  obtain ⟨q, h⟩ := ite_ex h
  obtain ⟨z, hz, h1⟩ := bind_ex h
  obtain ⟨m, hm, h2⟩ := map_ex h1
  obtain ⟨a, ha, hz⟩ := bind_ex hz
  obtain ⟨p, e⟩ := Expr.nm_eq hz
  obtain ⟨rfl, rfl⟩ := Prod.mk.inj h2
  exact ⟨q, ⟨p, e ▸ one_eq ha⟩, hm⟩
theorem len_sound (B : Bg prog w gl hB) (hb : Kp hB h₀) (er : ER h₀ W ad s.heap env cx) {y : PySem.Str} {p yp pos : Pos} {l : List D} (hg : gname cx "len" = true) (hy : cx.own.lookup y = some l) (hl : l.length ≤ 1000) (hd : (y == ("__debug__" : PySem.Str)) = false) :
    Gives prog w n (Oo W ad env cx) (eval (.Call (.Name "len" p) [.Name y yp] [] pos) env) (.int l.length) s := fun Q E hQ => by
  obtain ⟨lk, _, _, its, il, rl⟩ := er.own y l hy
  refine wpAny_Call_NameR (glob_name (B.at (hb.trans er.base)) er hg B.len ?_)
  refine callWith_of (P := fun h' => Kp s.heap h') rfl (fun h' k => (B.at (hb.trans er.base)).kp _ _ h' B.len k) ?_
  have body : wpAny (model prog w) (Ar n) (spliced (backTo pos (starEach [.Name y yp] env))) (fun vs s₁ => Kp s.heap s₁.heap ∧ wpAny (model prog w) (Ar n) (call (.builtin "len") ([] ++ vs)) Q E s₁) E s :=
    args_cons (wpAny_Name (load_lk er.kind lk (args_nil ⟨Kp.refl _, len_gives il.isList rl.length hl Q E hQ⟩)) hd) rfl
  exact evalArgs_plain body
theorem evCall_sound {P : Pr} {r : Ev} (ok : EvOk prog w n hB r) (ns : NoStar r) (B : Bg prog w gl hB) (pk : PrimOk prog w n gl P hB) (hb : Kp hB h₀) (er : ER h₀ W ad s.heap env cx) {x : PySem.Str} {p pos : Pos} {args : List Expr}
    (h : evCall P r cx x args = some d) : Gives prog w n (Oo W ad env cx) (eval (.Call (.Name x p) args [] pos) env) d s := by
  obtain ⟨hg, h⟩ := ite_ex h
  cases hq : lenArg cx x args with
  | some z =>
    rw [hq] at h
    obtain ⟨hl, rfl⟩ := ite_eq h
    obtain ⟨rfl, ⟨yp, rfl⟩, hy⟩ := lenArg_ex hq
    exact len_sound B hb er hg hy hl.1 hl.2
  | none =>
    rw [hq] at h
    obtain ⟨ds, he, h⟩ := bind_ex h
    rcases orr_some h with h | h
    · obtain ⟨hne, f, hf, g⟩ := bcall_sound (n := n) B h
      exact call_name ok ns B hb er hg hf he hne fun vs h' tk k rl => g _ { s with heap := h', toks := tk } vs rl
    · cases ds with
      | nil => exfalso; exact no_some h
      | cons a l =>
        obtain ⟨f, hf, g⟩ := pk.1 x _ d (List.cons_ne_nil _ _) h
        exact call_name ok ns B hb er hg hf he (List.cons_ne_nil _ _) fun vs h' tk k rl => g _ _ vs ((hb.trans er.base).trans k) (fun b ob => (er.kp k).live b ob) rl
end
end Mine
end
section
open PySem PySem.W PyProof.Rows PySem.Calls PySem.Spec
set_option linter.unusedSectionVars false
set_option linter.unusedVariables false
set_option maxRecDepth 100000
namespace Mine
variable [Inhabited Rho]
section
variable {prog : Program} {w : World} {n : Nat} {gl : PySem.Str → Option Value} {hB : Heap} {h₀ : Heap} {W : Ow} {ad : PySem.Str → Addr} {env : Env} {cx : Cx} {s : Shared} {d : D}

theorem name_sound (er : ER h₀ W ad s.heap env cx) {x : PySem.Str} {p : Pos} (hx : cx.vars.lookup x = some d) (hd : (x == ("__debug__" : PySem.Str)) = false) : Gives prog w n (Oo W ad env cx) (eval (.Name x p) env) d s := fun Q E hQ => by
  obtain ⟨v, lk, r⟩ := er.vars x d hx
  exact wpAny_Name (load_lk er.kind lk (hQ v s.heap s.toks (Kp.refl _) r)) hd

theorem list_sound {r : Ev} (ok : EvOk prog w n hB r) (ns : NoStar r) (hb : Kp hB h₀) (er : ER h₀ W ad s.heap env cx) {es : List Expr} {ds : List D} {p : Pos} (h : evs r cx es = some ds) (hl : ds.length ≤ 1000) :
    Gives prog w n (Oo W ad env cx) (eval (.List es p) env) (.list ds) s := fun Q E hQ => by
  refine wpAny_List (evs_sound ok ns hb es ds s h er _ E fun vs h' tk k rl => ?_)
  have e := rl.length
  refine ⟨by rw [sizeLine_eq]; omega, hQ _ _ _ (k.trans (kp_push _ _)) (new_list (s := { s with heap := h', toks := tk }) (er.kp k).live (by simpa using rl) _ rfl)⟩
theorem tup_sound {r : Ev} (ok : EvOk prog w n hB r) (ns : NoStar r) (hb : Kp hB h₀) (er : ER h₀ W ad s.heap env cx) {es : List Expr} {ds : List D} {c : Nat} {p : Pos} (h : evs r cx es = some ds) (hl : ds.length ≤ 1000) :
    Gives prog w n (Oo W ad env cx) (eval (.Tuple es c p) env) (.tup ds) s := fun Q E hQ => by
  refine wpAny_Tuple (evs_sound ok ns hb es ds s h er _ E fun vs h' tk k rl => ?_)
  have e := rl.length
  refine ⟨by rw [sizeLine_eq]; omega, hQ _ _ _ (k.trans (kp_push _ _)) (new_tup (s := { s with heap := h', toks := tk }) (er.kp k).live (by simpa using rl) _ rfl)⟩

theorem bin2_sound {r : Ev} (ok : EvOk prog w n hB r) (hb : Kp hB h₀) (er : ER h₀ W ad s.heap env cx) {l e : Expr} {op : Operator} {a b : D} {p : Pos} (h1 : r cx l = some a) (h2 : r cx e = some b) (h : bin op a b = some d) :
    Gives prog w n (Oo W ad env cx) (eval (.BinOp l op e p) env) d s := fun Q E hQ =>
  wpAny_BinOp (ok cx l a h1 h₀ W ad env s hb er _ E fun va h' tk k ra => ok cx e b h2 h₀ W ad env _ hb (er.kp k) _ E fun vb h'' tk' k' rb =>
    bin_sound (s := { s with heap := h'', toks := tk' }) (n := n) ((er.kp k).kp k').live op a b va vb (ra.tr (.of_kp k')) rb h Q E fun v h3 tk3 k3 rv => hQ v h3 tk3 ((k.trans k').trans k3) rv)
theorem neg_sound {r : Ev} (ok : EvOk prog w n hB r) (hb : Kp hB h₀) (er : ER h₀ W ad s.heap env cx) {e : Expr} {i : Int} {p : Pos} (h : r cx e = some (.int i)) : Gives prog w n (Oo W ad env cx) (eval (.UnaryOp .USub e p) env) (.int (-i)) s := fun Q E hQ =>
  wpAny_UnaryOp (ok cx e _ h h₀ W ad env s hb er _ E fun v h' tk k rv => by
    obtain ⟨t, rfl⟩ := rv.int_v
    exact neg_int (hQ _ h' _ k (.int _ _)))

theorem negP_sound {r : Ev} (ok : EvOk prog w n hB r) (hb : Kp hB h₀) (er : ER h₀ W ad s.heap env cx) {e : Expr} {q : Po} {p : Pos} (h : r cx e = some (.sy (.po q))) : Gives prog w n (Oo W ad env cx) (eval (.UnaryOp .USub e p) env) (.sy (.po (Po.neg q))) s := fun Q E hQ =>
  wpAny_UnaryOp (ok cx e _ h h₀ W ad env s hb er _ E fun v h' tk k rv => by
    obtain ⟨t, rfl⟩ := rv.sy_v
    exact neg_int (hQ _ h' _ k (poR _ (by rw [Po.ev_neg]))))

theorem tst1_sound {r : Ev} (ok : EvOk prog w n hB r) (hb : Kp hB h₀) (er : ER h₀ W ad s.heap env cx) {l e : Expr} {op : CmpOp} {p : Pos} {c : Bool} {whole : Sem Value} (h : tst1 r cx l op e = some c) : GivesB prog w n (isTrue (.Compare l [op] [e] p) env whole) c s := fun Q E hQ => by
  obtain ⟨hm, h⟩ := ite_ex h
  obtain ⟨a, ha, h⟩ := bind_ex h
  obtain ⟨b, hb', h⟩ := bind_ex h
  exact wpAny_isTrue_Compare1 (ok cx l a ha h₀ W ad env s hb er _ E fun va h' tk k ra => ok cx e b hb' h₀ W ad env _ hb (er.kp k) _ E fun vb h'' tk' k' rb =>
    cmp_sound (s := { s with heap := h'', toks := tk' }) (ra.tr (.of_kp k')) rb h (ar_units n) (wpAny_truthy_bool (hQ _ _ (k.trans k')))) hm
theorem tst2_sound {r : Ev} (ok : EvOk prog w n hB r) (hb : Kp hB h₀) (er : ER h₀ W ad s.heap env cx) {l e e2 : Expr} {op op2 : CmpOp} {p : Pos} {c : Bool} {whole : Sem Value} (h : tst2 r cx l op op2 e e2 = some c) : GivesB prog w n (isTrue (.Compare l [op, op2] [e, e2] p) env whole) c s := fun Q E hQ => by
  obtain ⟨hm, h⟩ := ite_ex h
  obtain ⟨a, ha, h⟩ := bind_ex h
  obtain ⟨b, hb', h⟩ := bind_ex h
  obtain ⟨c1, hc1, h⟩ := bind_ex h
  refine isTrue_chain (ok cx l a ha h₀ W ad env s hb er _ E fun va h' tk k ra => ?_) hm
  show wpAny _ _ (do
    let rv ← holding [va] (eval e env)
    standAt p
    let c ← holding [va, rv] (compareOp op va rv)
    release [va, rv] [c]
    if ← holding [c, rv] (truthy c) then testChain p rv [op2] [eval e2 env] else pure false) _ _ _
  refine wpAny_bind (wpAny_holding (ok cx e b hb' h₀ W ad env _ hb (er.kp k) _ E fun vb h'' tk' k' rb => ?_))
  refine wpAny_bind (wpAny_standAt (wpAny_bind (wpAny_holding (cmp_sound (s := { s with heap := h'', toks := tk' }) (ra.tr (.of_kp k')) rb hc1 (ar_units n) ?_))))
  refine wpAny_bind (wpAny_release (wpAny_bind (wpAny_holding (wpAny_truthy_bool ?_))))
  cases c1 with
  | false =>
    rw [if_neg Bool.false_ne_true]
    exact wpAny_pure (Option.some.inj h ▸ hQ _ _ (k.trans k'))
  | true =>
    rw [if_pos rfl] at h ⊢
    obtain ⟨b2, hb2, h⟩ := bind_ex h
    show wpAny _ _ (do
      let rv ← holding [vb] (eval e2 env)
      standAt p
      let c ← operate [vb, rv] (compareOp op2 vb rv)
      holding [c] (truthy c)) _ _ _
    refine wpAny_bind (wpAny_holding (ok cx e2 b2 hb2 h₀ W ad env _ hb ((er.kp k).kp k') _ E fun vc h3 tk3 k3 rc => ?_))
    refine wpAny_bind (wpAny_standAt (wpAny_bind (wpAny_operating (cmp_sound (s := { s with heap := h3, toks := tk3 }) (rb.tr (.of_kp k3)) rc h (ar_units n) ?_))))
    exact wpAny_holding (wpAny_truthy_bool (hQ _ _ ((k.trans k').trans k3)))
theorem tst_sound {r : Ev} (ok : EvOk prog w n hB r) (hb : Kp hB h₀) (er : ER h₀ W ad s.heap env cx) {e : Expr} {c : Bool} {whole : Sem Value} (h : tst r cx e = some c) : GivesB prog w n (isTrue e env whole) c s := by
  obtain ⟨⟨l, ops, es⟩, hx, h⟩ := bind_ex h
  obtain ⟨p, e⟩ := Expr.cmp_eq hx
  subst e
  dsimp only at h ⊢
  rcases orr_some h with h | h
  · obtain ⟨o, e, ho, he, h⟩ := bind2_ex h
    rw [show ops = _ from one_eq ho, show es = _ from one_eq he]
    exact tst1_sound ok hb er h
  · obtain ⟨o, e, ho, he, h⟩ := bind2_ex h
    rw [show ops = _ from pair_eq ho, show es = _ from pair_eq he]
    exact tst2_sound ok hb er h

theorem if_sound {r : Ev} (ok : EvOk prog w n hB r) (hb : Kp hB h₀) (er : ER h₀ W ad s.heap env cx) {t a b : Expr} {c : Bool} {p : Pos} (h1 : tst r cx t = some c) (h2 : r cx (if c then a else b) = some d) :
    Gives prog w n (Oo W ad env cx) (eval (.IfExp t a b p) env) d s := fun Q E hQ => by
  refine wpAny_IfExp (tst_sound ok hb er h1 _ E fun h' tk k => ?_)
  cases c with
  | true => exact ok cx a d h2 h₀ W ad env _ hb (er.kp k) Q E fun v h'' tk' k' rv => hQ v h'' tk' (k.trans k') rv
  | false => exact ok cx b d h2 h₀ W ad env _ hb (er.kp k) Q E fun v h'' tk' k' rv => hQ v h'' tk' (k.trans k') rv

theorem subscripted_ops (sl : Expr) (o i : Value) : ∃ ops, subscripted sl false o i = operate ops (getItem o i) := by
  cases sl with
  | Slice l u st p => cases st <;> exact ⟨_, rfl⟩
  | _ => exact ⟨_, rfl⟩

/-- the values that can be asked for an item -/
noncomputable def Seq3 (a : D) : Prop := (∃ l, a = .list l) ∨ (∃ l, a = .tup l) ∨ (∃ x, a = .str x)
theorem tail_sound {O : Ow} {a : D} {va vi : Value} (ra : R O s.heap a va) (ha : Seq3 a) {v sl : Expr} {Q : Value → Shared → Prop} {E : Value → Shared → Prop} (h : wpAny (model prog w) (Ar n) (getItem va vi) Q E s) :
    wpAny (model prog w) (Ar n) (subscriptTail v sl va vi) Q E s := by
  obtain ⟨ops, ho⟩ := subscripted_ops sl va vi
  rcases ha with ⟨l, rfl⟩ | ⟨l, rfl⟩ | ⟨x, rfl⟩
  · obtain ⟨b, its, rfl, no, il, rl⟩ := ra.list_v
    exact tail_any il.typeIs list_getitem_lookup h ho
  · obtain ⟨b, its, rfl, no, il, rl⟩ := ra.tup_v
    exact tail_any (IsTup.typeIs il) slot_tuple_getitem.lookup h ho
  · obtain ⟨t, rfl⟩ := ra.str_v
    exact tail_any (typeIs_str _ _ _) F.slot_str_getitem.lookup h ho
theorem sub_kind {a b : D} (h : sub a b = some d) : Seq3 a := by
  rcases orr_some h with h | h
  · obtain ⟨l, i, ha, _⟩ := bind2_ex h
    exact .inl ⟨l, list_eq ha⟩
  rcases orr_some h with h | h
  · obtain ⟨l, i, ha, _⟩ := bind2_ex h
    exact .inr (.inl ⟨l, tup_eq ha⟩)
  rcases orr_some h with h | h
  · obtain ⟨l, i, ha, _⟩ := bind2_ex h
    exact .inr (.inr ⟨l, str_eq ha⟩)
  · obtain ⟨l, i, ha, _⟩ := bind2_ex h
    exact .inr (.inl ⟨l, tup_eq ha⟩)
theorem subs_sound {r : Ev} (ok : EvOk prog w n hB r) (hb : Kp hB h₀) (er : ER h₀ W ad s.heap env cx) {v i : Expr} {a b : D} {p : Pos} (h1 : r cx v = some a) (h2 : r cx i = some b) (h : sub a b = some d) :
    Gives prog w n (Oo W ad env cx) (eval (.Subscript v i p) env) d s := fun Q E hQ =>
  Subscript_ (ok cx v a h1 h₀ W ad env s hb er _ E fun va h' tk k ra => ok cx i b h2 h₀ W ad env _ hb (er.kp k) _ E fun vb h'' tk' k' rb =>
    tail_sound (s := { s with heap := h'', toks := tk' }) (ra.tr (.of_kp k')) (sub_kind h) (sub_sound (s := { s with heap := h'', toks := tk' }) (ra.tr (.of_kp k')) rb h Q E fun v h3 tk3 k3 rv => hQ v h3 tk3 ((k.trans k').trans k3) rv))
theorem subo_sound {r : Ev} (ok : EvOk prog w n hB r) (hb : Kp hB h₀) (er : ER h₀ W ad s.heap env cx) {y : PySem.Str} {yp : Pos} {i : Expr} {l : List D} {j : Int} {p : Pos} (h1 : cx.own.lookup y = some l) (hd : (y == ("__debug__" : PySem.Str)) = false)
    (h2 : r cx i = some (.int j)) (h : (ixL l.length j).bind (l[·]?) = some d) : Gives prog w n (Oo W ad env cx) (eval (.Subscript (.Name y yp) i p) env) d s := fun Q E hQ => by
  obtain ⟨lk, _, _, its, il, rl⟩ := er.own y l h1
  refine Subscript_ (wpAny_Name (load_lk er.kind lk (ok cx i _ h2 h₀ W ad env s hb er _ E fun vb h' tk k rb => ?_)) hd)
  have il' : PL h' (ad y) its := let ⟨o, ho, z⟩ := il; ⟨o, k _ o ho, z⟩
  obtain ⟨t, rfl⟩ := rb.int_v
  obtain ⟨ops, ho⟩ := subscripted_ops i (.ref (ad y)) (.int j t)
  exact tail_any (s := { s with heap := h', toks := tk }) il'.isList.typeIs list_getitem_lookup (item_list_gives (s := { s with heap := h', toks := tk }) il'.isList (rl.tr (.of_kp k)) h Q E fun v h3 tk3 k3 rv => hQ v h3 tk3 (k.trans k3) rv) ho

theorem opt_sound {r : Ev} (ok : EvOk prog w n hB r) (hb : Kp hB h₀) (er : ER h₀ W ad s.heap env cx) {e : Option Expr} {i : Option Int} (h : opt r cx e = some i) (Q : Value → Shared → Prop) (E : Value → Shared → Prop)
    (hQ : ∀ v h' tk, Kp s.heap h' → IsPart v i → Q v { s with heap := h', toks := tk }) : wpAny (model prog w) (Ar n) (evalPart e env) Q E s := by
  cases e with
  | none => exact wpAny_pure (hQ _ s.heap s.toks (Kp.refl _) (Option.some.inj h ▸ .none))
  | some e =>
    obtain ⟨d, hd, h⟩ := bind_ex h
    obtain ⟨j, hj, rfl⟩ := map_ex h
    exact ok cx e d hd h₀ W ad env s hb er Q E fun v h' tk k rv => by
      obtain ⟨t, rfl⟩ := intR rv hj
      exact hQ _ h' tk k (.int _ _)

theorem slcT_sound {O : Ow} {i j : Option Int} {x : PySem.Str} {t : Tok} {pl pu : Value} (ipl : IsPart pl i) (ipu : IsPart pu j) (hl : x.length ≤ 1000) {h0 : Heap} (K4 : Kp h0 s.heap) {Q : Value → Shared → Prop} {E : Value → Shared → Prop} (fin : ∀ h' t' k, Kp h0 h' → Q (.str (Txt.slice x i j) t') { s with heap := h', toks := k }) :
    wpAny (model prog w) (Ar n) (getItem (.str x t) (.ref s.heap.objs.size)) Q E { s with heap := s.heap.push { cls := .type "slice", data := .fields #[pl, pu, .none] } } := by
  have hx : x.length ≤ sizeLine := by rw [sizeLine_eq]; exact Nat.le_trans hl (by decide)
  have KH : KeptH (Kp h0) := fun h ob k => k.trans (kp_push h ob)
  cases ipl with
  | none => cases ipu with
    | none => exact (SBH.sliceItem_nn (s := s) (E := E) KH K4 fin hx).choose_spec.choose_spec.2.2
    | int j' u => exact (SBH.sliceItem_ns (s := s) (E := E) KH K4 fin hx).choose_spec.choose_spec.2.2
  | int i' u => cases ipu with
    | none => exact (SBH.sliceItem_sn (s := s) (E := E) KH K4 fin hx).choose_spec.choose_spec.2.2
    | int j' u' => exact (SBH.sliceItem_ss (s := s) (E := E) KH K4 fin hx).choose_spec.choose_spec.2.2
theorem slice_sound {r : Ev} (ok : EvOk prog w n hB r) (hb : Kp hB h₀) (er : ER h₀ W ad s.heap env cx) {v : Expr} {lo hi st : Option Expr} {a : D} {i j k : Option Int} {p q : Pos} (h1 : r cx v = some a) (h2 : opt r cx lo = some i) (h3 : opt r cx hi = some j) (h4 : opt r cx st = some k)
    (h : slc a i j k = some d) : Gives prog w n (Oo W ad env cx) (eval (.Subscript v (.Slice lo hi st q) p) env) d s := fun Q E hQ => by
  refine Subscript_ (ok cx v a h1 h₀ W ad env s hb er _ E fun va h' tk kk ra => ?_)
  refine wpAny_Slice (opt_sound ok hb (s := { s with heap := h', toks := tk }) (er.kp kk) h2 _ E fun pl ha tka ka ipl => ?_)
  refine opt_sound ok hb (s := { s with heap := ha, toks := tka }) ((er.kp kk).kp ka) h3 _ E fun pu hb' tkb kb ipu => ?_
  refine opt_sound ok hb (s := { s with heap := hb', toks := tkb }) (((er.kp kk).kp ka).kp kb) h4 _ E fun ps hc tkc kc ips => ?_
  have er4 := (((er.kp kk).kp ka).kp kb).kp kc
  have K4 : Kp s.heap hc := ((kk.trans ka).trans kb).trans kc
  have ra4 := ra.tr (.of_kp (O := Oo W ad env cx) ((ka.trans kb).trans kc))
  have K5 := kp_push hc { cls := .type "slice", data := .fields #[pl, pu, ps] }
  have ra5 := ra4.tr (.of_kp (O := Oo W ad env cx) K5)
  rcases orr_some h with h | h
  · obtain ⟨l, hl', h⟩ := bind_ex h
    obtain ⟨hl, rfl⟩ := ite_eq h
    refine tail_sound (s := { s with heap := hc.push { cls := .type "slice", data := .fields #[pl, pu, ps] }, toks := tkc }) ra5 (.inl ⟨_, list_eq hl'⟩) ?_
    obtain ⟨b, its, rfl, no, il, rl⟩ := listR ra5 hl'
    refine wpAny_getItem_list_slice il (Heap.IsSliceOf.new ..) ipl ipu ips hl.2 ?_ (by rw [← Array.length_toList, ← rl.length, sizeLine_eq]; exact Nat.le_trans hl.1 (by decide))
    exact hQ _ _ tkc ((K4.trans K5).trans (kp_push _ _)) (new_list (s := { s with heap := hc.push { cls := .type "slice", data := .fields #[pl, pu, ps] }, toks := tkc }) (er4.kp K5).live (rl.pick i j k) _ rfl)
  · obtain ⟨x, hx', h⟩ := bind_ex h
    obtain ⟨⟨hl, rfl⟩, rfl⟩ := ite_eq h
    cases ips
    refine tail_sound (s := { s with heap := hc.push { cls := .type "slice", data := .fields #[pl, pu, .none] }, toks := tkc }) ra5 (.inr (.inr ⟨_, str_eq hx'⟩)) ?_
    obtain ⟨t, rfl⟩ := strR ra4 hx'
    exact slcT_sound (s := { s with heap := hc, toks := tkc }) (O := Oo W ad env cx) ipl ipu hl K4 fun h' t' k kk => hQ _ h' k kk (.str _ _)
end
end Mine
end
section
open PySem PySem.W PyProof.Rows PySem.Calls PySem.Spec
set_option linter.unusedSectionVars false
set_option linter.unusedVariables false
set_option maxRecDepth 100000
namespace Mine
variable [Inhabited Rho]
noncomputable def meth0 (name : PySem.Str) (x : PySem.Str) : Option D := if x.length ≤ 1000 then orr (if name = "upper" then some (.str (Txt.upper x)) else none) (if name = "lower" then some (.str (Txt.lower x)) else none) else none
noncomputable def joinA (x : PySem.Str) (l : List D) : Option D := (asStrs l).bind fun ys => if (ys.map (·.length)).sum + ys.length * x.length ≤ 16777216 then some (.str (Txt.join x ys)) else none
noncomputable def evMeth (P : Pr) (r : Ev) (cx : Cx) (o : Expr) (name : PySem.Str) (apos pos : Pos) (args : List Expr) : Option D :=
  if nocall o = true ∧ (apos.endLine == pos.line) = true then
    (r cx o).bind fun od => match args with
    | [] => od.str?.bind (meth0 name)
    | a :: r' => match r' with
      | [] => orr (if name = "join" then bind2 od.str? ((r cx a).bind D.list?) joinA else none) (if name = "get_all" then bind2 od.hdr? (r cx a) fun l b => P ".get_all" [.hdr l, b] else none)
      | _ :: _ => none
  else none
section
variable {prog : Program} {w : World} {n : Nat} {gl : PySem.Str → Option Value} {hB : Heap} {h₀ : Heap} {W : Ow} {ad : PySem.Str → Addr} {env : Env} {cx : Cx} {s : Shared} {d : D}

theorem base_eq {o : Expr} {name : PySem.Str} (h : nocall o = true) : attributeBase o name env (eval o env) = eval o env := by
  cases o <;> first | rfl | (exfalso; exact Bool.false_ne_true h)

theorem meth0_sound {r : Ev} (ok : EvOk prog w n hB r) (hb : Kp hB h₀) (er : ER h₀ W ad s.heap env cx) {o : Expr} {name : PySem.Str} {apos pos : Pos} {od : D} {x : PySem.Str} (h1 : nocall o = true) (h2 : (apos.endLine == pos.line) = true) (ho : r cx o = some od) (hx : od.str? = some x) (h : meth0 name x = some d) :
    Gives prog w n (Oo W ad env cx) (eval (.Call (.Attribute o name apos) [] [] pos) env) d s := fun Q E hQ => by
  obtain ⟨hl, h⟩ := ite_ex h
  have hl : x.length ≤ sizeLine := by rw [sizeLine_eq]; exact Nat.le_trans hl (by decide)
  rcases orr_some h with h | h
  · obtain ⟨rfl, rfl⟩ := ite_eq h
    refine wpAny_Call_method0_late (base_eq h1) h2 (ok cx o _ ho h₀ W ad env s hb er _ E fun v h' tk k rv => ?_)
    obtain ⟨t, rfl⟩ := strR rv hx
    exact ⟨"str", _, F.plainAttrs_str, F.slot_str_upper, F.type_str_upper, typeIs_str _ _ _, (fun _ e => nomatch e), callWith_method0 (env := env) (SCL.upper (by omega) fun _ => hQ _ h' _ k (.str _ _))⟩
  · obtain ⟨rfl, rfl⟩ := ite_eq h
    refine wpAny_Call_method0_late (base_eq h1) h2 (ok cx o _ ho h₀ W ad env s hb er _ E fun v h' tk k rv => ?_)
    obtain ⟨t, rfl⟩ := strR rv hx
    exact ⟨"str", _, F.plainAttrs_str, F.slot_str_lower, F.type_str_lower, typeIs_str _ _ _, (fun _ e => nomatch e), callWith_method0 (env := env) (SCL.lower (by omega) fun _ => hQ _ h' _ k (.str _ _))⟩
theorem join_sound {r : Ev} (ok : EvOk prog w n hB r) (ns : NoStar r) (hb : Kp hB h₀) (er : ER h₀ W ad s.heap env cx) {o a : Expr} {apos pos : Pos} {od ld : D} {x : PySem.Str} {l : List D} (h1 : nocall o = true) (h2 : (apos.endLine == pos.line) = true) (ho : r cx o = some od) (hx : od.str? = some x) (ha : r cx a = some ld) (hl : ld.list? = some l)
    (h : joinA x l = some d) : Gives prog w n (Oo W ad env cx) (eval (.Call (.Attribute o "join" apos) [a] [] pos) env) d s := fun Q E hQ => by
  obtain ⟨ys, hy, h⟩ := bind_ex h
  obtain ⟨hsz, rfl⟩ := ite_eq h
  have hs := star_ne (env := env) (rest := []) (ne_star ns ha)
  refine wpAny_Call_method_late (base_eq h1) (by rw [hs]; rfl) h2 rfl (ok cx o _ ho h₀ W ad env s hb er _ E fun v h' tk k rv => ?_)
  obtain ⟨t, rfl⟩ := strR rv hx
  refine ⟨"str", _, F.plainAttrs_str, F.slot_str_join, F.type_str_join, typeIs_str _ _ _, (fun _ e => nomatch e), ?_⟩
  refine callWith_method1 (he := hs) (hplain := rfl) ?_
  refine args_cons (ok cx a _ ha h₀ W ad env _ hb (er.kp k) _ E fun v' h'' tk' k' rv' => args_nil ?_) hs
  obtain ⟨b, its, rfl, no, il, rl⟩ := listR rv' hl
  exact join_list (s := { s with heap := h'', toks := tk' }) il (RL.asStrs rl hy) hsz fun t' kk => hQ _ h'' kk (k.trans k') (.str _ _)
theorem getall_sound {P : Pr} {r : Ev} (ok : EvOk prog w n hB r) (ns : NoStar r) (B : Bg prog w gl hB) (pk : PrimOk prog w n gl P hB) (hb : Kp hB h₀) (er : ER h₀ W ad s.heap env cx) {o a : Expr} {apos pos : Pos} {l : List D} {b : D} (h1 : nocall o = true) (h2 : (apos.endLine == pos.line) = true) (ho : r cx o = some (.hdr l)) (ha : r cx a = some b)
    (h : P ".get_all" [.hdr l, b] = some d) : Gives prog w n (Oo W ad env cx) (eval (.Call (.Attribute o "get_all" apos) [a] [] pos) env) d s := fun Q E hQ => by
  obtain ⟨f, hf, g⟩ := pk.1 _ _ _ (List.cons_ne_nil _ _) h
  have hs := star_ne (env := env) (rest := []) (ne_star ns ha)
  rw [arm_eval_Call, base_eq h1]
  refine wpAny_bind (ok cx o _ ho h₀ W ad env s hb er _ E fun v h' tk k rv => ?_)
  refine wpAny_bind (wpAny_standAt ?_)
  have hform : methodCallForm ([a].length + ([] : List Keyword).length) (backTo pos (starEach [a] env)) (backToKw pos (keywordEach [] env)) = true := by rw [hs]; rfl
  have hpos : methodCallPos true o env apos pos = pure pos := by unfold methodCallPos; rw [h2]; rfl
  unfold methodCall
  rw [hform]
  refine wpAny_bind (wpAny_holding (B.gm f hf (Oo W ad env cx) { s with heap := h', toks := tk } v l ((hb.trans er.base).trans k) rv _ _ _ _ ?_))
  refine wpAny_bind (wpAny_of_eq hpos ?_)
  have body : wpAny (model prog w) (Ar n) (spliced (backTo pos (starEach [a] env))) (fun vs s₁ => Kp h' s₁.heap ∧ wpAny (model prog w) (Ar n) (call f ([v] ++ vs)) Q E s₁) E { s with heap := h', toks := tk } := by
    refine args_cons (ok cx a _ ha h₀ W ad env _ hb (er.kp k) _ E fun v' h'' tk' k' rv' => args_nil ⟨k', ?_⟩) hs
    exact g (Oo W ad env cx) { s with heap := h'', toks := tk' } [v, v'] (((hb.trans er.base).trans k).trans k') ((er.kp k).kp k').live (.cons _ _ _ _ (rv.tr (.of_kp k')) (.cons _ _ _ _ rv' .nil)) Q E
      fun v h3 tk3 k3 rv => hQ v h3 tk3 ((k.trans k').trans k3) rv
  refine callWith_of (P := fun h₁ => Kp h' h₁) (by rw [hs]; rfl) (fun h₁ k₁ => B.kp _ _ h₁ hf (((hb.trans er.base).trans k).trans k₁)) ?_
  rw [hs] at body ⊢
  exact evalArgs_plain body
theorem meth_sound {P : Pr} {r : Ev} (ok : EvOk prog w n hB r) (ns : NoStar r) (B : Bg prog w gl hB) (pk : PrimOk prog w n gl P hB) (hb : Kp hB h₀) (er : ER h₀ W ad s.heap env cx) {o : Expr} {name : PySem.Str} {apos pos : Pos} {args : List Expr}
    (h : evMeth P r cx o name apos pos args = some d) : Gives prog w n (Oo W ad env cx) (eval (.Call (.Attribute o name apos) args [] pos) env) d s := by
  obtain ⟨hc, h⟩ := ite_ex h
  obtain ⟨od, ho, h⟩ := bind_ex h
  cases args with
  | nil =>
    obtain ⟨x, hx, h⟩ := bind_ex h
    exact meth0_sound ok hb er hc.1 hc.2 ho hx h
  | cons a args => cases args with
    | nil =>
      rcases orr_some h with h | h
      · obtain ⟨rfl, h⟩ := ite_ex h
        obtain ⟨x, l, hx, hl, h⟩ := bind2_ex h
        obtain ⟨ld, ha, hl⟩ := bind_ex hl
        exact join_sound ok ns hb er hc.1 hc.2 ho hx ha hl h
      · obtain ⟨rfl, h⟩ := ite_ex h
        obtain ⟨l, b, hx, hb', h⟩ := bind2_ex h
        exact getall_sound ok ns B pk hb er hc.1 hc.2 (hdr_eq hx ▸ ho) hb' h
    | cons => exfalso; exact no_some h
end
end Mine
end
section
open PySem PySem.W PyProof.Rows PySem.Calls PySem.Spec
set_option linter.unusedSectionVars false
set_option linter.unusedVariables false
set_option maxRecDepth 100000
namespace Mine
variable [Inhabited Rho]

/-- storing several names, one after another -/
noncomputable def Sto (M : Model) (A : Around) (env : Env) (E : Value → Shared → Prop) (Q : Unit → Shared → Prop) : List PySem.Str → List Value → Shared → Prop
  | x :: xs, v :: vs, s => wpAny M A (storeName env x v) (fun _ s' => Sto M A env E Q xs vs s') E s
  | _, _, s => Q () s

noncomputable def Expr.tup? : Expr → Option (List Expr)
  | .Tuple es _ _ => some es
  | _ => none
omit [Inhabited Rho] in
theorem Expr.tup_eq {e : Expr} {es : List Expr} (h : Expr.tup? e = some es) : ∃ k p, e = .Tuple es k p := by
  cases e <;> first | (exfalso; exact no_some h) | exact Option.some.inj h ▸ ⟨_, _, rfl⟩
noncomputable def Expr.pr? (e : Expr) : Option (PySem.Str × PySem.Str) := (Expr.tup? e).bind fun es => (pair? es).bind fun p => bind2 (Expr.nm? p.1) (Expr.nm? p.2) fun x y => some (x, y)
omit [Inhabited Rho] in
theorem Expr.pr_eq {e : Expr} {q : PySem.Str × PySem.Str} (h : Expr.pr? e = some q) : ∃ px py k p, e = .Tuple [.Name q.1 px, .Name q.2 py] k p := by
  obtain ⟨es, he, h⟩ := bind_ex h
  obtain ⟨p, hp, h⟩ := bind_ex h
  obtain ⟨x, y, hx, hy, h⟩ := bind2_ex h
  obtain ⟨k, pp, e1⟩ := Expr.tup_eq he
  obtain ⟨px, e2⟩ := Expr.nm_eq hx
  obtain ⟨py, e3⟩ := Expr.nm_eq hy
  have e4 := pair_eq hp
  exact ⟨px, py, k, pp, by rw [e1, e4, e2, e3, ← Option.some.inj h]⟩
noncomputable def names (e : Expr) : List PySem.Str := match Expr.nm? e with
  | some x => [x]
  | none => match Expr.pr? e with
    | some q => [q.1, q.2]
    | none => []

structure TW (prog : Program) (w : World) (A : Around) (tgt : Expr) (I : Addr) (fp wr : List Addr) (rows : List (List D)) (O : Ow) (hB : Heap) (St : Nat → Heap → Prop) : Prop where
  sub : ∀ b ∈ wr, b ∈ fp
  frame : ∀ i h h', St i h → (∀ b ∈ fp, ∀ o, h.get? b = some o → h'.get? b = some o) → St i h'
  live : ∀ i h, St i h → ∀ b ∈ fp, ∃ o, h.get? b = some o
  turn : ∀ i (s : Shared) (env : Env) (row : List D) (Q : Unit → Shared → Prop) (E : Value → Shared → Prop), rows[i]? = some row → St i s.heap →
    (∀ vals h' tk, RL O hB row vals → vals.length = (names tgt).length → St (i + 1) h' → (∀ b o, b ∉ wr → s.heap.get? b = some o → h'.get? b = some o) → Sto (model prog w) A env E Q (names tgt) vals { s with heap := h', toks := tk }) →
    wpAny (model prog w) A (pyNext (.ref I)) (fun r s₁ => match r with
      | none => False
      | some v => wpAny (model prog w) A (letOwnedTupleGo tgt (.ref I) v) (fun _ s₂ => wpAny (model prog w) A (assign tgt env v) Q E s₂) E s₁) E s
  done : ∀ (s : Shared) (Q : Option Value → Shared → Prop) (E : Value → Shared → Prop), St rows.length s.heap →
    (∀ h' tk, (∀ b o, b ∉ wr → s.heap.get? b = some o → h'.get? b = some o) → Q none { s with heap := h', toks := tk }) → wpAny (model prog w) A (pyNext (.ref I)) Q E s
  self : ∀ i (s : Shared) (Q : Value → Shared → Prop) (E : Value → Shared → Prop), St i s.heap → Q (.ref I) s → wpAny (model prog w) A (pyIter (.ref I)) Q E s

section
variable {prog : Program} {w : World} {A : Around} {O : Ow} {hB : Heap}

theorem TW.ofWalks {I : Addr} {fp wr : List Addr} {n : Nat} {Pv : Nat → Value → Prop} {St : Nat → Heap → Prop} (W : Walks prog w A I fp wr n Pv St) (ds : List D) (hn : n = ds.length)
    (hv : ∀ i v, Pv i v → ∀ d, ds[i]? = some d → R O hB d v) (lv : ∀ i h, St i h → ∀ b ∈ fp, ∃ o, h.get? b = some o) (x : PySem.Str) (p : Pos) : TW prog w A (.Name x p) I fp wr (ds.map ([·])) O hB St where
  sub := W.sub
  frame := W.frame
  live := lv
  turn := fun i s env row Q E hr st hQ => by
    rw [List.getElem?_map] at hr
    obtain ⟨d, hd, rfl⟩ := map_ex hr
    have hi : i < n := by rw [hn]; exact (List.getElem?_eq_some_iff.mp hd).1
    refine W.item i s _ E hi st fun v h' tk hP st' hk => ?_
    refine wpAny_of_eq (show letOwnedTupleGo (.Name x p) (.ref I) v = pure () from rfl) ?_
    exact wpAny_assign_Name (hQ [v] h' tk (.cons _ _ _ _ (hv i v hP d hd) .nil) rfl st' hk)
  done := fun s Q E st hQ => W.done s Q E (by rw [List.length_map, ← hn] at st; exact st) hQ
  self := W.self

theorem isTuple_kp {h h' : Heap} {a : Addr} {its : Array Value} (il : h.IsTuple a its) (k : ∀ o, h.get? a = some o → h'.get? a = some o) : h'.IsTuple a its := let ⟨o, ho, z⟩ := il; ⟨o, k o ho, z⟩

theorem TW.ofWalksU {I : Addr} {fp wr : List Addr} {n : Nat} {Pt : Nat → Array Value → Prop} {St : Nat → Heap → Prop} {Mid : Nat → Addr → Heap → Prop} (W : WalksU prog w A I fp wr n Pt St Mid) (hh : A.handled = none) (rows : List (List D)) (hn : n = rows.length)
    (hv : ∀ i vals, Pt i vals → ∀ row, rows[i]? = some row → RL O hB row vals.toList) (h2 : ∀ row ∈ rows, row.length = 2) (lv : ∀ i h, St i h → ∀ b ∈ fp, ∃ o, h.get? b = some o) (x y : PySem.Str) (px py p : Pos) (k : Nat) :
    TW prog w A (.Tuple [.Name x px, .Name y py] k p) I fp wr rows O hB St where
  sub := W.sub
  frame := W.frame
  live := lv
  turn := fun i s env row Q E hr st hQ => by
    have hi : i < n := by rw [hn]; exact (List.getElem?_eq_some_iff.mp hr).1
    refine W.item i s _ E hi st fun T vals h' tk hP hT hm hk => ?_
    refine W.go _ _ _ i T _ _ E hm fun h'' st' hk' => ?_
    have hT' : h''.IsTuple T vals := isTuple_kp hT fun o e => hk' T o (W.apart i T h' hm) e
    have rl := hv i vals hP row hr
    have hl : row.length = 2 := h2 row (List.mem_of_getElem? hr)
    have hl' := rl.length
    rw [hl] at hl'
    obtain ⟨a, b, hab⟩ := len2 hl'.symm
    refine wpAny_assign_Tuple hh hT' (by rw [← Array.length_toList, ← hl']; rfl) rfl fun h3 he => ?_
    rw [hab]
    have k3 : Kp h'' h3 := fun b o e => he b o (Nat.ne_of_lt (Heap.lt_size e)) e
    have st3 : St (i + 1) h3 := W.frame _ _ _ st' fun b hb o e => k3 b o e
    have fin := hQ [a, b] h3 tk (hab ▸ rl) rfl st3 fun b o hb e => k3 b o (hk' b o hb (hk b o hb e))
    show wpAny _ A (assignInOrder [assign (.Name x px) env, assign (.Name y py) env] [a, b]) Q E _
    refine assignInOrder_cons (wpAny_assign_Name (wpAny_mono fin (fun _ s₁ h₁ => ?_) fun _ _ e => e))
    refine assignInOrder_cons (wpAny_assign_Name (wpAny_mono h₁ (fun _ s₂ h₂ => assignInOrder_nil h₂) fun _ _ e => e))
  done := fun s Q E st hQ => W.done s Q E (by rw [← hn] at st; exact st) hQ
  self := W.self

theorem listIter_live {h : Heap} {I l : Addr} {i : Nat} (x : h.IsListIter I l i) : ∃ o, h.get? I = some o := let ⟨o, ho, _⟩ := x; ⟨o, ho⟩

theorem list_live {h : Heap} {l : Addr} {its : Array Value} (x : h.IsList l its) : ∃ o, h.get? l = some o := let ⟨o, ho, _⟩ := x; ⟨o, ho⟩
theorem TW.list (hh : A.handled = none) (I a : Addr) (hne : a ≠ I) {its : Array Value} {ds : List D} (rl : RL O hB ds its.toList) (x : PySem.Str) (p : Pos) :
    TW prog w A (.Name x p) I [I, a] [I] (ds.map ([·])) O hB (fun i h => h.IsListIter I a i ∧ h.IsList a its) :=
  TW.ofWalks (Walks.list hh I a hne its) ds rl.length.symm (fun i v hv d hd => by
    obtain ⟨v', hv', r⟩ := rl.get i hd
    have : its[i]? = some v' := by simpa using hv'
    exact (Option.some.inj (hv.symm.trans this)) ▸ r) (fun i h st => all_cons (listIter_live st.1) (all_cons (list_live st.2) all_nil)) x p
theorem TW.tuple (hh : A.handled = none) (I a : Addr) (hne : a ≠ I) {its : Array Value} {ds : List D} (rl : RL O hB ds its.toList) (x : PySem.Str) (p : Pos) :
    TW prog w A (.Name x p) I [I, a] [I] (ds.map ([·])) O hB (fun i h => h.IsTupleIter I a i ∧ h.IsTuple a its) :=
  TW.ofWalks (Walks.tuple hh I a hne its) ds rl.length.symm (fun i v hv d hd => by
    obtain ⟨v', hv', r⟩ := rl.get i hd
    have : its[i]? = some v' := by simpa using hv'
    exact (Option.some.inj (hv.symm.trans this)) ▸ r) (fun i h st => all_cons (let ⟨o, ho, _⟩ := st.1; ⟨o, ho⟩) (all_cons (let ⟨o, ho, _⟩ := st.2; ⟨o, ho⟩) all_nil)) x p
noncomputable def rng (a c : Int) (n : Nat) : List D := (List.range n).map fun (i : Nat) => .int (a + (i : Int) * c)
theorem TW.range (hh : A.handled = none) (I : Addr) (a c : Int) (n : Nat) (x : PySem.Str) (p : Pos) :
    TW prog w A (.Name x p) I [I] [I] ((rng a c n).map ([·])) O hB (fun i h => IsRangeIter h I (a + i * c) ((n : Int) - i) c) :=
  TW.ofWalks (Walks.range hh I a c n) (rng a c n) (by simp [rng]) (fun i v hv d hd => by
    obtain ⟨t, rfl⟩ := hv
    unfold rng at hd
    rw [List.getElem?_map] at hd
    obtain ⟨j, hj, rfl⟩ := map_ex hd
    have : j = i := by
      rw [List.getElem?_eq_some_iff] at hj
      obtain ⟨hj, e⟩ := hj
      rw [← e]; simp
    subst this
    exact .int _ t) (fun i h st => all_cons ⟨_, st⟩ all_nil) x p

theorem TW.tr {tgt : Expr} {I : Addr} {fp wr : List Addr} {rows : List (List D)} {O' : Ow} {hB' : Heap} {St : Nat → Heap → Prop} (W : TW prog w A tgt I fp wr rows O hB St) (T : Tr O hB O' hB') : TW prog w A tgt I fp wr rows O' hB' St where
  sub := W.sub
  frame := W.frame
  live := W.live
  turn := fun i s env row Q E hr st hQ => W.turn i s env row Q E hr st fun vals h' tk rl => hQ vals h' tk (rl.tr T)
  done := W.done
  self := W.self

noncomputable def prs : List D → Option (List (List D))
  | [] => some []
  | d :: r => (d.tup?.bind pair?).bind fun p => (prs r).map ([p.1, p.2] :: ·)
noncomputable def PrsAt (l : List D) (rows : List (List D)) : Prop := rows.length = l.length ∧ ∀ (i : Nat) (row : List D), rows[i]? = some row → ∃ a b, row = [a, b] ∧ l[i]? = some (D.tup [a, b])
theorem prs_at : ∀ {l : List D} {rows : List (List D)}, prs l = some rows → PrsAt l rows
  | [], _, h => Option.some.inj h ▸ ⟨rfl, fun i row hi => (no_some hi).elim⟩
  | d :: r, rows, h => by
    obtain ⟨p, hp, h⟩ := bind_ex h
    obtain ⟨rows, hr, rfl⟩ := map_ex h
    obtain ⟨l, hl, hp⟩ := bind_ex hp
    obtain ⟨e, f⟩ := prs_at hr
    refine ⟨congrArg Nat.succ e, fun i row hi => ?_⟩
    cases i with
    | zero => exact ⟨p.1, p.2, (Option.some.inj hi).symm, by rw [tup_eq hl, pair_eq hp]; rfl⟩
    | succ i => exact f i row hi

theorem TW.pairs (hh : A.handled = none) (I a : Addr) (hne : a ≠ I) (hI : hB.get? I = none) {its : Array Value} {ds : List D} (rl : RL O hB ds its.toList) {rows : List (List D)} (hr : prs ds = some rows) (x y : PySem.Str) (px py p : Pos) (k : Nat) :
    ∃ ts : List Addr, (∀ t ∈ ts, ¬ O t ∧ ∃ o, hB.get? t = some o) ∧ ∃ St : Nat → Heap → Prop, (∀ h, Kp hB h → h.IsListIter I a 0 → h.IsList a its → St 0 h) ∧ TW prog w A (.Tuple [.Name x px, .Name y py] k p) I (I :: a :: ts) [I] rows O hB St := by
  obtain ⟨el, f⟩ := prs_at hr
  have en : ds.length = its.size := rl.length
  have g : ∀ j, j < its.size → ∃ T : Addr × Array Value, its[j]? = some (.ref T.1) ∧ hB.IsTuple T.1 T.2 ∧ ¬ O T.1 ∧ ∀ row, rows[j]? = some row → RL O hB row T.2.toList := fun j hj => by
    have hj' : j < rows.length := by omega
    obtain ⟨a, b, e1, e2⟩ := f j rows[j] (by simp [hj'])
    obtain ⟨v, hv, r⟩ := rl.get j e2
    obtain ⟨T, vs, rfl, no, it, rl'⟩ := r.tup_v
    refine ⟨(T, vs), by simpa using hv, it, no, fun row hrow => ?_⟩
    rw [List.getElem?_eq_getElem hj', e1] at hrow
    exact Option.some.inj hrow ▸ rl'
  let Ts : Nat → Addr × Array Value := fun j => if h : j < its.size then (g j h).choose else (0, #[])
  have hT : ∀ j (hj : j < its.size), its[j]? = some (.ref (Ts j).1) ∧ hB.IsTuple (Ts j).1 (Ts j).2 ∧ ¬ O (Ts j).1 ∧ ∀ row, rows[j]? = some row → RL O hB row (Ts j).2.toList := fun j hj => by
    have : Ts j = (g j hj).choose := by simp only [Ts, hj, dite_true]
    rw [this]; exact (g j hj).choose_spec
  have W := Walks.list (prog := prog) (w := w) hh I a hne its
  have U := WalksU.listOfTuples (prog := prog) (w := w) (A := A) hh I a hne its (fun j => (Ts j).1) (fun j => (Ts j).2) (fun j hj => (hT j hj).1) (fun j hj q => by
    obtain ⟨o, ho, _⟩ := (hT j hj).2.1
    rw [q, hI] at ho; cases ho)
  refine ⟨(List.range its.size).map fun j => (Ts j).1, fun t ht => ?_, _, fun h kk li il => ⟨li, il, fun j hj => isTuple_kp (hT j hj).2.1 fun o e => kk _ o e⟩,
    TW.ofWalksU (O := O) (hB := hB) U hh rows (by omega) (fun i vals hv row hrow => ?_) (fun row hrow => ?_) (fun i h st b hb => ?_) x y px py p k⟩
  · obtain ⟨j, hj, rfl⟩ := List.mem_map.mp ht
    have hj' : j < its.size := by simpa using hj
    exact ⟨(hT j hj').2.2.1, let ⟨o, ho, _⟩ := (hT j hj').2.1; ⟨o, ho⟩⟩
  · have hi : i < its.size := by have := (List.getElem?_eq_some_iff.mp hrow).1; omega
    subst hv
    exact (hT i hi).2.2.2 row hrow
  · obtain ⟨i, hi, rfl⟩ := List.getElem_of_mem hrow
    obtain ⟨a, b, e1, _⟩ := f i rows[i] (by simp [hi])
    rw [e1]; rfl
  · rcases List.mem_cons.mp hb with rfl | hb
    · exact listIter_live st.1
    · rcases List.mem_cons.mp hb with rfl | hb
      · exact list_live st.2.1
      · obtain ⟨j, hj, rfl⟩ := List.mem_map.mp hb
        obtain ⟨o, ho, _⟩ := st.2.2 j (by simpa using hj)
        exact ⟨o, ho⟩
end
end Mine
end
section
open PySem PySem.W PyProof.Rows PySem.Calls PySem.Spec
set_option linter.unusedSectionVars false
set_option linter.unusedVariables false
set_option maxRecDepth 100000
namespace Mine
variable [Inhabited Rho]

noncomputable def IterG (prog : Program) (w : World) (n : Nat) (O : Ow) (tgt : Expr) (rows : List (List D)) (hS : Heap) (t : (Value → Shared → Prop) → (Value → Shared → Prop) → Prop) (s : Shared) : Prop :=
  ∀ (Q : Value → Shared → Prop) (E : Value → Shared → Prop),
    (∀ I fp wr St hR h' tk, Kp s.heap hR → Kp hR h' → TW prog w (Ar n) tgt I fp wr rows O hR St → St 0 h' → (∀ b ∈ wr, hR.get? b = none) → (∀ b ∈ fp, b ∈ wr ∨ ¬ O b) → Q (.ref I) { s with heap := h', toks := tk }) → t Q E

noncomputable def rowsOf (tgt : Expr) (d : D) : Option (List (List D)) :=
  orr ((Expr.nm? tgt).bind fun _ => orr (d.list?.map fun l => l.map ([·])) (d.tup?.map fun l => l.map ([·]))) ((Expr.pr? tgt).bind fun _ => d.list?.bind prs)

section
variable {prog : Program} {w : World} {n : Nat} {O : Ow} {s : Shared} {hS : Heap}

theorem fresh_size {h : Heap} {a : Addr} (k : Kp hS h) (e : h.get? a = none) : hS.get? a = none := by
  cases q : hS.get? a with
  | none => rfl
  | some o => have := k a o q; rw [e] at this; cases this

theorem live_lt {h : Heap} {a : Addr} {its : Array Value} (il : h.IsList a its) : a < h.objs.size := let ⟨_, ho, _⟩ := il; Heap.lt_size ho
theorem rows_list (lv : ∀ b, O b → ∃ o, s.heap.get? b = some o) {l : List D} {v : Value} (r : R O s.heap (.list l) v) (x : PySem.Str) (p : Pos) :
    IterG prog w n O (.Name x p) (l.map ([·])) hS (fun Q E => wpAny (model prog w) (Ar n) (pyIter v) Q E s) s := fun Q E hQ => by
  obtain ⟨a, its, rfl, no, il, rl⟩ := r.list_v
  refine wpAny_pyIter_list il ?_
  have kk := kp_push s.heap { cls := .type "list_iterator", data := .fields #[.ref a, .int 0 0] }
  exact hQ _ _ _ _ s.heap _ s.toks (Kp.refl _) kk (TW.list (hB := s.heap) rfl s.heap.objs.size a (Nat.ne_of_lt (live_lt il)) rl x p) ⟨⟨_, Heap.get?_push_size _ rfl, rfl, rfl⟩, il.push _⟩ (all_cons (size_none _) all_nil) (all_cons (.inl m0) (all_cons (.inr no) all_nil))
theorem rows_tup (lv : ∀ b, O b → ∃ o, s.heap.get? b = some o) {l : List D} {v : Value} (r : R O s.heap (.tup l) v) (x : PySem.Str) (p : Pos) :
    IterG prog w n O (.Name x p) (l.map ([·])) hS (fun Q E => wpAny (model prog w) (Ar n) (pyIter v) Q E s) s := fun Q E hQ => by
  obtain ⟨a, its, rfl, no, il, rl⟩ := r.tup_v
  have alt : a < s.heap.objs.size := let ⟨_, ho, _⟩ := il; Heap.lt_size ho
  refine wpAny_pyIter_tuple il ?_
  have kk := kp_push s.heap { cls := .type "tuple_iterator", data := .fields #[.ref a, .int 0 0] }
  exact hQ _ _ _ _ s.heap _ s.toks (Kp.refl _) kk (TW.tuple (hB := s.heap) rfl s.heap.objs.size a (Nat.ne_of_lt alt) rl x p) ⟨⟨_, Heap.get?_push_size _ rfl, rfl, rfl⟩, isTuple_kp il fun o e => kk _ o e⟩ (all_cons (size_none _) all_nil) (all_cons (.inl m0) (all_cons (.inr no) all_nil))
theorem rows_pairs (lv : ∀ b, O b → ∃ o, s.heap.get? b = some o) {l : List D} {v : Value} (r : R O s.heap (.list l) v) {rows : List (List D)} (h : prs l = some rows) (x y : PySem.Str) (px py p : Pos) (c : Nat) :
    IterG prog w n O (.Tuple [.Name x px, .Name y py] c p) rows hS (fun Q E => wpAny (model prog w) (Ar n) (pyIter v) Q E s) s := fun Q E hQ => by
  obtain ⟨a, its, rfl, no, il, rl⟩ := r.list_v
  refine wpAny_pyIter_list il ?_
  have kk := kp_push s.heap { cls := .type "list_iterator", data := .fields #[.ref a, .int 0 0] }
  obtain ⟨ts, hts, St, st0, W⟩ := TW.pairs (prog := prog) (w := w) (A := Ar n) (hB := s.heap) rfl s.heap.objs.size a (Nat.ne_of_lt (live_lt il)) (size_none _) rl h x y px py p c
  exact hQ _ _ _ _ s.heap _ s.toks (Kp.refl _) kk W (st0 _ kk ⟨_, Heap.get?_push_size _ rfl, rfl, rfl⟩ (il.push _)) (all_cons (size_none _) all_nil) (all_cons (.inl m0) (all_cons (.inr no) fun b hb => .inr (hts b hb).1))
theorem rows_sound (lv : ∀ b, O b → ∃ o, s.heap.get? b = some o) (k : Kp hS s.heap) {d : D} {v : Value} (r : R O s.heap d v) {tgt : Expr} {rows : List (List D)} (h : rowsOf tgt d = some rows) :
    IterG prog w n O tgt rows hS (fun Q E => wpAny (model prog w) (Ar n) (pyIter v) Q E s) s := by
  rcases orr_some h with h | h
  · obtain ⟨x, hx, h1⟩ := bind_ex h
    obtain ⟨p, rfl⟩ := Expr.nm_eq hx
    rcases orr_some h1 with h1 | h1
    · obtain ⟨l, hl, rfl⟩ := map_ex h1
      exact rows_list lv (list_eq hl ▸ r) x p
    · obtain ⟨l, hl, rfl⟩ := map_ex h1
      exact rows_tup lv (tup_eq hl ▸ r) x p
  · obtain ⟨q, hq, h1⟩ := bind_ex h
    obtain ⟨l, hl, h2⟩ := bind_ex h1
    obtain ⟨px, py, c, p, rfl⟩ := Expr.pr_eq hq
    exact rows_pairs lv (list_eq hl ▸ r) h2 _ _ px py p c

noncomputable def rg1 (a b c : Int) : Option (List (List D)) := if Builtin.Range.small a b c = true ∧ c ≠ 0 ∧ c.natAbs < 1000000000 then some ((rng a c (Builtin.Range.rangeSize a b c).toNat).map ([·])) else none
noncomputable def rangeRows (ds : List D) : Option (List (List D)) :=
  orr ((one? ds).bind fun a => a.int?.bind fun m => rg1 0 m 1) (orr ((pair? ds).bind fun p => bind2 p.1.int? p.2.int? fun a b => rg1 a b 1) ((trip? ds).bind fun p => bind2 p.1.int? p.2.1.int? fun a b => p.2.2.int?.bind fun c => rg1 a b c))
theorem size_nonneg (a b c : Int) : 0 ≤ Builtin.Range.rangeSize a b c := by
  unfold Builtin.Range.rangeSize
  split
  · split
    · have := Int.ediv_nonneg (a := b - a - 1) (b := c) (by omega) (by omega); omega
    · omega
  · split
    · have := Int.ediv_nonneg (a := a - b - 1) (b := -c) (by omega) (by omega); omega
    · omega
theorem range_it {a b c : Int} {t u v : Tok} {r : Addr} (hr : IsRange s.heap r a b c t u v) (hs : Builtin.Range.small a b c = true) (k : Kp hS s.heap) (x : PySem.Str) (p : Pos) :
    IterG prog w n O (.Name x p) ((rng a c (Builtin.Range.rangeSize a b c).toNat).map ([·])) hS (fun Q E => wpAny (model prog w) (Ar n) (pyIter (.ref r)) Q E s) s := fun Q E hQ => by
  refine wpAny_pyIter_range hr hs ?_
  refine hQ _ _ _ _ s.heap _ s.toks (Kp.refl _) (kp_push _ _) (TW.range rfl s.heap.objs.size a c (Builtin.Range.rangeSize a b c).toNat x p) ?_ (fun b hb => ?_) (fun b hb => .inl hb)
  · show IsRangeIter _ _ _ _ _
    have e1 : a + ((0 : Nat) : Int) * c = a := by simp
    have e2 : (((Builtin.Range.rangeSize a b c).toNat : Nat) : Int) - ((0 : Nat) : Int) = Builtin.Range.rangeSize a b c := by
      have := size_nonneg a b c
      omega
    rw [e1, e2]
    exact Heap.get?_push_size _ rfl
  · simp at hb; subst hb; exact size_none _
noncomputable def RangeAt (prog : Program) (w : World) (n : Nat) (s : Shared) (rows : List (List D)) (Q E : Value → Shared → Prop) : Prop := ∀ {a b c : Int} {t u v : Tok} {tk : Nat}, rg1 a b c = some rows →
  wpAny (model prog w) (Ar n) (pyIter (.ref s.heap.objs.size)) Q E { s with heap := s.heap.push { cls := .type "range", data := .fields #[.int a t, .int b u, .int c v] }, toks := tk }
theorem range_at (k : Kp hS s.heap) {rows : List (List D)} (x : PySem.Str) (p : Pos) {Q E : Value → Shared → Prop}
    (hQ : ∀ I fp wr St hR h' tk, Kp s.heap hR → Kp hR h' → TW prog w (Ar n) (.Name x p) I fp wr rows O hR St → St 0 h' → (∀ b ∈ wr, hR.get? b = none) → (∀ b ∈ fp, b ∈ wr ∨ ¬ O b) → Q (.ref I) { s with heap := h', toks := tk }) : RangeAt prog w n s rows Q E := by
  intro a b c t u v tk h
  obtain ⟨hs, rfl⟩ := ite_eq h
  have kk := kp_push s.heap { cls := .type "range", data := .fields #[.int a t, .int b u, .int c v] }
  exact range_it (s := { s with heap := s.heap.push { cls := .type "range", data := .fields #[.int a t, .int b u, .int c v] }, toks := tk }) (O := O) (hS := hS) (IsRange.new _ _ _ _ _ _ _) hs.1 (k.trans kk) x p Q E
    fun I fp wr St hR h' tk' k0 k' W st w1 w2 => hQ I fp wr St hR h' tk' (kk.trans k0) k' W st w1 w2
theorem range_sound (k : Kp hS s.heap) {ds : List D} {vs : List Value} (rl : RL O s.heap ds vs) {rows : List (List D)} (h : rangeRows ds = some rows) (x : PySem.Str) (p : Pos) :
    IterG prog w n O (.Name x p) rows hS (fun Q E => wpAny (model prog w) (Ar n) (call (.type "range") vs) (fun v s₁ => wpAny (model prog w) (Ar n) (pyIter v) Q E s₁) E s) s := fun Q E hQ => by
  have step : RangeAt prog w n s rows Q E := range_at k x p hQ
  rcases orr_some h with h | h
  · obtain ⟨a, ha, h⟩ := bind_ex h
    obtain ⟨m, hm, h⟩ := bind_ex h
    rw [one_eq ha] at rl
    obtain ⟨v, rfl, r⟩ := rl.one
    obtain ⟨t, rfl⟩ := intR r hm
    exact call_range_1 (step h)
  rcases orr_some h with h | h
  · obtain ⟨a, ha, h⟩ := bind_ex h
    obtain ⟨i, j, hi, hj, h⟩ := bind2_ex h
    rw [pair_eq ha] at rl
    obtain ⟨v, u, rfl, r1, r2⟩ := rl.two
    obtain ⟨t1, rfl⟩ := intR r1 hi
    obtain ⟨t2, rfl⟩ := intR r2 hj
    exact call_range_2 (step h)
  · obtain ⟨a, ha, h⟩ := bind_ex h
    obtain ⟨i, j, hi, hj, h⟩ := bind2_ex h
    obtain ⟨m, hm, h⟩ := bind_ex h
    rw [trip_eq ha] at rl
    obtain ⟨v, u, z, rfl, r1, r2, r3⟩ := rl.three
    obtain ⟨t1, rfl⟩ := intR r1 hi
    obtain ⟨t2, rfl⟩ := intR r2 hj
    obtain ⟨t3, rfl⟩ := intR r3 hm
    have hs := (ite_ex h).1
    exact call_range_3 hs.2.1 (step h) (Or.inl (PyProof.noPylong_small (by omega)))

noncomputable def enumR (l : List D) : List (List D) := l.zipIdx.map fun p => [.int p.2, p.1]
noncomputable def enumRows (ds : List D) : Option (List (List D)) := (one? ds).bind fun a => a.list?.map enumR
theorem enumR_at {l : List D} {i : Nat} {row : List D} (h : (enumR l)[i]? = some row) : ∃ d, l[i]? = some d ∧ row = [.int i, d] := by
  unfold enumR at h
  rw [List.getElem?_map] at h
  obtain ⟨p, hp, rfl⟩ := map_ex h
  rw [List.getElem?_zipIdx] at hp
  obtain ⟨d, hd, rfl⟩ := map_ex hp
  exact ⟨d, hd, by rw [Nat.zero_add]⟩
theorem enum_sound (k : Kp hS s.heap) {ds : List D} {vs : List Value} (rl : RL O s.heap ds vs) {rows : List (List D)} (h : enumRows ds = some rows) (x y : PySem.Str) (px py p : Pos) (c : Nat) :
    IterG prog w n O (.Tuple [.Name x px, .Name y py] c p) rows hS (fun Q E => wpAny (model prog w) (Ar n) (call (.type "enumerate") vs) (fun v s₁ => wpAny (model prog w) (Ar n) (pyIter v) Q E s₁) E s) s := fun Q E hQ => by
  obtain ⟨d, hd, h⟩ := bind_ex h
  obtain ⟨l, hl, rfl⟩ := map_ex h
  rw [one_eq hd] at rl
  obtain ⟨v, rfl, r⟩ := rl.one
  obtain ⟨a, its, rfl, no, il, rl⟩ := listR r hl
  have alt := live_lt il
  refine call_enumerate_list il fun h' he hi hsz kk => ?_
  refine wpAny_pyIter_enum he ?_
  have il' : h'.IsList a its := let ⟨o, ho, z⟩ := il; ⟨o, kk _ o ho, z⟩
  refine hQ _ _ _ _ s.heap h' s.toks (Kp.refl _) kk (TW.ofWalksU (O := O) (hB := s.heap) (WalksT.toU (WalksT.enumerate rfl (s.heap.objs.size + 1) s.heap.objs.size a (Nat.succ_ne_self _) (Nat.ne_of_lt (Nat.lt_succ_of_lt alt)) (Nat.ne_of_lt alt) its)) rfl _ (by rw [enumR, List.length_map, List.length_zipIdx, rl.length]; rfl) (fun i vals hv row hrow => ?_) (fun row hrow => ?_)
    (fun i h st => all_cons (let ⟨old, e⟩ := st.1; ⟨_, e⟩) (all_cons (listIter_live st.2.1) (all_cons (list_live st.2.2) all_nil))) x y px py p c)
    ⟨⟨_, he⟩, hi, il'⟩ (all_cons (Heap.get?_none_of_le (Nat.le_succ _)) (all_cons (size_none _) all_nil)) (all_cons (.inl m0) (all_cons (.inl m1) (all_cons (.inr no) all_nil)))
  · obtain ⟨t, u, hu, rfl⟩ := hv
    obtain ⟨d, hd', rfl⟩ := enumR_at hrow
    obtain ⟨v, hv, rv⟩ := rl.get _ hd'
    rw [Array.getElem?_toList, hu] at hv
    exact .cons _ _ _ _ (.int _ _) (.cons _ _ _ _ (Option.some.inj hv ▸ rv) .nil)
  · obtain ⟨q, hq, rfl⟩ := List.mem_map.mp hrow; rfl
end
end Mine
end
section
open PySem PySem.W PyProof.Rows PySem.Calls PySem.Spec
set_option linter.unusedSectionVars false
set_option linter.unusedVariables false
set_option maxRecDepth 100000
namespace Mine
variable [Inhabited Rho]

/-- zip over two texts of plain signs -/
noncomputable abbrev SI (h : Heap) (it : Addr) (x : PySem.Str) (t : Tok) (i : Nat) : Prop := h.IsStrIter it "str_ascii_iterator" x t i
theorem SI.at {h h' : Heap} {it : Addr} {x : PySem.Str} {t : Tok} {i : Nat} (y : SI h it x t i) (k : ∀ o, h.get? it = some o → h'.get? it = some o) : SI h' it x t i := let ⟨o, ho, r⟩ := y; ⟨o, k o ho, r⟩
theorem SI.live {h : Heap} {it : Addr} {x : PySem.Str} {t : Tok} {i : Nat} (y : SI h it x t i) : ∃ o, h.get? it = some o := let ⟨o, ho, r⟩ := y; ⟨o, ho⟩

structure ZA (z TI TO i1 i2 : Addr) : Prop where
  a : TI ≠ z
  b : TO ≠ z
  c : i1 ≠ z
  d : i2 ≠ z
  e : TI ≠ TO
  f : TI ≠ i1
  g : TI ≠ i2
  h : TO ≠ i1
  i : TO ≠ i2
  j : i1 ≠ i2

section
variable {prog : Program} {w : World} {A : Around} {E : Value → Shared → Prop} {s : Shared}

theorem zs_item {z TI TO i1 i2 : Addr} {x y : PySem.Str} {t u : Tok} {k c1 c2 : Nat} {a b : Value} {Q : Value → Shared → Prop} (D : ZA z TI TO i1 i2)
    (hz : IsZip s.heap z TI TO .none) (hTI : IsPair s.heap TI (.ref i1) (.ref i2)) (hTO : IsPair s.heap TO a b) (h1 : SI s.heap i1 x t k) (h2 : SI s.heap i2 y u k) (hx : x.cps[k]? = some c1) (hy : y.cps[k]? = some c2)
    (hQ : ∀ h' tk t1 t2, IsZip h' z TI TO (rawInt s.heap.objs.size) → IsPair h' TO (.str ⟨#[c1]⟩ t1) (.str ⟨#[c2]⟩ t2) → SI h' i1 x t (k + 1) → SI h' i2 y u (k + 1) → IsPair h' s.heap.objs.size (.str ⟨#[c1]⟩ t1) (.str ⟨#[c2]⟩ t2) →
      (∀ c o, c ≠ z → c ≠ TO → c ≠ i1 → c ≠ i2 → s.heap.get? c = some o → h'.get? c = some o) → Q (.ref s.heap.objs.size) { s with heap := h', toks := tk }) :
    wpAny (model prog w) A (Builtin.«zip.__next__» ⟨[.ref z], []⟩) (fun fin s' => ∃ v, fin = .done (.ret v) ∧ Q v s') E s := by
  show wpAny _ _ (field (.ref z) 2 >>= _) _ _ _
  refine wpAny_bind (wpAny_field hz rfl (x := .bool false) rfl ?_)
  show wpAny _ _ (field (.ref z) 3 >>= _) _ _ _
  refine wpAny_bind (wpAny_field hz rfl (x := .ref TI) rfl (wpAny_bind (wpAny_seqItems hTI rfl ?_)))
  show wpAny _ _ (Builtin.SmallTypes.ownedTupleIsFree (.ref z) >>= _) _ _ _
  unfold Builtin.SmallTypes.ownedTupleIsFree
  refine wpAny_bind (wpAny_bind (wpAny_field hz rfl (x := .none) rfl (wpAny_pure ?_)))
  simp only [if_true]
  refine wpAny_bind (wpAny_rule (wpAny_bind (wpAny_field hz rfl (x := .ref TO) rfl ?_)))
  refine wpAny_bind (wpAny_setField_rec hz (by simp) fun g1 z1 b1 => ?_)
  refine wpAny_bind ?_
  simp only [List.zipIdx_cons, List.zipIdx_nil, List.forIn_cons, List.forIn_nil]
  refine wpAny_bind (wpAny_bind (wpAny_onRaise ?_))
  show wpAny _ _ (Builtin.SmallTypes.nextOf (.ref i1) >>= _) _ _ _
  refine wpAny_bind (wpAny_nextOf_ascii_item (h1.at fun o e => b1.extBut _ _ D.c e) hx fun g2 n1 b2 => wpAny_pure ?_)
  have T2 : IsPair g2 TO a b := b2.extBut _ _ D.h (b1.extBut _ _ D.b hTO)
  refine wpAny_bind (wpAny_seqItems T2 rfl (wpAny_bind (wpAny_updateSeq_pair T2 fun g3 T3 b3 => wpAny_bind (wpAny_letGo (wpAny_pure ?_)))))
  refine wpAny_bind (wpAny_bind (wpAny_onRaise ?_))
  show wpAny _ _ (Builtin.SmallTypes.nextOf (.ref i2) >>= _) _ _ _
  refine wpAny_bind (wpAny_nextOf_ascii_item (h2.at fun o e => b3.extBut _ _ D.i.symm (b2.extBut _ _ D.j.symm (b1.extBut _ _ D.d e))) hy fun g4 n2 b4 => wpAny_pure ?_)
  have T4 : IsPair g4 TO (.str ⟨#[c1]⟩ s.toks) b := b4.extBut _ _ D.i T3
  refine wpAny_bind (wpAny_seqItems T4 rfl (wpAny_bind (wpAny_updateSeq_pair T4 fun g5 T5 b5 => wpAny_bind (wpAny_letGo (wpAny_pure (wpAny_pure ?_))))))
  replace T5 : IsPair g5 TO (.str ⟨#[c1]⟩ s.toks) (.str ⟨#[c2]⟩ (s.toks + 1)) := T5
  refine wpAny_bind (wpAny_seqItems T5 rfl (wpAny_bind (wpAny_newTuple ?_)))
  have hsz : g5.objs.size = s.heap.objs.size := by rw [b5.1, b4.1, b3.1, b2.1, b1.1]
  have z5 : IsZip g5 z TI TO .ellipsis := b5.extBut _ _ D.b.symm (b4.extBut _ _ D.d.symm (b3.extBut _ _ D.b.symm (b2.extBut _ _ D.c.symm z1)))
  have kk : ∀ c o, c ≠ z → c ≠ TO → c ≠ i1 → c ≠ i2 → s.heap.get? c = some o → g5.get? c = some o := fun c o q1 q2 q3 q4 e =>
    b5.extBut _ _ q2 (b4.extBut _ _ q4 (b3.extBut _ _ q2 (b2.extBut _ _ q3 (b1.extBut _ _ q1 e))))
  have m1 : SI g5 i1 x t (k + 1) := SI.at n1 fun o e => b5.extBut _ _ D.h.symm (b4.extBut _ _ D.j (b3.extBut _ _ D.h.symm e))
  have m2 : SI g5 i2 y u (k + 1) := SI.at n2 fun o e => b5.extBut _ _ D.i.symm e
  have ltz : z < g5.objs.size := Heap.lt_size z5
  show wpAny _ _ (Builtin.SmallTypes.ownedTupleHandOut (.ref z) (.ref g5.objs.size) >>= _) _ _ _
  unfold Builtin.SmallTypes.ownedTupleHandOut
  generalize hp : ({ cls := .type "tuple", data := .seq #[.str ⟨#[c1]⟩ s.toks, .str ⟨#[c2]⟩ (s.toks + 1)] } : Obj) = po
  have z6 : IsZip (g5.push po) z TI TO .ellipsis := Heap.get?_push_of_some _ z5
  have fin : wpAny (model prog w) A (do setField (.ref z) 0 (rawInt g5.objs.size); setField (.ref z) 1 (.bool false)) (fun _ s' => ∃ h' tk, s' = { s with heap := h', toks := tk } ∧ IsZip h' z TI TO (rawInt g5.objs.size) ∧ ∀ c o, c ≠ z → (g5.push po).get? c = some o → h'.get? c = some o) E { s with heap := g5.push po, toks := s.toks + 1 + 1 } := by
    refine wpAny_bind (wpAny_setField_rec z6 (by simp) fun g7 z7 b7 => ?_)
    refine wpAny_setField_rec z7 (by simp) fun g8 z8 b8 => ⟨g8, _, rfl, z8, fun c o q e => b8.extBut _ _ q (b7.extBut _ _ q e)⟩
  subst hp
  refine wpAny_bind (wpAny_mono fin (fun _ s' h' => ?_) fun _ _ e => e)
  obtain ⟨g8, tk, rfl, z8, k8⟩ := h'
  have T8 := k8 _ _ (Nat.ne_of_gt ltz) (Heap.get?_push_size g5 (o := { cls := .type "tuple", data := .seq #[.str ⟨#[c1]⟩ s.toks, .str ⟨#[c2]⟩ (s.toks + 1)] }) rfl)
  have k9 : ∀ c o, c ≠ z → g5.get? c = some o → g8.get? c = some o := fun c o q e => k8 c o q (Heap.get?_push_of_some _ e)
  refine wpAny_pure ⟨_, rfl, ?_⟩
  have := hQ g8 tk s.toks (s.toks + 1) (hsz ▸ z8) (k9 _ _ D.b T5) (m1.at fun o e => k9 _ o D.c e) (m2.at fun o e => k9 _ o D.d e) (hsz ▸ T8) fun c o q1 q2 q3 q4 e => k9 c o q1 (kk c o q1 q2 q3 q4 e)
  rw [← hsz] at this
  exact this

theorem zs_end {z TI TO i1 i2 : Addr} {x y : PySem.Str} {t u : Tok} {k : Nat} {a b : Value} {Q : Fin → Shared → Prop} (hh : A.handled = none) (D : ZA z TI TO i1 i2)
    (hz : IsZip s.heap z TI TO .none) (hTI : IsPair s.heap TI (.ref i1) (.ref i2)) (hTO : IsPair s.heap TO a b) (h1 : SI s.heap i1 x t k) (h2 : SI s.heap i2 y u k) (hend : x.cps[k]? = none ∨ y.cps[k]? = none)
    (hE : ∀ h' tk e, (∀ c o, c ≠ z → c ≠ TO → c ≠ i1 → c ≠ i2 → s.heap.get? c = some o → h'.get? c = some o) → (∃ o, h'.get? e = some o ∧ o.cls = .type "StopIteration") → E (.ref e) { s with heap := h', toks := tk }) :
    wpAny (model prog w) A (Builtin.«zip.__next__» ⟨[.ref z], []⟩) Q E s := by
  show wpAny _ _ (field (.ref z) 2 >>= _) _ _ _
  refine wpAny_bind (wpAny_field hz rfl (x := .bool false) rfl ?_)
  show wpAny _ _ (field (.ref z) 3 >>= _) _ _ _
  refine wpAny_bind (wpAny_field hz rfl (x := .ref TI) rfl (wpAny_bind (wpAny_seqItems hTI rfl ?_)))
  show wpAny _ _ (Builtin.SmallTypes.ownedTupleIsFree (.ref z) >>= _) _ _ _
  unfold Builtin.SmallTypes.ownedTupleIsFree
  refine wpAny_bind (wpAny_bind (wpAny_field hz rfl (x := .none) rfl (wpAny_pure ?_)))
  simp only [if_true]
  refine wpAny_bind (wpAny_rule (wpAny_bind (wpAny_field hz rfl (x := .ref TO) rfl ?_)))
  refine wpAny_bind (wpAny_setField_rec hz (by simp) fun g1 z1 b1 => ?_)
  refine wpAny_bind ?_
  simp only [List.zipIdx_cons, List.zipIdx_nil, List.forIn_cons, List.forIn_nil]
  refine wpAny_bind (wpAny_bind (wpAny_onRaise ?_))
  show wpAny _ _ (Builtin.SmallTypes.nextOf (.ref i1) >>= _) _ _ _
  have i1' : SI g1 i1 x t k := h1.at fun o e => b1.extBut _ _ D.c e
  cases hx : x.cps[k]? with
  | none =>
    refine wpAny_bind (wpAny_nextOf_ascii_end hh i1' hx fun g2 e b2 he => ?_)
    obtain ⟨oe, hoe, hce⟩ := he
    have z2 : IsZip g2 z TI TO .ellipsis := b2 _ _ D.c.symm z1
    have hez : e ≠ z := fun q => by subst q; rw [z2] at hoe; cases hoe; simp at hce
    exact wpAny_setField_rec z2 (by simp) fun g3 _ b3 => hE g3 _ e (fun c o q1 q2 q3 q4 w => b3.extBut _ _ q1 (b2 _ _ q3 (b1.extBut _ _ q1 w))) ⟨oe, b3.extBut _ _ hez hoe, hce⟩
  | some c1 =>
    have hy : y.cps[k]? = none := by rcases hend with h | h; rw [hx] at h; cases h; exact h
    refine wpAny_bind (wpAny_nextOf_ascii_item i1' hx fun g2 n1 b2 => wpAny_pure ?_)
    have T2 : IsPair g2 TO a b := b2.extBut _ _ D.h (b1.extBut _ _ D.b hTO)
    refine wpAny_bind (wpAny_seqItems T2 rfl (wpAny_bind (wpAny_updateSeq_pair T2 fun g3 T3 b3 => wpAny_bind (wpAny_letGo (wpAny_pure ?_)))))
    refine wpAny_bind (wpAny_bind (wpAny_onRaise ?_))
    show wpAny _ _ (Builtin.SmallTypes.nextOf (.ref i2) >>= _) _ _ _
    refine wpAny_bind (wpAny_nextOf_ascii_end hh (h2.at fun o e => b3.extBut _ _ D.i.symm (b2.extBut _ _ D.j.symm (b1.extBut _ _ D.d e))) hy fun g4 e b4 he => ?_)
    obtain ⟨oe, hoe, hce⟩ := he
    have z4 : IsZip g4 z TI TO .ellipsis := b4 _ _ D.d.symm (b3.extBut _ _ D.b.symm (b2.extBut _ _ D.c.symm z1))
    have hez : e ≠ z := fun q => by subst q; rw [z4] at hoe; cases hoe; simp at hce
    exact wpAny_setField_rec z4 (by simp) fun g5 _ b5 => hE g5 _ e (fun c o q1 q2 q3 q4 w => b5.extBut _ _ q1 (b4 _ _ q4 (b3.extBut _ _ q2 (b2.extBut _ _ q3 (b1.extBut _ _ q1 w))))) ⟨oe, b5.extBut _ _ hez hoe, hce⟩

theorem zs_walks (hh : A.handled = none) (z TI TO i1 i2 : Addr) (D : ZA z TI TO i1 i2) (x y : PySem.Str) (t u : Tok) :
    WalksT prog w A z [z, TI, TO, i1, i2] [z, TO, i1, i2] (min x.cps.size y.cps.size)
      (fun i vals => ∃ c1 c2 t1 t2, x.cps[i]? = some c1 ∧ y.cps[i]? = some c2 ∧ vals = #[.str ⟨#[c1]⟩ t1, .str ⟨#[c2]⟩ t2])
      (fun i h => IsZip h z TI TO .none ∧ IsPair h TI (.ref i1) (.ref i2) ∧ (∃ a b, IsPair h TO a b) ∧ SI h i1 x t i ∧ SI h i2 y u i)
      (fun i T h => IsZip h z TI TO (rawInt T) ∧ IsPair h TI (.ref i1) (.ref i2) ∧ (∃ a b, IsPair h TO a b) ∧ SI h i1 x t (i + 1) ∧ SI h i2 y u (i + 1) ∧ T ≠ z ∧ T ≠ TO ∧ T ≠ i1 ∧ T ≠ i2) where
  sub := all_cons m0 (all_cons m2 (all_cons m3 (all_cons m4 all_nil)))
  frame := fun i h h' hst hk => by
    obtain ⟨hz, hTI, ⟨a, b, hTO⟩, h1, h2⟩ := hst
    exact ⟨hk z m0 _ hz, hk TI m1 _ hTI, ⟨a, b, hk TO m2 _ hTO⟩, SI.at h1 fun o e => hk i1 m3 o e, SI.at h2 fun o e => hk i2 m4 o e⟩
  item := fun i s Q E hi hst hQ => by
    obtain ⟨hz, hTI, ⟨a, b, hTO⟩, h1, h2⟩ := hst
    have ex := Array.getElem?_eq_getElem (Nat.lt_of_lt_of_le hi (Nat.min_le_left x.cps.size y.cps.size))
    have ey := Array.getElem?_eq_getElem (Nat.lt_of_lt_of_le hi (Nat.min_le_right x.cps.size y.cps.size))
    have hT : s.TypeIs (.ref z) "zip" := ⟨_, hz, rfl⟩
    have lt : ∀ {c o}, s.heap.get? c = some o → s.heap.objs.size ≠ c := fun e => Nat.ne_of_gt (Heap.lt_size e)
    unfold pyNext
    refine wpAny_bind (wpAny_attempt (wpAny_callSpecial?_slot (name := Str.ofString "__next__") hT F.slot_zip_next (wpAny_call_entry F.slot_zip_next hT F.entry_zip_next
      (zs_item D hz hTI hTO h1 h2 ex ey fun h' tk t1 t2 a1 a2 a3 a4 a5 hk => wpAny_pure ?_) (F.args_zip_next_1 _))))
    obtain ⟨o1, e1⟩ := SI.live h1
    obtain ⟨o2, e2⟩ := SI.live h2
    exact hQ s.heap.objs.size #[_, _] h' tk ⟨_, _, _, _, ex, ey, rfl⟩ (Nat.le_refl _) ⟨_, a5, rfl, _, rfl⟩ ⟨a1, hk _ _ D.a D.e D.f D.g hTI, ⟨_, _, a2⟩, a3, a4, lt hz, lt hTO, lt e1, lt e2⟩
      fun c o hc e => hk c o (fun q => hc (q ▸ m0)) (fun q => hc (q ▸ m1)) (fun q => hc (q ▸ m2)) (fun q => hc (q ▸ m3)) e
  go := fun elts k pos i T s Q E hm hQ => by
    obtain ⟨hz, hTI, ⟨a, b, hTO⟩, h1, h2, _⟩ := hm
    exact wpAny_letOwnedTupleGo_zip hz fun h' hz' hs' => hQ h' ⟨hz', hs'.extBut _ _ D.a hTI, ⟨a, b, hs'.extBut _ _ D.b hTO⟩, SI.at h1 fun o e => hs'.extBut _ _ D.c e, SI.at h2 fun o e => hs'.extBut _ _ D.d e⟩
      fun c o hc e => hs'.extBut _ _ (fun q => hc (q ▸ m0)) e
  apart := fun i T h hm hT => by
    obtain ⟨_, _, _, _, _, t1, t2, t3, t4⟩ := hm
    exact all_cons (P := fun q => T = q → False) t1 (all_cons t2 (all_cons t3 (all_cons t4 all_nil))) T hT rfl
  done := fun s Q E hst hQ => by
    obtain ⟨hz, hTI, ⟨a, b, hTO⟩, h1, h2⟩ := hst
    have hend : x.cps[min x.cps.size y.cps.size]? = none ∨ y.cps[min x.cps.size y.cps.size]? = none := by
      rcases Nat.le_total x.cps.size y.cps.size with h | h
      · exact .inl (by rw [Nat.min_eq_left h]; exact Array.getElem?_eq_none (Nat.le_refl _))
      · exact .inr (by rw [Nat.min_eq_right h]; exact Array.getElem?_eq_none (Nat.le_refl _))
    have hT : s.TypeIs (.ref z) "zip" := ⟨_, hz, rfl⟩
    unfold pyNext
    refine wpAny_bind (wpAny_attempt (wpAny_callSpecial?_slot (name := Str.ofString "__next__") hT F.slot_zip_next (wpAny_call_entry F.slot_zip_next hT F.entry_zip_next
      (zs_end (A := A.in1) hh D hz hTI hTO h1 h2 hend fun h' tk e hk he => ?_) (F.args_zip_next_1 _))))
    obtain ⟨o, ho, hc⟩ := he
    refine wpAny_bind (wpAny_isInstance (T := "StopIteration") (b := true) ⟨o, ho, hc⟩ isSubtype_stop ?_)
    exact wpAny_pure (hQ h' tk fun c o hc e => hk c o (fun q => hc (q ▸ m0)) (fun q => hc (q ▸ m1)) (fun q => hc (q ▸ m2)) (fun q => hc (q ▸ m3)) e)
  self := fun i s Q E hst hQ => wpAny_pyIter_zip hst.1 hQ

noncomputable abbrev zs1 (h : Heap) (x : PySem.Str) (t : Tok) : Heap := h.push { cls := .type "str_ascii_iterator", data := .fields #[.str x t, .int 0 0] }
noncomputable abbrev zs2 (h : Heap) (x y : PySem.Str) (t u : Tok) : Heap := zs1 (zs1 h x t) y u
noncomputable abbrev zs3 (h : Heap) (x y : PySem.Str) (t u : Tok) : Heap := (zs2 h x y t u).push { cls := .type "tuple", data := .seq #[.ref h.objs.size, .ref (zs1 h x t).objs.size] }
noncomputable abbrev zs4 (h : Heap) (x y : PySem.Str) (t u : Tok) : Heap := (zs3 h x y t u).push { cls := .type "tuple", data := .seq #[.none, .none] }
noncomputable abbrev zs5 (h : Heap) (x y : PySem.Str) (t u : Tok) : Heap := (zs4 h x y t u).push { cls := .type "zip", data := .fields #[.none, .bool false, .bool false, .ref (zs2 h x y t u).objs.size, .ref (zs3 h x y t u).objs.size] }
set_option maxHeartbeats 4000000 in
theorem meets_zs (x y : PySem.Str) (t u : Tok) (hx : x.cps.all (· < 128) = true) (hy : y.cps.all (· < 128) = true) :
    Meets (Builtin.«zip.__new__» ⟨[.type "zip", .str x t, .str y u], []⟩) (fun _ R s => R (.ok (.ret (.ref (zs4 s.heap x y t u).objs.size))) { s with heap := zs5 s.heap x y t u }) :=
  .of_wp fun prog w A R s h => by
    obtain ⟨hp, g, d, tk, os⟩ := s
    have hsub := sub_zip
    wp_walk using wpAny_pyIter_ascii hx, wpAny_pyIter_ascii hy
    exact ⟨_, rfl, h⟩
theorem call_zs {x y : PySem.Str} {t u : Tok} {Q : Value → Shared → Prop} (hx : x.cps.all (· < 128) = true) (hy : y.cps.all (· < 128) = true)
    (h : ∀ h', IsZip h' (s.heap.objs.size + 4) (s.heap.objs.size + 2) (s.heap.objs.size + 3) .none → IsPair h' (s.heap.objs.size + 2) (.ref s.heap.objs.size) (.ref (s.heap.objs.size + 1)) →
      IsPair h' (s.heap.objs.size + 3) .none .none → SI h' s.heap.objs.size x t 0 → SI h' (s.heap.objs.size + 1) y u 0 → (∀ c o, s.heap.get? c = some o → h'.get? c = some o) → Q (.ref (s.heap.objs.size + 4)) { s with heap := h' }) :
    wpAny (model prog w) A (call (.type "zip") [.str x t, .str y u]) Q E s := by
  refine callType_new F.called_zip (by decide) (F.typeCall_zip_2 _ _) (F.newCall_zip_2 _ _) (fun obj => F.args_object_init_3 obj _ _) F.entry_zip_new (meets_zs x y t u hx hy) ?_
  have z1 : (zs1 s.heap x t).objs.size = s.heap.objs.size + 1 := Heap.size_push ..
  have z2 : (zs2 s.heap x y t u).objs.size = s.heap.objs.size + 2 := by rw [Heap.size_push, z1]
  have z3 : (zs3 s.heap x y t u).objs.size = s.heap.objs.size + 3 := by rw [Heap.size_push, z2]
  have z4 : (zs4 s.heap x y t u).objs.size = s.heap.objs.size + 4 := by rw [Heap.size_push, z3]
  have g5 : (zs5 s.heap x y t u).get? (zs4 s.heap x y t u).objs.size = some _ := Heap.get?_push_size _ rfl
  have g4 : (zs5 s.heap x y t u).get? (zs3 s.heap x y t u).objs.size = some _ := Heap.get?_push_of_some _ (Heap.get?_push_size _ rfl)
  have g3 : (zs5 s.heap x y t u).get? (zs2 s.heap x y t u).objs.size = some _ := Heap.get?_push_of_some _ (Heap.get?_push_of_some _ (Heap.get?_push_size _ rfl))
  have g2 : (zs5 s.heap x y t u).get? (zs1 s.heap x t).objs.size = some _ := Heap.get?_push_of_some _ (Heap.get?_push_of_some _ (Heap.get?_push_of_some _ (Heap.get?_push_size _ rfl)))
  have g1 : (zs5 s.heap x y t u).get? s.heap.objs.size = some _ := Heap.get?_push_of_some _ (Heap.get?_push_of_some _ (Heap.get?_push_of_some _ (Heap.get?_push_of_some _ (Heap.get?_push_size _ rfl))))
  show _ ∧ _
  rw [z2, z3, z4] at g5
  rw [z1, z2] at g3
  rw [z3] at g4
  rw [z1] at g2
  rw [z4]
  exact ⟨⟨_, g5, rfl⟩, h _ g5 g3 g4 ⟨_, g1, rfl, rfl⟩ ⟨_, g2, rfl, rfl⟩ fun c o q =>
    Heap.get?_push_of_some _ (Heap.get?_push_of_some _ (Heap.get?_push_of_some _ (Heap.get?_push_of_some _ (Heap.get?_push_of_some _ q))))⟩
end

theorem za_new (n : Nat) : ZA (n + 4) (n + 2) (n + 3) n (n + 1) := by constructor <;> (intro e; exact absurd (show (_ : Nat) = _ from e) (by omega))
noncomputable def pair2 : List D → List D → List (List D)
  | a :: as, b :: bs => [a, b] :: pair2 as bs
  | [], _ => []
  | _ :: _, [] => []
theorem pair2_length : ∀ (as bs : List D), (pair2 as bs).length = min as.length bs.length
  | a :: as, b :: bs => (congrArg Nat.succ (pair2_length as bs)).trans (Nat.succ_min_succ _ _).symm
  | [], _ => (Nat.zero_min _).symm
  | _ :: _, [] => (Nat.min_zero _).symm
theorem pair2_at : ∀ (as bs : List D) (i : Nat) (row : List D), (pair2 as bs)[i]? = some row → ∃ a b, row = [a, b] ∧ as[i]? = some a ∧ bs[i]? = some b
  | a :: as, b :: bs, 0, row, h => ⟨a, b, (Option.some.inj h).symm, rfl, rfl⟩
  | a :: as, b :: bs, i + 1, row, h => pair2_at as bs i row h
  | [], _, _, _, h => (no_some h).elim
  | _ :: _, [], _, _, h => (no_some h).elim
theorem pair2_two {as bs : List D} {row : List D} (h : row ∈ pair2 as bs) : row.length = 2 := by
  obtain ⟨i, hi, rfl⟩ := List.getElem_of_mem h
  obtain ⟨a, b, e1, _⟩ := pair2_at _ _ i _ (List.getElem?_eq_getElem hi)
  rw [e1]; rfl
noncomputable def signs (x : PySem.Str) : List D := x.cps.toList.map fun c => .str ⟨#[c]⟩
theorem signs_at {x : PySem.Str} {i : Nat} {d : D} (h : (signs x)[i]? = some d) : ∃ c, x.cps[i]? = some c ∧ d = .str ⟨#[c]⟩ := by
  unfold signs at h
  rw [List.getElem?_map] at h
  obtain ⟨c, hc, rfl⟩ := map_ex h
  exact ⟨c, (Array.getElem?_toList ..).symm.trans hc, rfl⟩
noncomputable def zipT (x y : PySem.Str) : Option (List (List D)) := if x.cps.all (· < 128) = true ∧ y.cps.all (· < 128) = true then some (pair2 (signs x) (signs y)) else none
noncomputable def zipRows (ds : List D) : Option (List (List D)) := (pair? ds).bind fun p => orr (bind2 p.1.list? p.2.list? fun a b => some (pair2 a b)) (bind2 p.1.str? p.2.str? zipT)

section
variable {prog : Program} {w : World} {n : Nat} {O : Ow} {s : Shared} {hS : Heap}
theorem up_none (h : Heap) (j : Nat) : h.get? (h.objs.size + j) = none := Heap.get?_none_of_le (Nat.le_add_right _ _)
theorem zip_list (lv : ∀ b, O b → ∃ o, s.heap.get? b = some o) {la lb : List D} {va vb : Value} (ra : R O s.heap (.list la) va) (rb : R O s.heap (.list lb) vb) (x y : PySem.Str) (px py p : Pos) (c : Nat) :
    IterG prog w n O (.Tuple [.Name x px, .Name y py] c p) (pair2 la lb) hS (fun Q E => wpAny (model prog w) (Ar n) (call (.type "zip") [va, vb]) (fun v s₁ => wpAny (model prog w) (Ar n) (pyIter v) Q E s₁) E s) s := fun Q E hQ => by
  obtain ⟨a, ia, rfl, na, il, ra⟩ := ra.list_v
  obtain ⟨b, ib, rfl, nb, jl, rb⟩ := rb.list_v
  have up := up_none s.heap
  have upO : ∀ j, ¬ O (s.heap.objs.size + j) := fun j => live_fresh lv (up j)
  have alt := live_lt il
  have blt := live_lt jl
  refine call_zip_2 il jl fun h' hz hTI hTO h1 h2 hsz kk => ?_
  refine wpAny_pyIter_zip hz ?_
  have il' : h'.IsList a ia := let ⟨o, ho, z⟩ := il; ⟨o, kk _ o ho, z⟩
  have jl' : h'.IsList b ib := let ⟨o, ho, z⟩ := jl; ⟨o, kk _ o ho, z⟩
  refine hQ _ _ _ _ s.heap h' s.toks (Kp.refl _) kk (TW.ofWalksU (O := O) (hB := s.heap) (WalksT.toU (WalksT.zip2 rfl (s.heap.objs.size + 4) (s.heap.objs.size + 2) (s.heap.objs.size + 3) s.heap.objs.size (s.heap.objs.size + 1) a b (zipApart_new alt blt) ia ib)) rfl _
    (by rw [pair2_length, ra.length, rb.length]; rfl) (fun i vals hv row hrow => ?_) (fun row hrow => pair2_two hrow)
    (fun i h st => all_cons ⟨_, st.1⟩ (all_cons ⟨_, st.2.1⟩ (all_cons (let ⟨_, _, z⟩ := st.2.2.1; ⟨_, z⟩) (all_cons (listIter_live st.2.2.2.1) (all_cons (listIter_live st.2.2.2.2.1) (all_cons (list_live st.2.2.2.2.2.1) (all_cons (list_live st.2.2.2.2.2.2) all_nil))))))) x y px py p c)
    ⟨hz, hTI, ⟨_, _, hTO⟩, h1, h2, il', jl'⟩ (all_cons (up 4) (all_cons (up 3) (all_cons (up 0) (all_cons (up 1) all_nil))))
    (all_cons (.inl m0) (all_cons (.inr (upO 2)) (all_cons (.inl m1) (all_cons (.inl m2) (all_cons (.inl m3) (all_cons (.inr na) (all_cons (.inr nb) all_nil)))))))
  obtain ⟨u, v, hu, hv', rfl⟩ := hv
  obtain ⟨d1, d2, rfl, e1, e2⟩ := pair2_at _ _ _ _ hrow
  obtain ⟨u', hu', ru⟩ := ra.get i e1
  obtain ⟨v', hv'', rv⟩ := rb.get i e2
  rw [Array.getElem?_toList, hu] at hu'
  rw [Array.getElem?_toList, hv'] at hv''
  exact .cons _ _ _ _ (Option.some.inj hu' ▸ ru) (.cons _ _ _ _ (Option.some.inj hv'' ▸ rv) .nil)
theorem zip_str (lv : ∀ b, O b → ∃ o, s.heap.get? b = some o) {xa xb : PySem.Str} {t u : Tok} {rows : List (List D)} (h : zipT xa xb = some rows) (x y : PySem.Str) (px py p : Pos) (c : Nat) :
    IterG prog w n O (.Tuple [.Name x px, .Name y py] c p) rows hS (fun Q E => wpAny (model prog w) (Ar n) (call (.type "zip") [.str xa t, .str xb u]) (fun v s₁ => wpAny (model prog w) (Ar n) (pyIter v) Q E s₁) E s) s := fun Q E hQ => by
  obtain ⟨hx, rfl⟩ := ite_eq h
  have up := up_none s.heap
  have upO : ∀ j, ¬ O (s.heap.objs.size + j) := fun j => live_fresh lv (up j)
  refine call_zs hx.1 hx.2 fun h' hz hTI hTO h1 h2 kk => ?_
  refine wpAny_pyIter_zip hz ?_
  refine hQ _ _ _ _ s.heap h' s.toks (Kp.refl _) kk (TW.ofWalksU (O := O) (hB := s.heap) (WalksT.toU (zs_walks rfl (s.heap.objs.size + 4) (s.heap.objs.size + 2) (s.heap.objs.size + 3) s.heap.objs.size (s.heap.objs.size + 1) (za_new _) xa xb t u)) rfl _
    (by rw [pair2_length, signs, signs, List.length_map, List.length_map]; rfl) (fun i vals hv row hrow => ?_) (fun row hrow => pair2_two hrow)
    (fun i h st => all_cons ⟨_, st.1⟩ (all_cons ⟨_, st.2.1⟩ (all_cons (let ⟨_, _, z⟩ := st.2.2.1; ⟨_, z⟩) (all_cons (SI.live st.2.2.2.1) (all_cons (SI.live st.2.2.2.2) all_nil))))) x y px py p c)
    ⟨hz, hTI, ⟨_, _, hTO⟩, h1, h2⟩ (all_cons (up 4) (all_cons (up 3) (all_cons (up 0) (all_cons (up 1) all_nil))))
    (all_cons (.inl m0) (all_cons (.inr (upO 2)) (all_cons (.inl m1) (all_cons (.inl m2) (all_cons (.inl m3) all_nil)))))
  obtain ⟨c1, c2, t1, t2, hu, hv', rfl⟩ := hv
  obtain ⟨d1, d2, rfl, e1, e2⟩ := pair2_at _ _ _ _ hrow
  obtain ⟨c1', q1, rfl⟩ := signs_at e1
  obtain ⟨c2', q2, rfl⟩ := signs_at e2
  rw [hu] at q1
  rw [hv'] at q2
  exact .cons _ _ _ _ (Option.some.inj q1 ▸ .str _ _) (.cons _ _ _ _ (Option.some.inj q2 ▸ .str _ _) .nil)
theorem zip_sound (k : Kp hS s.heap) {ds : List D} {vs : List Value} (rl : RL O s.heap ds vs) {rows : List (List D)} (h : zipRows ds = some rows) (lv : ∀ b, O b → ∃ o, s.heap.get? b = some o) (x y : PySem.Str) (px py p : Pos) (c : Nat) :
    IterG prog w n O (.Tuple [.Name x px, .Name y py] c p) rows hS (fun Q E => wpAny (model prog w) (Ar n) (call (.type "zip") vs) (fun v s₁ => wpAny (model prog w) (Ar n) (pyIter v) Q E s₁) E s) s := by
  obtain ⟨q, hq, h⟩ := bind_ex h
  rw [pair_eq hq] at rl
  obtain ⟨va, vb, rfl, ra, rb⟩ := rl.two
  rcases orr_some h with h | h
  · obtain ⟨a, b, ha, hb, h⟩ := bind2_ex h
    exact Option.some.inj h ▸ zip_list lv (list_eq ha ▸ ra) (list_eq hb ▸ rb) x y px py p c
  · obtain ⟨a, b, ha, hb, h⟩ := bind2_ex h
    obtain ⟨t, rfl⟩ := strR ra ha
    obtain ⟨u, rfl⟩ := strR rb hb
    exact zip_str lv h x y px py p c
end
end Mine
end
section
open PySem PySem.W PyProof.Rows PySem.Calls PySem.Spec
set_option linter.unusedSectionVars false
set_option linter.unusedVariables false
set_option maxRecDepth 100000
namespace Mine
variable [Inhabited Rho]

noncomputable def notSet : Expr → Bool
  | .Set .. => false
  | _ => true
inductive ItK where | range | enum | zip | plain
noncomputable def Expr.fc? : Expr → Option (PySem.Str × List Expr)
  | .Call f args kws _ => (Expr.nm? f).bind fun x => match kws with
    | [] => some (x, args)
    | _ :: _ => none
  | _ => none
omit [Inhabited Rho] in
theorem Expr.fc_eq {e : Expr} {q : PySem.Str × List Expr} (h : Expr.fc? e = some q) : ∃ p pos, e = .Call (.Name q.1 p) q.2 [] pos := by
  cases e with
  | Call f args kws pos =>
    obtain ⟨x, hx, h⟩ := bind_ex h
    obtain ⟨p, rfl⟩ := Expr.nm_eq hx
    cases kws with
    | nil => exact Option.some.inj h ▸ ⟨p, pos, rfl⟩
    | cons => exfalso; exact no_some h
  | _ => exfalso; exact no_some h
/-- a call of range, enumerate or zip -/
noncomputable def itk (cx : Cx) (e : Expr) : Option (ItK × PySem.Str × List Expr) := (Expr.fc? e).bind fun q => if gname cx q.1 = true then
  orr (if q.1 = "range" then some (.range, q) else none) (orr (if q.1 = "enumerate" then some (.enum, q) else none) (if q.1 = "zip" then some (.zip, q) else none)) else none
noncomputable def itR (k : ItK) (tgt : Expr) (ds : List D) : Option (List (List D)) := match k with
  | .range => (Expr.nm? tgt).bind fun _ => rangeRows ds
  | .enum => (Expr.pr? tgt).bind fun _ => enumRows ds
  | .zip => (Expr.pr? tgt).bind fun _ => zipRows ds
  | .plain => none
noncomputable def evI (r : Ev) (cx : Cx) (tgt it : Expr) : Option (List (List D)) :=
  if notSet it = true then
    match itk cx it with
    | some (k, _, args) => (evs r cx args).bind fun ds => match ds with
      | [] => none
      | d :: ds => itR k tgt (d :: ds)
    | none => (r cx it).bind (rowsOf tgt)
  else none

section
variable {prog : Program} {w : World} {n : Nat} {gl : PySem.Str → Option Value} {hB : Heap} {h₀ : Heap} {W : Ow} {ad : PySem.Str → Addr} {env : Env} {cx : Cx} {s : Shared} {d : D}

theorem set_folded {it : Expr} (h : notSet it = true) (x : Value) : foldedSetIterable it env x = pure x := by
  cases it <;> first | rfl | (exfalso; exact Bool.false_ne_true h)

theorem call_it {r : Ev} (ok : EvOk prog w n hB r) (ns : NoStar r) (B : Bg prog w gl hB) (hb : Kp hB h₀) (er : ER h₀ W ad s.heap env cx) {x : PySem.Str} {f : Value} {p pos : Pos} {args : List Expr} {ds : List D}
    (hg : gname cx x = true) (hx : gl x = some f) (he : evs r cx args = some ds) (hne : ds ≠ []) {Q E : Value → Shared → Prop}
    (h : ∀ vs h' tk, Kp s.heap h' → RL (Oo W ad env cx) h' ds vs → wpAny (model prog w) (Ar n) (call f vs) Q E { s with heap := h', toks := tk }) :
    wpAny (model prog w) (Ar n) (eval (.Call (.Name x p) args [] pos) env) Q E s := by
  refine wpAny_Call_NameR (glob_name (B.at (hb.trans er.base)) er hg hx ?_)
  have pl := plain_back (env := env) (pos := pos) args (evs_plain ns args ds he)
  refine callWith_of (P := fun h' => Kp s.heap h') (by rw [pl]; rfl) (fun h' k => (B.at (hb.trans er.base)).kp x f h' hx k) ?_
  have body : wpAny (model prog w) (Ar n) (spliced (backTo pos (starEach args env))) (fun vs s₁ => Kp s.heap s₁.heap ∧ wpAny (model prog w) (Ar n) (call f ([] ++ vs)) Q E s₁) E s :=
    evs_sound ok ns hb args ds s he er _ E fun vs h' tk k rl => ⟨k, h vs h' tk k rl⟩
  cases args with
  | nil => exact (hne (Option.some.inj he).symm).elim
  | cons e es =>
    have hs := star_ne (env := env) (rest := es) (evs_plain ns (e :: es) ds he e (by simp))
    rw [hs] at body ⊢
    exact evalArgs_plain body

theorem IterG.from {O : Ow} {tgt : Expr} {rows : List (List D)} {hS h' : Heap} {tk : Nat} {t : (Value → Shared → Prop) → (Value → Shared → Prop) → Prop} (g : IterG prog w n O tgt rows hS t { s with heap := h', toks := tk }) (k : Kp s.heap h') : IterG prog w n O tgt rows hS t s :=
  fun Q E hQ => g Q E fun I fp wr St hR h'' tk' k0 k' W st w1 w2 => hQ I fp wr St hR h'' tk' (k.trans k0) k' W st w1 w2

theorem itk_call {it : Expr} {q : ItK × PySem.Str × List Expr} (h : itk cx it = some q) : (∃ p pos, it = .Call (.Name q.2.1 p) q.2.2 [] pos) ∧ gname cx q.2.1 = true ∧ ((q.1 = .range ∧ q.2.1 = "range") ∨ (q.1 = .enum ∧ q.2.1 = "enumerate") ∨ (q.1 = .zip ∧ q.2.1 = "zip")) := by
  obtain ⟨x, hx, h⟩ := bind_ex h
  obtain ⟨p, pos, e⟩ := Expr.fc_eq hx
  obtain ⟨hg, h⟩ := ite_ex h
  rcases orr_some h with h | h
  · obtain ⟨e1, rfl⟩ := ite_eq h
    exact ⟨⟨p, pos, e⟩, hg, .inl ⟨rfl, e1⟩⟩
  rcases orr_some h with h | h
  · obtain ⟨e1, rfl⟩ := ite_eq h
    exact ⟨⟨p, pos, e⟩, hg, .inr (.inl ⟨rfl, e1⟩)⟩
  · obtain ⟨e1, rfl⟩ := ite_eq h
    exact ⟨⟨p, pos, e⟩, hg, .inr (.inr ⟨rfl, e1⟩)⟩
theorem itR_sound (B : Bg prog w gl hB) {O : Ow} {tgt : Expr} {K : ItK} {f : PySem.Str} {ds : List D} {rows : List (List D)} (lv : ∀ b, O b → ∃ o, s.heap.get? b = some o) (hk : (K = .range ∧ f = "range") ∨ (K = .enum ∧ f = "enumerate") ∨ (K = .zip ∧ f = "zip")) (h : itR K tgt ds = some rows) {hS : Heap} (k : Kp hS s.heap) :
    ∃ T, gl f = some (.type T) ∧ ∀ vs, RL O s.heap ds vs → IterG prog w n O tgt rows hS (fun Q E => wpAny (model prog w) (Ar n) (call (.type T) vs) (fun x s₁ => wpAny (model prog w) (Ar n) (pyIter x) Q E s₁) E s) s := by
  rcases hk with ⟨rfl, rfl⟩ | ⟨rfl, rfl⟩ | ⟨rfl, rfl⟩
  · obtain ⟨x, hx, h1⟩ := bind_ex h
    obtain ⟨p, rfl⟩ := Expr.nm_eq hx
    exact ⟨_, B.range, fun vs rl => range_sound k rl h1 x p⟩
  · obtain ⟨q, hq, h1⟩ := bind_ex h
    obtain ⟨px, py, c, p, rfl⟩ := Expr.pr_eq hq
    exact ⟨_, B.enum, fun vs rl => enum_sound k rl h1 _ _ px py p c⟩
  · obtain ⟨q, hq, h1⟩ := bind_ex h
    obtain ⟨px, py, c, p, rfl⟩ := Expr.pr_eq hq
    exact ⟨_, B.zip, fun vs rl => zip_sound k rl h1 lv _ _ px py p c⟩
theorem itR_gl (B : Bg prog w gl hB) {K : ItK} {f : PySem.Str} (hk : (K = .range ∧ f = "range") ∨ (K = .enum ∧ f = "enumerate") ∨ (K = .zip ∧ f = "zip")) : ∃ T, gl f = some (.type T) := by
  rcases hk with ⟨_, rfl⟩ | ⟨_, rfl⟩ | ⟨_, rfl⟩
  · exact ⟨_, B.range⟩
  · exact ⟨_, B.enum⟩
  · exact ⟨_, B.zip⟩
theorem evI_sound {r : Ev} (ok : EvOk prog w n hB r) (ns : NoStar r) (B : Bg prog w gl hB) (hb : Kp hB h₀) (er : ER h₀ W ad s.heap env cx) {tgt it : Expr} {rows : List (List D)} (h : evI r cx tgt it = some rows) :
    (∀ x, foldedSetIterable it env x = pure x) ∧
    IterG prog w n (Oo W ad env cx) tgt rows s.heap (fun Q E => wpAny (model prog w) (Ar n) (eval it env) (fun x s₁ => wpAny (model prog w) (Ar n) (pyIter x) Q E s₁) E s) s := by
  obtain ⟨hns, h⟩ := ite_ex h
  refine ⟨set_folded hns, fun Q E hQ => ?_⟩
  cases hK : itk cx it with
  | some q =>
    rw [hK] at h
    obtain ⟨⟨p, pos, rfl⟩, hg, hf⟩ := itk_call hK
    obtain ⟨ds, he, h⟩ := bind_ex h
    cases ds with
    | nil => exfalso; exact no_some h
    | cons d ds =>
      obtain ⟨T, hT⟩ := itR_gl B hf
      refine call_it ok ns B hb er hg hT he (List.cons_ne_nil _ _) fun vs h' tk k rl => ?_
      obtain ⟨T', hT', g⟩ := itR_sound (n := n) (s := { s with heap := h', toks := tk }) (hS := s.heap) B (er.kp k).live hf h k
      have e := Value.type.inj (Option.some.inj (hT.symm.trans hT'))
      exact (e ▸ g vs rl).from k Q E hQ
  | none =>
    rw [hK] at h
    obtain ⟨d, hd, h⟩ := bind_ex h
    exact ok cx it d hd h₀ W ad env s hb er _ E fun v h' tk k rv => (rows_sound (n := n) (s := { s with heap := h', toks := tk }) (hS := s.heap) (er.kp k).live k rv h).from k Q E hQ
end
end Mine
end
section
open PySem PySem.W PyProof.Rows PySem.Calls PySem.Spec
set_option linter.unusedSectionVars false
set_option linter.unusedVariables false
set_option maxRecDepth 100000
namespace Mine
variable [Inhabited Rho]

noncomputable def restLast (elt : Expr) (G : List Comprehension) (scope : Scope) (pos : Pos) (k : Nat) (it acc : Value) (env : Env) (ifs : List Expr) : Sem Fin := do
  let mut ok := true
  for c in ifs do
    if ok then ok ← isTrue c env (eval c env)
  if ok then
    (do let _ ← call (.builtin "list.append") [acc, ← eval elt env])
  again (.compLoop (.ListComp elt G scope pos) k it acc env)
noncomputable def restMore (elt : Expr) (G : List Comprehension) (scope : Scope) (pos : Pos) (k : Nat) (it acc : Value) (env : Env) (ifs : List Expr) (iter' : Expr) : Sem Fin := do
  let mut ok := true
  for c in ifs do
    if ok then ok ← isTrue c env (eval c env)
  if ok then
    let x ← eval iter' env
    standAt iter'.pos
    let x ← foldedSetIterable iter' env x
    let _ ← runOwn (.compStart (.ListComp elt G scope pos) (k + 1) (← holding [x] (pyIter x)) acc env) env
  again (.compLoop (.ListComp elt G scope pos) k it acc env)
theorem compTurn_last {elt : Expr} {G : List Comprehension} {scope : Scope} {pos : Pos} {k : Nat} {it acc : Value} {env : Env} {tgt iter : Expr} {ifs : List Expr} (hg : G[k]? = some ⟨tgt, iter, ifs, 0⟩) (hn : G[k + 1]? = none) :
    compTurn (.ListComp elt G scope pos) k it acc env = (do
      standAt iter.pos
      match ← pyNext it with
      | none => pure (.done .next)
      | some v =>
        letOwnedTupleGo tgt it v
        assign tgt env v
        restLast elt G scope pos k it acc env ifs) := by
  unfold compTurn
  simp only [hg, hn]
  rfl
theorem compTurn_more {elt : Expr} {G : List Comprehension} {scope : Scope} {pos : Pos} {k : Nat} {it acc : Value} {env : Env} {tgt iter tgt' iter' : Expr} {ifs ifs' : List Expr} (hg : G[k]? = some ⟨tgt, iter, ifs, 0⟩) (hn : G[k + 1]? = some ⟨tgt', iter', ifs', 0⟩) :
    compTurn (.ListComp elt G scope pos) k it acc env = (do
      standAt iter.pos
      match ← pyNext it with
      | none => pure (.done .next)
      | some v =>
        letOwnedTupleGo tgt it v
        assign tgt env v
        restMore elt G scope pos k it acc env ifs iter') := by
  unfold compTurn
  simp only [hg, hn, bne_self_eq_false, Bool.false_eq_true, if_false]
  rfl

section
variable {prog : Program} {w : World} {A : Around} {E : Value → Shared → Prop} {R : Result → Shared → Prop} {s : Shared}
theorem compStart_at {elt : Expr} {G : List Comprehension} {scope : Scope} {pos : Pos} {k : Nat} {it acc : Value} {env : Env} {tgt iter : Expr} {ifs : List Expr} (hg : G[k]? = some ⟨tgt, iter, ifs, 0⟩)
    (h0 : codeAny (model prog w) A (.compLoop (.ListComp elt G scope pos) k it acc env) R s)
    (h : wpAny (model prog w) A (pyIter it) (fun it' s' => codeAny (model prog w) A (.compLoop (.ListComp elt G scope pos) k it' acc env) R s') (notedBy (model prog w) A env fun x s' => R (.error x) s') s) :
    codeAny (model prog w) A (.compStart (.ListComp elt G scope pos) k it acc env) R s := by
  refine codeAny_of_tree ?_
  show wpAny _ _ ((compStart (.ListComp elt G scope pos) k it acc env).onRaise (fun x => do noteFrame x env; standAt theWindowsPlace)) _ _ s
  refine wpAny_notedAt ?_
  unfold compStart
  simp only [clausesOf, hg, Option.elim]
  refine wpAny_bind (wpAny_askSetting (wpAny_ite ?_))
  split
  · first
      | exact wpAny_bind (wpAny_pure (wpAny_pure (And.intro rfl h0)))
      | exact wpAny_pure (And.intro rfl h0)
  · first
      | exact wpAny_bind (wpAny_rule (wpAny_bind (wpAny_standAt (wpAny_bind (wpAny_mono h (fun it' s' h' => wpAny_pure (And.intro rfl h')) fun _ _ x => x)))))
      | (refine wpAny_bind (wpAny_rule ?_); exact wpAny_bind (wpAny_standAt (wpAny_bind (wpAny_mono h (fun it' s' h' => wpAny_pure (And.intro rfl h')) fun _ _ x => x))))

noncomputable def TurnHead (M : Model) (A : Around) (tgt : Expr) (I : Addr) (env : Env) (T : Sem PySem.Fin) (Q : PySem.Fin → Shared → Prop) (E : Value → Shared → Prop) (s : Shared) : Prop :=
  wpAny M A (pyNext (.ref I)) (fun r s₁ => match r with
      | none => Q (.done .next) s₁
      | some v => wpAny M A (letOwnedTupleGo tgt (.ref I) v) (fun _ s₂ => wpAny M A (assign tgt env v) (fun _ s₃ => wpAny M A T Q E s₃) E s₂) E s₁) E s
theorem TurnHead.go {M : Model} {A : Around} {tgt : Expr} {I : Addr} {env : Env} {T : Sem PySem.Fin} {Q : PySem.Fin → Shared → Prop} {E : Value → Shared → Prop} {s : Shared} (h : TurnHead M A tgt I env T Q E s) :
    wpAny M A (do
      match ← pyNext (.ref I) with
      | none => pure (.done .next)
      | some v => do
        letOwnedTupleGo tgt (.ref I) v
        assign tgt env v
        T) Q E s := by
  refine wpAny_bind (wpAny_mono h (fun r s₁ h₁ => ?_) fun _ _ e => e)
  cases r with
  | none => exact wpAny_pure h₁
  | some v => exact wpAny_bind (wpAny_mono h₁ (fun _ s₂ h₂ => wpAny_bind h₂) fun _ _ e => e)
theorem turn_last {elt : Expr} {G : List Comprehension} {scope : Scope} {pos : Pos} {k : Nat} {I : Addr} {acc : Value} {env : Env} {tgt iter : Expr} {ifs : List Expr} (hg : G[k]? = some ⟨tgt, iter, ifs, 0⟩) (hn : G[k + 1]? = none)
    {Q : Fin → Shared → Prop}
    (h : wpAny (model prog w) A (pyNext (.ref I)) (fun r s₁ => match r with
      | none => Q (.done .next) s₁
      | some v => wpAny (model prog w) A (letOwnedTupleGo tgt (.ref I) v) (fun _ s₂ => wpAny (model prog w) A (assign tgt env v) (fun _ s₃ => wpAny (model prog w) A (restLast elt G scope pos k (.ref I) acc env ifs) Q E s₃) E s₂) E s₁) E s) :
    wpAny (model prog w) A (compTurn (.ListComp elt G scope pos) k (.ref I) acc env) Q E s := by
  rw [compTurn_last hg hn]
  exact wpAny_bind (wpAny_standAt (TurnHead.go (T := restLast elt G scope pos k (.ref I) acc env ifs) h))
theorem turn_more {elt : Expr} {G : List Comprehension} {scope : Scope} {pos : Pos} {k : Nat} {I : Addr} {acc : Value} {env : Env} {tgt iter tgt' iter' : Expr} {ifs ifs' : List Expr} (hg : G[k]? = some ⟨tgt, iter, ifs, 0⟩) (hn : G[k + 1]? = some ⟨tgt', iter', ifs', 0⟩)
    {Q : Fin → Shared → Prop}
    (h : TurnHead (model prog w) A tgt I env (restMore elt G scope pos k (.ref I) acc env ifs iter') Q E s) :
    wpAny (model prog w) A (compTurn (.ListComp elt G scope pos) k (.ref I) acc env) Q E s := by
  rw [compTurn_more hg hn]
  exact wpAny_bind (wpAny_standAt (TurnHead.go (T := restMore elt G scope pos k (.ref I) acc env ifs iter') h))
end

noncomputable def tsts (r : Ev) (cx : Cx) : List Expr → Option Bool
  | [] => some true
  | c :: cs => (tst r cx c).bind fun b => if b then tsts r cx cs else some false
noncomputable def setAll (cx : Cx) : List PySem.Str → List D → Option Cx
  | [], [] => some cx
  | x :: xs, d :: ds => setAll (cx.set x d) xs ds
  | [], _ :: _ => none
  | _ :: _, [] => none
noncomputable def loopRows (f : Cx → Option (List D)) (cx : Cx) (xs : List PySem.Str) : List (List D) → Option (List D)
  | [] => some []
  | row :: rest => (setAll cx xs row).bind fun cx' => (f cx').bind fun a => (loopRows f cx xs rest).map (a ++ ·)
noncomputable def unbound (cx : Cx) (xs : List PySem.Str) : Bool := xs.all fun x => (cx.vars.lookup x).isNone && cx.mine.contains x
noncomputable def evG (r : Ev) (elt : Expr) : List Comprehension → Cx → Option (List D)
  | [], cx => (r cx elt).map ([·])
  | g :: gs, cx => if g.is_async = 0 ∧ unbound cx (names g.target) = true then (evI r cx g.target g.iter).bind fun rows =>
      loopRows (fun cx' => (tsts r cx' g.ifs).bind fun b => if b then evG r elt gs cx' else some []) cx (names g.target) rows else none
noncomputable def bodyF (r : Ev) (elt : Expr) (ifs : List Expr) (gs : List Comprehension) (cx : Cx) : Option (List D) := (tsts r cx ifs).bind fun b => if b then evG r elt gs cx else some []

section
variable {prog : Program} {w : World} {n : Nat} {gl : PySem.Str → Option Value} {hB : Heap} {h₀ : Heap} {W : Ow} {ad : PySem.Str → Addr} {env : Env} {cx : Cx} {s : Shared} {d : D}
theorem tests_false {env : Env} : ∀ (ifs : List Expr), (forIn ifs false fun c r => if r = true then do let ok ← isTrue c env (eval c env); pure (ForInStep.yield ok) else pure (ForInStep.yield r) : Sem Bool) = pure false
  | [] => rfl
  | c :: cs => by rw [List.forIn_cons]; exact tests_false cs
theorem tsts_sound {r : Ev} (ok : EvOk prog w n hB r) (hb : Kp hB h₀) : ∀ (ifs : List Expr) (s : Shared), ER h₀ W ad s.heap env cx → ∀ {c : Bool}, tsts r cx ifs = some c →
    GivesB prog w n (forIn ifs true fun c r => if r = true then do let ok ← isTrue c env (eval c env); pure (ForInStep.yield ok) else pure (ForInStep.yield r)) c s
  | [], s, er, c, h => fun Q E hQ => wpAny_pure (Option.some.inj h ▸ hQ s.heap s.toks (Kp.refl _))
  | e :: es, s, er, c, h => fun Q E hQ => by
    obtain ⟨b, hb', h⟩ := bind_ex h
    rw [List.forIn_cons, if_pos rfl]
    refine wpAny_bind (wpAny_bind (tst_sound ok hb er hb' _ E fun h' tk k => wpAny_pure ?_))
    cases b with
    | false =>
      dsimp only
      rw [tests_false]
      exact wpAny_pure (Option.some.inj h ▸ hQ h' tk k)
    | true => exact tsts_sound ok hb es { s with heap := h', toks := tk } (er.kp k) h Q E fun h'' tk' k' => hQ h'' tk' (k.trans k')

theorem setAll_own : ∀ (xs : List PySem.Str) (ds : List D) (cx cx' : Cx), setAll cx xs ds = some cx' → cx.own = [] → cx'.own = []
  | [], [], cx, cx', h, e => Option.some.inj h ▸ e
  | x :: xs, d :: ds, cx, cx', h, e => setAll_own xs ds _ cx' h (by show del x cx.own = []; rw [e]; rfl)
  | [], _ :: _, _, _, h, _ => (no_some h).elim
  | _ :: _, [], _, _, h, _ => (no_some h).elim
noncomputable def SameCx (cx cx' : Cx) (xs : List PySem.Str) : Prop := cx'.kinds = cx.kinds ∧ cx'.mine = cx.mine ∧ ∀ y, y ∉ xs → cx'.vars.lookup y = cx.vars.lookup y
theorem setAll_same : ∀ (xs : List PySem.Str) (ds : List D) (cx cx' : Cx), setAll cx xs ds = some cx' → SameCx cx cx' xs
  | [], [], cx, cx', h => Option.some.inj h ▸ ⟨rfl, rfl, fun _ _ => rfl⟩
  | x :: xs, d :: ds, cx, cx', h => by
    obtain ⟨a, b, c⟩ := setAll_same xs ds _ cx' h
    refine ⟨a, b, fun y hy => ?_⟩
    rw [c y fun q => hy (.tail _ q), lookup_set_vars, if_neg fun q : y = x => hy (q ▸ m0)]
  | [], _ :: _, _, _, h => (no_some h).elim
  | _ :: _, [], _, _, h => (no_some h).elim

theorem sto_sound {M : Model} {A : Around} {E : Value → Shared → Prop} {Q : Unit → Shared → Prop} : ∀ (xs : List PySem.Str) (row : List D) (vals : List Value) (cx cx' : Cx) (s : Shared), ER h₀ W ad s.heap env cx → (∀ x ∈ xs, x ∈ cx.mine) →
    RL (Oo W ad env cx) s.heap row vals → setAll cx xs row = some cx' → (∀ h' tk, ER h₀ W ad h' env cx' → Tr (Oo W ad env cx) s.heap (Oo W ad env cx') h' → KW W s.heap h' → Q () { s with heap := h', toks := tk }) → Sto M A env E Q xs vals s
  | [], [], _, cx, cx', s, er, hm, rl, h, hQ => by
    rw [rl.unnil]
    obtain rfl := Option.some.inj h
    exact hQ s.heap s.toks er .refl fun _ _ _ e => e
  | x :: xs, d :: ds, vals, cx, cx', s, er, hm, rl, h, hQ => by
    obtain ⟨v, vs, rfl, r, rs⟩ := rl.uncons
    refine store_wp er (hm x m0) fun h₁ tk z => ?_
    obtain ⟨er1, T1, K1⟩ := er.set (hm x m0) r z
    exact sto_sound xs ds vs (cx.set x d) cx' { s with heap := h₁, toks := tk } er1 (fun y hy => hm y (.tail _ hy)) (rs.tr T1) h fun h' tk' er' T' K' => hQ h' tk' er' (T1.trans T') (K1.trans K')
  | [], _ :: _, _, _, _, _, _, _, _, h, _ => (no_some h).elim
  | _ :: _, [], _, _, _, _, _, _, _, h, _ => (no_some h).elim
end
end Mine
end
section
open PySem PySem.W PyProof.Rows PySem.Calls PySem.Spec
set_option linter.unusedSectionVars false
set_option linter.unusedVariables false
set_option maxRecDepth 100000
namespace Mine
variable [Inhabited Rho]

noncomputable def Ov (W : Ow) (env : Env) : Ow := fun b => W b ∨ Stg env b
theorem oo_nil {W : Ow} {ad : PySem.Str → Addr} {env : Env} {cx : Cx} (h : cx.own = []) (b : Addr) : Oo W ad env cx b ↔ Ov W env b := by
  constructor
  · rintro (w | g | ⟨x, l, hx, _⟩)
    · exact .inl w
    · exact .inr g
    · rw [h] at hx; cases hx
  · rintro (w | g)
    · exact .inl w
    · exact .inr (.inl g)
theorem unbound_mem {cx : Cx} {xs : List PySem.Str} (h : unbound cx xs = true) : ∀ x ∈ xs, x ∈ cx.mine ∧ cx.vars.lookup x = none := fun x hx => by
  unfold unbound at h
  rw [List.all_eq_true] at h
  have := h x hx
  rw [Bool.and_eq_true, Option.isNone_iff_eq_none] at this
  exact ⟨by simpa using this.2, this.1⟩
noncomputable def Wr (W : Ow) (wr : List Addr) : Ow := fun b => W b ∨ b ∈ wr

section
variable {prog : Program} {w : World} {n : Nat} {gl : PySem.Str → Option Value} {hB : Heap} {h₀ : Heap} {ad : PySem.Str → Addr} {env : Env}

/-- the accumulator D holds out -/
noncomputable def Acc (O : Ow) (h : Heap) (D : Addr) (out : List Mine.D) : Prop := ∃ its, PL h D its ∧ RL O h out its.toList
theorem Acc.tr {O O' : Ow} {h h' : Heap} {D : Addr} {out : List Mine.D} (a : Acc O h D out) (T : Tr O h O' h') (k : ∀ o, h.get? D = some o → h'.get? D = some o) : Acc O' h' D out :=
  let ⟨its, ⟨o, ho, z⟩, rl⟩ := a; ⟨its, ⟨o, k o ho, z⟩, rl.tr T⟩

structure LS (h₀ : Heap) (W : Ow) (ad : PySem.Str → Addr) (env : Env) (cx : Cx) (wr : List Addr) (D : Addr) (hs h : Heap) (out : List Mine.D) : Prop where
  er : ER h₀ (Wr W wr) ad h env cx
  acc : Acc (Ov (Wr W wr) env) h D out
  kw : ∀ b, W b → b ≠ D → ∀ o, hs.get? b = some o → h.get? b = some o
  tr : Tr (Ov (Wr W wr) env) hs (Ov (Wr W wr) env) h

/-- what is known of a loop of a comprehension -/
structure LC (prog : Program) (w : World) (n : Nat) (h₀ : Heap) (ad : PySem.Str → Addr) (env : Env) (D : Addr) (tgt : Expr) (cx : Cx) (W : Ow) (I : Addr) (fp wr : List Addr) (rows : List (List Mine.D)) (St : Nat → Heap → Prop) (hR hs : Heap) (pre out : List Mine.D) : Prop where
  hD0 : h₀.get? D = none
  hown : cx.own = []
  hun : unbound cx (names tgt) = true
  hWD : W D
  T : TW prog w (Ar n) tgt I fp wr rows (Ov (Wr W wr) env) hR St
  hTR : Tr (Ov (Wr W wr) env) hR (Ov (Wr W wr) env) hs
  hwr : ∀ b ∈ wr, h₀.get? b = none ∧ ¬ W b
  hfp : ∀ b ∈ fp, b ∈ wr ∨ ¬ Ov (Wr W wr) env b
  hlen : pre.length + out.length ≤ 1000
/-- at the head of turn i -/
structure LI (h₀ : Heap) (ad : PySem.Str → Addr) (env : Env) (D : Addr) (tgt : Expr) (cx : Cx) (W : Ow) (wr : List Addr) (rows : List (List Mine.D)) (St : Nat → Heap → Prop) (hs : Heap) (pre out : List Mine.D) (bf : Cx → Option (List Mine.D)) (i : Nat) (h : Heap) (done rest : List Mine.D) : Prop where
  hi : i ≤ rows.length
  L : LS h₀ W ad env cx wr D hs h (pre ++ done)
  st : St i h
  lr : loopRows bf cx (names tgt) (rows.drop i) = some rest
  dn : done ++ rest = out
/-- in turn i, the names are stored -/
structure LT (h₀ : Heap) (ad : PySem.Str → Addr) (env : Env) (D : Addr) (tgt : Expr) (cx : Cx) (W : Ow) (wr : List Addr) (rows : List (List Mine.D)) (St : Nat → Heap → Prop) (hs : Heap) (pre : List Mine.D) (bf : Cx → Option (List Mine.D)) (i : Nat) (done rest : List Mine.D) (cx' : Cx) (a : List Mine.D) (h : Heap) : Prop where
  hlt : i < rows.length
  set : ∃ row, setAll cx (names tgt) row = some cx'
  body : bf cx' = some a
  lr : ∃ rest', loopRows bf cx (names tgt) (rows.drop (i + 1)) = some rest' ∧ a ++ rest' = rest
  L : LS h₀ W ad env cx' wr D hs h (pre ++ done)
  st : St (i + 1) h
/-- the loop is over -/
structure LE (h₀ : Heap) (ad : PySem.Str → Addr) (env : Env) (D : Addr) (cx : Cx) (W : Ow) (wr : List Addr) (hs : Heap) (out : List Mine.D) (h : Heap) : Prop where
  er : ER h₀ W ad h env cx
  acc : Acc (Ov W env) h D out
  kw : ∀ b, W b → b ≠ D → ∀ o, hs.get? b = some o → h.get? b = some o
  tr : Tr (Ov (Wr W wr) env) hs (Ov W env) h

theorem LS.kp {W : Ow} {cx : Cx} {wr : List Addr} {D : Addr} {hs h h' : Heap} {out : List Mine.D} (L : LS h₀ W ad env cx wr D hs h out) (k : Kp h h') : LS h₀ W ad env cx wr D hs h' out :=
  ⟨L.er.kp k, L.acc.tr (.of_kp k) fun o e => k _ o e, fun b wb nb o e => k _ o (L.kw b wb nb o e), L.tr.trans (.of_kp k)⟩
variable {D : Addr} {tgt : Expr} {cx cx' : Cx} {W : Ow} {I : Addr} {fp wr : List Addr} {rows : List (List Mine.D)} {St : Nat → Heap → Prop} {hR hs h h' : Heap} {pre out done rest a : List Mine.D} {bf : Cx → Option (List Mine.D)} {i : Nat} {s : Shared}
theorem LC.keep (C : LC prog w n h₀ ad env D tgt cx W I fp wr rows St hR hs pre out) {j : Nat} {g1 g2 : Heap} (h1 : St j g1) (h2 : ∀ b, b ∈ wr → ∀ o, g1.get? b = some o → g2.get? b = some o) (h3 : ∀ b o, g1.get? b = some o → ¬ Ov (Wr W wr) env b → g2.get? b = some o) : St j g2 :=
  C.T.frame j g1 g2 h1 fun b hb o e => (C.hfp b hb).elim (fun q => h2 b q o e) fun q => h3 b o e q
theorem LC.fin (C : LC prog w n h₀ ad env D tgt cx W I fp wr rows St hR hs pre out) (Z : LI h₀ ad env D tgt cx W wr rows St hs pre out bf i h done rest) (hi : i = rows.length) (k : ∀ b o, b ∉ wr → h.get? b = some o → h'.get? b = some o) : LE h₀ ad env D cx W wr hs (pre ++ out) h' := by
  have e0 : rest = [] := by
    have := Z.lr
    rw [hi, List.drop_length] at this
    exact (Option.some.inj this).symm
  have e1 : pre ++ done = pre ++ out := by rw [← Z.dn, e0, List.append_nil]
  have L := Z.L
  rw [e1] at L
  have e2 := (L.er.drop (M := fun b => b ∈ wr) (h' := h') (fun b q => C.hwr b q) fun b o e q => k b o q e).1
  have t1 : Tr (Ov (Wr W wr) env) h (Ov W env) h' := fun b o e q => ⟨k b o (fun z => q (.inl (.inr z))) e, fun z => q (z.elim (fun z => .inl (.inl z)) .inr)⟩
  exact ⟨e2, L.acc.tr t1 fun o e => k D o (fun q => (C.hwr D q).2 C.hWD) e, fun b wb nb o e => k b o (fun q => (C.hwr b q).2 wb) (L.kw b wb nb o e), L.tr.trans t1⟩
theorem LC.next (C : LC prog w n h₀ ad env D tgt cx W I fp wr rows St hR hs pre out) (Z : LI h₀ ad env D tgt cx W wr rows St hs pre out bf i h done rest) {h1 : Heap} (Y : LT h₀ ad env D tgt cx W wr rows St hs pre bf i done rest cx' a h1) {h' : Heap} (L' : LS h₀ W ad env cx' wr D hs h' (pre ++ done ++ a)) (st' : St (i + 1) h') :
    ∃ rest', LI h₀ ad env D tgt cx W wr rows St hs pre out bf (i + 1) h' (done ++ a) rest' := by
  obtain ⟨rest', h3, e⟩ := Y.lr
  obtain ⟨row, hset⟩ := Y.set
  obtain ⟨ek, em, ev⟩ := setAll_same _ _ _ _ hset
  rw [List.append_assoc] at L'
  refine ⟨rest', Y.hlt, ⟨L'.er.weaken ek.symm (fun x hx => by rw [em]; exact hx) (fun x d hx => ?_) (fun x => ?_), L'.acc, L'.kw, L'.tr⟩, st', h3, by rw [List.append_assoc, e]; exact Z.dn⟩
  · rw [ev x fun q => no_some ((unbound_mem C.hun x q).2.symm.trans hx)]; exact hx
  · rw [C.hown, setAll_own _ _ _ _ hset C.hown]
theorem LC.len (C : LC prog w n h₀ ad env D tgt cx W I fp wr rows St hR hs pre out) (Z : LI h₀ ad env D tgt cx W wr rows St hs pre out bf i h done rest) (Y : LT h₀ ad env D tgt cx W wr rows St hs pre bf i done rest cx' a h') : (pre ++ done).length + a.length ≤ 1000 := by
  obtain ⟨rest', h3, e⟩ := Y.lr
  have q := C.hlen
  rw [← Z.dn, ← e, List.length_append, List.length_append] at q
  rw [List.length_append]
  omega
theorem LC.head (C : LC prog w n h₀ ad env D tgt cx W I fp wr rows St hR s.heap pre out) (Z : LI h₀ ad env D tgt cx W wr rows St s.heap pre out bf i h done rest) {tk : Nat} {T : Sem PySem.Fin} {Qf : PySem.Fin → Shared → Prop} {Ef : Value → Shared → Prop}
    (hz : ∀ h' tk', LE h₀ ad env D cx W wr s.heap (pre ++ out) h' → Qf (.done .next) { s with heap := h', toks := tk' })
    (hs : ∀ cx' a h' tk', LT h₀ ad env D tgt cx W wr rows St s.heap pre bf i done rest cx' a h' → wpAny (model prog w) (Ar n) T Qf Ef { s with heap := h', toks := tk' }) :
    TurnHead (model prog w) (Ar n) tgt I env T Qf Ef { s with heap := h, toks := tk } := by
  by_cases hlt : i < rows.length
  · have hrow : rows[i]? = some rows[i] := List.getElem?_eq_getElem hlt
    have hlr := Z.lr
    rw [List.drop_eq_getElem_cons hlt] at hlr
    obtain ⟨cx', hset, hlr⟩ := bind_ex hlr
    obtain ⟨a, hbody, hlr⟩ := bind_ex hlr
    have L := Z.L
    have hown := C.hown
    refine wpAny_mono (C.T.turn i { s with heap := h, toks := tk } env rows[i] (fun _ s₃ => wpAny (model prog w) (Ar n) T Qf Ef s₃) Ef hrow Z.st fun vals h1 tk1 rl hl st1 k1 => ?_) (fun r s₁ h₁ => ?_) fun _ _ e => e
    · have f1 : ER h₀ (Wr W wr) ad h1 env cx := L.er.frame (fun b => b ∈ wr) (fun b q => ⟨.inr q, (C.hwr b q).1⟩) (fun b o e q => k1 b o q e) (fun b q => C.T.live _ _ st1 b (C.T.sub b q))
      have t1 : Tr (Ov (Wr W wr) env) h (Ov (Wr W wr) env) h1 := fun b o e q => ⟨k1 b o (fun z => q (.inl (.inr z))) e, q⟩
      have rl1 : RL (Oo (Wr W wr) ad env cx) h1 rows[i] vals := (rl.tr (C.hTR.trans (L.tr.trans t1))).tr (.sub fun b q => (oo_nil hown b).mp q)
      refine sto_sound (names tgt) rows[i] vals cx cx' { s with heap := h1, toks := tk1 } f1 (fun x hx => (unbound_mem C.hun x hx).1) rl1 hset fun h2 tk2 er2 T2 K2 => ?_
      have hown' := setAll_own _ _ _ _ hset hown
      have t2 : Tr (Ov (Wr W wr) env) h1 (Ov (Wr W wr) env) h2 := fun b o e q => by
        have z := T2 b o e fun z => q ((oo_nil hown b).mp z)
        exact ⟨z.1, fun y => z.2 ((oo_nil hown' b).mpr y)⟩
      refine hs cx' a h2 tk2 ⟨hlt, ⟨_, hset⟩, hbody, map_ex hlr, ⟨er2, ?_, fun b wb nb o e => K2 b (.inl wb) o (k1 b o (fun q => (C.hwr b q).2 wb) (L.kw b wb nb o e)), L.tr.trans (t1.trans t2)⟩, ?_⟩
      · exact L.acc.tr (t1.trans t2) fun o e => K2 D (.inl C.hWD) o (k1 D o (fun q => (C.hwr D q).2 C.hWD) e)
      · exact C.keep st1 (fun b q o e => K2 b (.inr q) o e) fun b o e q => (t2 b o e q).1
    · cases r with
      | none => exact h₁.elim
      | some v => exact h₁
  · have hi : i = rows.length := Nat.le_antisymm Z.hi (Nat.not_lt.mp hlt)
    exact C.T.done { s with heap := h, toks := tk } _ _ (hi ▸ Z.st) fun h' tk' k' => hz h' tk' (C.fin Z hi k')
section
variable {elt iter : Expr} {G : List Comprehension} {scope : Scope} {pos : Pos} {k : Nat} {r : Ev} {ifs : List Expr} {gs : List Comprehension} {tk : Nat} {Q : PySem.Fin → Shared → Prop} {E : Value → Shared → Prop}
noncomputable def Again (h₀ : Heap) (ad : PySem.Str → Addr) (env : Env) (D : Addr) (tgt : Expr) (cx : Cx) (W : Ow) (wr : List Addr) (rows : List (List Mine.D)) (St : Nat → Heap → Prop) (s : Shared) (pre out : List Mine.D) (bf : Cx → Option (List Mine.D)) (i : Nat) (c : Code) (Q : PySem.Fin → Shared → Prop) : Prop :=
  ∀ h' tk' done' rest', LI h₀ ad env D tgt cx W wr rows St s.heap pre out bf (i + 1) h' done' rest' → Q (.again c) { s with heap := h', toks := tk' }
theorem LC.last (C : LC prog w n h₀ ad env D tgt cx W I fp wr rows St hR s.heap pre out) (ok : EvOk prog w n hB r) (hb : Kp hB h₀) (hg : G[k]? = some ⟨tgt, iter, ifs, 0⟩) (hn : G[k + 1]? = none) (Z : LI h₀ ad env D tgt cx W wr rows St s.heap pre out (bodyF r elt ifs []) i h done rest)
    (hz : ∀ h' tk', LE h₀ ad env D cx W wr s.heap (pre ++ out) h' → Q (.done .next) { s with heap := h', toks := tk' }) (ha : Again h₀ ad env D tgt cx W wr rows St s pre out (bodyF r elt ifs []) i (.compLoop (.ListComp elt G scope pos) k (.ref I) (.ref D) env) Q) :
    wpAny (model prog w) (Ar n) (compTurn (.ListComp elt G scope pos) k (.ref I) (.ref D) env) Q E { s with heap := h, toks := tk } := by
  refine turn_last hg hn (C.head Z hz fun cx' a h1 tk1 Y => ?_)
  obtain ⟨row, hset⟩ := Y.set
  have hown' := setAll_own _ _ _ _ hset C.hown
  obtain ⟨b, htst, hbody⟩ := bind_ex Y.body
  unfold restLast
  refine wpAny_bind (tsts_sound ok hb ifs { s with heap := h1, toks := tk1 } Y.L.er htst _ _ fun h2 tk2 k2 => ?_)
  have L2 := Y.L.kp k2
  have st2 : St (i + 1) h2 := C.T.frame _ _ _ Y.st fun b _ o e => k2 b o e
  cases b with
  | false =>
    obtain ⟨rest', Z'⟩ := C.next Z Y (h' := h2) (by rw [← Option.some.inj hbody, List.append_nil]; exact L2) st2
    rw [if_neg Bool.false_ne_true]
    exact wpAny_pure (ha h2 tk2 _ rest' Z')
  | true =>
    obtain ⟨d, hd, e⟩ := map_ex hbody
    rw [if_pos rfl]
    refine wpAny_bind (wpAny_bind (ok cx' elt d hd h₀ _ ad env { s with heap := h2, toks := tk2 } hb L2.er _ _ fun v h3 tk3 k3 rv => ?_))
    have L3 := L2.kp k3
    have st3 : St (i + 1) h3 := C.T.frame _ _ _ st2 fun b _ o e => k3 b o e
    obtain ⟨its, il, rl⟩ := L3.acc
    have hsz : its.size + 1 ≤ sizeLine := by
      have hsz := C.len Z Y
      rw [← e, rl.length, Array.length_toList] at hsz
      rw [sizeLine_eq]
      exact Nat.le_trans hsz (by decide)
    refine wpAny_bind (wpAny_list_append_plain (hsz := Nat.le_of_succ_le hsz) il.plain (fun h4 il4 sb => ?_))
    have k4 : ∀ b o, b ≠ D → h3.get? b = some o → h4.get? b = some o := fun b o q e => (sb.2 b q).trans e
    have t4 : Tr (Ov (Wr W wr) env) h3 (Ov (Wr W wr) env) h4 := fun b o e q => ⟨k4 b o (fun z => q (.inl (.inl (z ▸ C.hWD)))) e, q⟩
    have acc4 : Acc (Ov (Wr W wr) env) h4 D (pre ++ done ++ a) := ⟨its.push v, .of il4, by
      rw [Array.toList_push, ← e]
      exact RL.append (.cons _ _ _ _ ((rv.tr (.sub fun b q => (oo_nil hown' b).mpr q)).tr t4) .nil) (rl.tr t4)⟩
    obtain ⟨rest', Z'⟩ := C.next Z Y (h' := h4) ⟨L3.er.frame (fun b => b = D) (fun b q => q ▸ ⟨.inl C.hWD, C.hD0⟩) (fun b o e q => k4 b o q e) (fun b q => q ▸ list_live il4.isList), acc4, fun b wb nb o e => k4 b o nb (L3.kw b wb nb o e), L3.tr.trans t4⟩
      (C.keep st3 (fun b q o e => k4 b o (fun z => (C.hwr b q).2 (z ▸ C.hWD)) e) fun b o e q => (t4 b o e q).1)
    exact wpAny_pure (wpAny_pure (ha h4 tk3 _ rest' Z'))
theorem LC.run (C : LC prog w n h₀ ad env D tgt cx W I fp wr rows St hR s.heap pre out) {Rr : Result → Shared → Prop} (Z : LI h₀ ad env D tgt cx W wr rows St s.heap pre out bf 0 s.heap [] out) (hend : ∀ h' tk, LE h₀ ad env D cx W wr s.heap (pre ++ out) h' → Rr (.ok .next) { s with heap := h', toks := tk })
    (turn : ∀ i h tk done rest (Q : PySem.Fin → Shared → Prop) (E : Value → Shared → Prop), LI h₀ ad env D tgt cx W wr rows St s.heap pre out bf i h done rest → (∀ h' tk', LE h₀ ad env D cx W wr s.heap (pre ++ out) h' → Q (.done .next) { s with heap := h', toks := tk' }) →
      Again h₀ ad env D tgt cx W wr rows St s pre out bf i (.compLoop (.ListComp elt G scope pos) k (.ref I) (.ref D) env) Q → wpAny (model prog w) (Ar n) (compTurn (.ListComp elt G scope pos) k (.ref I) (.ref D) env) Q E { s with heap := h, toks := tk }) :
    codeAny (model prog w) (Ar n) (.compLoop (.ListComp elt G scope pos) k (.ref I) (.ref D) env) Rr s := by
  refine codeAny_loop rfl (fun m s' => ∃ i h tk done rest, s' = { s with heap := h, toks := tk } ∧ m = rows.length + 1 - i ∧ LI h₀ ad env D tgt cx W wr rows St s.heap pre out bf i h done rest) ?_ (rows.length + 1) ⟨0, s.heap, s.toks, [], out, rfl, rfl, Z⟩
  rintro m s' ⟨i, h, tk, done, rest, rfl, rfl, Z⟩
  refine wpAny_noted (turn i h tk done rest _ _ Z hend fun h' tk' done' rest' Z' => ⟨rfl, rows.length + 1 - (i + 1), ?_, i + 1, h', tk', done', rest', rfl, rfl, Z'⟩)
  have := Z'.hi
  omega
/-- the loops from clause k on -/
noncomputable def LoopsOk (prog : Program) (w : World) (n : Nat) (h₀ : Heap) (ad : PySem.Str → Addr) (env : Env) (D : Addr) (elt : Expr) (G : List Comprehension) (scope : Scope) (pos : Pos) (r : Ev) (gs : List Comprehension) : Prop :=
  ∀ (k : Nat) (tgt iter : Expr) (ifs : List Expr), G[k]? = some ⟨tgt, iter, ifs, 0⟩ → G.drop (k + 1) = gs → (∀ g' ∈ gs, g'.is_async = 0) →
    ∀ (cx : Cx) (W : Ow) (I : Addr) (fp wr : List Addr) (rows : List (List Mine.D)) (St : Nat → Heap → Prop) (hR : Heap) (s : Shared) (pre out : List Mine.D) (Rr : Result → Shared → Prop),
      LC prog w n h₀ ad env D tgt cx W I fp wr rows St hR s.heap pre out → LI h₀ ad env D tgt cx W wr rows St s.heap pre out (bodyF r elt ifs gs) 0 s.heap [] out →
      (∀ h' tk, LE h₀ ad env D cx W wr s.heap (pre ++ out) h' → Rr (.ok .next) { s with heap := h', toks := tk }) → codeAny (model prog w) (Ar n) (.compLoop (.ListComp elt G scope pos) k (.ref I) (.ref D) env) Rr s
theorem ov_more {wr2 : List Addr} {b : Addr} (y : Ov (Wr (Wr W wr) wr2) env b) (q2 : b ∉ wr2) : Ov (Wr W wr) env b := by
  rcases y with (y | y) | y
  · exact .inl y
  · exact absurd y q2
  · exact .inr y
theorem LC.more (C : LC prog w n h₀ ad env D tgt cx W I fp wr rows St hR s.heap pre out) (ok : EvOk prog w n hB r) (ns : NoStar r) (B : Bg prog w gl hB) (hb : Kp hB h₀) {tgt' iter' : Expr} {ifs' : List Expr} (ih : LoopsOk prog w n h₀ ad env D elt G scope pos r gs) (hg : G[k]? = some ⟨tgt, iter, ifs, 0⟩) (hn : G[k + 1]? = some ⟨tgt', iter', ifs', 0⟩) (hdrop : G.drop (k + 1 + 1) = gs) (hgs : ∀ g' ∈ gs, g'.is_async = 0)
    (Z : LI h₀ ad env D tgt cx W wr rows St s.heap pre out (bodyF r elt ifs (⟨tgt', iter', ifs', 0⟩ :: gs)) i h done rest)
    (hz : ∀ h' tk', LE h₀ ad env D cx W wr s.heap (pre ++ out) h' → Q (.done .next) { s with heap := h', toks := tk' }) (ha : Again h₀ ad env D tgt cx W wr rows St s pre out (bodyF r elt ifs (⟨tgt', iter', ifs', 0⟩ :: gs)) i (.compLoop (.ListComp elt G scope pos) k (.ref I) (.ref D) env) Q) :
    wpAny (model prog w) (Ar n) (compTurn (.ListComp elt G scope pos) k (.ref I) (.ref D) env) Q E { s with heap := h, toks := tk } := by
  refine turn_more hg hn (C.head Z hz fun cx' a h1 tk1 Y => ?_)
  obtain ⟨row, hset⟩ := Y.set
  have hown' := setAll_own _ _ _ _ hset C.hown
  obtain ⟨b, htst, hbody⟩ := bind_ex Y.body
  unfold restMore
  refine wpAny_bind (tsts_sound ok hb ifs { s with heap := h1, toks := tk1 } Y.L.er htst _ _ fun h2 tk2 k2 => ?_)
  have L2 := Y.L.kp k2
  have st2 : St (i + 1) h2 := C.T.frame _ _ _ Y.st fun b _ o e => k2 b o e
  cases b with
  | false =>
    obtain ⟨rest', Z'⟩ := C.next Z Y (h' := h2) (by rw [← Option.some.inj hbody, List.append_nil]; exact L2) st2
    rw [if_neg Bool.false_ne_true]
    exact wpAny_pure (ha h2 tk2 _ rest' Z')
  | true =>
    obtain ⟨hc2, hbody⟩ := ite_ex hbody
    obtain ⟨rows2, hrows2, hloop2⟩ := bind_ex hbody
    rw [if_pos rfl]
    obtain ⟨hfold, itg⟩ := evI_sound (s := { s with heap := h2, toks := tk2 }) (n := n) ok ns B hb L2.er hrows2
    refine wpAny_bind (wpAny_mono (itg _ _ fun I2 fp2 wr2 St2 hR2 h3 tk3 k0 k3 TW2 st30 hw2 hf2 => ?_) (fun x s₁ h₁ => wpAny_bind (wpAny_standAt (wpAny_bind (wpAny_of_eq (hfold x) (wpAny_bind (wpAny_holding h₁)))))) fun _ _ e => e)
    dsimp only at k0 k3 st30 hw2 hf2
    have hk23 : Kp h2 h3 := k0.trans k3
    obtain ⟨er3, T3⟩ := (L2.er.kp k0).grow (M := fun b => b ∈ wr2) k3 hw2 (fun b q => TW2.live _ _ st30 b (TW2.sub b q))
    have ovEq : ∀ b, Oo (Wr (Wr W wr) wr2) ad env cx' b ↔ Ov (Wr (Wr W wr) wr2) env b := oo_nil hown'
    have T3' : Tr (Oo (Wr W wr) ad env cx') hR2 (Ov (Wr (Wr W wr) wr2) env) h3 := fun b o e q => ⟨(T3 b o e q).1, fun z => (T3 b o e q).2 ((ovEq b).mpr z)⟩
    have T3v : Tr (Ov (Wr W wr) env) h2 (Ov (Wr (Wr W wr) wr2) env) h3 := fun b o e q => T3' b o (k0 b o e) fun z => q ((oo_nil hown' b).mp z)
    have acc3 : Acc (Ov (Wr (Wr W wr) wr2) env) h3 D (pre ++ done) := L2.acc.tr T3v fun o e => hk23 D o e
    have fr2 : ∀ b ∈ wr2, h2.get? b = none := fun b q => fresh_size k0 (hw2 b q)
    have hwr2 : ∀ b ∈ wr2, h₀.get? b = none ∧ ¬ Wr W wr b := fun b q => ⟨fresh_size L2.er.base (fr2 b q), live_fresh (s := { s with heap := h2 }) L2.er.wl (fr2 b q)⟩
    have hfp2 : ∀ b ∈ fp2, b ∈ wr2 ∨ ¬ Ov (Wr (Wr W wr) wr2) env b := fun b q => by
      rcases hf2 b q with z | z
      · exact .inl z
      · exact (Classical.em (b ∈ wr2)).imp id fun q2 y => z ((oo_nil hown' b).mpr (ov_more y q2))
    have inner := fun Rr2 hend2 => ih (k + 1) tgt' iter' ifs' hn hdrop hgs cx' (Wr W wr) I2 fp2 wr2 rows2 St2 h3 { s with heap := h3, toks := tk3 } (pre ++ done) a Rr2 ⟨C.hD0, hown', hc2.2, .inl C.hWD, TW2.tr T3', .refl, hwr2, hfp2, C.len Z Y⟩
      ⟨Nat.zero_le _, ⟨er3, by rw [List.append_nil]; exact acc3, fun _ _ _ _ e => e, .refl⟩, st30, hloop2, rfl⟩ hend2
    refine wpAny_bind (wpAny_runOwn (compStart_at hn (inner _ fun h4 tk4 e4 => ?_) (TW2.self 0 { s with heap := h3, toks := tk3 } _ _ st30 (inner _ fun h4 tk4 e4 => ?_))))
    all_goals
      have T4v : Tr (Ov (Wr W wr) env) h2 (Ov (Wr W wr) env) h4 := T3v.trans e4.tr
      obtain ⟨rest', Z'⟩ := C.next Z Y (h' := h4) ⟨e4.er, e4.acc, fun b wb nb o e => e4.kw b (.inl wb) nb o (hk23 b o (L2.kw b wb nb o e)), L2.tr.trans T4v⟩
        (C.keep st2 (fun b q o e => e4.kw b (.inr q) (fun z => (C.hwr b q).2 (z ▸ C.hWD)) o (hk23 b o e)) fun b o e q => (T4v b o e q).1)
      exact wpAny_pure (ha h4 tk4 _ rest' Z')
theorem loops (ok : EvOk prog w n hB r) (ns : NoStar r) (B : Bg prog w gl hB) (hb : Kp hB h₀) : ∀ gs : List Comprehension, LoopsOk prog w n h₀ ad env D elt G scope pos r gs
  | [] => fun k tgt iter ifs hg hdrop hgs cx W I fp wr rows St hR s pre out Rr C Z hend => by
    have hn : G[k + 1]? = none := by
      have e := List.getElem?_drop (i := k + 1) (j := 0) (xs := G)
      rw [hdrop] at e
      exact e.symm
    exact C.run Z hend fun i h tk done rest Q E Z hz ha => C.last ok hb hg hn Z hz ha
  | ⟨tgt', iter', ifs', asy'⟩ :: gs => fun k tgt iter ifs hg hdrop hgs cx W I fp wr rows St hR s pre out Rr C Z hend => by
    obtain rfl : asy' = 0 := hgs _ m0
    have hn : G[k + 1]? = some ⟨tgt', iter', ifs', 0⟩ := by
      have e := List.getElem?_drop (i := k + 1) (j := 0) (xs := G)
      rw [hdrop] at e
      exact e.symm
    have hdrop' : G.drop (k + 1 + 1) = gs := by
      have e := List.drop_drop (i := 1) (j := k + 1) (l := G)
      rw [hdrop] at e
      exact e.symm
    exact C.run Z hend fun i h tk done rest Q E Z hz ha => C.more ok ns B hb (loops ok ns B hb gs) hg hn hdrop' (fun g' q => hgs g' (.tail _ q)) Z hz ha
end
end
end Mine
end
section
open PySem PySem.W PyProof.Rows PySem.Calls PySem.Spec
set_option linter.unusedSectionVars false
set_option linter.unusedVariables false
set_option maxRecDepth 100000
namespace Mine
variable [Inhabited Rho]

theorem lookup_of_mem {α : Type} : ∀ {l : List (PySem.Str × α)} {x : PySem.Str} {c : α}, (x, c) ∈ l → ∃ c', l.lookup x = some c'
  | (k, v) :: r, x, c, h => by
    rw [List.lookup_cons]
    cases hb : x == k with
    | true => exact ⟨v, rfl⟩
    | false =>
      rcases List.mem_cons.mp h with e | h
      · cases e; simp at hb
      · exact lookup_of_mem h

theorem cells_mem : ∀ (names : List (PySem.Str × NameKind)) (n : Nat) (acc : List (PySem.Str × Addr)) (p : PySem.Str × Addr), p ∈ cellsFrom n names acc → p ∈ acc ∨ ((p.1, NameKind.cell) ∈ names ∧ n ≤ p.2)
  | [], _, _, _, h => .inl h
  | (x, k) :: r, n, acc, p, h => by
    unfold cellsFrom at h
    split at h
    · rename_i hk
      have hk' : k = .cell := by simpa using hk
      rcases cells_mem r _ _ p h with q | q
      · rcases List.mem_cons.mp q with rfl | q
        · exact .inr ⟨by simp [hk'], Nat.le_refl _⟩
        · exact .inl q
      · exact .inr ⟨List.mem_cons_of_mem _ q.1, by omega⟩
    · exact (cells_mem r _ _ p h).imp id fun q => ⟨List.mem_cons_of_mem _ q.1, q.2⟩
theorem cells_acc : ∀ (names : List (PySem.Str × NameKind)) (n : Nat) (acc : List (PySem.Str × Addr)) (p : PySem.Str × Addr), p ∈ acc → p ∈ cellsFrom n names acc
  | [], _, _, _, h => h
  | (x, k) :: r, n, acc, p, h => by
    unfold cellsFrom
    split
    · exact cells_acc r _ _ p (List.mem_cons_of_mem _ h)
    · exact cells_acc r _ _ p h
theorem cells_has : ∀ (names : List (PySem.Str × NameKind)) (n : Nat) (acc : List (PySem.Str × Addr)) (x : PySem.Str), (x, NameKind.cell) ∈ names → ∃ c, (x, c) ∈ cellsFrom n names acc
  | (y, k) :: r, n, acc, x, h => by
    unfold cellsFrom
    rcases List.mem_cons.mp h with e | h
    · cases e
      exact ⟨n, by simp only [beq_self_eq_true, if_true]; exact cells_acc r _ _ _ List.mem_cons_self⟩
    · split
      · exact cells_has r _ _ x h
      · exact cells_has r _ _ x h
theorem cells_inj : ∀ (names : List (PySem.Str × NameKind)) (n : Nat) (acc : List (PySem.Str × Addr)), (∀ p ∈ acc, p.2 < n) → (∀ p ∈ acc, ∀ q ∈ acc, p.2 = q.2 → p.1 = q.1) → ∀ p ∈ cellsFrom n names acc, ∀ q ∈ cellsFrom n names acc, p.2 = q.2 → p.1 = q.1
  | [], _, _, _, hi => hi
  | (x, k) :: r, n, acc, hlt, hi => by
    unfold cellsFrom
    split
    · refine cells_inj r _ _ (fun p hp => ?_) fun p hp q hq e => ?_
      · rcases List.mem_cons.mp hp with rfl | hp
        · exact Nat.lt_succ_self _
        · exact Nat.lt_succ_of_lt (hlt p hp)
      · rcases List.mem_cons.mp hp with rfl | hp <;> rcases List.mem_cons.mp hq with rfl | hq
        · rfl
        · exact absurd (show q.2 = n from e.symm) (Nat.ne_of_lt (hlt q hq))
        · exact absurd (show p.2 = n from e) (Nat.ne_of_lt (hlt p hp))
        · exact hi p hp q hq e
    · exact cells_inj r _ _ hlt hi
theorem cells_lay : ∀ (names : List (PySem.Str × NameKind)) (h : Heap) (acc : List (PySem.Str × Addr)) (p : PySem.Str × Addr), p ∈ cellsFrom h.objs.size names acc → p ∈ acc ∨ (pushCells h names).IsCell p.2 none
  | [], _, _, _, hp => .inl hp
  | (x, k) :: r, h, acc, p, hp => by
    unfold cellsFrom at hp
    unfold pushCells
    split at hp
    · rename_i hk
      rw [if_pos hk]
      have e : h.objs.size + 1 = (h.push { cls := .type "cell", data := .cell none }).objs.size := (Heap.size_push ..).symm
      rw [e] at hp
      rcases cells_lay r _ _ p hp with q | q
      · rcases List.mem_cons.mp q with rfl | q
        · exact .inr ⟨_, pushCells_keeps _ _ _ _ (Heap.get?_push_size _ rfl), rfl⟩
        · exact .inl q
      · exact .inr q
    · rename_i hk
      rw [if_neg hk]
      exact cells_lay r _ _ p hp

theorem closure_ex {env : Env} : ∀ (names : List (PySem.Str × NameKind)) (acc : List (PySem.Str × Addr)), (∀ x, (x, NameKind.free) ∈ names → ∃ c, env.cells.lookup x = some c) →
    ∃ cl, (forIn names acc (fun x r => match x with | (name, kind) => if kind == NameKind.free then do let __do_lift ← cellOf env name; pure (ForInStep.yield ((name, __do_lift) :: r)) else pure (ForInStep.yield r)) : Sem (List (PySem.Str × Addr))) = pure cl ∧
      (∀ p ∈ cl, p ∈ acc ∨ (env.cells.lookup p.1 = some p.2 ∧ (p.1, NameKind.free) ∈ names)) ∧ (∀ p ∈ acc, p ∈ cl) ∧ ∀ x, (x, NameKind.free) ∈ names → ∃ c, (x, c) ∈ cl
  | [], acc, _ => ⟨acc, rfl, fun p hp => .inl hp, fun _ h => h, by simp⟩
  | (x, k) :: r, acc, h => by
    rw [List.forIn_cons]
    cases hk : k == NameKind.free with
    | true =>
      have hk' : k = .free := by simpa using hk
      subst hk'
      obtain ⟨c, hc⟩ := h x (by simp)
      obtain ⟨cl, e, a, b, d⟩ := closure_ex r ((x, c) :: acc) fun y hy => h y (List.mem_cons_of_mem _ hy)
      refine ⟨cl, ?_, fun p hp => ?_, fun p hp => b p (List.mem_cons_of_mem _ hp), fun y hy => ?_⟩
      · simp only [if_true, cellOf, hc]
        exact e
      · rcases a p hp with q | q
        · rcases List.mem_cons.mp q with rfl | q
          · exact .inr ⟨hc, by simp⟩
          · exact .inl q
        · exact .inr ⟨q.1, List.mem_cons_of_mem _ q.2⟩
      · rcases List.mem_cons.mp hy with q | q
        · cases q; exact ⟨c, b _ List.mem_cons_self⟩
        · exact d y q
    | false =>
      obtain ⟨cl, e, a, b, d⟩ := closure_ex r acc fun y hy => h y (List.mem_cons_of_mem _ hy)
      refine ⟨cl, ?_, fun p hp => (a p hp).imp id fun q => ⟨q.1, List.mem_cons_of_mem _ q.2⟩, b, fun y hy => ?_⟩
      · simp only [hk, Bool.false_eq_true, if_false]
        exact e
      · rcases List.mem_cons.mp hy with q | q
        · cases q; simp at hk
        · exact d y q

theorem new_env {M : Model} {A : Around} {E : Value → Shared → Prop} {s : Shared} {scope : Scope} {globals : Addr} {cl : List (PySem.Str × Addr)} {qual : PySem.Str} {env : Env} {Q : Env → Shared → Prop}
    (h : Q (newEnv scope s.heap.objs.size globals (cellsFrom (s.heap.objs.size + 1) scope.names cl) qual none .none (some env) builtinsNs) { s with heap := pushCells (s.heap.push { cls := .type "dict", data := .dict #[] }) scope.names }) :
    wpAny M A (newFunctionEnv scope globals cl [] qual none .none (some env)) Q E s := by
  simp only [newFunctionEnv, Option.isSome_some, if_true]
  refine wpAny_bind (wpAny_alloc ?_)
  refine wpAny_bind (wpAny_layCells _ (fun name kind cells => by cases hkc : kind == NameKind.cell <;> simp [hkc]) _ _ _ _ ?_)
  rw [show ({ s with heap := s.heap.push { cls := .type "dict", data := .dict #[] } } : Shared).heap.objs.size = s.heap.objs.size + 1 from Heap.size_push ..]
  exact wpAny_bind (wpAny_pure (wpAny_pure h))

noncomputable def nodupB : List PySem.Str → Bool
  | [] => true
  | x :: xs => !(xs.contains x) && nodupB xs
noncomputable def scopeOk (sc : Scope) : Bool := sc.kind == .function && nodupB (sc.names.map (·.1))
noncomputable def mineOf (sc : Scope) : List PySem.Str := (sc.names.filter fun p => p.2 == .local || p.2 == .cell).map (·.1)
noncomputable def cxKinds (sc : Scope) (cx : Cx) : List (PySem.Str × NameKind) := sc.names.map fun (n, k) => if (k == .free && cx.kinds.lookup n == some .cell) then (n, .cell) else (n, k)
noncomputable def freeVals (cx : Cx) : List (PySem.Str × NameKind) → Option (List (PySem.Str × D))
  | [] => some []
  | (x, k) :: r => if k == .free then (if cx.kinds.lookup x == some .cell then (cx.vars.lookup x).bind fun d => (freeVals cx r).map ((x, d) :: ·) else none) else freeVals cx r
noncomputable def cxOf (cx : Cx) (sc : Scope) : Option Cx := (freeVals cx sc.names).map fun vs => { kinds := cxKinds sc cx, mine := mineOf sc, vars := vs, own := [] }
noncomputable def evComp (r : Ev) (cx : Cx) (elt : Expr) (gens : List Comprehension) (sc : Scope) : Option (List D) := match gens with
  | [] => none
  | g :: gs => if g.is_async = 0 ∧ (gs.all fun g' => g'.is_async == 0) = true ∧ scopeOk sc = true then
      (evI r cx g.target g.iter).bind fun rows => (cxOf cx sc).bind fun cc => if unbound cc (names g.target) then
        (loopRows (bodyF r elt g.ifs gs) cc (names g.target) rows).bind fun out => if out.length ≤ 1000 then some out else none else none else none

theorem nodupB_uniq : ∀ {l : List (PySem.Str × NameKind)}, nodupB (l.map (·.1)) = true → ∀ {x : PySem.Str} {k k' : NameKind}, (x, k) ∈ l → (x, k') ∈ l → k = k'
  | (y, j) :: r, h, x, k, k', h1, h2 => by
    simp only [List.map_cons, nodupB, Bool.and_eq_true, Bool.not_eq_true'] at h
    have hn : ∀ k, (y, k) ∉ r := fun k hk => by
      have := h.1
      rw [List.contains_eq_mem] at this
      simp only [decide_eq_false_iff_not] at this
      exact this (List.mem_map.mpr ⟨_, hk, rfl⟩)
    rcases List.mem_cons.mp h1 with e | h1 <;> rcases List.mem_cons.mp h2 with e' | h2
    · cases e; cases e'; rfl
    · cases e; exact absurd h2 (hn _)
    · cases e'; exact absurd h1 (hn _)
    · exact nodupB_uniq h.2 h1 h2
theorem lookup_uniq {l : List (PySem.Str × NameKind)} (h : nodupB (l.map (·.1)) = true) {x : PySem.Str} {k : NameKind} (hm : (x, k) ∈ l) : l.lookup x = some k := by
  obtain ⟨k', hk⟩ := lookup_of_mem hm
  rw [hk, nodupB_uniq h hm (mem_of_lookup hk)]
theorem freeVals_at {cx : Cx} : ∀ {l : List (PySem.Str × NameKind)} {vs : List (PySem.Str × D)}, freeVals cx l = some vs →
    (∀ x, (x, NameKind.free) ∈ l → cx.kinds.lookup x = some .cell ∧ ∃ d, cx.vars.lookup x = some d) ∧ ∀ p ∈ vs, (p.1, NameKind.free) ∈ l ∧ cx.vars.lookup p.1 = some p.2
  | [], _, h => by cases h; simp
  | (x, k) :: r, vs, h => by
    unfold freeVals at h
    split at h
    · rename_i hk
      have hk' : k = .free := by simpa using hk
      subst hk'
      split at h
      · rename_i hc
        obtain ⟨d, hd, h⟩ := bind_ex h
        obtain ⟨vs', hv, rfl⟩ := map_ex h
        obtain ⟨a, b⟩ := freeVals_at hv
        refine ⟨fun y hy => ?_, fun p hp => ?_⟩
        · rcases List.mem_cons.mp hy with q | q
          · cases q; exact ⟨by simpa using hc, d, hd⟩
          · exact a y q
        · rcases List.mem_cons.mp hp with rfl | q
          · exact ⟨by simp, hd⟩
          · exact ⟨List.mem_cons_of_mem _ (b p q).1, (b p q).2⟩
      · exfalso; first | exact no_some h | cases h
    · rename_i hk
      obtain ⟨a, b⟩ := freeVals_at h
      refine ⟨fun y hy => ?_, fun p hp => ⟨List.mem_cons_of_mem _ (b p hp).1, (b p hp).2⟩⟩
      rcases List.mem_cons.mp hy with q | q
      · cases q; simp at hk
      · exact a y q
end Mine
end
section
open PySem PySem.W PyProof.Rows PySem.Calls PySem.Spec
set_option linter.unusedSectionVars false
set_option linter.unusedVariables false
set_option maxRecDepth 100000
namespace Mine
variable [Inhabited Rho]

theorem lookup_mapK {f : PySem.Str → NameKind → NameKind} : ∀ {l : List (PySem.Str × NameKind)} {x : PySem.Str} {k : NameKind}, l.lookup x = some k → (l.map fun p => (p.1, f p.1 p.2)).lookup x = some (f x k)
  | (y, j) :: r, x, k, h => by
    rw [List.lookup_cons] at h
    rw [List.map_cons, List.lookup_cons]
    cases hb : x == y with
    | true => rw [hb] at h; cases h; rw [beq_iff_eq.mp hb]
    | false => rw [hb] at h; exact lookup_mapK h
noncomputable def kindF (cx : Cx) (n : PySem.Str) (k : NameKind) : NameKind := if (k == .free && cx.kinds.lookup n == some .cell) then .cell else k
theorem cxKinds_eq (sc : Scope) (cx : Cx) : cxKinds sc cx = sc.names.map fun p => (p.1, kindF cx p.1 p.2) := by
  unfold cxKinds
  refine List.map_congr_left fun p _ => ?_
  obtain ⟨n, k⟩ := p
  unfold kindF
  dsimp only
  split <;> rfl

section
variable {prog : Program} {w : World} {n : Nat} {gl : PySem.Str → Option Value} {hB : Heap} {h₀ : Heap} {W : Ow} {ad : PySem.Str → Addr} {env : Env} {cx cc : Cx}

theorem relabel_names {h : Heap} (er : ER h₀ W ad h env cx) (sc : Scope) : (relabel sc env).names = cxKinds sc cx := by
  unfold relabel cxKinds
  refine List.map_congr_left fun p _ => ?_
  obtain ⟨m, k⟩ := p
  dsimp only
  rw [kindOf_eq er, er.kind]
  simp

/-- the names' room of a comprehension, new laid -/
theorem comp_er {hs hR h1 h3 : Heap} {sc : Scope} {cl : List (PySem.Str × Addr)} {wr : List Addr} {D L : Addr} {qual : PySem.Str}
    (er : ER h₀ W ad hs env cx) (k0 : Kp hs hR) (k1 : Kp hR h1) (hwr : ∀ b ∈ wr, hR.get? b = none) (lwr : ∀ b ∈ wr, ∃ o, h1.get? b = some o)
    (eD : D = h1.objs.size) (eL : L = h1.objs.size + 1)
    (e3 : h3 = pushCells (((h1.push { cls := .type "list", data := .seq #[] })).push { cls := .type "dict", data := .dict #[] }) sc.names)
    (hsc : scopeOk sc = true) (hcc : cxOf cx sc = some cc)
    (hcl : ∀ p ∈ cl, env.cells.lookup p.1 = some p.2 ∧ (p.1, NameKind.free) ∈ sc.names) (hcl2 : ∀ x, (x, NameKind.free) ∈ sc.names → ∃ c, (x, c) ∈ cl) :
    ER hs (Wr (fun b => Oo W ad env cx b ∨ b = D) wr) ad h3 { newEnv sc L env.globals (cellsFrom (L + 1) sc.names cl) qual none .none (some env) builtinsNs with scope := relabel sc env } cc ∧
    Tr (Oo W ad env cx) hR (Ov (Wr (fun b => Oo W ad env cx b ∨ b = D) wr) { newEnv sc L env.globals (cellsFrom (L + 1) sc.names cl) qual none .none (some env) builtinsNs with scope := relabel sc env }) h3 ∧
    (∀ b, (∃ o, h1.get? b = some o) → b ∉ wr → ¬ Oo W ad env cx b → ¬ Ov (Wr (fun b => Oo W ad env cx b ∨ b = D) wr) { newEnv sc L env.globals (cellsFrom (L + 1) sc.names cl) qual none .none (some env) builtinsNs with scope := relabel sc env } b) ∧
    Kp h1 h3 ∧ PL h3 D #[] := by
  unfold scopeOk at hsc
  rw [Bool.and_eq_true] at hsc
  obtain ⟨hkind, hnd⟩ := hsc
  have hkind' : sc.kind = .function := by simpa using hkind
  unfold cxOf at hcc
  obtain ⟨vs, hvs, rfl⟩ := map_ex hcc
  obtain ⟨fv1, fv2⟩ := freeVals_at hvs
  have s2 : ((h1.push { cls := .type "list", data := .seq #[] })).objs.size = L := by rw [Heap.size_push, eL]
  have s2' : (((h1.push { cls := .type "list", data := .seq #[] })).push { cls := .type "dict", data := .dict #[] }).objs.size = L + 1 := by rw [Heap.size_push, s2]
  have k13 : Kp h1 h3 := fun b o e => by rw [e3]; exact pushCells_keeps _ _ _ _ (Heap.get?_push_of_some _ (Heap.get?_push_of_some _ e))
  have kS3 : Kp hs h3 := (k0.trans k1).trans k13
  have lt1 : ∀ {b o}, h1.get? b = some o → b < h1.objs.size := fun e => Heap.lt_size e
  -- cells
  have cmem : ∀ p ∈ cellsFrom (L + 1) sc.names cl, p ∈ cl ∨ ((p.1, NameKind.cell) ∈ sc.names ∧ L + 1 ≤ p.2) := fun p hp => cells_mem _ _ _ p hp
  have clive : ∀ p ∈ cl, ∃ v, hs.IsCell p.2 v := fun p hp => er.cells p.1 p.2 (hcl p hp).1
  have cllt : ∀ p ∈ cl, p.2 < h1.objs.size := fun p hp => by obtain ⟨v, o, ho, _⟩ := clive p hp; exact lt1 ((k0.trans k1) _ _ ho)
  have old : ∀ b, Oo W ad env cx b → b < h1.objs.size := fun b hb => by obtain ⟨o, ho⟩ := er.live b hb; exact lt1 ((k0.trans k1) _ _ ho)
  have wlt : ∀ b, Wr (fun b => Oo W ad env cx b ∨ b = D) wr b → b < L := fun b hb => by
    rcases hb with (q | q) | q
    · rw [eL]; exact Nat.lt_succ_of_lt (old b q)
    · rw [q, eD, eL]; exact Nat.lt_succ_self _
    · obtain ⟨o, ho⟩ := lwr b q; rw [eL]; exact Nat.lt_succ_of_lt (lt1 ho)
  have notS : ∀ b, b < h1.objs.size → ¬ Oo W ad env cx b → ¬ Stg { newEnv sc L env.globals (cellsFrom (L + 1) sc.names cl) qual none .none (some env) builtinsNs with scope := relabel sc env } b := by
    rintro b hb hno (q | ⟨x, hx⟩)
    · have q' : b = L := q
      exact absurd hb (by rw [q', eL]; exact Nat.not_lt.mpr (Nat.le_succ _))
    · have hm := mem_of_lookup hx
      rcases cmem _ hm with q | ⟨_, q⟩
      · exact hno (.inr (.inl (.inr ⟨x, (hcl _ q).1⟩)))
      · exact absurd hb (Nat.not_lt.mpr (Nat.le_trans (by rw [eL]; exact Nat.le_add_right _ 2) q))
  have noNew : ∀ b, (∃ o, h1.get? b = some o) → b ∉ wr → ¬ Oo W ad env cx b → ¬ Ov (Wr (fun b => Oo W ad env cx b ∨ b = D) wr) { newEnv sc L env.globals (cellsFrom (L + 1) sc.names cl) qual none .none (some env) builtinsNs with scope := relabel sc env } b := by
    rintro b ⟨o, ho⟩ hw hno (((q | q) | q) | q)
    · exact hno q
    · have := lt1 ho; rw [q, eD] at this; exact Nat.lt_irrefl _ this
    · exact hw q
    · exact notS b (lt1 ho) hno q
  have T : Tr (Oo W ad env cx) hR (Ov (Wr (fun b => Oo W ad env cx b ∨ b = D) wr) { newEnv sc L env.globals (cellsFrom (L + 1) sc.names cl) qual none .none (some env) builtinsNs with scope := relabel sc env }) h3 := fun b o e q =>
    ⟨k13 _ _ (k1 _ _ e), noNew b ⟨o, k1 _ _ e⟩ (fun z => by rw [hwr b z] at e; cases e) q⟩
  have uniqC : ∀ x, (x, NameKind.cell) ∈ sc.names → ∃ c, (cellsFrom (L + 1) sc.names cl).lookup x = some c ∧ L + 1 ≤ c := fun x hx => by
    obtain ⟨c, hc⟩ := cells_has sc.names (L + 1) cl x hx
    obtain ⟨c', hc'⟩ := lookup_of_mem hc
    refine ⟨c', hc', ?_⟩
    rcases cmem _ (mem_of_lookup hc') with q | ⟨_, q⟩
    · have := nodupB_uniq hnd hx (hcl _ q).2; cases this
    · exact q
  have uniqF : ∀ x, (x, NameKind.free) ∈ sc.names → ∃ c, (cellsFrom (L + 1) sc.names cl).lookup x = some c ∧ env.cells.lookup x = some c := fun x hx => by
    obtain ⟨c, hc⟩ := hcl2 x hx
    obtain ⟨c', hc'⟩ := lookup_of_mem (cells_acc sc.names (L + 1) cl _ hc)
    refine ⟨c', hc', ?_⟩
    rcases cmem _ (mem_of_lookup hc') with q | ⟨q, _⟩
    · exact (hcl _ q).1
    · have := nodupB_uniq hnd hx q; cases this
  have hlook : ∀ x k, (x, k) ∈ sc.names → (relabel sc env).names.lookup x = some (kindF cx x k) := fun x k hx => by
    rw [relabel_names er, cxKinds_eq]
    exact lookup_mapK (f := kindF cx) (lookup_uniq hnd hx)
  refine ⟨?_, T, noNew, k13, ⟨_, by rw [e3, eD]; exact pushCells_keeps _ _ _ _ (Heap.get?_push_of_some _ (Heap.get?_push_size _ rfl)), rfl, rfl, rfl, _, rfl⟩⟩
  refine { base := kS3, kind := hkind', names := relabel_names er sc, glob := er.glob, bi := er.bi, wl := ?wl, ns := ?ns, nl := ?nl, nl0 := ?nl0, cells := ?cells, cw := ?cw, cinj := ?cinj, mine := ?mine, vars := ?vars, own := ?own, inj := ?inj }
  case wl =>
    rintro b ((q | q) | q)
    · obtain ⟨o, ho⟩ := er.live b q; exact ⟨o, kS3 _ _ ho⟩
    · exact ⟨_, by rw [q, e3, eD]; exact pushCells_keeps _ _ _ _ (Heap.get?_push_of_some _ (Heap.get?_push_size _ rfl))⟩
    · obtain ⟨o, ho⟩ := lwr b q; exact ⟨o, k13 _ _ ho⟩
  case ns =>
    refine ⟨fun _ => none, ?_⟩
    show h3.Ns L _
    rw [e3, ← s2]
    exact (Heap.Ns.new ((h1.push { cls := .type "list", data := .seq #[] })) (.type "dict")).keeps (pushCells_keeps _ _)
  case nl => exact fun q => Nat.lt_irrefl _ (wlt _ q)
  case nl0 =>
    cases q : hs.get? L with
    | none => exact q
    | some o => have := lt1 ((k0.trans k1) _ _ q); rw [eL] at this; exact absurd this (Nat.not_lt.mpr (Nat.le_succ _))
  case cells =>
    intro x c hx
    rcases cells_lay sc.names (((h1.push { cls := .type "list", data := .seq #[] })).push { cls := .type "dict", data := .dict #[] }) cl (x, c) (by rw [s2']; exact mem_of_lookup hx) with q | q
    · obtain ⟨v, o, ho, z⟩ := clive _ q
      exact ⟨v, o, kS3 _ _ ho, z⟩
    · exact ⟨none, by rw [e3]; exact q⟩
  case cw =>
    intro x c hx hw
    rcases cmem _ (mem_of_lookup hx) with q | ⟨_, q⟩
    · obtain ⟨v, o, ho, _⟩ := clive _ q; exact ⟨o, ho⟩
    · exact absurd (wlt c hw) (Nat.not_lt.mpr (Nat.le_of_succ_le q))
  case cinj =>
    intro x y c hx hy
    exact cells_inj sc.names (L + 1) cl (fun p hp => by rw [eL]; exact Nat.lt_succ_of_lt (Nat.lt_succ_of_lt (cllt p hp))) (fun p hp q hq e => er.cinj p.1 q.1 p.2 (hcl p hp).1 (e ▸ (hcl q hq).1)) (x, c) (mem_of_lookup hx) (y, c) (mem_of_lookup hy) rfl
  case mine =>
    intro x hx
    obtain ⟨⟨x', k⟩, hm, rfl⟩ := List.mem_map.mp hx
    obtain ⟨hm, hk⟩ := List.mem_filter.mp hm
    have hl := hlook x' k hm
    rw [Bool.or_eq_true, beq_iff_eq, beq_iff_eq] at hk
    dsimp only at hk
    rcases hk with rfl | rfl
    · exact .inl hl
    · refine .inr ⟨hl, ?_⟩
      obtain ⟨c, hc, hge⟩ := uniqC x' hm
      refine ⟨c, hc, ?_, fun q => absurd (wlt c q) (Nat.not_lt.mpr (Nat.le_of_succ_le hge))⟩
      cases q : hs.get? c with
      | none => rfl
      | some o => exact absurd (lt1 ((k0.trans k1) _ _ q)) (Nat.not_lt.mpr (Nat.le_trans (by rw [eL]; exact Nat.le_add_right _ 2) hge))
  case vars =>
    intro x d hx
    obtain ⟨hf, hv⟩ := fv2 _ (mem_of_lookup hx)
    obtain ⟨hk, -⟩ := fv1 x hf
    obtain ⟨v, lk, rv⟩ := er.vars x d hv
    obtain ⟨c, hc, hc'⟩ := uniqF x hf
    refine ⟨v, .inr ⟨?_, c, hc, ?_⟩, ?_⟩
    · have := hlook x _ hf
      unfold kindF at this
      rw [hk] at this
      exact this
    · rcases lk with ⟨a, _⟩ | ⟨_, c', e', z⟩
      · rw [kindOf_eq er, hk] at a; cases a
      · rw [hc'] at e'; cases e'; exact z.keeps kS3
    · refine rv.tr fun b o e q => ?_
      have := T b o (k0 _ _ e) q
      refine ⟨this.1, fun z => this.2 ((oo_nil rfl b).mp z)⟩
  case own => intro x l hx; cases hx
  case inj => intro x y l l' hx; cases hx
end
end Mine
end
section
open PySem PySem.W PyProof.Rows PySem.Calls PySem.Spec
set_option linter.unusedSectionVars false
set_option linter.unusedVariables false
set_option maxRecDepth 100000
namespace Mine
variable [Inhabited Rho]
section
variable {prog : Program} {w : World} {n : Nat} {gl : PySem.Str → Option Value} {hB : Heap} {h₀ : Heap} {W : Ow} {ad : PySem.Str → Addr} {env : Env} {cx : Cx} {s : Shared} {d : D}

/-- what evComp has looked at -/
structure EC (r : Ev) (cx : Cx) (elt : Expr) (sc : Scope) (out : List D) (g : Comprehension) (gs : List Comprehension) (rows : List (List D)) (cc : Cx) : Prop where
  hga : g.is_async = 0
  hgs : (gs.all fun g' => g'.is_async == 0) = true
  hsc : scopeOk sc = true
  hrows : evI r cx g.target g.iter = some rows
  hcc : cxOf cx sc = some cc
  hun : unbound cc (names g.target) = true
  hloop : loopRows (bodyF r elt g.ifs gs) cc (names g.target) rows = some out
  hlen : out.length ≤ 1000
theorem evComp_ex {r : Ev} {elt : Expr} {gens : List Comprehension} {sc : Scope} {out : List D} (h : evComp r cx elt gens sc = some out) : ∃ g gs rows cc, gens = g :: gs ∧ EC r cx elt sc out g gs rows cc := by
  cases gens with
  | nil => exfalso; exact no_some h
  | cons g gs =>
    obtain ⟨hc, h⟩ := ite_ex h
    obtain ⟨rows, hrows, h⟩ := bind_ex h
    obtain ⟨cc, hcc, h⟩ := bind_ex h
    obtain ⟨hun, h⟩ := ite_ex h
    obtain ⟨out', hloop, h⟩ := bind_ex h
    obtain ⟨hlen, rfl⟩ := ite_eq h
    exact ⟨g, gs, rows, cc, rfl, hc.1, hc.2.1, hc.2.2, hrows, hcc, hun, hloop, hlen⟩
theorem closure_ok (er : ER h₀ W ad s.heap env cx) {sc : Scope} {cc : Cx} (hcc : cxOf cx sc = some cc) : ∃ cl, closureFor sc env = pure cl ∧ (∀ q ∈ cl, env.cells.lookup q.1 = some q.2 ∧ (q.1, NameKind.free) ∈ sc.names) ∧ (∀ x, (x, NameKind.free) ∈ sc.names → ∃ c, (x, c) ∈ cl) := by
  obtain ⟨vs, hvs, hcx⟩ := map_ex hcc
  obtain ⟨fv1, fv2⟩ := freeVals_at hvs
  obtain ⟨cl, ecl, cl1, _, cl3⟩ := closure_ex (env := env) sc.names [] fun x hx => by
    obtain ⟨hk, d, hd⟩ := fv1 x hx
    obtain ⟨v, lk, _⟩ := er.vars x d hd
    rcases lk with ⟨a, _⟩ | ⟨_, c, e, _⟩
    · rw [kindOf_eq er, hk] at a; cases a
    · exact ⟨c, e⟩
  refine ⟨cl, ?_, fun q hq => (cl1 q hq).elim (fun z => nomatch z) id, cl3⟩
  have e : closureFor sc env = ((forIn sc.names [] (fun x r => match x with | (name, kind) => if kind == NameKind.free then do let __do_lift ← cellOf env name; pure (ForInStep.yield ((name, __do_lift) :: r)) else pure (ForInStep.yield r)) : Sem (List (PySem.Str × Addr))) >>= pure) := rfl
  rw [e, ecl]; rfl
theorem comp_sound {r : Ev} (ok : EvOk prog w n hB r) (ns : NoStar r) (B : Bg prog w gl hB) (hb : Kp hB h₀) (er : ER h₀ W ad s.heap env cx) {elt : Expr} {gens : List Comprehension} {sc : Scope} {pos p : Pos} {out : List D}
    (h : evComp r cx elt gens sc = some out) {use : Option (Value → Sem Unit)} {Q E : Value → Shared → Prop}
    (fin : ∀ D C h' tk its O1, Kp s.heap h' → (∃ m, h'.Ns C m) → s.heap.get? C = none → s.heap.get? D = none → C ≠ D → PL h' D its → (∀ b, Oo W ad env cx b → O1 b) → O1 C → RL O1 h' out its.toList → out.length ≤ 1000 →
      compPost (model prog w) (Ar n) E use Q (.ref D) C (.ok .next) { s with heap := h', toks := tk }) :
    wpAny (model prog w) (Ar n) (comprehension (.ListComp elt gens sc pos) sc env p (newList []) (firstAsync gens) (firstIter gens env) use) Q E s := by
  obtain ⟨⟨tgt, iter, ifs, asy⟩, gs, rows, cc, rfl, hC⟩ := evComp_ex h
  obtain rfl : asy = 0 := hC.hga
  have hfa : firstAsync (⟨tgt, iter, ifs, 0⟩ :: gs) = false := rfl
  rw [hfa]
  obtain ⟨hfold, itg⟩ := evI_sound (s := s) (n := n) ok ns B hb er hC.hrows
  have hsc2 := hC.hsc
  unfold scopeOk at hsc2
  rw [Bool.and_eq_true] at hsc2
  obtain ⟨cl, hclos, cl1, cl3⟩ := closure_ok er hC.hcc
  refine wpAny_comprehension_free (g := ⟨tgt, iter, ifs, 0⟩) (gs := gs) rfl hfold hclos (by simpa using hsc2.1) (fun x hx hl => lookup_uniq hsc2.2 (by rw [← hl]; exact hx)) ?_
  show wpAny (model prog w) (Ar n) (eval iter env) _ E s
  refine itg _ _ fun I fp wr St hR h1 tk1 k0 k1 TWk st0 hw hf => ?_
  refine wpAny_newObj_type (new_env ?_)
  have ce := comp_er (hs := s.heap) (hR := hR) (h1 := h1) (sc := sc) (cl := cl) (wr := wr) (D := h1.objs.size) (L := h1.objs.size + 1) (qual := env.qual) er k0 k1 hw (fun b q => TWk.live _ _ st0 b (TWk.sub b q)) rfl rfl rfl hC.hsc hC.hcc cl1 cl3
  dsimp only
  rw [show (h1.push { cls := .type "list", dict := none, data := .seq ([] : List Value).toArray }).objs.size = h1.objs.size + 1 from Heap.size_push ..]
  generalize hcenv : ({ newEnv sc (h1.objs.size + 1) env.globals (cellsFrom (h1.objs.size + 1 + 1) sc.names cl) env.qual none .none (some env) builtinsNs with scope := relabel sc env } : Env) = cenv at ce ⊢
  have hloc : (newEnv sc (h1.objs.size + 1) env.globals (cellsFrom (h1.objs.size + 1 + 1) sc.names cl) env.qual none .none (some env) builtinsNs).locals = cenv.locals := by rw [← hcenv]
  rw [hloc]
  generalize hh3 : pushCells (((h1.push { cls := .type "list", data := .seq #[] })).push { cls := .type "dict", data := .dict #[] }) sc.names = h3 at ce ⊢
  obtain ⟨er3, T3, noNew, k13, il3⟩ := ce
  have hown : cc.own = [] := by
    obtain ⟨vs, _, hcx⟩ := map_ex hC.hcc
    rw [← hcx]
  have D0 : s.heap.get? h1.objs.size = none := fresh_size (k0.trans k1) (size_none _)
  have C0 : s.heap.get? cenv.locals = none := er3.nl0
  have st3 : St 0 h3 := TWk.frame _ _ _ st0 fun b _ o e => k13 b o e
  have hwr : ∀ b ∈ wr, s.heap.get? b = none ∧ ¬ (Oo W ad env cx b ∨ b = h1.objs.size) := fun b q => by
    have f : s.heap.get? b = none := fresh_size k0 (hw b q)
    refine ⟨f, fun z => z.elim (live_fresh er.live f) fun z => ?_⟩
    obtain ⟨o, ho⟩ := TWk.live _ _ st0 b (TWk.sub b q)
    rw [z] at ho; exact absurd (Heap.lt_size ho) (Nat.lt_irrefl _)
  have hfp : ∀ b ∈ fp, b ∈ wr ∨ ¬ Ov (Wr (fun b => Oo W ad env cx b ∨ b = h1.objs.size) wr) cenv b := fun b q => by
    by_cases z : b ∈ wr
    · exact .inl z
    · exact .inr (noNew b (TWk.live _ _ st0 b q) z ((hf b q).elim (fun y => absurd y z) id))
  have CD : cenv.locals ≠ h1.objs.size := by
    rw [← hcenv]; exact Nat.succ_ne_self _
  have hgs' : ∀ g' ∈ gs, g'.is_async = 0 := fun g' q => by
    have := hC.hgs
    rw [List.all_eq_true] at this
    exact beq_iff_eq.mp (this g' q)
  have done : codeAny (model prog w) (Ar n) (.compLoop (.ListComp elt (⟨tgt, iter, ifs, 0⟩ :: gs) sc pos) 0 (.ref I) (.ref h1.objs.size) cenv) (compPost (model prog w) (Ar n) E use Q (.ref h1.objs.size) cenv.locals) { s with heap := h3, toks := tk1 } := by
    refine loops (prog := prog) (w := w) (n := n) (gl := gl) (elt := elt) (G := ⟨tgt, iter, ifs, 0⟩ :: gs) (scope := sc) (pos := pos) (env := cenv) (ad := ad) (D := h1.objs.size) ok ns B (hb.trans er.base) gs 0 tgt iter ifs rfl rfl hgs' cc (fun b => Oo W ad env cx b ∨ b = h1.objs.size) I fp wr rows St h3
      { s with heap := h3, toks := tk1 } [] out _ ⟨D0, hown, hC.hun, .inr rfl, TWk.tr T3, .refl, hwr, hfp, by rw [List.length_nil, Nat.zero_add]; exact hC.hlen⟩ ⟨Nat.zero_le _, ⟨er3, ⟨#[], il3, .nil⟩, fun _ _ _ _ e => e, .refl⟩, st3, hC.hloop, rfl⟩ fun h' tk e' => ?_
    obtain ⟨its, il, rl⟩ := e'.acc
    exact fin h1.objs.size cenv.locals h' tk its (Ov (fun b => Oo W ad env cx b ∨ b = h1.objs.size) cenv) e'.er.base e'.er.ns C0 D0 CD il (fun b q => .inl (.inl q)) (.inr (.inl rfl)) rl hC.hlen
  exact compStart_at rfl done (TWk.self 0 { s with heap := h3, toks := tk1 } _ _ st3 done)

theorem comp_expr {r : Ev} (ok : EvOk prog w n hB r) (ns : NoStar r) (B : Bg prog w gl hB) (hb : Kp hB h₀) (er : ER h₀ W ad s.heap env cx) {elt : Expr} {gens : List Comprehension} {sc : Scope} {pos : Pos} {out : List D}
    (h : evComp r cx elt gens sc = some out) : Gives prog w n (Oo W ad env cx) (eval (.ListComp elt gens sc pos) env) (.list out) s := fun Q E hQ => by
  rw [eval_ListComp]
  refine comp_sound (use := none) ok ns B hb er h fun D C h' tk its O1 k hns C0 D0 CD il sub o1 rl hlen => ?_
  obtain ⟨m, hn⟩ := hns
  refine ⟨m, hn, fun h'' sb => ?_⟩
  have k2 : ∀ b o, b ≠ C → h'.get? b = some o → h''.get? b = some o := fun b o q e => (sb.2 b q).trans e
  refine hQ (.ref D) h'' tk (fun b o e => k2 b o (fun q => by rw [q, C0] at e; cases e) (k b o e)) (.list out D its (fun q => ?_) (let ⟨o, ho, z⟩ := il.isList; ⟨o, k2 _ o (Ne.symm CD) ho, z⟩) (rl.tr fun b o e q => ⟨k2 b o (fun z => q (z ▸ o1)) e, fun z => q (sub b z)⟩))
  obtain ⟨o, ho⟩ := er.live D q
  rw [D0] at ho; cases ho
end
end Mine
end
section
open PySem PySem.W PyProof.Rows PySem.Calls PySem.Spec
set_option linter.unusedSectionVars false
set_option linter.unusedVariables false
set_option maxRecDepth 100000
namespace Mine
variable [Inhabited Rho]

noncomputable def subE (r : Ev) (cx : Cx) (v i : Expr) : Option D := (r cx v).bind fun a => (r cx i).bind fun b => sub a b
noncomputable def slcE (r : Ev) (cx : Cx) (v : Expr) (lo hi st : Option Expr) : Option D := (r cx v).bind fun a => (opt r cx lo).bind fun i => (opt r cx hi).bind fun j => (opt r cx st).bind fun k => slc a i j k
noncomputable def lenOk (f : List D → D) (ds : List D) : Option D := if ds.length ≤ 1000 then some (f ds) else none
noncomputable def Sy.po? : Sy → Option Po
  | .po p => some p
  | _ => none
omit [Inhabited Rho] in
theorem spo_eq {x : Sy} {p : Po} (e : x.po? = some p) : x = .po p := by
  cases x <;> first | exact Option.some.inj e ▸ rfl | (exfalso; exact no_some e)
noncomputable def negE (d : D) : Option D := orr (d.int?.map fun i => .int (-i)) ((d.sy?.bind Sy.po?).map fun p => .sy (.po (Po.neg p)))
noncomputable def ownItem (l : List D) (d : D) : Option D := d.int?.bind fun j => (ixL l.length j).bind (l[·]?)
noncomputable def nameE (P : Pr) (cx : Cx) (x : PySem.Str) : Option D := if (x == ("__debug__" : PySem.Str)) = false then match cx.vars.lookup x with
    | some d => some d
    | none => if gname cx x = true then P x [] else none
  else none
noncomputable def callE (P : Pr) (r : Ev) (cx : Cx) (f : Expr) (args : List Expr) (pos : Pos) : Option D := match f with
  | .Name x _ => evCall P r cx x args
  | .Attribute o name apos => evMeth P r cx o name apos pos args
  | _ => none
noncomputable def Expr.slc? : Expr → Option (Option Expr × Option Expr × Option Expr)
  | .Slice lo hi st _ => some (lo, hi, st)
  | _ => none
omit [Inhabited Rho] in
theorem Expr.slc_eq {e : Expr} {q : Option Expr × Option Expr × Option Expr} (h : Expr.slc? e = some q) : ∃ p, e = .Slice q.1 q.2.1 q.2.2 p := by
  cases e <;> first | (exfalso; exact no_some h) | exact Option.some.inj h ▸ ⟨_, rfl⟩
noncomputable def ownN (cx : Cx) (v : Expr) : Option (PySem.Str × List D) := (Expr.nm? v).bind fun y => (cx.own.lookup y).map fun l => (y, l)
omit [Inhabited Rho] in
theorem ownN_ex {cx : Cx} {v : Expr} {q : PySem.Str × List D} (h : ownN cx v = some q) : (∃ p, v = .Name q.1 p) ∧ cx.own.lookup q.1 = some q.2 := by
  obtain ⟨y, hy, h⟩ := bind_ex h
  obtain ⟨l, hl, rfl⟩ := map_ex h
  exact ⟨Expr.nm_eq hy, hl⟩
noncomputable def subsE (r : Ev) (cx : Cx) (v i : Expr) : Option D := match Expr.slc? i with
  | some q => slcE r cx v q.1 q.2.1 q.2.2
  | none => match ownN cx v with
    | some q => if (q.1 == ("__debug__" : PySem.Str)) = false then (r cx i).bind (ownItem q.2) else none
    | none => subE r cx v i
noncomputable def cmp1 (r : Ev) (cx : Cx) (l : Expr) (op : CmpOp) (e : Expr) : Option D := if behindInMarks op e = false then (r cx l).bind fun a => (r cx e).bind fun b => (cmp op a b).map .bool else none
noncomputable def stepE (P : Pr) (r : Ev) : Ev := fun cx e => match e with
  | .Constant c _ _ => cst c
  | .Name x _ => nameE P cx x
  | .BinOp l op e _ => (r cx l).bind fun a => (r cx e).bind fun b => bin op a b
  | .UnaryOp op x _ => (match op with
    | .USub => (r cx x).bind negE
    | _ => none)
  | .IfExp t a b _ => (tst r cx t).bind fun c => r cx (if c then a else b)
  | .List es _ => (evs r cx es).bind (lenOk .list)
  | .Tuple es _ _ => (evs r cx es).bind (lenOk .tup)
  | .ListComp elt gens sc _ => (evComp r cx elt gens sc).map .list
  | .Call f args kws pos => (match kws with
    | [] => callE P r cx f args pos
    | _ :: _ => none)
  | .Subscript v i _ => subsE r cx v i
  | .Compare l ops es _ => bind2 (one? ops) (one? es) (cmp1 r cx l)
  | _ => none
noncomputable def evN (P : Pr) : Nat → Ev
  | 0 => fun _ _ => none
  | k + 1 => stepE P (evN P k)

section
variable {prog : Program} {w : World} {n : Nat} {gl : PySem.Str → Option Value} {hB : Heap}
theorem evN_star (P : Pr) : ∀ k, NoStar (evN P k)
  | 0 => fun _ _ _ => rfl
  | k + 1 => fun _ _ _ => rfl

theorem lenOk_ex {f : List D → D} {ds : List D} {d : D} (h : lenOk f ds = some d) : ds.length ≤ 1000 ∧ f ds = d := ite_eq h

theorem subE_sound {r : Ev} (ok : EvOk prog w n hB r) {h₀ : Heap} {W : Ow} {ad : PySem.Str → Addr} {env : Env} {cx : Cx} {s : Shared} {d : D} (hb : Kp hB h₀) (er : ER h₀ W ad s.heap env cx) {v i : Expr} {p : Pos} (h : subE r cx v i = some d) :
    Gives prog w n (Oo W ad env cx) (eval (.Subscript v i p) env) d s := by
  obtain ⟨a, ha, h⟩ := bind_ex h
  obtain ⟨b, hb', h⟩ := bind_ex h
  exact subs_sound ok hb er ha hb' h

section
variable {h₀ : Heap} {W : Ow} {ad : PySem.Str → Addr} {env : Env} {cx : Cx} {s : Shared} {d : D}
theorem nameE_sound {P : Pr} (B : Bg prog w gl hB) (pk : PrimOk prog w n gl P hB) (hb : Kp hB h₀) (er : ER h₀ W ad s.heap env cx) {x : PySem.Str} {p : Pos} (h : nameE P cx x = some d) : Gives prog w n (Oo W ad env cx) (eval (.Name x p) env) d s := by
  obtain ⟨q, h⟩ := ite_ex h
  cases hx : cx.vars.lookup x with
  | some d' => rw [hx] at h; exact Option.some.inj h ▸ name_sound er hx q
  | none =>
    rw [hx] at h
    obtain ⟨hg, h⟩ := ite_ex h
    obtain ⟨v, hi, hv⟩ := pk.2 x d h
    exact fun Q E hQ => glob_name (B.at (hb.trans er.base)) er hg hi (hQ _ s.heap s.toks (Kp.refl _) (hv _ _))
theorem negE_sound {r : Ev} (ok : EvOk prog w n hB r) (hb : Kp hB h₀) (er : ER h₀ W ad s.heap env cx) {e : Expr} {p : Pos} (h : (r cx e).bind negE = some d) : Gives prog w n (Oo W ad env cx) (eval (.UnaryOp .USub e p) env) d s := by
  obtain ⟨a, ha, h⟩ := bind_ex h
  rcases orr_some h with h | h
  · obtain ⟨i, hi, rfl⟩ := map_ex h
    exact neg_sound ok hb er (int_eq hi ▸ ha)
  · obtain ⟨q, hq, rfl⟩ := map_ex h
    obtain ⟨y, hy, hq⟩ := bind_ex hq
    exact negP_sound ok hb er ((sy_eq hy).trans (congrArg D.sy (spo_eq hq)) ▸ ha)
theorem subsE_sound {r : Ev} (ok : EvOk prog w n hB r) (hb : Kp hB h₀) (er : ER h₀ W ad s.heap env cx) {v i : Expr} {p : Pos} (h : subsE r cx v i = some d) : Gives prog w n (Oo W ad env cx) (eval (.Subscript v i p) env) d s := by
  unfold subsE at h
  cases hi : Expr.slc? i with
  | some q =>
    rw [hi] at h
    obtain ⟨pp, rfl⟩ := Expr.slc_eq hi
    obtain ⟨a, ha, h⟩ := bind_ex h
    obtain ⟨i, hi, h⟩ := bind_ex h
    obtain ⟨j, hj, h⟩ := bind_ex h
    obtain ⟨k, hk, h⟩ := bind_ex h
    exact slice_sound ok hb er ha hi hj hk h
  | none =>
    rw [hi] at h
    cases ho : ownN cx v with
    | some q =>
      rw [ho] at h
      obtain ⟨⟨pp, rfl⟩, hl⟩ := ownN_ex ho
      obtain ⟨hd, h⟩ := ite_ex h
      obtain ⟨a, ha, h⟩ := bind_ex h
      obtain ⟨j, hj, h⟩ := bind_ex h
      exact subo_sound ok hb er hl hd (int_eq hj ▸ ha) h
    | none => rw [ho] at h; exact subE_sound ok hb er h
theorem cmp1_sound {r : Ev} (ok : EvOk prog w n hB r) (hb : Kp hB h₀) (er : ER h₀ W ad s.heap env cx) {l e : Expr} {op : CmpOp} {p : Pos} (h : cmp1 r cx l op e = some d) : Gives prog w n (Oo W ad env cx) (eval (.Compare l [op] [e] p) env) d s := fun Q E hQ => by
  obtain ⟨hm, h⟩ := ite_ex h
  obtain ⟨a, ha, h⟩ := bind_ex h
  obtain ⟨b, hb', h⟩ := bind_ex h
  obtain ⟨c, hc, rfl⟩ := map_ex h
  refine wpAny_Compare1 (ok cx l a ha h₀ W ad env s hb er _ E fun va h' tk k ra => ok cx e b hb' h₀ W ad env _ hb (er.kp k) _ E fun vb h'' tk' k' rb => ?_) hm
  exact cmp_sound (s := { s with heap := h'', toks := tk' }) (ra.tr (.of_kp k')) rb hc (ar_units n) (hQ _ h'' tk' (k.trans k') (.bool _))
theorem callE_sound {P : Pr} {r : Ev} (ok : EvOk prog w n hB r) (ns : NoStar r) (B : Bg prog w gl hB) (pk : PrimOk prog w n gl P hB) (hb : Kp hB h₀) (er : ER h₀ W ad s.heap env cx) {f : Expr} {args : List Expr} {pos : Pos} (h : callE P r cx f args pos = some d) : Gives prog w n (Oo W ad env cx) (eval (.Call f args [] pos) env) d s := by
  cases f with
  | Name x p => exact evCall_sound ok ns B pk hb er h
  | Attribute o name apos => exact meth_sound ok ns B pk hb er h
  | _ => exfalso; exact no_some h
end
theorem stepE_sound {P : Pr} {r : Ev} (ok : EvOk prog w n hB r) (ns : NoStar r) (B : Bg prog w gl hB) (pk : PrimOk prog w n gl P hB) : EvOk prog w n hB (stepE P r) := fun cx e d h h₀ W ad env s hb er => by
  cases e with
  | Constant c k p => exact cst_sound h
  | Name x p => exact nameE_sound B pk hb er h
  | BinOp l op e p =>
    obtain ⟨a, ha, h⟩ := bind_ex h
    obtain ⟨b, hb', h⟩ := bind_ex h
    exact bin2_sound ok hb er ha hb' h
  | UnaryOp op x p =>
    cases op with
    | USub => exact negE_sound ok hb er h
    | _ => exfalso; exact no_some h
  | IfExp t a b p =>
    obtain ⟨c, hc, h⟩ := bind_ex h
    exact if_sound ok hb er hc h
  | List es p =>
    obtain ⟨ds, hds, h⟩ := bind_ex h
    obtain ⟨hl, rfl⟩ := lenOk_ex h
    exact list_sound ok ns hb er hds hl
  | Tuple es k p =>
    obtain ⟨ds, hds, h⟩ := bind_ex h
    obtain ⟨hl, rfl⟩ := lenOk_ex h
    exact tup_sound ok ns hb er hds hl
  | ListComp elt gens sc p =>
    obtain ⟨out, ho, rfl⟩ := map_ex h
    exact comp_expr ok ns B hb er ho
  | Call f args kws pos =>
    cases kws with
    | nil => exact callE_sound ok ns B pk hb er h
    | cons => exfalso; exact no_some h
  | Subscript v i p => exact subsE_sound ok hb er h
  | Compare l ops es p =>
    obtain ⟨o, e, ho, he, h⟩ := bind2_ex h
    rw [one_eq ho, one_eq he]
    exact cmp1_sound ok hb er h
  | _ => exfalso; exact no_some h
theorem evN_sound {P : Pr} (B : Bg prog w gl hB) (pk : PrimOk prog w n gl P hB) : ∀ k, EvOk prog w n hB (evN P k)
  | 0 => fun _ _ _ h => (no_some h).elim
  | k + 1 => stepE_sound (evN_sound B pk k) (evN_star P k) B pk
end
end Mine
end
section
open PySem PySem.W PyProof.Rows PySem.Calls PySem.Spec
set_option linter.unusedSectionVars false
set_option linter.unusedVariables false
set_option maxRecDepth 100000
namespace Mine
variable [Inhabited Rho]

section
variable {prog : Program} {w : World} {A : Around} {E : Value → Shared → Prop} {s : Shared}
theorem set_pl {l : Addr} {items : Array Value} {k : Int} {t : Tok} {v : Value} {Q : Unit → Shared → Prop} (pl : PL s.heap l items) (h0 : 0 ≤ k) (hfit : k < 2 ^ 63) (hn : k < items.size)
    (hQ : ∀ h', PL h' l (items.setIfInBounds k.toNat v) → Heap.SameBut l s.heap h' → Q () { s with heap := h' }) : wpAny (model prog w) A (setItem (.ref l) (.int k t) v) Q E s := by
  have hl := pl.isList
  obtain ⟨n, ho⟩ := pl.plain
  unfold setItem
  try with_reducible refine wpAny_holding ?_
  first | refine wpAny_bind (wpAny_pure ?_) | skip
  refine wpAny_bind (wpAny_sequenceKey hl.typeIs (by decide) ?_)
  refine wpAny_bind (wpAny_callSpecial?_slot (name := Str.ofString "__setitem__") hl.typeIs slot_list_setitem (wpAny_call_entry slot_list_setitem hl.typeIs entry_list_setitem ?_ (args_list_setitem _ _ _)))
  show wpAny _ _ (Builtin.List.listSubscript? (.int k t) >>= _) _ _ s
  refine wpAny_bind (wpAny_listSubscript_int (fitsIndex_of h0 hfit) ?_)
  obtain ⟨j, rfl⟩ := Int.eq_ofNat_of_zero_le h0
  have hj : j < items.size := by omega
  show wpAny _ _ ((seqItemAt l j >>= fun r => pure (r.map (j, ·))) >>= _) _ _ s
  refine wpAny_bind (wpAny_bind (wpAny_seqItemAt ho rfl (wpAny_pure ?_)))
  rw [Array.getElem?_eq_getElem hj]
  show wpAny _ _ (setSeqItemAt l j v >>= _) _ _ s
  have e : Obj.mapSeq (·.setIfInBounds j v) { cls := .type "list", data := .seq items n } = { cls := .type "list", data := .seq (items.setIfInBounds j v) (n + 1) } ∨ ∃ n', Obj.mapSeq (·.setIfInBounds j v) { cls := .type "list", data := .seq items n } = { cls := .type "list", data := .seq (items.setIfInBounds j v) n' } := .inr ⟨_, rfl⟩
  have e' : ∃ n', Obj.mapSeq (·.setIfInBounds j v) { cls := .type "list", data := .seq items n } = { cls := .type "list", data := .seq (items.setIfInBounds j v) n' } := ⟨_, rfl⟩
  obtain ⟨n', e'⟩ := e'
  have hfin : PL (s.heap.update l (Obj.mapSeq (·.setIfInBounds j v))) l (items.setIfInBounds j v) :=
    ⟨_, Heap.get?_update_self _ ho (by rw [e']; rfl), by rw [e'], by rw [e'], by rw [e'], n', by rw [e']⟩
  refine wpAny_bind (wpAny_setSeqItemAt ho rfl ?_)
  first
    | exact wpAny_bind (wpAny_pure (wpAny_pure ⟨.none, rfl, wpAny_pure (hQ _ hfin (Heap.SameBut.update ..))⟩))
    | exact wpAny_pure ⟨.none, rfl, wpAny_pure (hQ _ hfin (Heap.SameBut.update ..))⟩

end

noncomputable abbrev Xs := Cx → List Stmt → Option (Cx × Option D)
noncomputable def Expr.at? : Expr → Option (Expr × PySem.Str × Pos)
  | .Attribute o m p => some (o, m, p)
  | _ => none
omit [Inhabited Rho] in
theorem Expr.at_eq {e : Expr} {q : Expr × PySem.Str × Pos} (h : Expr.at? e = some q) : e = .Attribute q.1 q.2.1 q.2.2 := by
  cases e <;> first | (exfalso; exact no_some h) | exact Option.some.inj h ▸ rfl
noncomputable def Expr.sb? : Expr → Option (Expr × Expr)
  | .Subscript v i _ => some (v, i)
  | _ => none
omit [Inhabited Rho] in
theorem Expr.sb_eq {e : Expr} {q : Expr × Expr} (h : Expr.sb? e = some q) : ∃ p, e = .Subscript q.1 q.2 p := by
  cases e <;> first | (exfalso; exact no_some h) | exact Option.some.inj h ▸ ⟨_, rfl⟩
noncomputable def Expr.lc? : Expr → Option (Expr × List Comprehension × Scope)
  | .ListComp e g sc _ => some (e, g, sc)
  | _ => none
omit [Inhabited Rho] in
theorem Expr.lc_eq {e : Expr} {q : Expr × List Comprehension × Scope} (h : Expr.lc? e = some q) : ∃ p, e = .ListComp q.1 q.2.1 q.2.2 p := by
  cases e <;> first | (exfalso; exact no_some h) | exact Option.some.inj h ▸ ⟨_, rfl⟩
noncomputable def Expr.nmp? : Expr → Option (PySem.Str × Pos)
  | .Name x p => some (x, p)
  | _ => none
omit [Inhabited Rho] in
theorem Expr.nmp_eq {e : Expr} {q : PySem.Str × Pos} (h : Expr.nmp? e = some q) : e = .Name q.1 q.2 := by
  cases e <;> first | (exfalso; exact no_some h) | exact Option.some.inj h ▸ rfl
/-- a method's call on a name: o.m(e) -/
noncomputable def meth1 : Expr → Option (PySem.Str × PySem.Str × Expr)
  | .Call f args kws cpos => (match kws with
    | [] => (Expr.at? f).bind fun q => bind2 (Expr.nm? q.1) (one? args) fun o e => if (q.2.2.endLine == cpos.line) = true then some (o, q.2.1, e) else none
    | _ :: _ => none)
  | _ => none
noncomputable def namesIn (es : List Expr) : List PySem.Str := es.filterMap Expr.nm?
/-- the lists that a statement hands on, to be changed no more -/
noncomputable def frees : Stmt → List PySem.Str
  | .Return e _ => ((e.bind Expr.nm?).map fun y => [y]).getD []
  | .Assign tgts v _ => ((((one? tgts).bind Expr.tup?).bind fun _ => Expr.tup? v).map namesIn).getD []
  | .Expr c _ => (((meth1 c).bind fun q => Expr.fc? q.2.2).map fun q => namesIn q.2).getD []
  | _ => []
noncomputable def frz (cx : Cx) : List PySem.Str → Cx
  | [] => cx
  | y :: ys => match cx.own.lookup y with
    | some l => frz (cx.set y (.list l)) ys
    | none => frz cx ys
noncomputable def add2 (l m : List D) : Option (List D) := if l.length ≤ 1000 ∧ m.length ≤ 1000 then some (l ++ m) else none
noncomputable def fresh (r : Ev) (cx : Cx) : Expr → Option (List D)
  | .List es _ => (evs r cx es).bind fun ds => if ds.length ≤ 1000 then some ds else none
  | .BinOp a op b _ => (match op with
    | .Add => bind2 ((r cx a).bind D.list?) ((r cx b).bind D.list?) add2
    | _ => none)
  | .Call f args kws _ => (match kws with
    | [] => bind2 (Expr.nm? f) (one? args) fun f e => if gname cx f = true ∧ f = "list" then ((r cx e).bind D.tup?).bind fun l => if l.length ≤ 1000 then some l else none else none
    | _ :: _ => none)
  | _ => none
noncomputable def swap2 (cx : Cx) (x : PySem.Str) (px : Pos) (y : PySem.Str) (py : Pos) (a b : Expr) : Option Bool :=
  if cx.kinds.lookup x == some .local && (cx.kinds.lookup y == some .local && py.line == px.line) then
    if foldedForSure 8 a && foldedForSure 8 b then some false else if constantsAlone 8 a && constantsAlone 8 b then none else some true
  else some false
noncomputable def augII (op : Operator) (i j : Int) : Option D := match op with
  | .Add => some (.int (i + j))
  | .Sub => some (.int (i - j))
  | _ => none
noncomputable def augPP (op : Operator) (p q : Po) : Option D := match op with
  | .Add => some (.sy (.po (Po.add p q)))
  | .Sub => some (.sy (.po (Po.add p (Po.neg q))))
  | _ => none
noncomputable def augI (op : Operator) (a b : D) : Option D := orr (bind2 a.int? b.int? (augII op)) (bind2 (asPo a) (asPo b) (augPP op))
noncomputable def chk (cx : Cx) (y : PySem.Str) : Bool := cx.mine.contains y && !(y == ("__debug__" : PySem.Str))
noncomputable def loopX (x : Xs) (xs : List PySem.Str) (body : List Stmt) : List (List D) → Cx → Option (Cx × Option D)
  | [], cx => some (cx, none)
  | row :: rest, cx => (setAll cx xs row).bind fun cx1 => (x cx1 body).bind fun p => match p.2 with
    | some d => some (p.1, some d)
    | none => loopX x xs body rest p.1
noncomputable def notStar : Expr → Bool
  | .Starred .. => false
  | _ => true
noncomputable def noComp : Expr → Bool
  | .ListComp .. | .SetComp .. | .DictComp .. => false
  | _ => true
noncomputable abbrev XR := Option (Cx × Option D)
noncomputable def setX (cx : Cx) (y : PySem.Str) (o : Option D) : XR := o.map fun d => (cx.set y d, none)
noncomputable def asg1 (r : Ev) (mu : List PySem.Str) (cx : Cx) (y : PySem.Str) (v : Expr) : XR := if chk cx y = true then
  (if mu.contains y = true then (fresh r cx v).map fun l => (cx.setOwn y l, none)
   else orr ((Expr.lc? v).bind fun q => setX cx y ((evComp r cx q.1 q.2.1 q.2.2).map .list)) (if noComp v = true then setX cx y (r cx v) else none)) else none
noncomputable def ok2 (cx : Cx) (a b : PySem.Str) (e f : Expr) : Bool := chk cx a && (chk cx b && (!(a == b) && (notStar e && notStar f)))
noncomputable def asg2 (r : Ev) (cx : Cx) (v : Expr) (a b : PySem.Str × Pos) (ef : Expr × Expr) : XR := if ok2 cx a.1 b.1 ef.1 ef.2 = true then
    (swap2 cx a.1 a.2 b.1 b.2 ef.1 ef.2).bind fun sw => (((r cx v).bind D.tup?).bind pair?).bind fun d => some (if sw then (cx.set b.1 d.2).set a.1 d.1 else (cx.set a.1 d.1).set b.1 d.2, none)
  else none
noncomputable def asgS (r : Ev) (mu : List PySem.Str) (cx : Cx) (t v : Expr) : XR := match Expr.nm? t with
  | some y => asg1 r mu cx y v
  | none => bind2 ((Expr.tup? t).bind pair?) ((Expr.tup? v).bind pair?) fun t ef => bind2 (Expr.nmp? t.1) (Expr.nmp? t.2) fun a b => asg2 r cx v a b ef
noncomputable def augS1 (r : Ev) (cx : Cx) (y : PySem.Str) (op : Operator) (v : Expr) : XR := if chk cx y = true then setX cx y (bind2 (cx.vars.lookup y) (r cx v) (augI op)) else none
noncomputable def augS2 (r : Ev) (cx : Cx) (o i : PySem.Str) (op : Operator) (v : Expr) : XR := if (o == ("__debug__" : PySem.Str)) = false ∧ (i == ("__debug__" : PySem.Str)) = false then
  bind2 (cx.own.lookup o) ((cx.vars.lookup i).bind D.int?) fun l j => if 0 ≤ j ∧ j < l.length ∧ l.length ≤ 1000 then (bind2 l[j.toNat]? (r cx v) (augI op)).map fun d => (cx.upd o (l.set j.toNat d), none) else none
  else none
noncomputable def augS (r : Ev) (cx : Cx) (t : Expr) (op : Operator) (v : Expr) : XR := match Expr.nm? t with
  | some y => augS1 r cx y op v
  | none => (Expr.sb? t).bind fun q => bind2 (Expr.nm? q.1) (Expr.nm? q.2) fun o i => augS2 r cx o i op v
noncomputable def exprR (r : Ev) (cx : Cx) (l : List D) (m : PySem.Str) (e : Expr) : Option (List D) := if l.length ≤ 1000 then
  orr (if m = "append" then (r cx e).map fun d => l ++ [d] else none) (if m = "extend" then (fresh r cx e).bind fun l2 => if l2.length ≤ 1000 then some (l ++ l2) else none else none) else none
noncomputable def exprS (r : Ev) (cx : Cx) (o m : PySem.Str) (e : Expr) : XR := if (o == ("__debug__" : PySem.Str)) = false then (cx.own.lookup o).bind fun l => (exprR r cx l m e).map fun l2 => (cx.upd o l2, none) else none
noncomputable def exS (r : Ev) (mu : List PySem.Str) (x : Xs) (cx : Cx) : Stmt → Option (Cx × Option D)
  | .Return e _ => e.bind fun e => (r cx e).map fun d => (cx, some d)
  | .Assign tgts v _ => (one? tgts).bind fun t => asgS r mu cx t v
  | .AugAssign t op v _ => augS r cx t op v
  | .Expr c _ => (meth1 c).bind fun q => exprS r cx q.1 q.2.1 q.2.2
  | .For tgt it body orelse _ => (match orelse with
    | [] => if ((names tgt).all fun y => chk cx y) = true then (evI r cx tgt it).bind fun rows => loopX x (names tgt) body rows cx else none
    | _ :: _ => none)
  | .If t a b _ => (tst r cx t).bind fun c => x cx (if c then a else b)
  | _ => none
noncomputable def blkS (r : Ev) (mu : List PySem.Str) (x : Xs) : Cx → List Stmt → Option (Cx × Option D)
  | cx, [] => some (cx, none)
  | cx, st :: rest => (exS r mu x (frz cx (frees st)) st).bind fun p => match p.2 with
    | some d => some (p.1, some d)
    | none => blkS r mu x p.1 rest
noncomputable def xsN (r : Ev) (mu : List PySem.Str) : Nat → Xs
  | 0 => fun _ _ => none
  | k + 1 => blkS r mu (xsN r mu k)
end Mine
end
section
open PySem PySem.W PyProof.Rows PySem.Calls PySem.Spec
set_option linter.unusedSectionVars false
set_option linter.unusedVariables false
set_option maxRecDepth 100000
namespace Mine
variable [Inhabited Rho]

noncomputable def FlowIs (O : Ow) (h : Heap) : Option D → Flow → Prop
  | none, fl => fl = .next
  | some d, fl => ∃ v, fl = .ret v ∧ R O h d v
noncomputable def ExG (prog : Program) (w : World) (n : Nat) (h₀ : Heap) (W : Ow) (ad : PySem.Str → Addr) (env : Env) (cx cx' : Cx) (o : Option D) (t : Sem Flow) (s : Shared) : Prop :=
  ∀ (Q : Flow → Shared → Prop) (E : Value → Shared → Prop),
    (∀ fl ad' h' tk, ER h₀ W ad' h' env cx' → Tr (Oo W ad env cx) s.heap (Oo W ad' env cx') h' → KW W s.heap h' → FlowIs (Oo W ad' env cx') h' o fl → Q fl { s with heap := h', toks := tk }) → wpAny (model prog w) (Ar n) t Q E s
noncomputable def XOk (prog : Program) (w : World) (n : Nat) (hB : Heap) (x : Xs) : Prop :=
  ∀ cx sts cx' o, x cx sts = some (cx', o) → ∀ (h₀ : Heap) (W : Ow) (ad : PySem.Str → Addr) (env : Env) (s : Shared), Kp hB h₀ → ER h₀ W ad s.heap env cx → ExG prog w n h₀ W ad env cx cx' o (execs sts env) s

section
variable {prog : Program} {w : World} {n : Nat} {gl : PySem.Str → Option Value} {hB : Heap} {h₀ : Heap} {W : Ow} {ad : PySem.Str → Addr} {env : Env} {cx : Cx} {s : Shared} {d : D}

theorem frz_sound : ∀ (ys : List PySem.Str) (cx : Cx) (h : Heap), ER h₀ W ad h env cx → ER h₀ W ad h env (frz cx ys) ∧ ∀ b, Oo W ad env (frz cx ys) b → Oo W ad env cx b
  | [], cx, h, er => ⟨er, fun _ z => z⟩
  | y :: ys, cx, h, er => by
    unfold frz
    split
    · rename_i l hl
      obtain ⟨a, b⟩ := frz_sound ys _ h (er.freeze hl)
      exact ⟨a, fun c z => oo_set c (b c z)⟩
    · exact frz_sound ys cx h er

theorem chk_mem {y : PySem.Str} (h : chk cx y = true) : y ∈ cx.mine ∧ (y == ("__debug__" : PySem.Str)) = false := by
  unfold chk at h
  rw [Bool.and_eq_true, Bool.not_eq_true'] at h
  exact ⟨by simpa using h.1, h.2⟩
theorem noComp_sw {v : Expr} (h : noComp v = true) (t : Option Expr) (line : Nat) : swapsWith v t line env = pure false := by
  cases v <;> first | rfl | (exfalso; exact Bool.false_ne_true h)

/-- storing what was computed -/
theorem put_sound (er : ER h₀ W ad s.heap env cx) {h₁ : Heap} {tk : Nat} (k : Kp s.heap h₁) {y : PySem.Str} {v : Value} (hy : y ∈ cx.mine) (rv : R (Oo W ad env cx) h₁ d v) {Q : Flow → Shared → Prop} {E : Value → Shared → Prop}
    (hQ : ∀ fl ad' h' tk, ER h₀ W ad' h' env (cx.set y d) → Tr (Oo W ad env cx) s.heap (Oo W ad' env (cx.set y d)) h' → KW W s.heap h' → FlowIs (Oo W ad' env (cx.set y d)) h' none fl → Q fl { s with heap := h', toks := tk }) :
    wpAny (model prog w) (Ar n) (storeName env y v) (fun _ => Q .next) E { s with heap := h₁, toks := tk } := by
  refine store_wp (s := { s with heap := h₁, toks := tk }) (er.kp k) hy fun h₂ tk₂ z => ?_
  obtain ⟨e, T, K⟩ := (er.kp k).set hy rv z
  exact hQ .next ad h₂ tk₂ e ((Tr.of_kp k).trans T) ((KW.of_kp k).trans K) rfl

noncomputable def FreshEnd (W : Ow) (ad : PySem.Str → Addr) (env : Env) (cx : Cx) (s : Shared) (l : List D) (Q : Value → Shared → Prop) : Prop := ∀ a its hb h' tk, Kp s.heap hb → hb.get? a = none → Kp hb h' → RL (Oo W ad env cx) hb l its.toList → PL h' a its → Q (.ref a) { s with heap := h', toks := tk }
theorem list_len {l : List D} {h : Heap} {O : Ow} {its : Array Value} (rl : RL O h l its.toList) (hl : l.length ≤ 1000) : its.size ≤ 1000 := by
  rw [← Array.length_toList, ← rl.length]; exact hl
theorem le_line {n : Nat} (h : n ≤ 2000) : n ≤ sizeLine := by rw [sizeLine_eq]; exact Nat.le_trans h (by decide)
theorem fresh_add {r : Ev} (ok : EvOk prog w n hB r) (hb : Kp hB h₀) (er : ER h₀ W ad s.heap env cx) {a b : Expr} {p : Pos} {da db : D} {l1 l2 l : List D} (h1 : r cx a = some da) (h2 : r cx b = some db) (e1 : da.list? = some l1) (e2 : db.list? = some l2) (h : add2 l1 l2 = some l) {Q E : Value → Shared → Prop}
    (hQ : FreshEnd W ad env cx s l Q) : wpAny (model prog w) (Ar n) (eval (.BinOp a .Add b p) env) Q E s := by
  obtain ⟨hl, rfl⟩ := ite_eq h
  refine wpAny_BinOp (ok cx a _ h1 h₀ W ad env s hb er _ E fun va h' tk k ra => ok cx b _ h2 h₀ W ad env _ hb (er.kp k) _ E fun vb h'' tk' k' rb => ?_)
  obtain ⟨x, i1, rfl, nx, il, rl⟩ := listR (ra.tr (.of_kp (O := Oo W ad env cx) k')) e1
  obtain ⟨y, i2, rfl, ny, jl, rl2⟩ := listR rb e2
  refine list_add (s := { s with heap := h'', toks := tk' }) il jl (le_line (Nat.add_le_add (list_len rl hl.1) (list_len rl2 hl.2))) (hQ _ (i1 ++ i2) h'' _ tk' (k.trans k') (size_none _) (kp_push _ _) ?_ ⟨_, Heap.get?_push_size _ rfl, rfl, rfl, rfl, _, rfl⟩)
  rw [Array.toList_append]
  exact rl2.append rl
theorem fresh_call {r : Ev} (ok : EvOk prog w n hB r) (ns : NoStar r) (B : Bg prog w gl hB) (hb : Kp hB h₀) (er : ER h₀ W ad s.heap env cx) {f : PySem.Str} {p pos : Pos} {e : Expr} {d : D} {l : List D} (hg : gname cx f = true ∧ f = "list") (he : r cx e = some d) (ht : d.tup? = some l) (hl : l.length ≤ 1000) {Q E : Value → Shared → Prop}
    (hQ : FreshEnd W ad env cx s l Q) : wpAny (model prog w) (Ar n) (eval (.Call (.Name f p) [e] [] pos) env) Q E s := by
  refine call_it ok ns B hb er hg.1 (hg.2 ▸ B.list) (ds := [d]) (by unfold evs evs; rw [he]; rfl) (List.cons_ne_nil _ _) fun vs h' tk k rl => ?_
  obtain ⟨v, rfl, rv⟩ := rl.one
  obtain ⟨t, its, rfl, nt, it, rl⟩ := tupR rv ht
  obtain ⟨o, ho, hc, m, hd⟩ := it
  refine call_list_seq (s := { s with heap := h', toks := tk }) (hsz := le_line (Nat.le_trans (list_len rl hl) (by decide))) t (.inr rfl) ho hc hd fun h2 c' hk hD => ?_
  exact hQ _ its h' h2 tk k (size_none _) hk rl ⟨_, hD, rfl, rfl, rfl, _, rfl⟩
theorem fresh_sound {r : Ev} (ok : EvOk prog w n hB r) (ns : NoStar r) (B : Bg prog w gl hB) (hb : Kp hB h₀) (er : ER h₀ W ad s.heap env cx) {v : Expr} {l : List D} (h : fresh r cx v = some l) {Q E : Value → Shared → Prop}
    (hQ : FreshEnd W ad env cx s l Q) : noComp v = true ∧ wpAny (model prog w) (Ar n) (eval v env) Q E s := by
  cases v with
  | List es p =>
    obtain ⟨ds, hds, h⟩ := bind_ex h
    obtain ⟨hl, rfl⟩ := ite_eq h
    refine ⟨rfl, wpAny_List (evs_sound ok ns hb es ds s hds er _ E fun vs h' tk k rl => ?_)⟩
    exact ⟨le_line (by rw [← rl.length]; exact Nat.le_trans hl (by decide)), hQ _ vs.toArray h' _ tk k (size_none _) (kp_push _ _) rl ⟨_, Heap.get?_push_size _ rfl, rfl, rfl, rfl, _, rfl⟩⟩
  | BinOp a op b p =>
    cases op with
    | Add =>
      obtain ⟨l1, l2, h1, h2, h⟩ := bind2_ex h
      obtain ⟨da, h1, e1⟩ := bind_ex h1
      obtain ⟨db, h2, e2⟩ := bind_ex h2
      exact ⟨rfl, fresh_add ok hb er h1 h2 e1 e2 h hQ⟩
    | _ => exfalso; exact no_some h
  | Call f args kws pos =>
    cases kws with
    | nil =>
      obtain ⟨x, e, hf, he, h⟩ := bind2_ex h
      obtain ⟨hg, h⟩ := ite_ex h
      obtain ⟨l', hl', h⟩ := bind_ex h
      obtain ⟨d, hd, ht⟩ := bind_ex hl'
      obtain ⟨hl, rfl⟩ := ite_eq h
      obtain ⟨p, e1⟩ := Expr.nm_eq hf
      rw [e1, one_eq he]
      exact ⟨rfl, fresh_call ok ns B hb er hg hd ht hl hQ⟩
    | cons => exfalso; exact no_some h
  | _ => exfalso; exact no_some h
end
end Mine
end
section
open PySem PySem.W PyProof.Rows PySem.Calls PySem.Spec
set_option linter.unusedSectionVars false
set_option linter.unusedVariables false
set_option maxRecDepth 100000
namespace Mine
variable [Inhabited Rho]
section
variable {prog : Program} {w : World} {n : Nat} {gl : PySem.Str → Option Value} {hB : Heap} {h₀ : Heap} {W : Ow} {ad : PySem.Str → Addr} {env : Env} {cx : Cx} {s : Shared} {d : D}

theorem assignName {y : PySem.Str} {yp pos : Pos} {v : Expr} {M : Model} {A : Around} {E : Value → Shared → Prop} {Q : Flow → Shared → Prop} (hc : noComp v = true)
    (h : wpAny M A (eval v env) (fun v s₁ => wpAny M A (storeName env y v) (fun _ => Q .next) E s₁) E s) : wpAny M A (exec (.Assign [.Name y yp] v pos) env) Q E s :=
  wpAny_Assign_Name h (noComp_sw hc _ _)

theorem comp_assign {r : Ev} (ok : EvOk prog w n hB r) (ns : NoStar r) (B : Bg prog w gl hB) (hb : Kp hB h₀) (er : ER h₀ W ad s.heap env cx) {elt : Expr} {gens : List Comprehension} {sc : Scope} {cp yp pos : Pos} {out : List D} {y : PySem.Str}
    (hy : y ∈ cx.mine) (h : evComp r cx elt gens sc = some out) : ExG prog w n h₀ W ad env cx (cx.set y (.list out)) none (exec (.Assign [.Name y yp] (.ListComp elt gens sc cp) pos) env) s := fun Q E hQ => by
  have hsw : ∃ b, swapsWith (.ListComp elt gens sc cp) (some (.Name y yp)) pos.line env = pure b := ⟨_, rfl⟩
  obtain ⟨b, hsw⟩ := hsw
  cases b with
  | false => exact wpAny_Assign_Name (comp_expr ok ns B hb er h _ E fun v h' tk k rv => put_sound er k hy rv hQ) hsw
  | true =>
    rw [exec_Assign_Name_used _ _ _ _ hsw]
    refine wpAny_bind (wpAny_standAt (wpAny_bind ?_))
    show wpAny _ (Ar n) (do let _ ← comprehension (.ListComp elt gens sc cp) sc env _ (newList []) (firstAsync gens) (firstIter gens env) (some (assign (.Name y yp) env))) _ _ s
    refine wpAny_bind (wpAny_mono (comp_sound (use := some (assign (.Name y yp) env)) (Q := fun _ s' => Q .next s') ok ns B hb er h fun D C h' tk its O1 k hns C0 D0 CD il sub o1 rl hlen => ?_) (fun _ s' hq => wpAny_pure (wpAny_pure hq)) fun _ _ e => e)
    obtain ⟨m, hn⟩ := hns
    obtain ⟨eg, Tg⟩ := er.grow (M := fun b => b = C) k (fun b q => by rw [q]; exact C0) (fun b q => by rw [q]; obtain ⟨o, _, _, ho, _⟩ := hn; exact ⟨o, ho⟩)
    have nD : ¬ Oo (fun b => W b ∨ b = C) ad env cx D := by
      intro q
      have : Oo W ad env cx D := by
        rcases q with (q | q) | q | q
        · exact .inl q
        · exact absurd q.symm CD
        · exact .inr (.inl q)
        · exact .inr (.inr q)
      obtain ⟨o, ho⟩ := er.live D this
      rw [D0] at ho; cases ho
    have rv : R (Oo (fun b => W b ∨ b = C) ad env cx) h' (.list out) (.ref D) := .list out D its nD il.isList (rl.tr (.sub fun b q => by
      rcases q with (q | q) | q | q
      · exact sub b (.inl q)
      · rw [q]; exact o1
      · exact sub b (.inr (.inl q))
      · exact sub b (.inr (.inr q))))
    show wpAny _ (Ar n) (assign (.Name y yp) env (.ref D)) _ _ _
    refine wpAny_assign_Name (store_wp (s := { s with heap := h', toks := tk }) eg hy fun h₂ tk₂ z => ?_)
    obtain ⟨e2, T2, K2⟩ := eg.set hy rv z
    have hn2 : h₂.Ns C m := ns_at hn fun o ho => K2 C (.inr rfl) o ho
    refine ⟨m, hn2, fun h₃ sb => ?_⟩
    have hC₀ : h₀.get? C = none := by
      cases q : h₀.get? C with
      | none => rfl
      | some o => have := er.base C o q; rw [C0] at this; cases this
    have nW : ∀ b, b = C → h₀.get? b = none ∧ ¬ W b := fun b q => by
      subst q
      exact ⟨hC₀, fun wb => by obtain ⟨o, ho⟩ := er.wl b wb; rw [C0] at ho; cases ho⟩
    obtain ⟨e3, T3⟩ := e2.drop (M := fun b => b = C) (h' := h₃) nW fun b o e q => (sb.2 b q).trans e
    refine hQ .next ad h₃ tk₂ e3 ((Tg.trans T2).trans T3) (fun b wb o e => ?_) rfl
    have nb : b ≠ C := fun q => (nW b q).2 wb
    exact (sb.2 b nb).trans (K2 b (.inl wb) o (k b o e))

theorem swap2_sound (er : ER h₀ W ad s.heap env cx) {x y : PySem.Str} {px py tp vp : Pos} {k vk : Nat} {a b : Expr} {sw : Bool} (hxy : (x == y) = false) (hab : (∀ v p, a ≠ .Starred v p) ∧ (∀ v p, b ≠ .Starred v p)) (h : swap2 cx x px y py a b = some sw) :
    swappedStores [.Tuple [.Name x px, .Name y py] k tp] (.Tuple [a, b] vk vp) env = pure (if sw then some [x, y] else none) := by
  have hbk : env.blockKind = .function := by unfold Env.blockKind; rw [er.kind]; rfl
  have kx := kindOf_eq er x
  have ky := kindOf_eq er y
  have st : ([a, b].any fun | .Starred .. => true | _ => false) = false := by
    have : ∀ e : Expr, (∀ v p, e ≠ .Starred v p) → (match e with | .Starred .. => true | _ => false) = false := fun e he => by
      cases e <;> first | rfl | exact (he _ _ rfl).elim
    simp only [List.any_cons, List.any_nil, Bool.or_false]
    rw [this a hab.1, this b hab.2]; rfl
  have key : ∀ nm : List PySem.Str, ([Expr.Name x px, Expr.Name y py].filterMap fun | .Name id pos => if env.kindOf id == some .local && pos.line == px.line then some id else none | _ => none) = nm →
      swappedStores [.Tuple [.Name x px, .Name y py] k tp] (.Tuple [a, b] vk vp) env = (if nm.length != 2 || nm.eraseDups.length != nm.length then pure none
        else if [a, b].all (foldedForSure 8) then pure none else if [a, b].all (constantsAlone 8) then (do unsupported "assign.tuple-of-constant-expressions:order-of-the-stores"; pure (some nm)) else pure (some nm)) := by
    intro nm hnm
    subst hnm
    unfold swappedStores
    show (if (!(2 == 2 || 2 == 3) || 2 != 2 || env.blockKind != .function) = true then _ else _) = _
    rw [if_neg (by rw [hbk]; decide)]
    show (if ([a, b].any fun | .Starred .. => true | _ => false) = true then _ else _) = _
    rw [if_neg (by rw [st]; decide)]
    rfl
  have fm : ([Expr.Name x px, Expr.Name y py].filterMap fun | .Name id pos => if env.kindOf id == some .local && pos.line == px.line then some id else none | _ => none) =
      (if env.kindOf x == some .local && px.line == px.line then [x] else []) ++ (if env.kindOf y == some .local && py.line == px.line then [y] else []) := by
    rw [List.filterMap_cons, List.filterMap_cons, List.filterMap_nil]
    dsimp only
    cases (env.kindOf x == some NameKind.local && px.line == px.line) <;> cases (env.kindOf y == some NameKind.local && py.line == px.line) <;> rfl
  rw [key _ fm]
  unfold swap2 at h
  split at h
  · rename_i hc
    rw [Bool.and_eq_true, Bool.and_eq_true] at hc
    obtain ⟨c1, c2, c3⟩ := hc
    have l1 : (env.kindOf x == some NameKind.local && px.line == px.line) = true := by rw [kx, c1]; simp
    have l2 : (env.kindOf y == some NameKind.local && py.line == px.line) = true := by rw [ky, c2, c3]; rfl
    rw [if_pos l1, if_pos l2]
    have dd : ([x] ++ [y]).eraseDups.length = 2 := by
      have : (y == x) = false := by
        rw [beq_eq_false_iff_ne] at hxy ⊢
        exact Ne.symm hxy
      simp [List.eraseDups_cons, this]
    rw [if_neg (by rw [dd]; exact Bool.false_ne_true)]
    split at h
    · rename_i hf
      cases h
      have : ([a, b].all (foldedForSure 8)) = true := by simpa using hf
      rw [if_pos this]; rfl
    · rename_i hf
      split at h
      · exfalso; first | exact no_some h | cases h
      · rename_i hg
        cases h
        have f1 : ([a, b].all (foldedForSure 8)) = false := by simpa using hf
        have f2 : ([a, b].all (constantsAlone 8)) = false := by simpa using hg
        rw [f1, f2]; rfl
  · rename_i hc
    cases h
    rw [if_pos]
    · rfl
    · by_cases l1 : (env.kindOf x == some NameKind.local && px.line == px.line) = true
      · by_cases l2 : (env.kindOf y == some NameKind.local && py.line == px.line) = true
        · refine absurd ?_ hc
          rw [Bool.and_eq_true] at l1 l2
          rw [← kx, ← ky, l1.1, l2.1, l2.2]; rfl
        · rw [if_pos l1, if_neg l2]; rfl
      · by_cases l2 : (env.kindOf y == some NameKind.local && py.line == px.line) = true
        · rw [if_neg l1, if_pos l2]; rfl
        · rw [if_neg l1, if_neg l2]; rfl
end
end Mine
end
section
open PySem PySem.W PyProof.Rows PySem.Calls PySem.Spec
set_option linter.unusedSectionVars false
set_option linter.unusedVariables false
set_option maxRecDepth 100000
namespace Mine
variable [Inhabited Rho]
section
variable {prog : Program} {w : World} {n : Nat} {gl : PySem.Str → Option Value} {hB : Heap} {h₀ : Heap} {W : Ow} {ad : PySem.Str → Addr} {env : Env} {cx cx' : Cx} {s : Shared} {d : D} {o : Option D}

theorem turn_pull {M : Model} {A : Around} {E : Value → Shared → Prop} {I : Addr} {tgt : Expr} {N : Shared → Prop} {Bq : Unit → Shared → Prop}
    (h : wpAny M A (pyNext (.ref I)) (fun r s₁ => match r with
      | none => False
      | some v => wpAny M A (letOwnedTupleGo tgt (.ref I) v) (fun _ s₂ => wpAny M A (assign tgt env v) Bq E s₂) E s₁) E s) :
    wpAny M A (pyNext (.ref I)) (fun r s₁ => match r with
      | none => N s₁
      | some v => wpAny M A (letOwnedTupleGo tgt (.ref I) v) (fun _ s₂ => wpAny M A (assign tgt env v) Bq E s₂) E s₁) E s := by
  refine wpAny_mono h (fun r s₁ h₁ => ?_) fun _ _ e => e
  cases r with
  | none => exact h₁.elim
  | some v => exact h₁
theorem star_of {e : Expr} (h : notStar e = true) : ∀ v p, e ≠ .Starred v p := by
  rintro v p rfl
  exact Bool.false_ne_true h
/-- what is known of a for's loop -/
structure FC (prog : Program) (w : World) (n : Nat) (h₀ : Heap) (W : Ow) (ad : PySem.Str → Addr) (env : Env) (cx : Cx) (tgt : Expr) (I : Addr) (fp wr : List Addr) (rows : List (List D)) (St : Nat → Heap → Prop) (h1 : Heap) : Prop where
  T : TW prog w (Ar n) tgt I fp wr rows (Oo (Wr W wr) ad env cx) h1 St
  hwr : ∀ b ∈ wr, h₀.get? b = none ∧ ¬ W b
  hfp : ∀ b ∈ fp, b ∈ wr ∨ ¬ Oo (Wr W wr) ad env cx b
  st0 : St 0 h1
  hm : ∀ y ∈ names tgt, y ∈ cx.mine
/-- at its head -/
structure FI (h₀ : Heap) (W : Ow) (ad : PySem.Str → Addr) (env : Env) (cx cx' : Cx) (o : Option D) (x : Xs) (body : List Stmt) (tgt : Expr) (wr : List Addr) (rows : List (List D)) (St : Nat → Heap → Prop) (hs h1 : Heap) (i : Nat) (cxi : Cx) (adi : PySem.Str → Addr) (h : Heap) : Prop where
  hi : i ≤ rows.length
  er : ER h₀ (Wr W wr) adi h env cxi
  st : St i h
  mi : cxi.mine = cx.mine
  t1 : Tr (Oo (Wr W wr) ad env cx) h1 (Oo (Wr W wr) adi env cxi) h
  k : KW W hs h
  ts : Tr (Oo W ad env cx) hs (Oo (Wr W wr) adi env cxi) h
  lr : loopX x (names tgt) body (rows.drop i) cxi = some (cx', o)
/-- behind it -/
structure FE (h₀ : Heap) (W : Ow) (ad : PySem.Str → Addr) (env : Env) (cx : Cx) (wr : List Addr) (hs : Heap) (adj : PySem.Str → Addr) (cxj : Cx) (h3 h4 : Heap) : Prop where
  er : ER h₀ W adj h4 env cxj
  tr : Tr (Oo W ad env cx) hs (Oo W adj env cxj) h4
  k : KW W hs h4
  t4 : Tr (Oo (Wr W wr) adj env cxj) h3 (Oo W adj env cxj) h4
section
variable {tgt : Expr} {I : Addr} {fp wr : List Addr} {rows : List (List D)} {St : Nat → Heap → Prop} {h1 h2 h3 h4 : Heap} {i : Nat} {cxi cxj : Cx} {adi adj : PySem.Str → Addr} {x : Xs} {body : List Stmt}
theorem FC.fin (C : FC prog w n h₀ W ad env cx tgt I fp wr rows St h1) {hs : Heap} (e : ER h₀ (Wr W wr) adj h3 env cxj) (K : KW W hs h3) (T : Tr (Oo W ad env cx) hs (Oo (Wr W wr) adj env cxj) h3) (kk : ∀ b o, b ∉ wr → h3.get? b = some o → h4.get? b = some o) : FE h₀ W ad env cx wr hs adj cxj h3 h4 := by
  obtain ⟨e', T'⟩ := e.drop (M := fun b => b ∈ wr) (h' := h4) C.hwr fun b o q z => kk b o z q
  exact ⟨e', T.trans T', fun b wb o q => kk b o (fun z => (C.hwr b z).2 wb) (K b wb o q), T'⟩
/-- the state when the next turn has begun -/
theorem FC.keep (C : FC prog w n h₀ W ad env cx tgt I fp wr rows St h1) {h5 : Heap} {ad5 : PySem.Str → Addr} {cx1 cx2 : Cx} (st3 : St i h3) (t13 : Tr (Oo (Wr W wr) ad env cx) h1 (Oo (Wr W wr) adi env cxi) h3) (T4 : Tr (Oo (Wr W wr) adi env cxi) h3 (Oo (Wr W wr) adj env cx1) h4) (T5 : Tr (Oo (Wr W wr) adj env cx1) h4 (Oo (Wr W wr) ad5 env cx2) h5) (K4 : KW (Wr W wr) h3 h4) (K5 : KW (Wr W wr) h4 h5) : St i h5 :=
  C.T.frame _ _ _ st3 fun b q o e => by
    rcases C.hfp b q with z | z
    · exact K5 b (.inr z) o (K4 b (.inr z) o e)
    · obtain ⟨o1, ho1⟩ := C.T.live _ _ C.st0 b q
      have z2 := t13 b o1 ho1 z
      have z3 := T4 b o e z2.2
      exact (T5 b o z3.1 z3.2).1
theorem FC.turn (C : FC prog w n h₀ W ad env cx tgt I fp wr rows St h1) (xo : XOk prog w n hB x) (hb : Kp hB h₀) (mineX : ∀ cx sts p, x cx sts = some p → p.1.mine = cx.mine) {tk2 : Nat} (Z : FI h₀ W ad env cx cx' o x body tgt wr rows St s.heap h1 i cxi adi h2) {N : Shared → Prop} {Q : Flow → Shared → Prop} {E : Value → Shared → Prop}
    (hz : ∀ adj h4 tk, FE h₀ W ad env cx wr s.heap adj cx' h2 h4 → o = none → N { s with heap := h4, toks := tk })
    (hn : ∀ cx2 ad5 h5 tk, i < rows.length → FI h₀ W ad env cx cx' o x body tgt wr rows St s.heap h1 (i + 1) cx2 ad5 h5 → Q .next { s with heap := h5, toks := tk })
    (hr : ∀ v d ad5 h5 tk, o = some d → FE h₀ W ad env cx wr s.heap ad5 cx' h5 h5 → R (Oo W ad5 env cx') h5 d v → Q (.ret v) { s with heap := h5, toks := tk }) :
    wpAny (model prog w) (Ar n) (pyNext (.ref I)) (fun r s₁ => match r with
      | none => N s₁
      | some v => wpAny (model prog w) (Ar n) (letOwnedTupleGo tgt (.ref I) v) (fun _ s₂ => wpAny (model prog w) (Ar n) (assign tgt env v) (fun _ s₃ => wpAny (model prog w) (Ar n) (execs body env) Q E s₃) E s₂) E s₁) E { s with heap := h2, toks := tk2 } := by
  by_cases hlt : i < rows.length
  · have hrow : rows[i]? = some (rows[i]'hlt) := List.getElem?_eq_getElem hlt
    have hl := Z.lr
    rw [List.drop_eq_getElem_cons hlt] at hl
    obtain ⟨cx1, hset, hl⟩ := bind_ex hl
    obtain ⟨⟨cx2, o2⟩, hx, hl⟩ := bind_ex hl
    refine turn_pull (C.T.turn i { s with heap := h2, toks := tk2 } env _ _ _ hrow Z.st fun vals h3 tk3 rl hlen st3 k3 => ?_)
    have e3 : ER h₀ (Wr W wr) adi h3 env cxi := Z.er.frame (fun b => b ∈ wr) (fun b q => ⟨.inr q, (C.hwr b q).1⟩) (fun b o e q => k3 b o q e) (fun b q => C.T.live _ _ st3 b (C.T.sub b q))
    have t3 : Tr (Oo (Wr W wr) adi env cxi) h2 (Oo (Wr W wr) adi env cxi) h3 := fun b o e q => ⟨k3 b o (fun z => q (.inl (.inr z))) e, q⟩
    refine sto_sound (names tgt) _ vals cxi cx1 { s with heap := h3, toks := tk3 } e3 (fun y hy => by rw [Z.mi]; exact C.hm y hy) (rl.tr (Z.t1.trans t3)) hset fun h4 tk4 e4 T4 K4 => ?_
    refine xo cx1 body cx2 o2 hx h₀ (Wr W wr) adi env { s with heap := h4, toks := tk4 } hb e4 _ _ fun fl ad5 h5 tk5 e5 T5 K5 F5 => ?_
    have TT : Tr (Oo (Wr W wr) adi env cxi) h2 (Oo (Wr W wr) ad5 env cx2) h5 := t3.trans (T4.trans T5)
    have K25 : KW W s.heap h5 := KW.trans Z.k fun b wb o q => K5 b (.inl wb) o (K4 b (.inl wb) o (k3 b o (fun z => (C.hwr b z).2 wb) q))
    have st5 : St (i + 1) h5 := C.keep st3 (Z.t1.trans t3) T4 T5 K4 K5
    cases o2 with
    | none =>
      obtain rfl : fl = .next := F5
      exact hn cx2 ad5 h5 tk5 hlt ⟨hlt, e5, st5, by rw [mineX _ _ _ hx, (setAll_same _ _ _ _ hset).2.1, Z.mi], Z.t1.trans TT, K25, Z.ts.trans TT, hl⟩
    | some dd =>
      obtain ⟨rfl, rfl⟩ := Prod.mk.inj (Option.some.inj hl)
      obtain ⟨v, rfl, rv⟩ := F5
      have f := C.fin (h4 := h5) e5 K25 (Z.ts.trans TT) fun _ _ _ e => e
      exact hr v dd ad5 h5 tk5 rfl f (rv.tr f.t4)
  · have hi' : i = rows.length := Nat.le_antisymm Z.hi (Nat.not_lt.mp hlt)
    have hl := Z.lr
    rw [hi', List.drop_length] at hl
    obtain ⟨rfl, rfl⟩ := Prod.mk.inj (Option.some.inj hl)
    exact C.T.done { s with heap := h2, toks := tk2 } _ _ (hi' ▸ Z.st) fun h4 tk4 k4 => hz adi h4 tk4 (C.fin Z.er Z.k Z.ts k4) rfl
end
theorem for_sound {r : Ev} (ok : EvOk prog w n hB r) (ns : NoStar r) (B : Bg prog w gl hB) {x : Xs} (xo : XOk prog w n hB x) (hb : Kp hB h₀) (er : ER h₀ W ad s.heap env cx) {tgt it : Expr} {body : List Stmt} {pos : Pos} {rows : List (List D)}
    (hm : ∀ y ∈ names tgt, y ∈ cx.mine) (mineX : ∀ cx sts p, x cx sts = some p → p.1.mine = cx.mine) (hrows : evI r cx tgt it = some rows) (h : loopX x (names tgt) body rows cx = some (cx', o)) :
    ExG prog w n h₀ W ad env cx cx' o (exec (.For tgt it body [] pos) env) s := fun Q E hQ => by
  obtain ⟨hfold, itg⟩ := evI_sound (s := s) (n := n) ok ns B hb er hrows
  refine wpAny_For (itg _ _ fun I fp wr St hR h1 tk1 k0 k1 TW0 st0 hw hf => ?_) hfold
  obtain ⟨er1, T1⟩ := (er.kp k0).grow (M := fun b => b ∈ wr) k1 hw (fun b q => TW0.live _ _ st0 b (TW0.sub b q))
  have C : FC prog w n h₀ W ad env cx tgt I fp wr rows St h1 := by
    refine ⟨TW0.tr T1, fun b q => ?_, fun b q => ?_, st0, hm⟩
    · have f : s.heap.get? b = none := fresh_size k0 (hw b q)
      exact ⟨fresh_size er.base f, live_fresh er.wl f⟩
    · refine (Classical.em (b ∈ wr)).imp id fun z y => ?_
      rcases hf b q with q' | q'
      · exact z q'
      · rcases y with (y | y) | y
        · exact q' (.inl y)
        · exact z y
        · exact q' (.inr y)
  refine codeAny_forLoop_any (fun m s' => ∃ i cxi adi h tk, s' = { s with heap := h, toks := tk } ∧ m = rows.length + 1 - i ∧ FI h₀ W ad env cx cx' o x body tgt wr rows St s.heap h1 i cxi adi h) ?_ (rows.length + 1)
    ⟨0, cx, ad, h1, tk1, rfl, rfl, Nat.zero_le _, er1, st0, rfl, .refl, .of_kp (k0.trans k1), (fun b e q z => T1 b e (k0 b e q) z), h⟩
  rintro m s' ⟨i, cxi, adi, h2, tk2, rfl, rfl, Z⟩
  refine C.turn xo hb mineX Z (fun adj h4 tk f e => ?_) (fun cx2 ad5 h5 tk hlt Z' => ⟨rows.length + 1 - (i + 1), by omega, i + 1, cx2, ad5, h5, tk, rfl, rfl, Z'⟩) fun v d ad5 h5 tk e f rv => ?_
  · subst e
    exact wpAny_execs_nil (hQ .next adj h4 tk f.er f.tr f.k rfl)
  · subst e
    exact hQ (.ret v) ad5 h5 tk f.er f.tr f.k ⟨v, rfl, rv⟩
end
end Mine
end
section
open PySem PySem.W PyProof.Rows PySem.Calls PySem.Spec
set_option linter.unusedSectionVars false
set_option linter.unusedVariables false
set_option maxRecDepth 100000
namespace Mine
variable [Inhabited Rho]

noncomputable def MineX (x : Xs) : Prop := ∀ cx sts p, x cx sts = some p → p.1.mine = cx.mine
theorem loopX_mine {x : Xs} (mx : MineX x) {xs : List PySem.Str} {body : List Stmt} : ∀ (rows : List (List D)) (cx : Cx) (p : Cx × Option D), loopX x xs body rows cx = some p → p.1.mine = cx.mine
  | [], cx, p, h => Option.some.inj h ▸ rfl
  | row :: rest, cx, p, h => by
    obtain ⟨cx1, h1, h⟩ := bind_ex h
    obtain ⟨⟨cx2, o2⟩, h2, h⟩ := bind_ex h
    have e := (mx _ _ _ h2).trans (setAll_same _ _ _ _ h1).2.1
    cases o2 with
    | none => exact (loopX_mine mx rest cx2 p h).trans e
    | some d => rw [← Option.some.inj h]; exact e
theorem frz_mine : ∀ (ys : List PySem.Str) (cx : Cx), (frz cx ys).mine = cx.mine
  | [], cx => rfl
  | y :: ys, cx => by
    unfold frz
    split
    · exact frz_mine ys _
    · exact frz_mine ys cx

section
variable {prog : Program} {w : World} {n : Nat} {gl : PySem.Str → Option Value} {hB : Heap} {h₀ : Heap} {W : Ow} {ad : PySem.Str → Addr} {env : Env} {cx cx' : Cx} {s : Shared} {d : D} {o : Option D}

/-- what op makes of two numbers -/
noncomputable def AugEnd (prog : Program) (w : World) (op : Operator) (d : D) (va vb : Value) : Prop := ∃ i j k t u, va = .int i t ∧ vb = .int j u ∧ (∀ (O' : Ow) (h' : Heap) (t' : Tok), R O' h' d (.int k t')) ∧
    ∀ (A : Around) (s : Shared) (Q : Value → Shared → Prop) (E : Value → Shared → Prop), (∀ t' tk, Q (.int k t') { s with toks := tk }) → wpAny (model prog w) A (inplaceOp op (.int i t) (.int j u)) Q E s
theorem augI_sound {op : Operator} {a b : D} (h : augI op a b = some d) {O : Ow} {h₁ : Heap} {va vb : Value} (ra : R O h₁ a va) (rb : R O h₁ b vb) : AugEnd prog w op d va vb := by
  rcases orr_some h with h | h
  · obtain ⟨i, j, hi, hj, h⟩ := bind2_ex h
    obtain ⟨t, rfl⟩ := intR ra hi
    obtain ⟨u, rfl⟩ := intR rb hj
    cases op with
    | Add => exact ⟨i, j, _, t, u, rfl, rfl, fun _ _ t' => Option.some.inj h ▸ .int _ _, fun A s Q E hQ => iadd_int (hQ _ _)⟩
    | Sub => exact ⟨i, j, _, t, u, rfl, rfl, fun _ _ t' => Option.some.inj h ▸ .int _ _, fun A s Q E hQ => isub_int (hQ _ _)⟩
    | _ => exfalso; exact no_some h
  · obtain ⟨p, q, hp, hq, h⟩ := bind2_ex h
    obtain ⟨t, rfl⟩ := asPo_R ra hp
    obtain ⟨u, rfl⟩ := asPo_R rb hq
    cases op with
    | Add => exact ⟨_, _, _, t, u, rfl, rfl, fun _ _ t' => Option.some.inj h ▸ poR _ (Po.ev_add _ _).symm, fun A s Q E hQ => iadd_int (hQ _ _)⟩
    | Sub => exact ⟨_, _, _, t, u, rfl, rfl, fun _ _ t' => Option.some.inj h ▸ poR _ (by rw [Po.ev_add, Po.ev_neg, Int.sub_eq_add_neg]), fun A s Q E hQ => isub_int (hQ _ _)⟩
    | _ => exfalso; exact no_some h

omit [Inhabited Rho] in
theorem meth1_ex {c : Expr} {q : PySem.Str × PySem.Str × Expr} (h : meth1 c = some q) : ∃ onp apos cpos, c = .Call (.Attribute (.Name q.1 onp) q.2.1 apos) [q.2.2] [] cpos ∧ (apos.endLine == cpos.line) = true := by
  cases c with
  | Call f args kws cpos =>
    cases kws with
    | nil =>
      obtain ⟨a, ha, h⟩ := bind_ex h
      obtain ⟨o, e, ho, he, h⟩ := bind2_ex h
      obtain ⟨hl, rfl⟩ := ite_eq h
      obtain ⟨p, e1⟩ := Expr.nm_eq ho
      exact ⟨p, a.2.2, cpos, by rw [Expr.at_eq ha, e1, one_eq he], hl⟩
    | cons => exfalso; exact no_some h
  | _ => exfalso; exact no_some h

/-- a list of one's own, changed by a method -/
theorem own_put (er : ER h₀ W ad s.heap env cx) {h₁ : Heap} {tk : Nat} (k : Kp s.heap h₁) {x : PySem.Str} {l₀ l : List D} (hx : cx.own.lookup x = some l₀) {its : Array Value} {h₂ : Heap} (sb : Heap.SameBut (ad x) h₁ h₂) (pl : PL h₂ (ad x) its) (rl : RL (Oo W ad env cx) h₁ l its.toList) {Q : Flow → Shared → Prop}
    (hQ : ∀ fl ad' h' tk, ER h₀ W ad' h' env (cx.upd x l) → Tr (Oo W ad env cx) s.heap (Oo W ad' env (cx.upd x l)) h' → KW W s.heap h' → FlowIs (Oo W ad' env (cx.upd x l)) h' none fl → Q fl { s with heap := h', toks := tk }) : Q .next { s with heap := h₂, toks := tk } := by
  obtain ⟨e, T, K⟩ := (er.kp k).change hx sb pl rl
  exact hQ .next ad h₂ tk e ((Tr.of_kp k).trans T) ((KW.of_kp k).trans K) rfl

theorem app_sound {r : Ev} (ok : EvOk prog w n hB r) (ns : NoStar r) (hb : Kp hB h₀) (er : ER h₀ W ad s.heap env cx) {e : Expr} {x : PySem.Str} {onp apos cpos pos : Pos} {l : List D} (hline : (apos.endLine == cpos.line) = true) (hd : (x == ("__debug__" : PySem.Str)) = false)
    (hx : cx.own.lookup x = some l) (hl : l.length ≤ 1000) (hr : r cx e = some d) : ExG prog w n h₀ W ad env cx (cx.upd x (l ++ [d])) none (exec (.Expr (.Call (.Attribute (.Name x onp) "append" apos) [e] [] cpos) pos) env) s := fun Q E hQ => by
  obtain ⟨lk, _, _, its, pl, rl⟩ := er.own x l hx
  refine wpAny_Expr_any (e := .Call (.Attribute (.Name x onp) "append" apos) [e] [] cpos) ?_ (by unfold interactive; rw [er.kind]; rfl) rfl
  have hs := star_ne (env := env) (rest := []) (ne_star ns hr)
  refine wpAny_Call_method_late rfl (by rw [hs]; rfl) hline rfl (wpAny_Name (load_lk er.kind lk ?_) hd)
  refine ⟨"list", _, F.plainAttrs_list, slot_list_append, F.type_list_append, pl.isList.typeIs, (fun a e => by cases e; obtain ⟨o, ho, _, hdd, _⟩ := pl; exact ⟨o, ho, hdd⟩), ?_⟩
  refine callWith_method1 (he := hs) (hplain := rfl) (args_cons (ok cx e d hr h₀ W ad env s hb er _ E fun v h1 tk k rv => args_nil ?_) hs)
  have pl1 : PL h1 (ad x) its := let ⟨o, ho, z⟩ := pl; ⟨o, k _ o ho, z⟩
  refine wpAny_list_append_plain (s := { s with heap := h1, toks := tk }) (hsz := le_line (Nat.le_trans (list_len rl hl) (by decide))) pl1.plain fun h2 il2 sb => ?_
  refine own_put er k hx sb (.of il2) ?_ hQ
  rw [Array.toList_push]
  exact RL.append (.cons _ _ _ _ rv .nil) (rl.tr (.of_kp k))
theorem ext_sound {r : Ev} (ok : EvOk prog w n hB r) (ns : NoStar r) (B : Bg prog w gl hB) (hb : Kp hB h₀) (er : ER h₀ W ad s.heap env cx) {e : Expr} {x : PySem.Str} {onp apos cpos pos : Pos} {l l3 : List D} (hline : (apos.endLine == cpos.line) = true) (hd : (x == ("__debug__" : PySem.Str)) = false)
    (hx : cx.own.lookup x = some l) (hl : l.length ≤ 1000) (hr : fresh r cx e = some l3) (hl3 : l3.length ≤ 1000) : ExG prog w n h₀ W ad env cx (cx.upd x (l ++ l3)) none (exec (.Expr (.Call (.Attribute (.Name x onp) "extend" apos) [e] [] cpos) pos) env) s := fun Q E hQ => by
  obtain ⟨lk, _, _, its, pl, rl⟩ := er.own x l hx
  refine wpAny_Expr_any (e := .Call (.Attribute (.Name x onp) "extend" apos) [e] [] cpos) ?_ (by unfold interactive; rw [er.kind]; rfl) rfl
  have hse : ∀ v p, e ≠ .Starred v p := by
    rintro v p rfl
    exact no_some hr
  have hs := star_ne (env := env) (rest := []) hse
  refine wpAny_Call_method_late (trees := [(false, eval e env)]) rfl (by rw [hs]; rfl) hline (by rw [hs]; rfl) (wpAny_Name (load_lk er.kind lk ?_) hd)
  refine ⟨"list", _, F.plainAttrs_list, F.slot_list_extend, F.type_list_extend, pl.isList.typeIs, (fun a e => by cases e; obtain ⟨o, ho, _, hdd, _⟩ := pl; exact ⟨o, ho, hdd⟩), ?_⟩
  refine PySem.P.extend_list (fresh_sound ok ns B hb er hr fun b ys hb' h1 tk k1 na k2 rlb plb => ?_).2
  have k := k1.trans k2
  have pl1 : PL h1 (ad x) its := let ⟨o, ho, z⟩ := pl; ⟨o, k _ o ho, z⟩
  have q1 := list_len rl hl
  have q2 := list_len rlb hl3
  obtain ⟨n1, ho1⟩ := pl1.plain
  obtain ⟨n2, ho2⟩ := plb.plain
  refine ⟨b, its, ys, n1, n2, le_line (Nat.le_trans q1 (by decide)), Nat.le_succ_of_le (le_line (Nat.add_le_add q1 q2)), ?_, rfl, ho1, ho2, ?_⟩
  · have : Builtin.List.listTooLong (its.size + ys.size) = false := by unfold Builtin.List.listTooLong; rw [sizeLine_eq]; simp; omega
    rw [this]; simp
  · have e' : ∃ n', Obj.mapSeq (· ++ ys) { cls := .type "list", data := .seq its n1 } = { cls := .type "list", data := .seq (its ++ ys) n' } := ⟨_, rfl⟩
    obtain ⟨n', e'⟩ := e'
    refine own_put (its := its ++ ys) er k hx (Heap.SameBut.update ..) ⟨_, Heap.get?_update_self _ ho1 (by rw [e']; rfl), by rw [e'], by rw [e'], by rw [e'], n', by rw [e']⟩ ?_ hQ
    rw [Array.toList_append]
    exact (rlb.tr (.of_kp k2)).append (rl.tr (.of_kp k))
theorem exprS_sound {r : Ev} (ok : EvOk prog w n hB r) (ns : NoStar r) (B : Bg prog w gl hB) (hb : Kp hB h₀) (er : ER h₀ W ad s.heap env cx) {e : Expr} {x m : PySem.Str} {onp apos cpos pos : Pos} (hline : (apos.endLine == cpos.line) = true) (h : exprS r cx x m e = some (cx', o)) :
    ExG prog w n h₀ W ad env cx cx' o (exec (.Expr (.Call (.Attribute (.Name x onp) m apos) [e] [] cpos) pos) env) s := by
  obtain ⟨hd, h⟩ := ite_ex h
  obtain ⟨l, hx, h⟩ := bind_ex h
  obtain ⟨l2, h2, h⟩ := map_ex h
  obtain ⟨rfl, rfl⟩ := Prod.mk.inj h
  obtain ⟨hl, h2⟩ := ite_ex h2
  rcases orr_some h2 with h2 | h2
  · obtain ⟨rfl, h2⟩ := ite_ex h2
    obtain ⟨d, hr, rfl⟩ := map_ex h2
    exact app_sound ok ns hb er hline hd hx hl hr
  · obtain ⟨rfl, h2⟩ := ite_ex h2
    obtain ⟨l3, hr, h2⟩ := bind_ex h2
    obtain ⟨hl3, rfl⟩ := ite_eq h2
    exact ext_sound ok ns B hb er hline hd hx hl hr hl3

theorem asg1_sound {r : Ev} (ok : EvOk prog w n hB r) (ns : NoStar r) (B : Bg prog w gl hB) {mu : List PySem.Str} (hb : Kp hB h₀) (er : ER h₀ W ad s.heap env cx) {y : PySem.Str} {yp pos : Pos} {v : Expr} (h : asg1 r mu cx y v = some (cx', o)) :
    ExG prog w n h₀ W ad env cx cx' o (exec (.Assign [.Name y yp] v pos) env) s := by
  obtain ⟨hc, h⟩ := ite_ex h
  obtain ⟨hy, hyd⟩ := chk_mem hc
  by_cases hmu : mu.contains y = true
  · rw [if_pos hmu] at h
    obtain ⟨l, hl, h⟩ := map_ex h
    rw [← (Prod.mk.inj h).1, ← (Prod.mk.inj h).2]
    intro Q E hQ
    have hn : noComp v = true := (fresh_sound (Q := fun _ _ => True) (E := E) ok ns B hb er hl (fun _ _ _ _ _ _ _ _ _ _ => trivial)).1
    refine assignName hn (fresh_sound ok ns B hb er hl fun a its hb' h' tk k1 na k2 rl pl => ?_).2
    refine store_wp (s := { s with heap := h', toks := tk }) (er.kp (k1.trans k2)) hy fun h₂ tk₂ z => ?_
    obtain ⟨e, T, K⟩ := (er.kp k1).setOwn hy na k2 rl pl z
    exact hQ .next _ h₂ tk₂ e ((Tr.of_kp k1).trans T) ((KW.of_kp k1).trans K) rfl
  · rw [if_neg hmu] at h
    rcases orr_some h with h | h
    · obtain ⟨q, hq, h⟩ := bind_ex h
      obtain ⟨d, hd, h⟩ := map_ex h
      rw [← (Prod.mk.inj h).1, ← (Prod.mk.inj h).2]
      obtain ⟨out, ho, e⟩ := map_ex hd
      obtain ⟨p, e2⟩ := Expr.lc_eq hq
      rw [← e, e2]
      exact comp_assign ok ns B hb er hy ho
    · obtain ⟨hn, h⟩ := ite_ex h
      obtain ⟨d, hd, h⟩ := map_ex h
      rw [← (Prod.mk.inj h).1, ← (Prod.mk.inj h).2]
      intro Q E hQ
      exact assignName hn (ok cx v d hd h₀ W ad env s hb er _ E fun v h' tk k rv => put_sound er k hy rv hQ)
/-- two names get two values -/
theorem two_sound (er : ER h₀ W ad s.heap env cx) {h2 : Heap} {tk : Nat} {a b : PySem.Str} {da db : D} {va vb : Value} (ca : chk cx a = true) (cb : chk cx b = true) (k : Kp s.heap h2) (ra : R (Oo W ad env cx) h2 da va) (rb : R (Oo W ad env cx) h2 db vb) {Q : Flow → Shared → Prop} {E : Value → Shared → Prop}
    (hQ : ∀ fl ad' h' tk, ER h₀ W ad' h' env ((cx.set a da).set b db) → Tr (Oo W ad env cx) s.heap (Oo W ad' env ((cx.set a da).set b db)) h' → KW W s.heap h' → FlowIs (Oo W ad' env ((cx.set a da).set b db)) h' none fl → Q fl { s with heap := h', toks := tk }) :
    wpAny (model prog w) (Ar n) (storeName env a va) (fun _ s₁ => wpAny (model prog w) (Ar n) (storeName env b vb) (fun _ => Q .next) E s₁) E { s with heap := h2, toks := tk } :=
  sto_sound (M := model prog w) (A := Ar n) (E := E) (Q := fun _ => Q .next) [a, b] [da, db] [va, vb] cx _ { s with heap := h2, toks := tk } (er.kp k) (all_cons (chk_mem ca).1 (all_cons (chk_mem cb).1 all_nil)) (.cons _ _ _ _ ra (.cons _ _ _ _ rb .nil)) rfl
    fun h3 tk3 e3 T3 K3 => hQ .next ad h3 tk3 e3 ((Tr.of_kp k).trans T3) ((KW.of_kp k).trans K3) rfl
theorem asg2_sound {r : Ev} (ok : EvOk prog w n hB r) (hb : Kp hB h₀) (er : ER h₀ W ad s.heap env cx) {a b : PySem.Str × Pos} {e f : Expr} {k vk : Nat} {tp vp pos : Pos} (h : asg2 r cx (.Tuple [e, f] vk vp) a b (e, f) = some (cx', o)) :
    ExG prog w n h₀ W ad env cx cx' o (exec (.Assign [.Tuple [.Name a.1 a.2, .Name b.1 b.2] k tp] (.Tuple [e, f] vk vp) pos) env) s := by
  obtain ⟨hc, h⟩ := ite_ex h
  unfold ok2 at hc
  rw [Bool.and_eq_true, Bool.and_eq_true, Bool.and_eq_true, Bool.and_eq_true, Bool.not_eq_true'] at hc
  obtain ⟨ca, cb, hab, se, sf⟩ := hc
  obtain ⟨sw, hsw, h⟩ := bind_ex h
  obtain ⟨dd, hd, h⟩ := bind_ex h
  obtain ⟨l, hl, hd⟩ := bind_ex hd
  obtain ⟨dt, hr, ht⟩ := bind_ex hl
  rw [← (Prod.mk.inj (Option.some.inj h)).1, ← (Prod.mk.inj (Option.some.inj h)).2]
  have hsws := swap2_sound (k := k) (tp := tp) (vk := vk) (vp := vp) er hab ⟨star_of se, star_of sf⟩ hsw
  have et : dt = .tup [dd.1, dd.2] := by rw [tup_eq ht, pair_eq hd]
  rw [et] at hr
  clear h et ht hl hd
  intro Q E hQ
  cases sw with
  | false =>
    refine Assign_Tuple (ok cx _ _ hr h₀ W ad env s hb er _ E fun v h' tk kk rv => ?_) rfl hsws
    obtain ⟨t, its, rfl, nt, it, rl⟩ := rv.tup_v
    have q1 : (2 : Nat) = its.size := rl.length
    refine wpAny_assign_Tuple (s := { s with heap := h', toks := tk }) rfl it q1 rfl fun h2 he => ?_
    have k2 : Kp h' h2 := fun b o e => he b o (Nat.ne_of_lt (Heap.lt_size e)) e
    obtain ⟨va, vb, hv, r1, r2⟩ := rl.two
    rw [hv]
    show wpAny _ (Ar n) (assignInOrder [assign (.Name a.1 a.2) env, assign (.Name b.1 b.2) env] [va, vb]) _ E _
    refine assignInOrder_cons (wpAny_assign_Name (wpAny_mono (two_sound er ca cb (kk.trans k2) (r1.tr (.of_kp k2)) (r2.tr (.of_kp k2)) hQ) (fun _ s₁ h₁ => ?_) fun _ _ e => e))
    exact assignInOrder_cons (wpAny_assign_Name (wpAny_mono h₁ (fun _ s₂ h₂ => assignInOrder_nil h₂) fun _ _ e => e))
  | true =>
    refine Assign_Tuple_swapped (names := [a.1, b.1]) (ok cx _ _ hr h₀ W ad env s hb er _ E fun v h' tk kk rv => ?_) rfl hsws
    obtain ⟨t, its, rfl, nt, it, rl⟩ := rv.tup_v
    have q1 : (2 : Nat) = its.size := rl.length
    show wpAny _ (Ar n) (unpackItems (.ref t) 2 none) _ E _
    rw [q1]
    refine wpAny_unpackItems_tuple (s := { s with heap := h', toks := tk }) rfl it fun h2 he => ?_
    have k2 : Kp h' h2 := fun b o e => he b o (Nat.ne_of_lt (Heap.lt_size e)) e
    obtain ⟨va, vb, hv, r1, r2⟩ := rl.two
    rw [hv]
    show wpAny _ (Ar n) (assignInOrder [bindName env b.1, bindName env a.1] [vb, va]) _ E _
    refine assignInOrder_cons (wpAny_bindName (wpAny_mono (two_sound er cb ca (kk.trans k2) (r2.tr (.of_kp k2)) (r1.tr (.of_kp k2)) hQ) (fun _ s₁ h₁ => ?_) fun _ _ e => e))
    exact assignInOrder_cons (wpAny_bindName (wpAny_mono h₁ (fun _ s₂ h₂ => assignInOrder_nil h₂) fun _ _ e => e))
theorem asgS_sound {r : Ev} (ok : EvOk prog w n hB r) (ns : NoStar r) (B : Bg prog w gl hB) {mu : List PySem.Str} (hb : Kp hB h₀) (er : ER h₀ W ad s.heap env cx) {t v : Expr} {pos : Pos} (h : asgS r mu cx t v = some (cx', o)) : ExG prog w n h₀ W ad env cx cx' o (exec (.Assign [t] v pos) env) s := by
  unfold asgS at h
  cases hn : Expr.nm? t with
  | some y =>
    rw [hn] at h
    obtain ⟨yp, rfl⟩ := Expr.nm_eq hn
    exact asg1_sound ok ns B hb er h
  | none =>
    rw [hn] at h
    obtain ⟨tt, ef, ht, hv, h⟩ := bind2_ex h
    obtain ⟨a, b, ha, hb', h⟩ := bind2_ex h
    obtain ⟨ts, ht1, ht2⟩ := bind_ex ht
    obtain ⟨vs, hv1, hv2⟩ := bind_ex hv
    obtain ⟨k, tp, e1⟩ := Expr.tup_eq ht1
    obtain ⟨vk, vp, e2⟩ := Expr.tup_eq hv1
    rw [pair_eq hv2] at e2
    rw [pair_eq ht2, Expr.nmp_eq ha, Expr.nmp_eq hb'] at e1
    rw [e2] at h
    rw [e1, e2]
    exact asg2_sound ok hb er h
theorem augS1_sound {r : Ev} (ok : EvOk prog w n hB r) (hb : Kp hB h₀) (er : ER h₀ W ad s.heap env cx) {y : PySem.Str} {yp pos : Pos} {op : Operator} {v : Expr} (h : augS1 r cx y op v = some (cx', o)) : ExG prog w n h₀ W ad env cx cx' o (exec (.AugAssign (.Name y yp) op v pos) env) s := by
  obtain ⟨hc, h⟩ := ite_ex h
  obtain ⟨hy, hyd⟩ := chk_mem hc
  obtain ⟨d, hd, h⟩ := map_ex h
  rw [← (Prod.mk.inj h).1, ← (Prod.mk.inj h).2]
  obtain ⟨a, b, e1, e2, hop⟩ := bind2_ex hd
  obtain ⟨u, lk, ru⟩ := er.vars y _ e1
  intro Q E hQ
  refine wpAny_AugAssign_Name (load_lk er.kind lk (ok cx v _ e2 h₀ W ad env s hb er _ E fun v h' tk k rv => ?_))
  obtain ⟨i, j, z, t, t1, rfl, rfl, hR, hop⟩ := augI_sound (prog := prog) (w := w) hop (ru.tr (.of_kp k)) rv
  exact hop _ _ _ _ fun t2 tk2 => put_sound (tk := tk2) er k hy (hR _ _ _) hQ
theorem augS2_sound {r : Ev} (ok : EvOk prog w n hB r) (hb : Kp hB h₀) (er : ER h₀ W ad s.heap env cx) {x i : PySem.Str} {xp ip sp pos : Pos} {op : Operator} {v : Expr} (h : augS2 r cx x i op v = some (cx', o)) :
    ExG prog w n h₀ W ad env cx cx' o (exec (.AugAssign (.Subscript (.Name x xp) (.Name i ip) sp) op v pos) env) s := by
  obtain ⟨hc, h⟩ := ite_ex h
  obtain ⟨l, j, hx, hi, h⟩ := bind2_ex h
  obtain ⟨hj, h⟩ := ite_ex h
  obtain ⟨d, hd, h⟩ := map_ex h
  rw [← (Prod.mk.inj h).1, ← (Prod.mk.inj h).2]
  obtain ⟨a, b, e1, e2, hop⟩ := bind2_ex hd
  obtain ⟨di, hi1, hi2⟩ := bind_ex hi
  obtain ⟨lk, _, _, its, pl, rl⟩ := er.own x l hx
  obtain ⟨u, lki, ru⟩ := er.vars i _ hi1
  have q1 : l.length = its.size := rl.length
  obtain ⟨t, rfl⟩ := intR ru hi2
  intro Q E hQ
  refine wpAny_AugAssign_Subscript (wpAny_Name (load_lk er.kind lk (wpAny_Name (load_lk er.kind lki ?_) hc.2)) hc.1)
  refine item_list_gives (n := n) (O := Oo W ad env cx) (d := a) pl.isList rl (by unfold ixL; rw [if_pos hj.1, if_pos (by omega)]; exact e1) _ E fun old h1 tk1 k1 ro => ?_
  refine ok cx v _ e2 h₀ W ad env { s with heap := h1, toks := tk1 } hb (er.kp k1) _ E fun vv h2 tk2 k2 rv => ?_
  obtain ⟨i', j', z, t1, t2, rfl, rfl, hR, hop⟩ := augI_sound (prog := prog) (w := w) hop (ro.tr (.of_kp k2)) rv
  refine hop _ _ _ _ fun t3 tk3 => ?_
  have kk := k1.trans k2
  have pl2 : PL h2 (ad x) its := let ⟨o, ho, z⟩ := pl; ⟨o, kk _ o ho, z⟩
  refine set_pl (s := { s with heap := h2, toks := tk3 }) pl2 hj.1 (by omega) (by omega) fun h3 pl3 sb => ?_
  refine own_put (tk := tk3) er kk hx sb pl3 ?_ hQ
  rw [Array.toList_setIfInBounds]
  exact RL.set (hR _ _ _) (rl.tr (.of_kp kk)) _
theorem augS_sound {r : Ev} (ok : EvOk prog w n hB r) (hb : Kp hB h₀) (er : ER h₀ W ad s.heap env cx) {t v : Expr} {op : Operator} {pos : Pos} (h : augS r cx t op v = some (cx', o)) : ExG prog w n h₀ W ad env cx cx' o (exec (.AugAssign t op v pos) env) s := by
  unfold augS at h
  cases hn : Expr.nm? t with
  | some y =>
    rw [hn] at h
    obtain ⟨yp, rfl⟩ := Expr.nm_eq hn
    exact augS1_sound ok hb er h
  | none =>
    rw [hn] at h
    obtain ⟨q, hq, h⟩ := bind_ex h
    obtain ⟨x, i, hx, hi, h⟩ := bind2_ex h
    obtain ⟨p, e1⟩ := Expr.sb_eq hq
    obtain ⟨xp, e2⟩ := Expr.nm_eq hx
    obtain ⟨ip, e3⟩ := Expr.nm_eq hi
    rw [e2, e3] at e1
    rw [e1]
    exact augS2_sound ok hb er h
theorem ex_sound {r : Ev} (ok : EvOk prog w n hB r) (ns : NoStar r) (B : Bg prog w gl hB) {mu : List PySem.Str} {x : Xs} (xo : XOk prog w n hB x) (mx : MineX x) (hb : Kp hB h₀) (er : ER h₀ W ad s.heap env cx) {st : Stmt} (h : exS r mu x cx st = some (cx', o)) :
    ExG prog w n h₀ W ad env cx cx' o (exec st env) s := by
  cases st with
  | Return e p =>
    obtain ⟨e, rfl, h⟩ := bind_ex h
    obtain ⟨d, hd, h⟩ := map_ex h
    obtain ⟨rfl, rfl⟩ := Prod.mk.inj h
    refine fun Q E hQ => wpAny_Return_some (ok cx e d hd h₀ W ad env s hb er _ E fun v h' tk k rv => ?_)
    exact hQ (.ret v) ad h' tk (er.kp k) (.of_kp k) (.of_kp k) ⟨v, rfl, rv⟩
  | Assign tgts v p =>
    obtain ⟨t, ht, h⟩ := bind_ex h
    rw [one_eq ht]
    exact asgS_sound ok ns B hb er h
  | AugAssign t op v p => exact augS_sound ok hb er h
  | Expr c p =>
    obtain ⟨q, hm, h1⟩ := bind_ex h
    obtain ⟨onp, apos, cpos, rfl, hline⟩ := meth1_ex hm
    exact exprS_sound ok ns B hb er hline h1
  | For tgt it body orelse p =>
    cases orelse with
    | nil =>
      obtain ⟨hc, h⟩ := ite_ex h
      obtain ⟨rows, hrows, h⟩ := bind_ex h
      rw [List.all_eq_true] at hc
      exact for_sound ok ns B xo hb er (fun y hy => (chk_mem (hc y hy)).1) mx hrows h
    | cons => exfalso; exact no_some h
  | If t a b p =>
    obtain ⟨c, hc, h⟩ := bind_ex h
    refine fun Q E hQ => wpAny_If (tst_sound ok hb er hc _ E fun h' tk k => ?_)
    have step := xo cx _ cx' o h h₀ W ad env { s with heap := h', toks := tk } hb (er.kp k) Q E fun fl ad' h2 tk2 e2 T2 K2 F2 => hQ fl ad' h2 tk2 e2 ((Tr.of_kp k).trans T2) ((KW.of_kp k).trans K2) F2
    cases c <;> exact step
  | _ => exfalso; exact no_some h

noncomputable def Keeps (cx : Cx) (o : XR) : Prop := ∀ p, o = some p → p.1.mine = cx.mine
theorem Keeps.map {α : Type} {a : Option α} {f : α → Cx × Option D} (h : ∀ z, (f z).1.mine = cx.mine) : Keeps cx (a.map f) := fun p e => by
  obtain ⟨z, _, rfl⟩ := map_ex e
  exact h z
theorem Keeps.bind {α : Type} {a : Option α} {f : α → XR} (h : ∀ z, Keeps cx (f z)) : Keeps cx (a.bind f) := fun p e => by
  obtain ⟨z, _, e⟩ := bind_ex e
  exact h z p e
theorem Keeps.bind2 {α β : Type} {a : Option α} {b : Option β} {f : α → β → XR} (h : ∀ z y, Keeps cx (f z y)) : Keeps cx (bind2 a b f) := Keeps.bind fun z => Keeps.bind fun y => h z y
theorem Keeps.ite {c : Prop} [Decidable c] {a : XR} (h : Keeps cx a) : Keeps cx (if c then a else none) := fun p e => h p (ite_ex e).2
theorem Keeps.orr {a b : XR} (h : Keeps cx a) (g : Keeps cx b) : Keeps cx (orr a b) := fun p e => (orr_some e).elim (h p) (g p)
theorem Keeps.none : Keeps cx none := fun p e => (no_some e).elim
theorem asg1_mine {r : Ev} {mu : List PySem.Str} {y : PySem.Str} {v : Expr} : Keeps cx (asg1 r mu cx y v) := by
  refine Keeps.ite ?_
  by_cases h : mu.contains y = true
  · rw [if_pos h]; exact Keeps.map fun _ => rfl
  · rw [if_neg h]; exact Keeps.orr (Keeps.bind fun _ => Keeps.map fun _ => rfl) (Keeps.ite (Keeps.map fun _ => rfl))
theorem exS_keeps {r : Ev} {mu : List PySem.Str} {x : Xs} (mx : MineX x) {st : Stmt} : Keeps cx (exS r mu x cx st) := by
  cases st with
  | Return e p => exact Keeps.bind fun _ => Keeps.map fun _ => rfl
  | Assign tgts v p =>
    refine Keeps.bind fun t => ?_
    unfold asgS
    cases Expr.nm? t with
    | some y => exact asg1_mine
    | none => exact Keeps.bind2 fun t ef => Keeps.bind2 fun a b => Keeps.ite (Keeps.bind fun sw => Keeps.bind fun d p e => by rw [← Option.some.inj e]; cases sw <;> rfl)
  | AugAssign t op v p =>
    show Keeps cx (augS r cx t op v)
    unfold augS
    cases Expr.nm? t with
    | some y => exact Keeps.ite (Keeps.map fun _ => rfl)
    | none => exact Keeps.bind fun _ => Keeps.bind2 fun _ _ => Keeps.ite (Keeps.bind2 fun _ _ => Keeps.ite (Keeps.map fun _ => rfl))
  | Expr c p => exact Keeps.bind fun _ => Keeps.ite (Keeps.bind fun _ => Keeps.map fun _ => rfl)
  | For tgt it body orelse p =>
    cases orelse with
    | nil => exact Keeps.ite (Keeps.bind fun rows p e => loopX_mine mx rows cx p e)
    | cons => exact Keeps.none
  | If t a b p => exact Keeps.bind fun c p e => mx _ _ _ e
  | _ => exact Keeps.none
theorem exS_mine {r : Ev} {mu : List PySem.Str} {x : Xs} (mx : MineX x) {st : Stmt} {p : Cx × Option D} (h : exS r mu x cx st = some p) : p.1.mine = cx.mine := exS_keeps mx p h
theorem blk_mine {r : Ev} {mu : List PySem.Str} {x : Xs} (mx : MineX x) : MineX (blkS r mu x) := by
  intro cx sts
  induction sts generalizing cx with
  | nil => exact fun p h => Option.some.inj h ▸ rfl
  | cons st rest ih =>
    intro p h
    obtain ⟨⟨cx1, o1⟩, h1, h⟩ := bind_ex h
    have m1 := (exS_mine mx h1).trans (frz_mine _ _)
    cases o1 with
    | some d => rw [← Option.some.inj h]; exact m1
    | none => exact (ih cx1 p h).trans m1
theorem blk_sound {r : Ev} (ok : EvOk prog w n hB r) (ns : NoStar r) (B : Bg prog w gl hB) {mu : List PySem.Str} {x : Xs} (xo : XOk prog w n hB x) (mx : MineX x) : XOk prog w n hB (blkS r mu x) := by
  intro cx sts
  induction sts generalizing cx with
  | nil =>
    intro cx' o h h₀ W ad env s hb er
    obtain ⟨rfl, rfl⟩ := Prod.mk.inj (Option.some.inj h)
    exact fun Q E hQ => wpAny_execs_nil (hQ .next ad s.heap s.toks er .refl (fun _ _ _ e => e) rfl)
  | cons st rest ih =>
    intro cx' o h h₀ W ad env s hb er
    obtain ⟨⟨cx1, o1⟩, h1, h⟩ := bind_ex h
    obtain ⟨erf, sub⟩ := frz_sound (frees st) cx s.heap er
    have ex1 := ex_sound ok ns B xo mx hb erf h1
    have Tf : Tr (Oo W ad env cx) s.heap (Oo W ad env (frz cx (frees st))) s.heap := .sub sub
    refine fun Q E hQ => wpAny_execs_cons (ex1 _ E fun fl ad' h' tk e' T' K' F' => ?_)
    cases o1 with
    | some d =>
      obtain ⟨rfl, rfl⟩ := Prod.mk.inj (Option.some.inj h)
      obtain ⟨v, rfl, rv⟩ := F'
      exact hQ (.ret v) ad' h' tk e' (Tf.trans T') K' ⟨v, rfl, rv⟩
    | none =>
      obtain rfl : fl = .next := F'
      exact ih cx1 cx' o h h₀ W ad' env { s with heap := h', toks := tk } hb e' Q E fun fl ad2 h2 tk2 e2 T2 K2 F2 => hQ fl ad2 h2 tk2 e2 (Tf.trans (T'.trans T2)) (KW.trans K' K2) F2
theorem xsN_sound {r : Ev} (ok : EvOk prog w n hB r) (ns : NoStar r) (B : Bg prog w gl hB) {mu : List PySem.Str} : ∀ k, XOk prog w n hB (xsN r mu k) ∧ MineX (xsN r mu k)
  | 0 => ⟨fun _ _ _ _ h => (no_some h).elim, fun _ _ _ h => (no_some h).elim⟩
  | k + 1 => ⟨blk_sound ok ns B (xsN_sound ok ns B k).1 (xsN_sound ok ns B k).2, blk_mine (xsN_sound ok ns B k).2⟩
end
end Mine
end
section
open PySem PySem.W PyProof.Rows PySem.Calls PySem.Spec
set_option linter.unusedSectionVars false
set_option linter.unusedVariables false
set_option maxRecDepth 100000
namespace Mine
variable [Inhabited Rho]

theorem wp_weak {α : Type} {M : Model} {A A' : Around} {t : Sem α} {Q : α → Shared → Prop} {E : Value → Shared → Prop} {s : Shared} (hA : ∀ Γ : PySem.Ctx, Γ.In A → Γ.In A') (h : wpAny M A' t Q E s) : wpAny M A t Q E s := fun Γ p hΓ => h Γ p (hA Γ hΓ)
theorem ar_deeper {n : Nat} {A : Around} {env : Env} (hh : A.handled = none) (hd : A.depth + 1 ≤ 400 + 10 * min n 50) (hu : A.units + 3 ≤ 100 + 20 * min n 50) (Γ : PySem.Ctx) (h : Γ.In (A.deeper env)) : Γ.In (Ar n) := by
  obtain ⟨a, b, c, d, e⟩ := h
  exact ⟨a.trans hh, Nat.le_trans b hd, (fun _ q => by cases q), (fun _ q => by cases q), Nat.le_trans e hu⟩

noncomputable def zipB : List PySem.Str → List Value → List (PySem.Str × Value)
  | x :: xs, v :: vs => (x, v) :: zipB xs vs
  | _, _ => []
noncomputable def zipD : List PySem.Str → List D → List (PySem.Str × D)
  | x :: xs, v :: vs => (x, v) :: zipD xs vs
  | _, _ => []
theorem zipB_names : ∀ {xs : List PySem.Str} {vs : List Value} {p : PySem.Str × Value}, p ∈ zipB xs vs → p.1 ∈ xs
  | x :: xs, v :: vs, p, h => by
    rcases List.mem_cons.mp h with rfl | h
    · simp
    · exact List.mem_cons_of_mem _ (zipB_names h)
  | [], _, _, h => by simp [zipB] at h
  | _ :: _, [], _, h => by simp [zipB] at h
theorem bindL_other {k : PySem.Str → Option NameKind} {x : PySem.Str} : ∀ {b : List (PySem.Str × Value)} {m : PySem.Str → Option Value}, (∀ p ∈ b, p.1 ≠ x) → bindL k b m x = m x
  | [], _, _ => rfl
  | (y, v) :: r, m, h => by
    unfold bindL
    rw [bindL_other fun p hp => h p (List.mem_cons_of_mem _ hp)]
    have : y ≠ x := h (y, v) List.mem_cons_self
    split
    · simp [Ne.symm this]
    · rfl
theorem bindC_other {k : PySem.Str → Option NameKind} {x : PySem.Str} : ∀ {b : List (PySem.Str × Value)} {m : PySem.Str → Option Value}, (∀ p ∈ b, p.1 ≠ x) → bindC k b m x = m x
  | [], _, _ => rfl
  | (y, v) :: r, m, h => by
    unfold bindC
    rw [bindC_other fun p hp => h p (List.mem_cons_of_mem _ hp)]
    have : y ≠ x := h (y, v) List.mem_cons_self
    split
    · rfl
    · simp [Ne.symm this]
theorem nodupB_cons {x : PySem.Str} {xs : List PySem.Str} (h : nodupB (x :: xs) = true) : x ∉ xs ∧ nodupB xs = true := by
  unfold nodupB at h
  rw [Bool.and_eq_true, Bool.not_eq_true'] at h
  exact ⟨by simpa using h.1, h.2⟩
theorem params_at {k : PySem.Str → Option NameKind} {O : Ow} {h : Heap} : ∀ {xs : List PySem.Str} {ds : List D} {vs : List Value} {x : PySem.Str} {d : D} {m c : PySem.Str → Option Value}, nodupB xs = true → RL O h ds vs → xs.length = ds.length → (zipD xs ds).lookup x = some d →
    ∃ v, R O h d v ∧ (k x = some .local → bindL k (zipB xs vs) m x = some v) ∧ (k x ≠ some .local → bindC k (zipB xs vs) c x = some v)
  | [], _, _, _, _, _, _, _, _, _, hl => by simp [zipD] at hl
  | y :: ys, d' :: ds, _, x, d, m, c, hn, .cons _ _ v vs r rs, he, hl => by
    obtain ⟨hy, hn'⟩ := nodupB_cons hn
    unfold zipD at hl
    rw [List.lookup_cons] at hl
    cases hb : x == y with
    | true =>
      rw [hb] at hl
      cases hl
      have hxy : x = y := beq_iff_eq.mp hb
      subst hxy
      have ne : ∀ p ∈ zipB ys vs, p.1 ≠ x := fun p hp q => hy (q ▸ zipB_names hp)
      refine ⟨v, r, fun hk => ?_, fun hk => ?_⟩
      · unfold zipB bindL; rw [bindL_other ne, if_pos hk]; simp
      · unfold zipB bindC; rw [bindC_other ne, if_neg hk]; simp
    | false =>
      rw [hb] at hl
      unfold zipB bindL bindC
      exact params_at hn' rs (by simpa using he) hl
  | _ :: _, [], _, _, _, _, _, _, _, he, _ => by simp at he

section
variable {prog : Program} {w : World} {n : Nat} {gl : PySem.Str → Option Value} {hB : Heap} {P : Pr}

noncomputable def startCx (sc : Scope) (xs : List PySem.Str) (ds : List D) : Cx := { kinds := sc.names, mine := mineOf sc, vars := zipD xs ds, own := [] }

/-- the room of a call -/
theorem call_er {O : Ow} {s s₁ : Shared} {fd : FuncData} {f : Addr} {xs : List PySem.Str} {ds : List D} {vs : List Value} (lv : ∀ b, O b → ∃ o, s.heap.get? b = some o) (rl : RL O s.heap ds vs) (hlen : xs.length = ds.length) (hnx : nodupB xs = true)
    (hkx : ∀ x ∈ xs, fd.scope.names.lookup x = some .local ∨ fd.scope.names.lookup x = some .cell) (hg : fd.globals = mainGlobals) (hbi : fd.builtins = builtinsNs) (hsc : scopeOk fd.scope = true)
    (x : InCallC s (callEnvC fd s.heap.objs.size f).locals (bindL (callEnvC fd s.heap.objs.size f).kindOf (zipB xs vs) fun _ => none) (callEnvC fd s.heap.objs.size f).cells (bindC (callEnvC fd s.heap.objs.size f).kindOf (zipB xs vs) fun _ => none) s₁) (ad : PySem.Str → Addr) :
    ER s.heap O ad s₁.heap (callEnvC fd s.heap.objs.size f) (startCx fd.scope xs ds) := by
  unfold scopeOk at hsc
  rw [Bool.and_eq_true] at hsc
  obtain ⟨hkind, hnd⟩ := hsc
  have hk : fd.scope.kind = .function := by simpa using hkind
  have cab : ∀ m c, (callEnvC fd s.heap.objs.size f).cells.lookup m = some c → s.heap.objs.size < c := fun m c hc => x.above m c (mem_of_lookup hc)
  have nO : ∀ b, s.heap.objs.size ≤ b → ¬ O b := fun b hb hO => by obtain ⟨o, ho⟩ := lv b hO; exact absurd (Heap.lt_size ho) (Nat.not_lt.mpr hb)
  have noS : ∀ b, s.heap.objs.size ≤ b → s.heap.get? b = none := fun b hb => Heap.get?_none_of_le hb
  have T : Tr O s.heap (Oo O ad (callEnvC fd s.heap.objs.size f) (startCx fd.scope xs ds)) s₁.heap := fun b o e q => by
    refine ⟨x.toInCall.keep b o e, ?_⟩
    rintro (z | (z | ⟨y, z⟩) | ⟨y, l, z, _⟩)
    · exact q z
    · have z' : b = s.heap.objs.size := z
      rw [z'] at e; exact absurd (Heap.lt_size e) (Nat.lt_irrefl _)
    · exact absurd (Heap.lt_size e) (Nat.not_lt.mpr (Nat.le_of_lt (cab y b z)))
    · exfalso; first | exact no_some z | cases z
  exact {
    base := x.toInCall.keep, kind := hk, names := rfl, glob := hg, bi := hbi
    wl := fun b hb => let ⟨o, ho⟩ := lv b hb; ⟨o, x.toInCall.keep b o ho⟩
    ns := ⟨_, x.toInCall.ns⟩
    nl := nO _ (Nat.le_refl _)
    nl0 := noS _ (Nat.le_refl _)
    cells := fun y c hc => ⟨_, x.cell y c hc⟩
    cw := fun y c hc hO => absurd hO (nO c (Nat.le_of_lt (cab y c hc)))
    cinj := fun y z c hy hz => name_of_addr x.apart (mem_of_lookup hy) (mem_of_lookup hz)
    mine := fun y hy => by
      obtain ⟨⟨y', k⟩, hm, rfl⟩ := List.mem_map.mp hy
      obtain ⟨hm, hk'⟩ := List.mem_filter.mp hm
      have hl := lookup_uniq hnd hm
      rw [Bool.or_eq_true, beq_iff_eq, beq_iff_eq] at hk'
      dsimp only at hk'
      rcases hk' with rfl | rfl
      · exact .inl hl
      · obtain ⟨c, hc⟩ := cells_has fd.scope.names (s.heap.objs.size + 1) [] y' hm
        obtain ⟨c', hc'⟩ := lookup_of_mem hc
        exact .inr ⟨hl, c', hc', noS c' (Nat.le_of_lt (cab y' c' hc')), nO c' (Nat.le_of_lt (cab y' c' hc'))⟩
    vars := fun y d hy => by
      obtain ⟨v, rv, hl, hc⟩ := params_at (k := (callEnvC fd s.heap.objs.size f).kindOf) (m := fun _ => none) (c := fun _ => none) hnx rl hlen hy
      have hyx : y ∈ xs := by
        have hm := mem_of_lookup hy
        clear hy hl hc
        have : ∀ (xs : List PySem.Str) (ds : List D), (y, d) ∈ zipD xs ds → y ∈ xs := by
          intro xs
          induction xs with
          | nil => intro ds h; simp [zipD] at h
          | cons a as ih =>
            intro ds h
            cases ds with
            | nil => simp [zipD] at h
            | cons b bs =>
              rcases List.mem_cons.mp h with e | h
              · cases e; simp
              · exact List.mem_cons_of_mem _ (ih bs h)
        exact this xs ds hm
      refine ⟨v, ?_, rv.tr T⟩
      rcases hkx y hyx with q | q
      · exact .inl ⟨q, _, x.toInCall.ns, hl q⟩
      · obtain ⟨c, hcm⟩ := cells_has fd.scope.names (s.heap.objs.size + 1) [] y (mem_of_lookup q)
        obtain ⟨c', hc'⟩ := lookup_of_mem hcm
        refine .inr ⟨q, c', hc', ?_⟩
        have := x.cell y c' hc'
        rw [hc (by show ¬ fd.scope.names.lookup y = some .local; rw [q]; simp)] at this
        exact this
    own := fun y l hy => by cases hy
    inj := fun y z l l' hy => by cases hy }

theorem def_sound (B : Bg prog w gl hB) (pk : PrimOk prog w (n + 1) gl P hB) (hn : n < 50) {f : Addr} {ob : Obj} {fd : FuncData} {body : List Stmt} (ho : hB.get? f = some ob) (hdata : ob.data = .func fd) (hlim : hB.NoLimit) (hcd : hB.CodeRec fd.code fd.qualname)
    (hbody : fd.body = .stmts body) (hclo : fd.closure = []) {xs : List PySem.Str} {ds : List D} (hbind : ∀ vs : List Value, vs.length = xs.length → bindArgs fd ⟨vs, []⟩ = pure (zipB xs vs)) (hlen : xs.length = ds.length) (hnx : nodupB xs = true)
    (hkx : ∀ x ∈ xs, fd.scope.names.lookup x = some .local ∨ fd.scope.names.lookup x = some .cell) (hg : fd.globals = mainGlobals) (hbi : fd.builtins = builtinsNs) (hsc : scopeOk fd.scope = true)
    (hco : fd.scope.isCoroutine = false) (hgen : fd.scope.isGenerator = false) {mu : List PySem.Str} {k j : Nat} {cx' : Cx} {d : D} (hrun : xsN (evN P k) mu j (startCx fd.scope xs ds) body = some (cx', some d))
    {O : Ow} {s : Shared} {vs : List Value} (hk : Kp hB s.heap) (lv : ∀ b, O b → ∃ o, s.heap.get? b = some o) (rl : RL O s.heap ds vs) : Gives prog w n O (call (.ref f) vs) d s := fun Q E hQ => by
  refine wpAny_call ?_
  have hsc2 := hsc
  unfold scopeOk at hsc2
  rw [Bool.and_eq_true] at hsc2
  refine codeAny_call_cells (binds := zipB xs vs) (by show 400 + 10 * min n 50 < 1000; omega) (hk _ _ ho) hdata (hlim.keeps hk) (hcd.keeps hk) hbody (hbind vs (by rw [← rl.length, hlen])) hclo (fun p hp => ?_) (fun s₁ x => ?_) hco hgen (by simpa using hsc2.1)
  · rcases hkx p.1 (zipB_names hp) with q | q
    · exact .inl q
    · refine .inr ⟨q, ?_⟩
      obtain ⟨c, hc⟩ := cells_has fd.scope.names (s.heap.objs.size + 1) [] p.1 (mem_of_lookup q)
      obtain ⟨c', hc'⟩ := lookup_of_mem hc
      rw [hc']; rfl
  · have er := call_er lv rl hlen hnx hkx hg hbi hsc x (fun _ => 0)
    have xo := (xsN_sound (n := n + 1) (evN_sound B pk k) (evN_star P k) B (mu := mu) j).1
    refine wp_weak (ar_deeper (n := n + 1) rfl (by show 400 + 10 * min n 50 + 1 ≤ 400 + 10 * min (n + 1) 50; omega) (by show 100 + 20 * min n 50 + 3 ≤ 100 + 20 * min (n + 1) 50; omega)) ?_
    refine xo _ _ _ _ hrun s.heap O (fun _ => 0) _ s₁ hk er _ _ fun fl ad' h' tk e' T' K' F' => ?_
    obtain ⟨v, rfl, rv⟩ := F'
    obtain ⟨h1, tk1, e1⟩ := x.toInCall.same
    have fin := hQ v h' tk e'.base (rv.tr (.sub fun b q => .inl q))
    rw [e1]
    exact fin
end
end Mine
end
section
open PySem PySem.W PyProof.Rows PySem.Calls PySem.Spec
set_option maxRecDepth 100000
namespace Mine
open PySem.Sre

noncomputable def codeN : Array Nat := #[14, 10, 4, 1, 1, 22, 0, 31, 16, 127, 0, 13, 7, 22, 0, 31, 16, 127, 0, 1]
noncomputable def codeV : Array Nat := #[14, 14, 4, 1, 1, 9, 4294966783, 0, 0, 2147483648, 0, 0, 0, 0, 0, 13, 11, 9, 4294966783, 0, 0, 2147483648, 0, 0, 0, 0, 0, 1]
noncomputable def safeC (c : Nat) : Bool := (Nat.ble 48 c && Nat.ble c 57) || (Nat.beq c 45 || ((Nat.ble 65 c && Nat.ble c 90) || (Nat.ble 97 c && Nat.ble c 122)))
noncomputable def safeS (x : PySem.Str) : Bool := x.cps.toList.all safeC
theorem safe_bd {c : Nat} (h : safeC c = true) : 45 ≤ c ∧ c ≤ 122 := by
  unfold safeC at h
  simp only [Bool.or_eq_true, Bool.and_eq_true, Nat.ble_eq, Nat.beq_eq] at h
  omega

theorem inN {c : Nat} (h : safeC c = true) (seen : Sre.Seen) : ∃ s', inSet codeN c codeN.size 5 true seen = .ok (false, s') := by
  obtain ⟨h1, h2⟩ := safe_bd h
  refine ⟨((seen.add 22).add 16).add 0, ?_⟩
  have e1 : (decide (0 ≤ c) && decide (c ≤ 31)) = false := by simp; omega
  have e2 : (c == 127) = false := by rw [beq_eq_false_iff_ne]; omega
  show (if (decide (0 ≤ c) && decide (c ≤ 31)) = true then _ else _) = _
  rw [e1, if_neg Bool.false_ne_true]
  show (if (c == 127) = true then _ else _) = _
  rw [e2, if_neg Bool.false_ne_true]
  rfl
theorem bitsV : ∀ c : Fin 123, 45 ≤ c.val → (codeV.getD (5 + (1 + c.val / 32)) 0).testBit (c.val % 32) = false := by decide +kernel
theorem inV {c : Nat} (h : safeC c = true) (seen : Sre.Seen) : ∃ s', inSet codeV c codeV.size 5 true seen = .ok (false, s') := by
  obtain ⟨h1, h2⟩ := safe_bd h
  refine ⟨(seen.add 9).add 0, ?_⟩
  have e1 : (decide (c < 256) && (codeV.getD (5 + (1 + c / 32)) 0).testBit (c % 32)) = false := by
    rw [bitsV ⟨c, by omega⟩ h1]; simp
  show (if (decide (c < 256) && (codeV.getD (5 + (1 + c / 32)) 0).testBit (c % 32)) = true then _ else _) = _
  rw [e1, if_neg Bool.false_ne_true]
  rfl

theorem adm {m : M} (hin : ∀ c, safeC c = true → ∀ seen, ∃ s', inSet m.code c m.code.size 5 true seen = .ok (false, s')) (hs : ∀ c ∈ m.text.toList, safeC c = true) (hl : m.lim = m.text.size) :
    ∀ (fuel s : Nat) (seen : Sre.Seen), ∃ s', M.admitted m fuel s seen = .ok (none, s')
  | 0, s, seen => ⟨seen, rfl⟩
  | fuel + 1, s, seen => by
    unfold M.admitted
    split
    · exact ⟨seen, rfl⟩
    · rename_i hlt
      have hlt' : s < m.text.size := by omega
      have hc : safeC (m.text.getD s 0) = true := hs _ (by
        rw [Array.getD_eq_getD_getElem?, Array.getElem?_eq_getElem hlt']
        simp)
      obtain ⟨s', e⟩ := hin _ hc seen
      rw [e]
      exact adm hin hs hl fuel (s + 1) s'

noncomputable def Fails (m : M) : Prop := m.answer = some false ∧ m.frames = [] ∧ m.outcome = none
theorem search_fails {code : Array Nat} (hc : code = codeN ∨ code = codeV) {x : PySem.Str} (hs : safeS x = true) : Fails (forSearch code x.cps 0 0 x.cps.size false) := by
  have hs' : ∀ c ∈ x.cps.toList, safeC c = true := by unfold safeS at hs; rw [List.all_eq_true] at hs; exact hs
  have gen : ∀ m : M, (∀ c, safeC c = true → ∀ seen, ∃ s', inSet m.code c m.code.size 5 true seen = .ok (false, s')) → (∀ c ∈ m.text.toList, safeC c = true) → m.lim = m.text.size → m.hasFirstSet = true → m.frames = [] → m.outcome = none → Fails (m.attemptFrom 0 true) := by
    intro m hin hs hl hf h1 h2
    unfold M.attemptFrom
    rw [hf]
    obtain ⟨s', e⟩ := adm hin hs hl (m.lim + 1 - 0) 0 m.seen
    simp only [Bool.not_true, Bool.false_eq_true, if_false]
    rw [e]
    exact ⟨rfl, h1, h2⟩
  rcases hc with rfl | rfl
  · unfold forSearch
    dsimp only
    split
    · exact ⟨rfl, rfl, rfl⟩
    · exact gen _ (fun c h seen => inN h seen) hs' rfl rfl rfl rfl
  · unfold forSearch
    dsimp only
    split
    · exact ⟨rfl, rfl, rfl⟩
    · exact gen _ (fun c h seen => inV h seen) hs' rfl rfl rfl rfl
end Mine
end
section
open PySem PySem.W PyProof.Rows PySem.Calls PySem.Spec
set_option linter.unusedVariables false
set_option linter.unusedSectionVars false
set_option maxRecDepth 100000
namespace Mine
open PySem.Builtin PySem.Builtin.Re

structure PatAt (h : Heap) (p : Addr) (code : Array Nat) (kind : Int) : Prop where
  ex : ∃ (src fl : Value) (g t : Tok) (q : Addr) (oq : Obj) (items : Array Value) (n : Nat), h.get? p = some { cls := .type "re.Pattern", data := .fields #[src, fl, .int 0 g, .none, .none, .ref q, .int kind t] } ∧
    h.get? q = some oq ∧ oq.data = .seq items n ∧ (items.map reRawOf).map (·.toNat) = code
theorem PatAt.keeps {h h' : Heap} {p : Addr} {code : Array Nat} {kind : Int} (x : PatAt h p code kind) (k : Kp h h') : PatAt h' p code kind := by
  obtain ⟨src, fl, g, t, q, oq, items, n, a, b, c, d⟩ := x.ex
  exact ⟨src, fl, g, t, q, oq, items, n, k _ _ a, k _ _ b, c, d⟩

section
variable {prog : Program} {w : World} {A : Around} {E : Value → Shared → Prop} {s : Shared}
theorem wp_rules {l : List Nat} {c : Nat → Bool} {nm : Nat → String} {Q : PUnit → Shared → Prop} (h : Q ⟨⟩ s) : wpAny (model prog w) A (forIn l PUnit.unit fun i (_ : PUnit) => (if c i = true then (do rule (nm i); pure (ForInStep.yield PUnit.unit)) else pure (ForInStep.yield PUnit.unit) : Sem (ForInStep PUnit))) Q E s := by
  induction l with
  | nil => exact wpAny_pure h
  | cons i l ih =>
    rw [List.forIn_cons]
    refine wpAny_bind ?_
    split
    · exact wpAny_bind (wpAny_rule (wpAny_pure ih))
    · exact wpAny_pure ih
theorem run_fails {m : Sre.M} (hm : Fails m) {Q : Option Sre.M → Shared → Prop} (h : Q none s) : wpAny (model prog w) A (reRunToEnd m) Q E s := by
  obtain ⟨h1, h2, h3⟩ := hm
  have e : ∃ m', m.runFor reTurnSteps = m' ∧ m'.outcome = some .failed := by
    refine ⟨_, rfl, ?_⟩
    obtain ⟨code, text, lim, start, lastStart, wholeText, mustAdvance, pc, pos, handed, outermost, marks, lastmark, lastindex, loops, inner, frames, weight, answer, seen, outcome⟩ := m
    simp only at h1 h2 h3
    subst h1 h2 h3
    rfl
  obtain ⟨m', e, e'⟩ := e
  unfold reRunToEnd
  have hd : reDrive (2 ^ 64) m = pure m' := by
    show (let m := m.runFor reTurnSteps
      if m.outcome.isSome then pure m else do rule "sre.turn"; reDrive (2 ^ 64 - 1) m) = _
    rw [e]
    dsimp only
    rw [e']; rfl
  rw [hd]
  refine wpAny_bind (wpAny_pure (wpAny_bind (wp_rules ?_)))
  rw [e']
  exact wpAny_pure h
theorem named_search (id : String) (x : PySem.Str) (t : Tok) : reNamed id "search" ["string", "pos", "endpos"] 1 [.str x t] [] = pure [some (.str x t), none, none] := by kernel_rfl

theorem re_search {p : Addr} {code : Array Nat} (hp : PatAt s.heap p code 0) (hc : code = codeN ∨ code = codeV) {x : PySem.Str} {t : Tok} (hs : safeS x = true) (hl : (x.cps.size : Int) ≤ 2 ^ 63 - 1) {Q : Value → Shared → Prop} (h : Q .none s) :
    wpAny (model prog w) A (Builtin.«re.Pattern.search» ⟨[.ref p, .str x t], []⟩) (fun fin s' => ∃ v, fin = .done (.ret v) ∧ Q v s') E s := by
  obtain ⟨src, fl, g, tt, q, oq, items, n, a, b, c, d⟩ := hp.ex
  unfold Builtin.«re.Pattern.search» reTarget
  refine wpAny_bind ?_
  dsimp only
  rw [named_search]
  refine wpAny_bind (wpAny_pure ?_)
  dsimp only
  refine wpAny_bind (wpAny_pure (wpAny_bind (wpAny_pure ?_)))
  refine wpAny_bind (wpAny_fieldsOf a rfl ?_)
  refine wpAny_bind (wpAny_of_eq (a := (x.cps, 0)) rfl ?_)
  dsimp only
  refine wpAny_bind (wpAny_of_eq (a := ()) rfl ?_)
  refine wpAny_bind (wpAny_bind (wpAny_seqItems b c (wpAny_pure ?_)))
  refine wpAny_pure ?_
  unfold reAnswer
  dsimp only
  have e0 : min (0 : Int).toNat x.cps.size = 0 := by simp
  have e1 : min (2 ^ 63 - 1 : Int).toNat x.cps.size = x.cps.size := by omega
  have e2 : Array.map (fun x => x.toNat) (Array.map reRawOf ((some items).getD #[])) = code := d
  rw [e0, e1, e2]
  refine wpAny_bind (run_fails (search_fails hc hs) ?_)
  exact wpAny_pure ⟨_, rfl, h⟩
end
end Mine
end
section
open PySem PySem.W PyProof.Rows PySem.Calls PySem.Spec
set_option linter.unusedVariables false
set_option linter.unusedSectionVars false
set_option maxRecDepth 100000
namespace Mine
variable [Inhabited Rho]

/-- a def of the text, as it lies in the heap -/
structure FnAt (h : Heap) (f : Addr) (xs : List PySem.Str) (kw : List (PySem.Str × Value)) (ys : List PySem.Str) (sc : Scope) (body : List Stmt) : Prop where
  ex : ∃ ob fd, h.get? f = some ob ∧ ob.data = .func fd ∧ h.CodeRec fd.code fd.qualname ∧ fd.body = .stmts body ∧ fd.scope = sc ∧ fd.closure = [] ∧ fd.globals = mainGlobals ∧ fd.builtins = builtinsNs ∧
    ∀ (M : Model) (vs : List Value), vs.length = xs.length → Looks M h (bindArgs fd ⟨vs, kw⟩) (zipB (xs ++ ys) (vs ++ kw.map (·.2)))
theorem FnAt.keeps {h h' : Heap} {f : Addr} {xs ys : List PySem.Str} {kw : List (PySem.Str × Value)} {sc : Scope} {body : List Stmt} (x : FnAt h f xs kw ys sc body) (k : Kp h h') : FnAt h' f xs kw ys sc body := by
  obtain ⟨ob, fd, a, b, c, d, e, f, g, i, r⟩ := x.ex
  exact ⟨ob, fd, k _ _ a, b, c.keeps k, d, e, f, g, i, fun M vs hv => (r M vs hv).keeps k⟩

section
variable {prog : Program} {w : World} {n : Nat} {gl : PySem.Str → Option Value} {hB : Heap} {A : Around}
theorem codeAny_call_cells_kw {R : Result → Shared → Prop} {a : Addr} {o : Obj} {fd : FuncData} {body : List Stmt} {args : Args} {binds : List (PySem.Str × Value)} {s : Shared}
    (hroom : A.depth < recursionLimit) (ho : s.heap.get? a = some o) (hdata : o.data = .func fd) (hlim : s.heap.NoLimit) (hcd : s.heap.CodeRec fd.code fd.qualname)
    (hbody : fd.body = .stmts body) (hbind : Looks (model prog w) s.heap (bindArgs fd args) binds) (hclo : fd.closure = [])
    (hkind : ∀ x ∈ binds, fd.scope.names.lookup x.1 = some .local ∨ (fd.scope.names.lookup x.1 = some .cell ∧ ((cellsFrom (s.heap.objs.size + 1) fd.scope.names []).lookup x.1).isSome = true))
    (h : ∀ s₁, InCallC s (callEnvC fd s.heap.objs.size a).locals (bindL (callEnvC fd s.heap.objs.size a).kindOf binds fun _ => none) (callEnvC fd s.heap.objs.size a).cells
        (bindC (callEnvC fd s.heap.objs.size a).kindOf binds fun _ => none) s₁ →
      wpAny (model prog w) (A.deeper (callEnvC fd s.heap.objs.size a)) (execs body (callEnvC fd s.heap.objs.size a)) (fun f s' => R (.ok (.ret (match f with | .ret v => v | _ => .none))) s')
        (fun e s' => wpAny (model prog w) (A.deeper (callEnvC fd s.heap.objs.size a)) (leaving (callEnvC fd s.heap.objs.size a) e) (fun _ s'' => R (.error e) s'') (fun e' s'' => R (.error e') s'') s') s₁)
    (hco : fd.scope.isCoroutine = false) (hgen : fd.scope.isGenerator = false) (hk : fd.scope.kind = .function) :
    codeAny (model prog w) A (.call (.ref a) args) R s := by
  refine codeAny_call_function hroom ho hdata hco hgen hbody hcd ?_
  rw [hclo]
  refine hbind.here (wpAny_newFunctionEnv_cells hk hkind fun env he s' x => ?_)
  subst he
  exact ⟨hlim.keeps x.toInCall.keep, codeAny_func (h s' x)⟩

/-- a call of a def: its body is shown to give d -/
theorem def_ex {f : Addr} {xs ys : List PySem.Str} {kw : List (PySem.Str × Value)} {sc : Scope} {body : List Stmt} {s : Shared} {vs : List Value} {ds : List D} {O : Ow} {d : D} {cx' : Cx} {R : Result → Shared → Prop}
    (hh : A.handled = none) (hdep : A.depth + 1 ≤ 400 + 10 * min n 50) (hun : A.units + 3 ≤ 100 + 20 * min n 50)
    (F : FnAt s.heap f xs kw ys sc body) (hlim : s.heap.NoLimit) (hvs : vs.length = xs.length) (hlen : (xs ++ ys).length = ds.length) (hnx : nodupB (xs ++ ys) = true)
    (hkx : ∀ x ∈ xs ++ ys, sc.names.lookup x = some .local ∨ sc.names.lookup x = some .cell) (hsc : scopeOk sc = true) (hco : sc.isCoroutine = false) (hgen : sc.isGenerator = false)
    (lv : ∀ b, O b → ∃ o, s.heap.get? b = some o) (rl : RL O s.heap ds (vs ++ kw.map (·.2)))
    (run : ∀ (env : Env) (s₁ : Shared), (∃ h1 tk1, s₁ = { s with heap := h1, toks := tk1 }) → Kp s.heap s₁.heap → ER s.heap O (fun _ => 0) s₁.heap env (startCx sc (xs ++ ys) ds) → ExG prog w n s.heap O (fun _ => 0) env (startCx sc (xs ++ ys) ds) cx' (some d) (execs body env) s₁)
    (hR : ∀ v h' tk, Kp s.heap h' → Mine.R O h' d v → R (.ok (.ret v)) { s with heap := h', toks := tk }) : codeAny (model prog w) A (.call (.ref f) ⟨vs, kw⟩) R s := by
  obtain ⟨ob, fd, ho, hdata, hcd, hbody, hscp, hclo, hg, hbi, hbind⟩ := F.ex
  subst hscp
  have hsc2 := hsc
  unfold scopeOk at hsc2
  rw [Bool.and_eq_true] at hsc2
  refine codeAny_call_cells_kw (binds := zipB (xs ++ ys) (vs ++ kw.map (·.2))) (by show A.depth < 1000; omega) ho hdata hlim hcd hbody (hbind _ vs hvs) hclo (fun p hp => ?_) (fun s₁ x => ?_) hco hgen (by simpa using hsc2.1)
  · rcases hkx p.1 (zipB_names hp) with q | q
    · exact .inl q
    · refine .inr ⟨q, ?_⟩
      obtain ⟨c, hc⟩ := cells_has fd.scope.names (s.heap.objs.size + 1) [] p.1 (mem_of_lookup q)
      obtain ⟨c', hc'⟩ := lookup_of_mem hc
      rw [hc']; rfl
  · have er := call_er lv rl hlen hnx hkx hg hbi hsc x (fun _ => 0)
    refine wp_weak (ar_deeper (n := n) hh hdep hun) ?_
    obtain ⟨h1, tk1, e1⟩ := x.toInCall.same
    refine run _ s₁ ⟨h1, tk1, e1⟩ x.toInCall.keep er _ _ fun fl ad' h' tk e' T' K' F' => ?_
    obtain ⟨v, rfl, rv⟩ := F'
    have fin := hR v h' tk e'.base (rv.tr (.sub fun b q => .inl q))
    rw [e1]
    exact fin

theorem def_run (B : Bg prog w gl hB) (pk : PrimOk prog w (n + 1) gl P hB) (hn : n < 50) {f : Addr} {xs : List PySem.Str} {sc : Scope} {body : List Stmt} (F : FnAt hB f xs [] [] sc body) (hlim : hB.NoLimit) {ds : List D} (hlen : xs.length = ds.length)
    (hst : (nodupB xs && (xs.all fun x => sc.names.lookup x == some .local || sc.names.lookup x == some .cell) && scopeOk sc && !sc.isCoroutine && !sc.isGenerator) = true)
    {mu : List PySem.Str} {k j : Nat} {cx' : Cx} {d : D} (hrun : xsN (evN P k) mu j (startCx sc xs ds) body = some (cx', some d))
    {O : Ow} {s : Shared} {vs : List Value} (hk : Kp hB s.heap) (lv : ∀ b, O b → ∃ o, s.heap.get? b = some o) (rl : RL O s.heap ds vs) : Gives prog w n O (call (.ref f) vs) d s := fun Q E hQ => by
  simp only [Bool.and_eq_true, Bool.not_eq_true', List.all_eq_true, Bool.or_eq_true, beq_iff_eq] at hst
  obtain ⟨⟨⟨⟨h1, h2⟩, h3⟩, h4⟩, h5⟩ := hst
  refine wpAny_call ?_
  have hl := rl.length
  refine def_ex (n := n + 1) (cx' := cx') (d := d) (ds := ds) (O := O) (ys := []) rfl (by show 400 + 10 * min n 50 + 1 ≤ 400 + 10 * min (n + 1) 50; omega) (by show 100 + 20 * min n 50 + 3 ≤ 100 + 20 * min (n + 1) 50; omega) (F.keeps hk) (hlim.keeps hk) (by omega) (by simpa using hlen) (by simpa using h1)
    (by simpa using h2) h3 h4 h5 lv (by simpa using rl) (fun env s₁ _ k1 er => ?_) fun v h' tk k r => hQ v h' tk k r
  rw [List.append_nil] at er ⊢
  exact (xsN_sound (n := n + 1) (evN_sound B pk k) (evN_star P k) B (mu := mu) j).1 _ _ _ _ hrun s.heap O (fun _ => 0) _ s₁ hk er
end
end Mine
end
section
open PySem PySem.W PyProof.Rows PySem.Calls PySem.Spec
set_option linter.unusedVariables false
set_option maxRecDepth 1000000
namespace Mine
noncomputable def findD (nm : PySem.Str) : List Stmt → Option (Scope × List PySem.Str × List Stmt)
  | [] => none
  | .FunctionDef n a b _ _ _ sc _ _ _ :: r => if n == nm then some (sc, a.args.map (·.arg), b) else findD nm r
  | _ :: r => findD nm r
noncomputable def dfn (nm : PySem.Str) : Scope × List PySem.Str × List Stmt := (findD nm PySem.Challenge.pw_wj0042_01.main.body).getD ({kind := .function, names := [], isGenerator := false, isCoroutine := false, more := []}, [], [])

noncomputable def X0 : Po := [(⟨1, 0, 0⟩, 1)]
noncomputable def X1 : Po := [(⟨0, 1, 0⟩, 1)]
noncomputable def X2 : Po := [(⟨0, 0, 1⟩, 1)]
noncomputable def po (p : Po) : D := .sy (.po p)
noncomputable def isS : Option D → Bool
  | some _ => true
  | _ => false
noncomputable def isT : Option D → Bool
  | some (.bool true) => true
  | _ => false
end Mine
end
section
open PySem PySem.W PyProof.Rows PySem.Calls PySem.Spec
set_option linter.unusedVariables false
set_option linter.unusedSectionVars false
set_option maxRecDepth 1000000
namespace Mine
theorem len5 {α : Type} {l : List α} (h : l.length = 5) : ∃ a b c d e, l = [a, b, c, d, e] := by
  obtain ⟨a, r, rfl, h2⟩ := len_cons h
  obtain ⟨b, r, rfl, h3⟩ := len_cons h2
  obtain ⟨c, d, e, rfl⟩ := len3 h3
  exact ⟨a, b, c, d, e, rfl⟩
noncomputable def methOf (nm : PySem.Str) : Scope × List PySem.Str × List Stmt := ((PySem.Challenge.pw_wj0042_01.main.body.findSome? fun | .ClassDef _ _ _ b _ _ _ _ _ _ _ => findD nm b | _ => none).getD ({kind := .function, names := [], isGenerator := false, isCoroutine := false, more := []}, [], []))
theorem fn_words {P : Params} {h : Heap} (X : (hd.heap_39 P).In h) : FnAt h 224 ["sizes", "bits"] [] [] (dfn "_law_words").1 (dfn "_law_words").2.2 :=
  ⟨_, _, X 224 _ rfl, rfl, ⟨_, _, _, _, rfl, X 223 _ rfl, rfl, rfl⟩, rfl, rfl, rfl, rfl, rfl, fun M vs h => by obtain ⟨a, b, rfl⟩ := len2 h; exact Looks.of_pure rfl⟩
theorem fn_factors {P : Params} {h : Heap} (X : (hd.heap_39 P).In h) : FnAt h 229 ["sizes", "bits", "base"] [] [] (dfn "_law_factors").1 (dfn "_law_factors").2.2 :=
  ⟨_, _, X 229 _ rfl, rfl, ⟨_, _, _, _, rfl, X 228 _ rfl, rfl, rfl⟩, rfl, rfl, rfl, rfl, rfl, fun M vs h => by obtain ⟨a, b, c, rfl⟩ := len3 h; exact Looks.of_pure rfl⟩
theorem fn_crowds {P : Params} {h : Heap} (X : (hd.heap_39 P).In h) : FnAt h 234 ["start", "factors", "up", "down", "steps"] [] [] (dfn "_law_crowds").1 (dfn "_law_crowds").2.2 :=
  ⟨_, _, X 234 _ rfl, rfl, ⟨_, _, _, _, rfl, X 233 _ rfl, rfl, rfl⟩, rfl, rfl, rfl, rfl, rfl, fun M vs h => by obtain ⟨a, b, c, d, e, rfl⟩ := len5 h; exact Looks.of_pure rfl⟩
theorem fn_denom {P : Params} {h : Heap} (X : (hd.heap_39 P).In h) : FnAt h 241 ["factors"] [] [] (dfn "_law_denominator").1 (dfn "_law_denominator").2.2 :=
  ⟨_, _, X 241 _ rfl, rfl, ⟨_, _, _, _, rfl, X 240 _ rfl, rfl, rfl⟩, rfl, rfl, rfl, rfl, rfl, fun M vs h => by obtain ⟨a, rfl⟩ := len1 h; exact Looks.of_pure rfl⟩
theorem fn_tops {P : Params} {h : Heap} (X : (hd.heap_39 P).In h) : FnAt h 246 ["words", "base", "start"] [] [] (dfn "_law_tops_and_valleys").1 (dfn "_law_tops_and_valleys").2.2 :=
  ⟨_, _, X 246 _ rfl, rfl, ⟨_, _, _, _, rfl, X 245 _ rfl, rfl, rfl⟩, rfl, rfl, rfl, rfl, rfl, fun M vs h => by obtain ⟨a, b, c, rfl⟩ := len3 h; exact Looks.of_pure rfl⟩
theorem fn_drawn {P : Params} {h : Heap} (X : (hd.heap_39 P).In h) : FnAt h 214 ["script", "first"] [] [] (dfn "_law_drawn").1 (dfn "_law_drawn").2.2 :=
  ⟨_, _, X 214 _ rfl, rfl, ⟨_, _, _, _, rfl, X 213 _ rfl, rfl, rfl⟩, rfl, rfl, rfl, rfl, rfl, fun M vs h => by obtain ⟨a, b, rfl⟩ := len2 h; exact Looks.of_pure rfl⟩
theorem fn_sizes {P : Params} {h : Heap} (X : (hd.heap_39 P).In h) : FnAt h 219 ["ruler"] [] [] (dfn "_law_sizes").1 (dfn "_law_sizes").2.2 :=
  ⟨_, _, X 219 _ rfl, rfl, ⟨_, _, _, _, rfl, X 218 _ rfl, rfl, rfl⟩, rfl, rfl, rfl, rfl, rfl, fun M vs h => by obtain ⟨a, rfl⟩ := len1 h; exact Looks.of_pure rfl⟩
theorem fn_strcoll {P : Params} {h : Heap} (X : (hd.heap_39 P).In h) : FnAt h 58 ["a", "b"] [] [] (dfn "_strcoll").1 (dfn "_strcoll").2.2 :=
  ⟨_, _, X 58 _ rfl, rfl, ⟨_, _, _, _, rfl, X 57 _ rfl, rfl, rfl⟩, rfl, rfl, rfl, rfl, rfl, fun M vs h => by obtain ⟨a, b, rfl⟩ := len2 h; exact Looks.of_pure rfl⟩
theorem fn_subst {P : Params} {h : Heap} (X : (hd.heap_39 P).In h) : FnAt h 72 ["ch_a", "ch_b"] [] [] (dfn "_substitution_cost").1 (dfn "_substitution_cost").2.2 :=
  ⟨_, _, X 72 _ rfl, rfl, ⟨_, _, _, _, rfl, X 71 _ rfl, rfl, rfl⟩, rfl, rfl, rfl, rfl, rfl, fun M vs h => by obtain ⟨a, b, rfl⟩ := len2 h; exact Looks.of_pure rfl⟩
theorem fn_law {P : Params} {h : Heap} (X : (hd.heap_39 P).In h) : FnAt h 251 ["script"] [] [] (dfn "law").1 (dfn "law").2.2 :=
  ⟨_, _, X 251 _ rfl, rfl, ⟨_, _, _, _, rfl, X 250 _ rfl, rfl, rfl⟩, rfl, rfl, rfl, rfl, rfl, fun M vs h => by obtain ⟨a, rfl⟩ := len1 h; exact Looks.of_pure rfl⟩
theorem fn_paren {P : Params} {h : Heap} (X : (hd.heap_39 P).In h) : FnAt h 51 ["data", "depth"] [] [] (dfn "_paren_depth").1 (dfn "_paren_depth").2.2 :=
  ⟨_, _, X 51 _ rfl, rfl, ⟨_, _, _, _, rfl, X 50 _ rfl, rfl, rfl⟩, rfl, rfl, rfl, rfl, rfl, fun M vs h => by obtain ⟨a, b, rfl⟩ := len2 h; exact Looks.of_peek X rfl⟩
theorem fn_init {P : Params} {h : Heap} (X : (hd.heap_39 P).In h) : FnAt h 97 ["self", "headers"] [] [] (methOf "__init__").1 (methOf "__init__").2.2 :=
  ⟨_, _, X 97 _ rfl, rfl, ⟨_, _, _, _, rfl, X 96 _ rfl, rfl, rfl⟩, rfl, rfl, rfl, rfl, rfl, fun M vs h => by obtain ⟨a, b, rfl⟩ := len2 h; exact Looks.of_peek X rfl⟩
theorem fn_conv {P : Params} {h : Heap} {v : Value} (X : (hd.heap_39 P).In h) : FnAt h 104 ["self", "value"] [("name", v)] ["name"] (methOf "_convert_string_type").1 (methOf "_convert_string_type").2.2 :=
  ⟨_, _, X 104 _ rfl, rfl, ⟨_, _, _, _, rfl, X 103 _ rfl, rfl, rfl⟩, rfl, rfl, rfl, rfl, rfl, fun M vs h => by obtain ⟨a, b, rfl⟩ := len2 h; exact Looks.of_pure rfl⟩
theorem fn_getall {P : Params} {h : Heap} (X : (hd.heap_39 P).In h) : FnAt h 142 ["self", "name"] [] [] (methOf "get_all").1 (methOf "get_all").2.2 :=
  ⟨_, _, X 142 _ rfl, rfl, ⟨_, _, _, _, rfl, X 141 _ rfl, rfl, rfl⟩, rfl, rfl, rfl, rfl, rfl, fun M vs h => by obtain ⟨a, b, rfl⟩ := len2 h; exact Looks.of_pure rfl⟩
theorem pat_name {P : Params} {h : Heap} (X : (hd.heap_39 P).In h) : PatAt h 77 codeN 0 := ⟨_, _, _, _, _, _, _, _, X 77 _ rfl, X 76 _ rfl, rfl, by decide +kernel⟩
theorem pat_value {P : Params} {h : Heap} (X : (hd.heap_39 P).In h) : PatAt h 82 codeV 0 := ⟨_, _, _, _, _, _, _, _, X 82 _ rfl, X 81 _ rfl, rfl, by decide +kernel⟩
end Mine
end
section
open PySem PySem.W PyProof.Rows PySem.Calls PySem.Spec
set_option linter.unusedVariables false
set_option linter.unusedSectionVars false
set_option maxRecDepth 1000000
namespace Mine
variable [Inhabited Rho]

noncomputable def glL : List (PySem.Str × Value) := [("len", .builtin "len"), ("sum", .builtin "sum"), ("int", .type "int"), ("list", .type "list"), ("range", .type "range"), ("enumerate", .type "enumerate"), ("zip", .type "zip"), ("type", .type "type"),
  (".get_all", .ref 142), ("_MOVE_COST", .int 2 367), ("_CASE_COST", .int 1 369), ("Headers", .ref 203), ("_paren_depth", .ref 51), ("_strcoll", .ref 58), ("_substitution_cost", .ref 72), ("_grouping_intervals", .ref 65),
  ("_law_drawn", .ref 214), ("_law_sizes", .ref 219), ("_law_words", .ref 224), ("_law_factors", .ref 229), ("_law_crowds", .ref 234), ("_law_denominator", .ref 241), ("_law_tops_and_valleys", .ref 246)]
noncomputable def gl (x : PySem.Str) : Option Value := glL.lookup x

noncomputable abbrev Kf (w : World) : Frag := hd.heap_39 w.params
noncomputable def nmOk (K : Frag) (p : PySem.Str × Value) : Bool := !gname0 p.1 || (nsIn K mainGlobals p.1 == some (some p.2) || (nsIn K mainGlobals p.1 == some none && (bootBuiltins p.1 == some p.2 && !(p.1 == ("__name__" : PySem.Str)))))
theorem gl_nm (P : Params) : glL.all (nmOk (hd.heap_39 P)) = true := by rfl
noncomputable def kpOk (K : Frag) (v : Value) : Bool := match v with
  | .ref _ => keepIn K v
  | .builtin _ => true
  | .type _ => true
  | .int _ _ => true
  | _ => false
theorem gl_kp (P : Params) : (glL.all fun p => kpOk (hd.heap_39 P) p.2) = true := by rfl
theorem gl_mem {x : PySem.Str} {v : Value} (h : gl x = some v) : (x, v) ∈ glL := mem_of_lookup h

section
variable {prog : Program} {w : World}
theorem hdr_inst {h : Heap} {a d b : Addr} (x : IsHdr h a d b) : ∃ od, InstAt h a (instObj hdrCls d) hdrCls (some od) ∧ ∃ hsh t n, od = dictOf [⟨hsh, .str (Str.ofString "_headers") t, .ref b⟩] n := by
  obtain ⟨hsh, t, n, e⟩ := x.ns
  exact ⟨_, ⟨x.obj, rfl, rfl, e⟩, hsh, t, n, rfl⟩
theorem bg_gm {h : Heap} (X : (Kf w).In h) {O : Ow} {s : Shared} {ov : Value} {l : List D} (k : Kp h s.heap) (r : R O s.heap (.hdr l) ov) (pl : Sem Bool) (A : Around) (Q : Value × List Value → Shared → Prop) (E : Value → Shared → Prop)
    (hq : Q (.ref 142, [ov]) s) : wpAny (model prog w) A (getMethod ov "get_all" pl) Q E s := by
  obtain ⟨a, d, b, its, rfl, na, nd, nb, x, il, rl⟩ := r.hdr_v
  ·
    obtain ⟨od, I, hsh, t, n, rfl⟩ := hdr_inst x
    exact method_fn (K := Kf w) (X.keeps k) I rfl rfl rfl rfl rfl hq
theorem bg {h : Heap} (X : (Kf w).In h) {mb : PySem.Str → Option Value} (hb : h.Ns builtinsNs mb) (hmb : ∀ x : PySem.Str, x ≠ "__name__" → mb x = bootBuiltins x) : Bg prog w gl h where
  nm := fun x v hx hn => by
    have := gl_nm w.params
    rw [List.all_eq_true] at this
    have := this _ (gl_mem hx)
    unfold nmOk at this
    simp only [hn, Bool.not_true, Bool.false_or, Bool.or_eq_true, Bool.and_eq_true, beq_iff_eq, Bool.not_eq_true', beq_eq_false_iff_ne] at this
    rcases this with q | ⟨q, q2, q3⟩
    · exact .inl (looks_nsIn X q)
    · exact .inr ⟨looks_nsIn X q, mb, hb, (hmb x q3).trans q2⟩
  kp := fun x v h' hx k => by
    have := gl_kp w.params
    rw [List.all_eq_true] at this
    have := this _ (gl_mem hx)
    dsimp only at this
    cases v with
    | ref a => exact keeps_K (K := Kf w) (f := .ref a) this h' (X.keeps k)
    | builtin i => exact ⟨.machine, .inr (.inl rfl), Looks.of_pure rfl⟩
    | type i => exact ⟨.machine, .inr (.inl rfl), Looks.of_pure rfl⟩
    | int i t => exact ⟨.machine, .inr (.inl rfl), Looks.of_pure rfl⟩
    | _ => exfalso; first | exact no_some this | cases this
  len := rfl
  sum := rfl
  int := rfl
  list := rfl
  range := rfl
  enum := rfl
  zip := rfl
  gm := fun f hf O s ov l k r pl A Q E hq => by
    have : f = .ref 142 := by
      have e : gl ".get_all" = some (.ref 142) := rfl
      rw [e] at hf; exact (Option.some.inj hf).symm
    subst this
    exact bg_gm X k r pl A Q E hq
end
end Mine
end
section
open PySem PySem.W PyProof.Rows PySem.Calls PySem.Spec
set_option linter.unusedVariables false
set_option linter.unusedSectionVars false
set_option maxRecDepth 1000000
namespace Mine
variable [Inhabited Rho]

noncomputable def cnvSh (x : (Nat → Pos) × Stmt × Stmt) : Prop := (methOf "_convert_string_type").2.2 =
    [.If (.Compare (.Call (.Name "type" (x.1 0)) [.Name "value" (x.1 1)] [] (x.1 2)) [.Is] [.Name "str" (x.1 3)] (x.1 4))
      [.Assign [.Name "regex" (x.1 5)] (.IfExp (.Name "name" (x.1 6)) (.Name "_name_disallowed_re" (x.1 7)) (.Name "_value_disallowed_re" (x.1 8)) (x.1 9)) (x.1 10),
       .If (.Call (.Attribute (.Name "regex" (x.1 11)) "search" (x.1 12)) [.Name "value" (x.1 13)] [] (x.1 14)) [x.2.1] [] (x.1 15),
       .Return (some (.Name "value" (x.1 16))) (x.1 17)] [] (x.1 18), x.2.2] ∧ ((x.1 12).endLine == (x.1 14).line) = true
omit [Inhabited Rho] in
theorem cnv_ex : ∃ x, cnvSh x :=
  ⟨(fun i => [_, _, _, _, _, _, _, _, _, _, _, _, _, _, _, _, _, _, _].getD i default, _, _), rfl, rfl⟩
noncomputable def cnvX : (Nat → Pos) × Stmt × Stmt := cnv_ex.choose
omit [Inhabited Rho] in
theorem conv_shape : cnvSh cnvX := cnv_ex.choose_spec

section
variable {prog : Program} {w : World} {n : Nat} {h₀ : Heap} {W : Ow} {ad : PySem.Str → Addr} {env : Env} {cx : Cx} {s : Shared} {d : D} {A : Around}
noncomputable def glK (w : World) (x : PySem.Str) : Option Value := (nsIn (Kf w) mainGlobals x).join
theorem glob_nameL {x : PySem.Str} {v : Value} (L : Looks (model prog w) s.heap (nsGet mainGlobals x) (some v)) (e : ER h₀ W ad s.heap env cx) {p : Pos} (hg : cx.kinds.lookup x = some .globalImplicit) (hd : (x == ("__debug__" : PySem.Str)) = false) {Q : Value → Shared → Prop} {E : Value → Shared → Prop}
    (h : Q v s) : wpAny (model prog w) A (eval (.Name x p) env) Q E s := by
  have hk : env.kindOf x = some .globalImplicit := (kindOf_eq e x).trans hg
  refine wpAny_Name ?_ hd
  unfold loadName
  simp only [Env.blockKind, e.kind, hk, ScopeKind.isAnnotationScope, Bool.false_and, Bool.false_eq_true, if_false]
  unfold loadGlobal
  rw [e.glob]
  refine wpAny_bind (L.here ?_)
  exact wpAny_pure h
theorem glob_nameB {x : PySem.Str} {v : Value} (L : Looks (model prog w) s.heap (nsGet mainGlobals x) none) {mb : PySem.Str → Option Value} (nb : s.heap.Ns builtinsNs mb) (hv : mb x = some v) (e : ER h₀ W ad s.heap env cx) {p : Pos} (hg : cx.kinds.lookup x = some .globalImplicit) (hd : (x == ("__debug__" : PySem.Str)) = false) {Q : Value → Shared → Prop} {E : Value → Shared → Prop}
    (h : Q v s) : wpAny (model prog w) A (eval (.Name x p) env) Q E s := by
  have hk : env.kindOf x = some .globalImplicit := (kindOf_eq e x).trans hg
  refine wpAny_Name ?_ hd
  unfold loadName
  simp only [Env.blockKind, e.kind, hk, ScopeKind.isAnnotationScope, Bool.false_and, Bool.false_eq_true, if_false]
  unfold loadGlobal
  rw [e.glob, e.bi]
  refine wpAny_bind (L.here ?_)
  refine wpAny_bind (wpAny_nsGet nb ?_)
  rw [hv]; exact wpAny_pure h
/-- a local name that stands for one value -/
theorem raw_name (er : ER h₀ W ad s.heap env cx) {x : PySem.Str} {p : Pos} {v : Value} (hx : cx.vars.lookup x = some (.sy (.raw v))) (hd : (x == ("__debug__" : PySem.Str)) = false) {Q : Value → Shared → Prop} {E : Value → Shared → Prop} (h : Q v s) : wpAny (model prog w) A (eval (.Name x p) env) Q E s := by
  obtain ⟨u, lk, r⟩ := er.vars x _ hx
  ·
    have : u = v := r.sy_v
    subst this
    exact wpAny_Name (load_lk er.kind lk h) hd
end
end Mine
end
section
open PySem PySem.W PyProof.Rows PySem.Calls PySem.Spec
set_option maxRecDepth 100000
namespace Mine
theorem pa_pat : PlainAttrs "re.Pattern" :=
  ⟨⟨"object.__getattribute__", by rw [typeLookup_type, builtinLookup_eq_fast]; kernel_rfl, by decide +kernel⟩, by rw [typeLookup_type, builtinLookup_eq_fast]; kernel_rfl⟩
theorem slot_search : Slot "re.Pattern" "search" "re.Pattern.search" :=
  .of (owner := "re.Pattern") (n := "search") (by rw [typeLookup_type, builtinLookup_eq_fast]; kernel_rfl) (by decide +kernel) (by decide +kernel) (by decide +kernel)
    (by first | exact .inl (by decide +kernel) | exact .inr (by decide +kernel)) (by rw [isSubtype_type]; kernel_rfl)
theorem type_search : typeOf (.builtin "re.Pattern.search") = pure (.type "method_descriptor") := by show builtinType _ = _; rw [builtinType_eq_fast]; kernel_rfl
theorem entry_search : entryFor table "re.Pattern.search" = some Builtin.«re.Pattern.search» := entryFor_of_tree (by kernel_rfl)
theorem args_search (a b : Value) : argsOk "re.Pattern.search" ⟨[a, b], []⟩ := by unfold argsOk; kernel_rfl
theorem slot_sub : Slot "re.Pattern" "sub" "re.Pattern.sub" :=
  .of (owner := "re.Pattern") (n := "sub") (by rw [typeLookup_type, builtinLookup_eq_fast]; kernel_rfl) (by decide +kernel) (by decide +kernel) (by decide +kernel)
    (by first | exact .inl (by decide +kernel) | exact .inr (by decide +kernel)) (by rw [isSubtype_type]; kernel_rfl)
theorem type_sub : typeOf (.builtin "re.Pattern.sub") = pure (.type "method_descriptor") := by show builtinType _ = _; rw [builtinType_eq_fast]; kernel_rfl
theorem entry_sub : entryFor table "re.Pattern.sub" = some Builtin.«re.Pattern.sub» := entryFor_of_tree (by kernel_rfl)
theorem entry_subloop : entryFor table "re.Pattern.sub.loop" = some Builtin.«re.Pattern.sub.loop» := entryFor_of_tree (by kernel_rfl)
theorem args_sub (a b c : Value) : argsOk "re.Pattern.sub" ⟨[a, b, c], []⟩ := by unfold argsOk; kernel_rfl
theorem pa_bytes : PlainAttrs "bytes" :=
  ⟨⟨"bytes.__getattribute__", by rw [typeLookup_type, builtinLookup_eq_fast]; kernel_rfl, by decide +kernel⟩, by rw [typeLookup_type, builtinLookup_eq_fast]; kernel_rfl⟩
theorem slot_bcount : Slot "bytes" "count" "bytes.count" :=
  .of (owner := "bytes") (n := "count") (by rw [typeLookup_type, builtinLookup_eq_fast]; kernel_rfl) (by decide +kernel) (by decide +kernel) (by decide +kernel)
    (by first | exact .inl (by decide +kernel) | exact .inr (by decide +kernel)) (by rw [isSubtype_type]; kernel_rfl)
theorem type_bcount : typeOf (.builtin "bytes.count") = pure (.type "method_descriptor") := by show builtinType _ = _; rw [builtinType_eq_fast]; kernel_rfl
theorem entry_bcount : entryFor table "bytes.count" = some Builtin.«bytes.count» := entryFor_of_tree (by kernel_rfl)
theorem args_bcount (a b : Value) : argsOk "bytes.count" ⟨[a, b], []⟩ := by unfold argsOk; kernel_rfl
theorem slot_bjoin : Slot "bytes" "join" "bytes.join" :=
  .of (owner := "bytes") (n := "join") (by rw [typeLookup_type, builtinLookup_eq_fast]; kernel_rfl) (by decide +kernel) (by decide +kernel) (by decide +kernel)
    (by first | exact .inl (by decide +kernel) | exact .inr (by decide +kernel)) (by rw [isSubtype_type]; kernel_rfl)
theorem entry_bjoin : entryFor table "bytes.join" = some Builtin.«bytes.join» := entryFor_of_tree (by kernel_rfl)
theorem args_bjoin (a b : Value) : argsOk "bytes.join" ⟨[a, b], []⟩ := by unfold argsOk; kernel_rfl
end Mine
end
section
open PySem PySem.W PyProof.Rows PySem.Calls PySem.Spec
set_option linter.unusedVariables false
set_option linter.unusedSectionVars false
set_option maxRecDepth 1000000
namespace Mine
variable [Inhabited Rho]

/-- what is known of the top at every heap behind it -/
structure TopK (w : World) (h : Heap) : Prop where
  X : (Kf w).In h
  lim : h.NoLimit
  mb : ∃ mb : PySem.Str → Option Value, h.Ns builtinsNs mb ∧ ∀ x : PySem.Str, x ≠ "__name__" → mb x = bootBuiltins x
theorem TopK.keeps {w : World} {h h' : Heap} (T : TopK w h) (k : Kp h h') : TopK w h' :=
  ⟨T.X.keeps k, T.lim.keeps k, let ⟨mb, a, b⟩ := T.mb; ⟨mb, ns_at a fun o e => k _ o e, b⟩⟩
noncomputable def SafeV (v : Value) : Prop := ∃ (x : PySem.Str) (t : Tok), v = .str x t ∧ safeS x = true ∧ x.cps.size ≤ 1000

section
variable {prog : Program} {w : World} {n : Nat} {h₀ : Heap} {W : Ow} {ad : PySem.Str → Addr} {env : Env} {cx : Cx} {s : Shared} {d : D} {A : Around}
theorem top_name (T : TopK w s.heap) {x : PySem.Str} {v : Value} (hn : nsIn (Kf w) mainGlobals x = some (some v)) (e : ER h₀ W ad s.heap env cx) {p : Pos} (hg : cx.kinds.lookup x = some .globalImplicit) (hd : (x == ("__debug__" : PySem.Str)) = false) {Q : Value → Shared → Prop} {E : Value → Shared → Prop}
    (h : Q v s) : wpAny (model prog w) A (eval (.Name x p) env) Q E s := glob_nameL (looks_nsIn T.X hn) e hg hd h
theorem bi_name (T : TopK w s.heap) {x : PySem.Str} {v : Value} (hn : nsIn (Kf w) mainGlobals x = some none) (hb : bootBuiltins x = some v) (hx : x ≠ "__name__") (e : ER h₀ W ad s.heap env cx) {p : Pos} (hg : cx.kinds.lookup x = some .globalImplicit) (hd : (x == ("__debug__" : PySem.Str)) = false)
    {Q : Value → Shared → Prop} {E : Value → Shared → Prop} (h : Q v s) : wpAny (model prog w) A (eval (.Name x p) env) Q E s := by
  obtain ⟨mb, nb, hmb⟩ := T.mb
  exact glob_nameB (looks_nsIn T.X hn) nb ((hmb x hx).trans hb) e hg hd h

/-- type(x), x a local name -/
theorem type_call (T : TopK w s.heap) (er : ER h₀ W ad s.heap env cx) {x : PySem.Str} {p p2 pos : Pos} {v : Value} {Tx : String} (hg : cx.kinds.lookup ("type" : PySem.Str) = some .globalImplicit) (hx : ∀ (A : Around) (Q : Value → Shared → Prop) (E : Value → Shared → Prop), Q v s → wpAny (model prog w) A (eval (.Name x p2) env) Q E s)
    (hT : s.TypeIs v Tx) (hnb : (Value.type Tx == Value.type "builtin_function_or_method") = false) {Q : Value → Shared → Prop} {E : Value → Shared → Prop} (h : Q (.type Tx) s) : wpAny (model prog w) A (eval (.Call (.Name "type" p) [.Name x p2] [] pos) env) Q E s := by
  refine wpAny_Call_NameR (bi_name T (v := .type "type") rfl rfl (by decide +kernel) er hg (by decide +kernel) ?_)
  refine callWith_of (P := fun h' => Kp s.heap h') rfl (fun h' k => ⟨.machine, .inr (.inl rfl), Looks.of_pure rfl⟩) ?_
  have body : wpAny (model prog w) A (spliced (backTo pos (starEach [.Name x p2] env))) (fun vs s₁ => Kp s.heap s₁.heap ∧ wpAny (model prog w) A (call (.type "type") ([] ++ vs)) Q E s₁) E s :=
    args_cons (hx _ _ _ (args_nil ⟨Kp.refl _, call_type_of hT hnb h⟩)) rfl
  exact evalArgs_plain body

theorem search_call (er : ER h₀ W ad s.heap env cx) {code : Array Nat} {a : Addr} (hp : PatAt s.heap a code 0) (hc : code = codeN ∨ code = codeV) {v : Value} (hv : SafeV v) {p12 p13 p14 p15 : Pos} (hpos : (p13.endLine == p15.line) = true)
    (hr : cx.vars.lookup ("regex" : PySem.Str) = some (.sy (.raw (.ref a)))) (hval : cx.vars.lookup ("value" : PySem.Str) = some (.sy (.raw v))) {Q : Value → Shared → Prop} {E : Value → Shared → Prop} (h : Q .none s) :
    wpAny (model prog w) A (eval (.Call (.Attribute (.Name "regex" p12) "search" p13) [.Name "value" p14] [] p15) env) Q E s := by
  refine wpAny_Call_method_late rfl rfl hpos rfl (raw_name er hr (by decide +kernel) ?_)
  obtain ⟨src, fl, g, t, q, oq, items, m, ha, hq, hd, hcode⟩ := hp.ex
  obtain ⟨x, u, rfl, hs, hl⟩ := hv
  refine ⟨"re.Pattern", _, pa_pat, slot_search, type_search, ⟨_, ha, rfl⟩, (fun b e => by cases e; exact ⟨_, ha, rfl⟩), ?_⟩
  refine callWith_method1 (args_cons (raw_name er hval (by decide +kernel) (args_nil ?_)) rfl)
  exact wpAny_call_entry slot_search ⟨_, ha, rfl⟩ entry_search (re_search ⟨src, fl, g, t, q, oq, items, m, ha, hq, hd, hcode⟩ hc hs (by omega) h) (args_search _ _)

theorem conv_run (T₀ : TopK w h₀) {v sv : Value} {b : Bool} (hv : SafeV v) (hcx : cx = startCx (methOf "_convert_string_type").1 ["self", "value", "name"] [.sy (.raw sv), .sy (.raw v), .bool b]) (er : ER h₀ W ad s.heap env cx) :
    ExG prog w n h₀ W ad env cx (cx.set "regex" (.sy (.raw (.ref (if b then 77 else 82))))) (some (.sy (.raw v))) (execs (methOf "_convert_string_type").2.2 env) s := by
  obtain ⟨hb, hpos⟩ := conv_shape
  rw [hb]
  have k1 : cx.kinds.lookup ("type" : PySem.Str) = some .globalImplicit := by rw [hcx]; rfl
  have k2 : cx.kinds.lookup ("str" : PySem.Str) = some .globalImplicit := by rw [hcx]; rfl
  have k3 : cx.kinds.lookup ("_name_disallowed_re" : PySem.Str) = some .globalImplicit := by rw [hcx]; rfl
  have k4 : cx.kinds.lookup ("_value_disallowed_re" : PySem.Str) = some .globalImplicit := by rw [hcx]; rfl
  have v1 : cx.vars.lookup ("value" : PySem.Str) = some (.sy (.raw v)) := by rw [hcx]; rfl
  have v2 : cx.vars.lookup ("name" : PySem.Str) = some (.bool b) := by rw [hcx]; rfl
  have m1 : ("regex" : PySem.Str) ∈ cx.mine := by rw [hcx]; exact of_decide_eq_true (by rfl)
  obtain ⟨x, u, hx, hs, hl⟩ := id hv
  intro Q E hQ
  have T := T₀.keeps er.base
  refine wpAny_execs_cons (wpAny_If (wpAny_isTrue_Compare1 ?_ rfl))
  refine type_call T er k1 (fun A Q E h => raw_name er v1 (by decide +kernel) h) (by rw [hx]; exact typeIs_str _ _ _) (by decide +kernel) ?_
  refine bi_name T (v := .type "str") rfl rfl (by decide +kernel) er k2 (by decide +kernel) ?_
  refine wpAny_is_self rfl (wpAny_truthy_bool ?_)
  simp only [if_true]
  refine wpAny_execs_cons (assignName rfl (wpAny_IfExp ?_))
  have hpat : ∀ Q : Value → Shared → Prop, Q (.ref (if b then 77 else 82)) s → wpAny (model prog w) (Ar n) (if b = true then eval (.Name "_name_disallowed_re" (cnvX.1 7)) env else eval (.Name "_value_disallowed_re" (cnvX.1 8)) env) Q E s := fun Q h => by
    cases b with
    | true => exact top_name T (v := .ref 77) rfl er k3 (by decide +kernel) h
    | false => exact top_name T (v := .ref 82) rfl er k4 (by decide +kernel) h
  obtain ⟨vb, lkb, rb⟩ := er.vars "name" _ v2
  obtain rfl := rb.bool_v
  ·
    refine isTrue_plain (wpAny_Name (load_lk er.kind lkb (wpAny_truthy_bool ?_)) (by decide +kernel)) rfl
    have step : wpAny (model prog w) (Ar n) (if b = true then eval (.Name "_name_disallowed_re" (cnvX.1 7)) env else eval (.Name "_value_disallowed_re" (cnvX.1 8)) env) (fun v₁ s₁ => wpAny (model prog w) (Ar n) (storeName env "regex" v₁) (fun _ => (fun f s' => match f with
        | .next => wpAny (model prog w) (Ar n) (execs [.If (.Call (.Attribute (.Name "regex" (cnvX.1 11)) "search" (cnvX.1 12)) [.Name "value" (cnvX.1 13)] [] (cnvX.1 14)) [cnvX.2.1] [] (cnvX.1 15), .Return (some (.Name "value" (cnvX.1 16))) (cnvX.1 17)] env) (fun f s' => match f with
          | .next => wpAny (model prog w) (Ar n) (execs [cnvX.2.2] env) Q E s'
          | f => Q f s') E s'
        | f => (fun f s' => match f with
          | .next => wpAny (model prog w) (Ar n) (execs [cnvX.2.2] env) Q E s'
          | f => Q f s') f s') Flow.next) E s₁) E s := by
      refine hpat _ (store_wp er m1 fun h' tk z => ?_)
      obtain ⟨er', T', K'⟩ := er.set m1 (.sy _ _ rfl : R (Oo W ad env cx) s.heap (.sy (.raw (.ref (if b then 77 else 82)))) _) z
      have T2 := T₀.keeps er'.base
      have hp : PatAt h' (if b then 77 else 82) (if b then codeN else codeV) 0 := by
        cases b with
        | true => exact pat_name T2.X
        | false => exact pat_value T2.X
      have hc : (if b then codeN else codeV) = codeN ∨ (if b then codeN else codeV) = codeV := by cases b <;> simp
      have w1 : (cx.set "regex" (.sy (.raw (.ref (if b then 77 else 82))))).vars.lookup ("regex" : PySem.Str) = some (.sy (.raw (.ref (if b then 77 else 82)))) := by rw [hcx]; rfl
      have w2 : (cx.set "regex" (.sy (.raw (.ref (if b then 77 else 82))))).vars.lookup ("value" : PySem.Str) = some (.sy (.raw v)) := by rw [hcx]; rfl
      refine wpAny_execs_cons (wpAny_If (isTrue_plain (search_call (s := { s with heap := h', toks := tk }) er' hp hc hv hpos w1 w2 (truthy_none ?_)) rfl))
      simp only [Bool.false_eq_true, if_false]
      refine wpAny_execs_nil ?_
      refine wpAny_execs_cons (wpAny_Return_some (raw_name (s := { s with heap := h', toks := tk }) er' w2 (by decide +kernel) ?_))
      exact hQ (.ret v) ad h' tk er' T' K' ⟨v, rfl, .sy _ _ rfl⟩
    cases b <;> exact step
end
end Mine
end
section
open PySem PySem.W PyProof.Rows PySem.Calls PySem.Spec
set_option linter.unusedVariables false
set_option linter.unusedSectionVars false
set_option maxRecDepth 1000000
namespace Mine
variable [Inhabited Rho]

section
variable {prog : Program} {w : World} {n : Nat} {h₀ : Heap} {W : Ow} {ad : PySem.Str → Addr} {env : Env} {cx : Cx} {s : Shared} {d : D} {A : Around}
theorem conv_code (T : TopK w s.heap) {v sv : Value} {b : Bool} (hv : SafeV v) (hh : A.handled = none) (hdep : A.depth + 1 ≤ 400 + 10 * min n 50) (hun : A.units + 3 ≤ 100 + 20 * min n 50) {R : Result → Shared → Prop} (h : ∀ h' tk, Kp s.heap h' → R (.ok (.ret v)) { s with heap := h', toks := tk }) :
    codeAny (model prog w) A (.call (.ref 104) ⟨[sv, v], [("name", .bool b)]⟩) R s := by
  refine def_ex (n := n) (O := fun _ => False) (ds := [.sy (.raw sv), .sy (.raw v), .bool b]) (d := .sy (.raw v)) (xs := ["self", "value"]) (ys := ["name"]) hh hdep hun (fn_conv T.X) T.lim rfl rfl (of_decide_eq_true (by rfl)) ?_ (of_decide_eq_true (by rfl)) rfl rfl (fun _ f => f.elim) ?_ (fun env s₁ _ k1 er => conv_run T hv rfl er) fun u h' tk k r => ?_
  · have : ((["self", "value", "name"] : List PySem.Str).all fun x => (methOf "_convert_string_type").1.names.lookup x == some .local || (methOf "_convert_string_type").1.names.lookup x == some .cell) = true := by rfl
    simp only [List.all_eq_true, Bool.or_eq_true, beq_iff_eq] at this
    exact this
  · exact .cons _ _ _ _ (.sy _ _ rfl) (.cons _ _ _ _ (.sy _ _ rfl) (.cons _ _ _ _ (.bool _) .nil))
  ·
      have : u = v := r.sy_v
      subst this
      exact h h' tk k

theorem conv_meth {a d : Addr} {od : Obj} (T : TopK w s.heap) (I : InstAt s.heap a (instObj hdrCls d) hdrCls (some od)) (hs : shadowIn (some od) "_convert_string_type" = some false) (pl : Sem Bool) {Q : Value × List Value → Shared → Prop} {E : Value → Shared → Prop}
    (hq : Q (.ref 104, [.ref a]) s) : wpAny (model prog w) A (getMethod (.ref a) "_convert_string_type" pl) Q E s :=
  method_fn (K := Kf w) T.X I rfl rfl rfl rfl hs hq
/-- self._convert_string_type(value, name=b) -/
theorem conv_expr (hn : n < 50) {e : Expr} {sp apos pos kp kpos : Pos} {cn : Nat} {a d : Addr} {od : Obj} {b : Bool} (T : TopK w s.heap) (hself : ∀ (Q : Value → Shared → Prop) (E : Value → Shared → Prop), Q (.ref a) s → wpAny (model prog w) (Ar n) (eval (.Name "self" sp) env) Q E s) (hline : (apos.endLine == pos.line) = true)
    (I : InstAt s.heap a (instObj hdrCls d) hdrCls (some od)) (hs : shadowIn (some od) "_convert_string_type" = some false) {P : Value → Prop}
    {Q : Value → Shared → Prop} {E : Value → Shared → Prop} (hse : starEach [e] env = [(false, eval e env)])
    (he : ∀ (Q' : Value → Shared → Prop), (∀ v h' tk, SafeV v → P v → Kp s.heap h' → Q' v { s with heap := h', toks := tk }) → wpAny (model prog w) (Ar n) (eval e env) Q' E s)
    (h : ∀ v h' tk, P v → Kp s.heap h' → Q v { s with heap := h', toks := tk }) :
    wpAny (model prog w) (Ar n) (eval (.Call (.Attribute (.Name "self" sp) "_convert_string_type" apos) [e] [⟨some "name", .Constant (.bool b) cn kp, kpos⟩] pos) env) Q E s := by
  rw [arm_eval_Call, base_eq rfl]
  refine wpAny_bind (hself _ _ ?_)
  refine wpAny_bind (wpAny_standAt ?_)
  have hform : methodCallForm ([e].length + [(⟨some "name", .Constant (.bool b) cn kp, kpos⟩ : Keyword)].length) (backTo pos (starEach [e] env)) (backToKw pos (keywordEach [⟨some "name", .Constant (.bool b) cn kp, kpos⟩] env)) = true := by rw [hse]; rfl
  have hpos : methodCallPos true (.Name "self" sp) env apos pos = pure pos := by unfold methodCallPos; simp [hline]
  unfold methodCall
  rw [hform]
  refine wpAny_bind (wpAny_holding (conv_meth T I hs _ ?_))
  refine wpAny_bind (wpAny_of_eq hpos ?_)
  refine callWith_of (P := fun h' => Kp s.heap h') (by rw [hse]; rfl) (fun h' k => keeps_K (K := Kf w) (f := .ref 104) rfl h' (T.X.keeps k)) (evalArgs_kw2 rfl ?_ (by rw [hse]; rfl))
  refine args_cons (he _ fun v h1 tk1 hv hP k1 => args_nil (kwAll_cons (wpAny_Constant_bool (kwAll_nil ⟨k1, ?_⟩)))) (by rw [hse]; rfl)
  refine wpAny_call (conv_code (n := n + 1) (s := { s with heap := h1, toks := tk1 }) (T.keeps k1) hv rfl ?_ ?_ fun h2 tk2 k2 => h v h2 tk2 hP (k1.trans k2))
  · show 400 + 10 * min n 50 + 1 ≤ 400 + 10 * min (n + 1) 50; omega
  · show 100 + 20 * min n 50 + 3 ≤ 100 + 20 * min (n + 1) 50; omega
end
end Mine
end
section
open PySem PySem.W PyProof.Rows PySem.Calls PySem.Spec
set_option linter.unusedVariables false
set_option linter.unusedSectionVars false
set_option maxRecDepth 1000000
namespace Mine
variable [Inhabited Rho]

noncomputable def Pz : Pr := fun _ _ => none
noncomputable def hdrOf : Option D → Option D
  | some (.hdr l) => some (.list l)
  | _ => none
noncomputable def evH : Nat → Ev
  | 0 => fun _ _ => none
  | k + 1 => fun cx e => match e with
    | .Attribute (.Name x _) at_ _ => if at_ = "_headers" ∧ (x == ("__debug__" : PySem.Str)) = false then hdrOf (cx.vars.lookup x) else none
    | e => stepE Pz (evH k) cx e
noncomputable def lowerE : List Stmt → Expr
  | .Assign _ (.Call _ [e] _ _) _ :: _ => e
  | _ => .Constant .none 0 default
noncomputable def gaB : List Stmt := (methOf "get_all").2.2
noncomputable def gaCx (l : List D) (nm : PySem.Str) : Cx := startCx (methOf "get_all").1 ["self", "name"] [.hdr l, .str nm]
noncomputable def getAllD (l : List D) (nm : PySem.Str) : Option D := match evN Pz 5 (gaCx l nm) (lowerE gaB) with
  | some (.str y) => if safeS y && Nat.ble y.cps.size 1000 then (xsN (evH 12) [] 4 ((gaCx l nm).set "name" (.str y)) (gaB.drop 1)).bind (·.2) else none
  | _ => none

theorem ga_shape : ∃ p1 p2 p3 e p7 p8 p9 p10 c1, gaB = .Assign [.Name "name" p1] (.Call (.Attribute (.Name "self" p2) "_convert_string_type" p3) [e] [⟨some "name", .Constant (.bool true) c1 p7, p8⟩] p9) p10 :: gaB.drop 1 ∧ (p3.endLine == p9.line) = true ∧ e = lowerE gaB ∧ (∀ env, starEach [e] env = [(false, eval e env)]) :=
  ⟨_, _, _, _, _, _, _, _, _, rfl, rfl, rfl, fun _ => rfl⟩

section
variable {prog : Program} {w : World} {n : Nat} {hB h₀ : Heap} {W : Ow} {ad : PySem.Str → Addr} {env : Env} {cx : Cx} {s : Shared} {d : D} {A : Around}
theorem evH_star : ∀ k, NoStar (evH k)
  | 0 => fun _ _ _ => rfl
  | k + 1 => fun _ _ _ => rfl
theorem pz_ok (gl : PySem.Str → Option Value) : PrimOk prog w n gl Pz hB := ⟨fun _ _ _ _ h => (by cases h), fun _ _ h => (by cases h)⟩
theorem evH_ok {gl : PySem.Str → Option Value} (T : TopK w hB) (B : Bg prog w gl hB) : ∀ k, EvOk prog w n hB (evH k)
 | 0 => fun cx e d h => by cases h
 | k + 1 => fun cx e d h h₀ W ad env s hb er => by
  unfold evH at h
  split at h
  · rename_i x xp at_ pos
    split at h
    · rename_i hc
      obtain ⟨rfl, hd⟩ := hc
      unfold hdrOf at h
      split at h
      · rename_i l hl
        cases h
        obtain ⟨v, lk, r⟩ := er.vars x _ hl
        intro Q E hQ
        refine Attribute_name (wpAny_Name (load_lk er.kind lk ?_) hd)
        obtain ⟨a, dd, b, its, rfl, na, nd, nb, hx, il, rl⟩ := r.hdr_v
        ·
          obtain ⟨od, I, hsh, t, m, rfl⟩ := hdr_inst hx
          exact get_value (K := Kf w) ((T.keeps (hb.trans er.base)).X) I rfl rfl rfl (hQ _ s.heap _ (Kp.refl _) (.list l b its nb il rl))
      · exfalso; first | exact no_some h | cases h
    · exfalso; first | exact no_some h | cases h
  · exact stepE_sound (evH_ok T B k) (evH_star k) B (pz_ok gl) cx e d h h₀ W ad env s hb er

theorem getall_gives {gl : PySem.Str → Option Value} (hn : n < 49) (T : TopK w hB) (B : Bg prog w gl hB) {O : Ow} {vs : List Value} {l : List D} {nm : PySem.Str} (hk : Kp hB s.heap) (lv : ∀ b, O b → ∃ o, s.heap.get? b = some o) (rl : RL O s.heap [.hdr l, .str nm] vs) (h : getAllD l nm = some d) :
    Gives prog w n O (call (.ref 142) vs) d s := fun Q E hQ => by
  unfold getAllD at h
  split at h
  · rename_i y hy
    split at h
    · rename_i hsafe
      rw [Bool.and_eq_true, Nat.ble_eq] at hsafe
      obtain ⟨⟨cx', o⟩, hrun, ho⟩ := bind_ex h
      have ho : o = some d := ho
      subst ho
      have T' := T.keeps hk
      have hl := rl.length
      refine wpAny_call (def_ex (n := n + 1) (O := O) (ds := [.hdr l, .str nm]) (d := d) (cx' := cx') (xs := ["self", "name"]) (ys := []) (kw := []) rfl (by show 400 + 10 * min n 50 + 1 ≤ 400 + 10 * min (n + 1) 50; omega) (by show 100 + 20 * min n 50 + 3 ≤ 100 + 20 * min (n + 1) 50; omega) (fn_getall T'.X) T'.lim hl.symm rfl (of_decide_eq_true (by rfl)) ?_ (of_decide_eq_true (by rfl)) rfl rfl lv (by simpa using rl) (fun env s₁ hs1 k1 er => ?_) fun v h' tk k r => hQ v h' tk k r)
      · have : ((["self", "name"] : List PySem.Str).all fun x => (methOf "get_all").1.names.lookup x == some .local || (methOf "get_all").1.names.lookup x == some .cell) = true := by rfl
        simp only [List.all_eq_true, Bool.or_eq_true, beq_iff_eq] at this
        exact this
      · obtain ⟨p1, p2, p3, e, p7, p8, p9, p10, c1, hb, hpos, he, hse⟩ := ga_shape
        have er : ER s.heap O (fun _ => 0) s₁.heap env (gaCx l nm) := er
        show ExG prog w (n + 1) s.heap O (fun _ => 0) env (gaCx l nm) cx' (some d) (execs gaB env) s₁
        rw [hb]
        intro Q E hQ
        have T1 := T'.keeps er.base
        obtain ⟨v, lk, r⟩ := er.vars ("self" : PySem.Str) (.hdr l) rfl
        obtain ⟨a, dd, b, its, rfl, na, nd, nb, hx, il, rl'⟩ := r.hdr_v
        ·
          obtain ⟨od, I, hsh, t, m, rfl⟩ := hdr_inst hx
          refine wpAny_execs_cons (assignName rfl (conv_expr (by omega) T1 (fun Q E h => wpAny_Name (load_lk er.kind lk h) (by decide +kernel)) hpos I rfl (P := fun v => ∃ t, v = .str y t) (hse env) (fun Q' hq => ?_) fun v h1 tk1 hv k1 => ?_))
          · refine evN_sound (n := n + 1) B (pz_ok gl) 5 _ _ _ (he ▸ hy) s.heap O _ env s₁ hk er _ _ fun v h1 tk1 k1 rv => ?_
            obtain ⟨t, rfl⟩ := rv.str_v
            exact hq _ h1 tk1 ⟨_, _, rfl, hsafe.1, hsafe.2⟩ ⟨t, rfl⟩ k1
          · obtain ⟨t, rfl⟩ := hv
            refine store_wp (s := { s₁ with heap := h1, toks := tk1 }) (er.kp k1) (of_decide_eq_true (by rfl)) fun h2 tk2 z => ?_
            obtain ⟨er2, T2, K2⟩ := (er.kp k1).set (of_decide_eq_true (by rfl)) (.str y t : R _ h1 (.str y) _) z
            have xo := (xsN_sound (n := n + 1) (hB := hB) (evH_ok T B 12) (evH_star 12) B (mu := []) 4).1
            refine xo _ _ _ _ hrun s.heap O _ env { s₁ with heap := h2, toks := tk2 } hk er2 _ _ fun fl ad' h3 tk3 e3 T3 K3 F3 => ?_
            obtain ⟨v, rfl, rv⟩ := F3
            exact hQ (.ret v) ad' h3 tk3 e3 ((Tr.of_kp k1).trans (T2.trans T3)) (KW.trans (KW.of_kp k1) (KW.trans K2 K3)) ⟨v, rfl, rv⟩
    · exfalso; first | exact no_some h | cases h
  · exfalso; first | exact no_some h | cases h
end
end Mine
end
section
open PySem PySem.W PyProof.Rows PySem.Calls PySem.Spec
set_option linter.unusedVariables false
set_option linter.unusedSectionVars false
set_option maxRecDepth 1000000
namespace Mine
variable [Inhabited Rho]
open PySem.Builtin

section
variable {prog : Program} {w : World} {A : Around} {E : Value → Shared → Prop} {s : Shared}
/-- the first attribute of a new object -/
theorem set_first (X : (Kf w).In s.heap) {a d : Addr} (ha : s.heap.get? a = some (instObj hdrCls d)) (hd : s.heap.get? d = some emptyDict) {v : Value} {Q : Unit → Shared → Prop}
    (h : ∀ h' hsh tk n, Heap.SameBut d s.heap h' → h'.get? d = some (dictOf [⟨hsh, .str (Str.ofString "_headers") tk, v⟩] n) → ∀ tk', Q () { s with heap := h', toks := tk' }) :
    wpAny (model prog w) A (setAttr (.ref a) "_headers" v) Q E s := by
  have I : InstAt s.heap a (instObj hdrCls d) hdrCls (some emptyDict) := ⟨ha, rfl, rfl, hd⟩
  refine set_plain (K := Kf w) X I rfl ?_
  have I' : InstAt ({ s with toks := s.toks + 1 } : Shared).heap a (instObj hdrCls d) hdrCls (some emptyDict) := I
  refine osa_open (K := Kf w) (s := { s with toks := s.toks + 1 }) (r := none) X I' rfl rfl fun b => ?_
  obtain ⟨cd, hc, hdct⟩ : ∃ cd, clsIn (Kf w) hdrCls = some cd ∧ cd.hasDict = true := ⟨_, rfl, rfl⟩
  refine wpAny_bind (wpAny_pure (wpAny_bind (wpAny_bind (wpAny_loadPart ha (wpAny_bind ((looks_clsIn X hc).at ?_))))))
  rw [hdct]
  refine wpAny_pure (a := some d) (wpAny_bind (wpAny_pure (wpAny_bind ?_)))
  unfold nsSet
  refine wpAny_bind (wpAny_bind (wpAny_askSetting (wpAny_pure (wpAny_bind (wpAny_mkText (wpAny_bind (wpAny_loadPart hd ?_)))))))
  refine wpAny_updatePart hd ?_
  have hnew := Heap.get?_update_self (h := s.heap) (a := d) (Obj.putName (Str.ofString "_headers") (PyData.keyHash w.params (Str.ofString "_headers")) (.str (Str.ofString "_headers") (s.toks + 1)) v) hd (by rfl)
  refine wpAny_bind (wpAny_lookBehind hnew (by rfl) ?_)
  exact wpAny_pure (h _ _ _ _ (Heap.SameBut.update ..) hnew _)
end
end Mine
end
section
open PySem PySem.W PyProof.Rows PySem.Calls PySem.Spec
set_option linter.unusedVariables false
set_option linter.unusedSectionVars false
set_option maxRecDepth 1000000
namespace Mine
variable [Inhabited Rho]

section
variable {h₀ h₁ h h' : Heap} {W : Ow} {ad : PySem.Str → Addr} {env : Env} {cx : Cx}
/-- an elder base -/
theorem ER.rebase (e : ER h₀ W ad h env cx) (k : Kp h₁ h₀) (hc : ∀ x c, env.cells.lookup x = some c → ¬ W c) : ER h₁ W ad h env cx := by
  have nn : ∀ b, h₀.get? b = none → h₁.get? b = none := fun b q => by
    cases z : h₁.get? b with
    | none => rfl
    | some o => have := k b o z; rw [q] at this; cases this
  exact { base := k.trans e.base, kind := e.kind, names := e.names, glob := e.glob, bi := e.bi, wl := e.wl, ns := e.ns, nl := e.nl, nl0 := nn _ e.nl0, cells := e.cells
          cw := fun x c hx w => absurd w (hc x c hx), cinj := e.cinj
          mine := fun x hx => (e.mine x hx).imp id fun ⟨a, c, b, q, r⟩ => ⟨a, c, b, nn _ q, r⟩
          vars := e.vars
          own := fun x l hx => let ⟨a, b, c, d⟩ := e.own x l hx; ⟨a, nn _ b, c, d⟩
          inj := e.inj }
/-- more is known of a name -/
theorem ER.know (e : ER h₀ W ad h env cx) {x : PySem.Str} {v : Value} {d : D} (lk : Lk h env x v) (r : R (Oo W ad env cx) h d v) : ER h₀ W ad h env { cx with vars := (x, d) :: cx.vars } :=
  { base := e.base, kind := e.kind, names := e.names, glob := e.glob, bi := e.bi, wl := e.wl, ns := e.ns, nl := e.nl, nl0 := e.nl0, cells := e.cells, cw := e.cw, cinj := e.cinj, mine := e.mine
    vars := fun y dy hy => by
      rw [List.lookup_cons] at hy
      split at hy
      · rename_i q; cases hy
        have : y = x := beq_iff_eq.mp q
        subst this
        exact ⟨v, lk, r⟩
      · exact e.vars y dy hy
    own := e.own, inj := e.inj }
end

/-- texts that may stand in headers -/
noncomputable def safeD (d : D) : Bool := (orr (d.str?.map fun x => safeS x && Nat.ble x.cps.size 1000) (orr (d.dec?.map fun i => sm10 i) ((d.sy?.bind Sy.dec?).map fun p => decide (p.bnd < 10000000000)))).getD false
theorem dec_safe {i : Int} (h : sm10 i = true) : safeS (Str.ofString (toString i)) = true ∧ (Str.ofString (toString i)).cps.size ≤ 1000 := by
  refine ⟨?_, Nat.le_trans (dec_len h) (by decide)⟩
  unfold safeS
  rw [List.all_eq_true]
  intro c hc
  have d1 : ∀ m : Nat, ∀ c ∈ (Str.ofString (toString ((m : Nat) : Int))).cps.toList, 48 ≤ c ∧ c ≤ 57 := fun m c hc => by
    rw [KIN.signs_num] at hc
    obtain ⟨ch, hch, e⟩ := List.mem_map.mp hc
    have r := digit_range (Nat.isDigit_of_mem_toDigits (by decide) (by decide) hch)
    rw [← e]
    exact r
  have fin : ∀ c, 48 ≤ c ∧ c ≤ 57 → safeC c = true := fun c h => by
    unfold safeC
    simp only [Bool.or_eq_true, Bool.and_eq_true, Nat.ble_eq, Nat.beq_eq]
    omega
  by_cases q : 0 ≤ i
  · obtain ⟨m, rfl⟩ := Int.eq_ofNat_of_zero_le q
    exact fin c (d1 m c hc)
  · rw [neg_cps (by omega)] at hc
    rcases List.mem_cons.mp hc with rfl | hc
    · rfl
    · obtain ⟨m, hm⟩ := Int.eq_ofNat_of_zero_le (show 0 ≤ 0 - i by omega)
      rw [hm] at hc
      exact fin c (d1 m c hc)
theorem safe_of {O : Ow} {h : Heap} {d : D} {v : Value} (hs : safeD d = true) (r : R O h d v) : SafeV v := by
  rcases orr_some (getD_ex hs) with hs | hs
  · obtain ⟨x, hx, hs⟩ := map_ex hs
    obtain ⟨t, rfl⟩ := strR r hx
    rw [Bool.and_eq_true, Nat.ble_eq] at hs
    exact ⟨_, _, rfl, hs.1, hs.2⟩
  rcases orr_some hs with hs | hs
  · obtain ⟨i, hi, hs⟩ := map_ex hs
    obtain ⟨t, rfl⟩ := decR' r hi
    exact ⟨_, _, rfl, (dec_safe hs).1, (dec_safe hs).2⟩
  · obtain ⟨p, hp, hs⟩ := map_ex hs
    obtain ⟨y, hy, hp⟩ := bind_ex hp
    have q := syR r hy
    rw [sdec_eq hp] at q
    obtain ⟨t, rfl⟩ := q
    have hs : p.bnd < 10000000000 := of_decide_eq_true hs
    have h10 : sm10 (Po.ev p) = true := by
      have := Po.ev_abs p
      unfold sm10
      rw [Bool.and_eq_true, decide_eq_true_eq, decide_eq_true_eq]
      omega
    exact ⟨_, _, rfl, (dec_safe h10).1, (dec_safe h10).2⟩

noncomputable def isHdrD (o : Option D) : Bool := (o.bind D.hdr?).isSome
noncomputable def okD : Option D → Bool
  | some d => safeD d
  | none => false
noncomputable def Keyword.b? (k : Keyword) : Option PySem.Str := match k.value with
  | .Constant c _ _ => (match c with
    | .bool _ => k.arg
    | _ => none)
  | _ => none
omit [Inhabited Rho] in
theorem Keyword.b_eq {k : Keyword} {x : PySem.Str} (h : Keyword.b? k = some x) : ∃ b n p q, k = ⟨some x, .Constant (.bool b) n p, q⟩ := by
  obtain ⟨a, v, q⟩ := k
  cases v with
  | Constant c n p =>
    cases c with
    | bool b =>
      have h : a = some x := h
      exact ⟨b, n, p, q, by rw [h]⟩
    | _ => exfalso; exact no_some h
  | _ => exfalso; exact no_some h
/-- self.m(k, nm=True or False): o, m, k, nm -/
noncomputable def convC : Expr → Option (PySem.Str × PySem.Str × PySem.Str × PySem.Str)
  | .Call f args kws pos => (Expr.at? f).bind fun q => bind2 (Expr.nm? q.1) ((one? args).bind Expr.nm?) fun o k => ((one? kws).bind Keyword.b?).bind fun nm => if (q.2.2.endLine == pos.line) = true then some (o, q.2.1, k, nm) else none
  | _ => none
omit [Inhabited Rho] in
theorem convC_ex {e : Expr} {q : PySem.Str × PySem.Str × PySem.Str × PySem.Str} (h : convC e = some q) : ∃ op ap kp b cn kp2 kpos pos, e = .Call (.Attribute (.Name q.1 op) q.2.1 ap) [.Name q.2.2.1 kp] [⟨some q.2.2.2, .Constant (.bool b) cn kp2, kpos⟩] pos ∧ (ap.endLine == pos.line) = true := by
  cases e with
  | Call f args kws pos =>
    obtain ⟨a, ha, h⟩ := bind_ex h
    obtain ⟨o, k, ho, hk, h⟩ := bind2_ex h
    obtain ⟨nm, hnm, h⟩ := bind_ex h
    obtain ⟨hl, rfl⟩ := ite_eq h
    obtain ⟨op, e1⟩ := Expr.nm_eq ho
    obtain ⟨g, hg, hk⟩ := bind_ex hk
    obtain ⟨kp, e2⟩ := Expr.nm_eq hk
    obtain ⟨kw, hkw, hnm⟩ := bind_ex hnm
    obtain ⟨b, cn, kp2, kpos, e3⟩ := Keyword.b_eq hnm
    exact ⟨op, a.2.2, kp, b, cn, kp2, kpos, pos, by rw [Expr.at_eq ha, e1, one_eq hg, e2, one_eq hkw, e3], hl⟩
  | _ => exfalso; exact no_some h
noncomputable def convT (cx : Cx) (q : PySem.Str × PySem.Str × PySem.Str × PySem.Str) : Bool :=
  (q.1 == ("self" : PySem.Str)) && ((q.2.1 == ("_convert_string_type" : PySem.Str)) && ((q.2.2.2 == ("name" : PySem.Str)) && (isHdrD (cx.vars.lookup ("self" : PySem.Str)) && (okD (cx.vars.lookup q.2.2.1) && !(q.2.2.1 == ("__debug__" : PySem.Str))))))
noncomputable def convS (cx : Cx) : Stmt → Bool
  | .Expr c _ => ((convC c).map (convT cx)).getD false
  | _ => false
noncomputable def xConv : Xs := fun cx sts => if sts.all (convS cx) = true then some (cx, none) else none

section
variable {prog : Program} {w : World} {n : Nat} {hB h₀ : Heap} {W : Ow} {ad : PySem.Str → Addr} {env : Env} {cx : Cx} {s : Shared} {d : D} {A : Around}
theorem convE_ok (hn : n < 50) (T : TopK w h₀) (er : ER h₀ W ad s.heap env cx) {k : PySem.Str} {op ap kp kp2 kpos pos spos : Pos} {b : Bool} {cn : Nat} {l : List D} {dk : D} (hpos : (ap.endLine == pos.line) = true) (hl : cx.vars.lookup ("self" : PySem.Str) = some (.hdr l)) (hdk : cx.vars.lookup k = some dk) (hk : safeD dk = true) (hkd : (k == ("__debug__" : PySem.Str)) = false) :
    ExG prog w n h₀ W ad env cx cx none (exec (.Expr (.Call (.Attribute (.Name "self" op) "_convert_string_type" ap) [.Name k kp] [⟨some "name", .Constant (.bool b) cn kp2, kpos⟩] pos) spos) env) s := fun Q E hQ => by
  obtain ⟨v, lk, r⟩ := er.vars ("self" : PySem.Str) _ hl
  obtain ⟨vk, lkk, rk⟩ := er.vars k _ hdk
  obtain ⟨a, dd, b2, its, rfl, na, nd, nb, hx, il, rl'⟩ := r.hdr_v
  obtain ⟨od, I, hsh, t, m, rfl⟩ := hdr_inst hx
  refine wpAny_Expr_any ?_ (by unfold interactive; rw [er.kind]; rfl) rfl
  exact conv_expr hn (T.keeps er.base) (fun Q E h => wpAny_Name (load_lk er.kind lk h) (by decide +kernel)) hpos I rfl (P := fun _ => True) rfl
    (fun Q' hq => wpAny_Name (load_lk er.kind lkk (hq vk s.heap s.toks (safe_of hk rk) trivial (Kp.refl _))) hkd) fun v h1 tk1 _ k1 => hQ .next ad h1 tk1 (er.kp k1) (.of_kp k1) (.of_kp k1) rfl
theorem convS_ok (hn : n < 50) (T : TopK w h₀) (er : ER h₀ W ad s.heap env cx) {st : Stmt} (h : convS cx st = true) : ExG prog w n h₀ W ad env cx cx none (exec st env) s := by
  cases st with
  | Expr c p =>
    obtain ⟨⟨o, m, k, nm⟩, hq, h⟩ := map_ex (getD_ex h)
    unfold convT at h
    rw [Bool.and_eq_true, Bool.and_eq_true, Bool.and_eq_true, Bool.and_eq_true, Bool.and_eq_true, beq_iff_eq, beq_iff_eq, beq_iff_eq, Bool.not_eq_true'] at h
    obtain ⟨h1, h2, h3, hself, hk, hkd⟩ := h
    obtain ⟨op, ap, kp, b, cn, kp2, kpos, pos, e, hpos⟩ := convC_ex hq
    obtain ⟨ds, hds⟩ := Option.isSome_iff_exists.mp hself
    obtain ⟨d0, hd0, hds⟩ := bind_ex hds
    rw [hdr_eq hds] at hd0
    have e2 : m = "_convert_string_type" := h2
    have e3 : nm = "name" := h3
    have e1 : o = "self" := h1
    rw [e1, e2, e3] at e
    rw [e]
    cases hdk : cx.vars.lookup k with
    | none => rw [hdk] at hk; exfalso; exact Bool.false_ne_true hk
    | some dk => rw [hdk] at hk; exact convE_ok hn T er hpos hd0 hdk hk hkd
  | _ => exfalso; exact Bool.false_ne_true h
theorem xConv_ok (hn : n < 50) (T : TopK w hB) : XOk prog w n hB xConv := by
  intro cx sts cx' o h h₀ W ad env s hb er
  have hall := (ite_ex h).1
  obtain ⟨rfl, rfl⟩ := Prod.mk.inj (ite_eq h).2
  have T0 := T.keeps hb
  clear hb h
  induction sts generalizing s ad with
  | nil => exact fun Q E hQ => wpAny_execs_nil (hQ .next ad s.heap s.toks er .refl (fun _ _ _ e => e) rfl)
  | cons st rest ih =>
    rw [List.all_cons, Bool.and_eq_true] at hall
    intro Q E hQ
    refine wpAny_execs_cons (convS_ok hn T0 er hall.1 _ E fun fl ad' h' tk e' T' K' F' => ?_)
    have : fl = .next := F'
    subst this
    exact ih ad' { s with heap := h', toks := tk } e' hall.2 Q E fun fl ad2 h2 tk2 e2 T2 K2 F2 => hQ fl ad2 h2 tk2 e2 (T'.trans T2) (KW.trans K' K2) F2
theorem xConv_mine : MineX xConv := fun cx sts p h => by
  rw [← (ite_eq h).2]
end
end Mine
end
section
open PySem PySem.W PyProof.Rows PySem.Calls PySem.Spec
set_option linter.unusedVariables false
set_option linter.unusedSectionVars false
set_option maxRecDepth 1000000
namespace Mine
noncomputable def stB : Stmt → List Stmt
  | .For _ _ b _ _ => b
  | .If _ b _ _ => b
  | _ => []
noncomputable def iniF : List Stmt := stB ((stB ((methOf "__init__").2.2.getD 3 (.Pass default))).getD 0 (.Pass default))
noncomputable def iniSh (x : (Nat → Pos) × Nat × Nat × Nat × Stmt × List Stmt) : Prop := (methOf "__init__").2.2 = [
    .Assign [.Name "headers" (x.1 0)] (.IfExp (.Compare (.Name "headers" (x.1 1)) [.IsNot] [.Constant .none x.2.1 (x.1 2)] (x.1 3)) (.Name "headers" (x.1 4)) (.List [] (x.1 5)) (x.1 6)) (x.1 7),
    .If (.Compare (.Call (.Name "type" (x.1 8)) [.Name "headers" (x.1 9)] [] (x.1 10)) [.IsNot] [.Name "list" (x.1 11)] (x.1 12)) [x.2.2.2.2.1] [] (x.1 13),
    .Assign [.Attribute (.Name "self" (x.1 14)) "_headers" (x.1 15)] (.Name "headers" (x.1 16)) (x.1 17),
    .If (.Constant (.bool true) x.2.2.1 (x.1 18)) [.For (.Tuple [.Name "k" (x.1 22), .Name "v" (x.1 23)] x.2.2.2.1 (x.1 24)) (.Name "headers" (x.1 19)) x.2.2.2.2.2 [] (x.1 20)] [] (x.1 21)] ∧ x.2.2.2.2.2 = iniF
theorem ini_ex : ∃ x, iniSh x :=
  ⟨(fun i => [_, _, _, _, _, _, _, _, _, _, _, _, _, _, _, _, _, _, _, _, _, _, _, _, _].getD i default, _, _, _, _, _), rfl, rfl⟩
noncomputable def iniX : (Nat → Pos) × Nat × Nat × Nat × Stmt × List Stmt := ini_ex.choose
theorem init_shape : iniSh iniX := ini_ex.choose_spec
variable [Inhabited Rho]
theorem init_fb (cx : Cx) (h1 : isHdrD (cx.vars.lookup ("self" : PySem.Str)) = true) (h2 : okD (cx.vars.lookup ("k" : PySem.Str)) = true) (h3 : okD (cx.vars.lookup ("v" : PySem.Str)) = true) : iniF.all (convS cx) = true := by
  show (convT cx ("self", "_convert_string_type", "k", "name") && (convT cx ("self", "_convert_string_type", "v", "name") && true)) = true
  unfold convT
  rw [h1, h2, h3]
  rfl

noncomputable def pairsOk (l : List D) : Bool := ((prs l).map fun rows => rows.all fun row => row.all safeD).getD false

theorem loop_conv {fb : List Stmt} (hfb : ∀ cx : Cx, isHdrD (cx.vars.lookup ("self" : PySem.Str)) = true → okD (cx.vars.lookup ("k" : PySem.Str)) = true → okD (cx.vars.lookup ("v" : PySem.Str)) = true → fb.all (convS cx) = true) :
    ∀ (rows : List (List D)) (cx : Cx), (∀ row ∈ rows, ∃ a b, row = [a, b]) → (rows.all fun row => row.all safeD) = true → isHdrD (cx.vars.lookup ("self" : PySem.Str)) = true → ∃ cx', loopX xConv ["k", "v"] fb rows cx = some (cx', none)
  | [], cx, _, _, _ => ⟨cx, rfl⟩
  | row :: rest, cx, hp, hs, hself => by
    obtain ⟨a, b, rfl⟩ := hp row (by simp)
    rw [List.all_cons, Bool.and_eq_true] at hs
    obtain ⟨h1, h2⟩ := hs
    simp only [List.all_cons, List.all_nil, Bool.and_true, Bool.and_eq_true] at h1
    have l1 : ((cx.set "k" a).set "v" b).vars.lookup ("self" : PySem.Str) = cx.vars.lookup ("self" : PySem.Str) := by
      show List.lookup ("self" : PySem.Str) (("v", b) :: ("k", a) :: cx.vars) = _
      rw [List.lookup_cons, List.lookup_cons]
      rfl
    have l2 : ((cx.set "k" a).set "v" b).vars.lookup ("k" : PySem.Str) = some a := by
      show List.lookup ("k" : PySem.Str) (("v", b) :: ("k", a) :: cx.vars) = _
      rw [List.lookup_cons, List.lookup_cons]
      rfl
    have l3 : ((cx.set "k" a).set "v" b).vars.lookup ("v" : PySem.Str) = some b := by
      show List.lookup ("v" : PySem.Str) (("v", b) :: ("k", a) :: cx.vars) = _
      rw [List.lookup_cons]
      rfl
    have hx : xConv ((cx.set "k" a).set "v" b) fb = some ((cx.set "k" a).set "v" b, none) := by
      unfold xConv
      rw [hfb _ (by rw [l1]; exact hself) (by rw [l2]; exact h1.1) (by rw [l3]; exact h1.2)]
      rfl
    obtain ⟨cx', e⟩ := loop_conv hfb rest ((cx.set "k" a).set "v" b) (fun r hr => hp r (List.mem_cons_of_mem _ hr)) h2 (by rw [l1]; exact hself)
    refine ⟨cx', ?_⟩
    unfold loopX
    show (some ((cx.set "k" a).set "v" b)).bind _ = _
    rw [Option.bind_some, hx, Option.bind_some]
    exact e
end Mine
end
section
open PySem PySem.W PyProof.Rows PySem.Calls PySem.Spec
set_option linter.unusedVariables false
set_option linter.unusedSectionVars false
set_option maxRecDepth 1000000
namespace Mine
variable [Inhabited Rho]
noncomputable def iCx (sv : Value) (l : List D) : Cx := startCx (methOf "__init__").1 ["self", "headers"] [.sy (.raw sv), .list l]
section
variable {prog : Program} {w : World} {n : Nat} {hB h₀ : Heap} {W : Ow} {ad : PySem.Str → Addr} {env : Env} {cx : Cx} {s : Shared} {d : D} {A : Around}
/-- the body of Headers.__init__ -/
theorem init_run {gl : PySem.Str → Option Value} (hn : n < 50) (T : TopK w hB) (B : Bg prog w gl hB) (hb : Kp hB h₀) {O : Ow} {a dd : Addr} {l : List D} (hok : pairsOk l = true) (hda : dd ≠ a)
    (hO : ∀ b, O b → ∃ o, h₀.get? b = some o) (ha0 : h₀.get? a = none) (hd0 : h₀.get? dd = none) (er : ER h₀ (fun b => O b ∨ (b = a ∨ b = dd)) ad s.heap env (iCx (.ref a) l))
    (ha : s.heap.get? a = some (instObj hdrCls dd)) (hd : s.heap.get? dd = some emptyDict) (nsa : ¬ Stg env a) (nsd : ¬ Stg env dd) {Q : Flow → Shared → Prop} {E : Value → Shared → Prop}
    (hQ : ∀ h' tk, Kp h₀ h' → R O h' (.hdr l) (.ref a) → Q .next { s with heap := h', toks := tk }) : wpAny (model prog w) (Ar n) (execs (methOf "__init__").2.2 env) Q E s := by
  obtain ⟨hbd, hF⟩ := init_shape
  have hfb := init_fb
  rw [← hF] at hfb
  rw [hbd]
  have T0 := T.keeps hb
  obtain ⟨v0, lk0, r0⟩ := er.vars ("headers" : PySem.Str) (.list l) rfl
  have hn0 : ∃ b, v0 = .ref b := by obtain ⟨a, its, e, _⟩ := r0.list_v; exact ⟨a, e⟩
  obtain ⟨b0, rfl⟩ := hn0
  refine wpAny_execs_cons (assignName rfl (wpAny_IfExp (wpAny_isTrue_Compare1 (wpAny_Name (load_lk er.kind lk0 (wpAny_Constant_none (wpAny_isNot_plain rfl (wpAny_truthy_bool ?_)))) (by decide +kernel)) rfl)))
  have e1 : (!((Value.ref b0) == Value.none)) = true := by rfl
  rw [e1]
  simp only [if_true]
  refine wpAny_Name (load_lk er.kind lk0 ?_) (by decide +kernel)
  refine store_wp er (of_decide_eq_true (by rfl)) fun h1 tk1 z1 => ?_
  obtain ⟨er1, T1, K1⟩ := er.set (of_decide_eq_true (by rfl)) r0 z1
  have ha1 := K1 a (.inr (.inl rfl)) _ ha
  have hd1 := K1 dd (.inr (.inr rfl)) _ hd
  obtain ⟨v1, lk1, r1⟩ := er1.vars ("headers" : PySem.Str) (.list l) rfl
  obtain ⟨v2, lk2, r2⟩ := er1.vars ("self" : PySem.Str) (.sy (.raw (.ref a))) rfl
  have hv2 : v2 = .ref a := r2.sy_v
  subst hv2
  obtain ⟨b, its, rfl, nb, il, rl⟩ := r1.list_v
  ·
    have Tk := T0.keeps er1.base
    refine wpAny_execs_cons (wpAny_If (wpAny_isTrue_Compare1 (type_call (s := { s with heap := h1, toks := tk1 }) Tk er1 rfl (fun A Q E h => wpAny_Name (load_lk er1.kind lk1 h) (by decide +kernel)) il.typeIs (by decide +kernel) ?_) rfl))
    refine bi_name (s := { s with heap := h1, toks := tk1 }) Tk (v := .type "list") rfl rfl (by decide +kernel) er1 rfl (by decide +kernel) ?_
    refine wpAny_isNot_plain rfl (wpAny_truthy_bool ?_)
    have e2 : (!((Value.type "list") == Value.type "list")) = false := by rfl
    rw [e2]
    simp only [Bool.false_eq_true, if_false]
    refine wpAny_execs_nil ?_
    refine wpAny_execs_cons (plainObj_wpAny_Assign_Attribute (wpAny_Name (load_lk er1.kind lk1 (wpAny_Name (load_lk er1.kind lk2 ?_) (by decide +kernel))) (by decide +kernel)) rfl)
    refine set_first (s := { s with heap := h1, toks := tk1 }) Tk.X ha1 hd1 fun h3 hsh tk3 n3 sb hd3 tk4 => ?_
    have k3 : ∀ c o, h1.get? c = some o → ¬ (c = dd) → h3.get? c = some o := fun c o q z => (sb.2 c z).trans q
    have er3 : ER h₀ (fun b => O b ∨ (b = a ∨ b = dd)) ad h3 env ((iCx (.ref a) l).set "headers" (.list l)) := er1.frame (fun b => b = dd) (fun c q => ⟨.inr (.inr q), q ▸ hd0⟩) k3 (fun c q => ⟨_, q ▸ hd3⟩)
    have nM : ∀ c, (c = a ∨ c = dd) → h₀.get? c = none ∧ ¬ O c := fun c q => by
      have : h₀.get? c = none := by rcases q with rfl | rfl; exact ha0; exact hd0
      exact ⟨this, fun oc => by obtain ⟨o, ho⟩ := hO c oc; rw [this] at ho; cases ho⟩
    obtain ⟨er4, T4⟩ := er3.drop (M := fun c => c = a ∨ c = dd) (h' := h3) nM (fun _ _ q _ => q)
    have T3 : Tr (Oo (fun b => O b ∨ (b = a ∨ b = dd)) ad env ((iCx (.ref a) l).set "headers" (.list l))) h1 (Oo O ad env ((iCx (.ref a) l).set "headers" (.list l))) h3 :=
      Tr.trans (h' := h3) (fun c o q z => ⟨k3 c o q fun y => z (.inl (.inr (.inr y))), z⟩) T4
    have nO : ∀ c, (c = a ∨ c = dd) → ¬ Stg env c → ¬ Oo O ad env ((iCx (.ref a) l).set "headers" (.list l)) c := fun c q ns => by
      rintro (y | y | ⟨x, lx, y, _⟩)
      · exact (nM c q).2 y
      · exact ns y
      · exfalso; first | exact no_some y | cases y
    have il3 := isList_tr T3 nb il
    have rh : R (Oo O ad env ((iCx (.ref a) l).set "headers" (.list l))) h3 (.hdr l) (.ref a) :=
      .hdr l a dd b its (nO a (.inl rfl) nsa) (nO dd (.inr rfl) nsd) il3.2 ⟨k3 a _ ha1 (Ne.symm hda), hsh, tk3, n3, hd3⟩ il3.1 (rl.tr T3)
    have lk4 : Lk h3 env "self" (.ref a) := by
      obtain ⟨v4, lk4, r4⟩ := er4.vars ("self" : PySem.Str) (.sy (.raw (.ref a))) rfl
      have : v4 = .ref a := r4.sy_v
      exact this ▸ lk4
    have er5 := er4.know lk4 rh
    have hrows : ∃ rows, prs l = some rows ∧ (rows.all fun row => row.all safeD) = true := by
      exact map_ex (getD_ex (show ((prs l).map fun rows => rows.all fun row => row.all safeD).getD false = true from hok))
    obtain ⟨rows, hpr, hsafe⟩ := hrows
    obtain ⟨cx', hloop⟩ := loop_conv hfb rows { ((iCx (.ref a) l).set "headers" (.list l)) with vars := ("self", .hdr l) :: ((iCx (.ref a) l).set "headers" (.list l)).vars }
      (fun row hr => by obtain ⟨i, hi, rfl⟩ := List.getElem_of_mem hr; obtain ⟨a, b, e, _⟩ := (prs_at hpr).2 i rows[i] (by simp [hi]); exact ⟨a, b, e⟩) hsafe rfl
    refine wpAny_execs_cons (wpAny_If (isTrue_plain (wpAny_Constant_bool (wpAny_truthy_bool ?_)) rfl))
    simp only [if_true]
    refine wpAny_execs_cons (for_sound (n := n) (hB := hB) (r := evN Pz 3) (x := xConv) (tgt := .Tuple [.Name "k" (iniX.1 22), .Name "v" (iniX.1 23)] iniX.2.2.2.1 (iniX.1 24)) (it := .Name "headers" (iniX.1 19)) (body := iniX.2.2.2.2.2) (evN_sound B (pz_ok gl) 3) (evN_star Pz 3) B (xConv_ok hn T) hb (s := { s with heap := h3, toks := tk4 }) er5 (rows := rows) (fun y hy => ?_) xConv_mine ?_ hloop _ E fun fl ad' h' tk e' T' K' F' => ?_)
    · have : ([("k" : PySem.Str), "v"].all fun y => (mineOf (methOf "__init__").1).contains y) = true := by rfl
      rw [List.all_eq_true] at this
      have := this y hy
      exact List.contains_iff_mem.mp this
    · unfold evI
      rw [if_pos (by rfl)]
      show (evN Pz 3 _ (.Name "headers" (iniX.1 19))).bind (rowsOf (.Tuple [.Name "k" (iniX.1 22), .Name "v" (iniX.1 23)] iniX.2.2.2.1 (iniX.1 24))) = some rows
      have e : ∀ c : Cx, c.vars.lookup ("headers" : PySem.Str) = some (.list l) → evN Pz 3 c (.Name "headers" (iniX.1 19)) = some (.list l) := fun c hc => by
        show nameE Pz c "headers" = _
        unfold nameE
        rw [if_pos (by decide +kernel), hc]
      rw [e _ (by rfl)]
      exact hpr
    · have : fl = .next := F'
      subst this
      refine wpAny_execs_nil (wpAny_execs_nil ?_)
      exact hQ h' tk e'.base ((rh.tr T').tr (.sub fun c q => .inl q))
end
end Mine
end
section
open PySem PySem.W PyProof.Rows PySem.Calls PySem.Spec
set_option linter.unusedVariables false
set_option linter.unusedSectionVars false
set_option maxRecDepth 1000000
namespace Mine
variable [Inhabited Rho]
section
variable {prog : Program} {w : World} {n : Nat} {hB : Heap} {s : Shared} {d : D} {A : Around}
theorem headers_gives {gl : PySem.Str → Option Value} (hn : n < 49) (T : TopK w hB) (B : Bg prog w gl hB) {O : Ow} {vs : List Value} {l : List D} (hk : Kp hB s.heap) (lv : ∀ b, O b → ∃ o, s.heap.get? b = some o) (rl : RL O s.heap [.list l] vs) (hok : pairsOk l = true) :
    Gives prog w n O (call (.ref hdrCls) vs) (.hdr l) s := fun Q E hQ => by
  obtain ⟨h, g, dr, tk, os⟩ := s
  have T' := T.keeps hk
  have hX : (Kf w).In h := T'.X
  refine wpAny_call (make_core (rest := vs) (kw := []) (init := .ref 97) (makes_of (K := Kf w) hX rfl) (looks_findIn hX rfl) (fun self => bind_fn hX self rfl) (.inl rfl) ?_)
  have kp2 : Kp h ((h.push emptyDict).push (instObj hdrCls h.objs.size)) := fun b o e => Heap.get?_push_of_some _ (Heap.get?_push_of_some _ e)
  have T2 := T'.keeps kp2
  obtain ⟨ob, fd, ho, hdata, hcd, hbody, hscp, hclo, hg, hbi, hbind⟩ := (fn_init T2.X).ex
  have sz : ((h.push emptyDict).push (instObj hdrCls h.objs.size)).objs.size = h.objs.size + 1 + 1 := by rw [Heap.size_push, Heap.size_push]
  have hl := rl.length
  obtain ⟨lv0, rfl⟩ : ∃ v, vs = [v] := by
    obtain ⟨v, e, _⟩ := rl.one
    exact ⟨v, e⟩
  have hkx : ∀ x ∈ (["self", "headers"] : List PySem.Str), fd.scope.names.lookup x = some .local ∨ fd.scope.names.lookup x = some .cell := by
    rw [hscp]
    have : ((["self", "headers"] : List PySem.Str).all fun x => (methOf "__init__").1.names.lookup x == some .local || (methOf "__init__").1.names.lookup x == some .cell) = true := by rfl
    simp only [List.all_eq_true, Bool.or_eq_true, beq_iff_eq] at this
    exact this
  have lv2 : ∀ b, (O b ∨ (b = h.objs.size + 1 ∨ b = h.objs.size)) → ∃ o, ((h.push emptyDict).push (instObj hdrCls h.objs.size)).get? b = some o := by
    rintro b (q | rfl | rfl)
    · obtain ⟨o, e⟩ := lv b q; exact ⟨o, kp2 _ _ e⟩
    · exact ⟨_, by have := Heap.get?_push_size (h.push emptyDict) (o := instObj hdrCls h.objs.size) rfl; rw [Heap.size_push] at this; exact this⟩
    · exact ⟨_, Heap.get?_push_of_some _ (Heap.get?_push_size h (o := emptyDict) rfl)⟩
  have nlive : ∀ b, h.objs.size ≤ b → h.get? b = none := fun b q => Heap.get?_none_of_le q
  have T12 : Tr O h (fun b => O b ∨ (b = h.objs.size + 1 ∨ b = h.objs.size)) ((h.push emptyDict).push (instObj hdrCls h.objs.size)) := fun b o e q => by
    refine ⟨kp2 b o e, ?_⟩
    rintro (z | rfl | rfl)
    · exact q z
    · rw [nlive _ (Nat.le_succ _)] at e; cases e
    · rw [nlive _ (Nat.le_refl _)] at e; cases e
  have hsc : scopeOk fd.scope = true := by rw [hscp]; rfl
  refine codeAny_call_cells_kw (binds := zipB ["self", "headers"] [.ref (h.objs.size + 1), lv0]) (by show (400 + 10 * min n 50) + 1 < 1000; omega) ho hdata T2.lim hcd hbody (hbind _ [.ref (h.objs.size + 1), lv0] rfl) hclo (fun p hp => ?_) (fun s₁ x => ?_) (by rw [hscp]; rfl) (by rw [hscp]; rfl) (by rw [hscp]; rfl)
  · rcases hkx p.1 (zipB_names hp) with q | q
    · exact .inl q
    · refine .inr ⟨q, ?_⟩
      obtain ⟨c, hc⟩ := cells_has fd.scope.names (((h.push emptyDict).push (instObj hdrCls h.objs.size)).objs.size + 1) [] p.1 (mem_of_lookup q)
      obtain ⟨c', hc'⟩ := lookup_of_mem hc
      rw [hc']; rfl
  · have rl2 : RL (fun b => O b ∨ (b = h.objs.size + 1 ∨ b = h.objs.size)) ((h.push emptyDict).push (instObj hdrCls h.objs.size)) [.sy (.raw (.ref (h.objs.size + 1))), .list l] [.ref (h.objs.size + 1), lv0] :=
      .cons _ _ _ _ (.sy _ _ rfl) (rl.tr T12)
    have er0 := call_er (ad := fun _ => 0) (ds := [.sy (.raw (.ref (h.objs.size + 1))), .list l]) (xs := ["self", "headers"]) lv2 rl2 rfl (of_decide_eq_true (by rfl)) hkx hg hbi hsc x
    rw [hscp] at er0
    have hloc : (callEnvC fd ((h.push emptyDict).push (instObj hdrCls h.objs.size)).objs.size 97).locals = h.objs.size + 1 + 1 := sz
    have cab : ∀ y c, (callEnvC fd ((h.push emptyDict).push (instObj hdrCls h.objs.size)).objs.size 97).cells.lookup y = some c → h.objs.size + 1 + 1 < c := fun y c hc => by
      have := x.above y c (mem_of_lookup hc)
      rw [hloc] at this; exact this
    have lto : ∀ b, O b → b < h.objs.size := fun b q => by obtain ⟨o, e⟩ := lv b q; exact Heap.lt_size e
    have er1 := er0.rebase kp2 fun y c hc => by
      have l1 : h.objs.size + 1 + 1 < c := cab y c hc
      rintro (q | q | q)
      · exact absurd (lto c q) (Nat.not_lt.mpr (Nat.le_of_lt (Nat.lt_of_succ_lt (Nat.lt_of_succ_lt l1))))
      · rw [q] at l1; exact absurd l1 (Nat.not_lt.mpr (Nat.le_succ _))
      · rw [q] at l1; exact absurd l1 (Nat.not_lt.mpr (Nat.le_succ_of_le (Nat.le_succ _)))
    refine wp_weak (ar_deeper (n := n + 1) rfl (by show (400 + 10 * min n 50) + 1 + 1 ≤ 400 + 10 * min (n + 1) 50; omega) (by show (100 + 20 * min n 50) + 1 + 3 ≤ 100 + 20 * min (n + 1) 50; omega)) ?_
    have stg : ∀ c, c < h.objs.size + 1 + 1 → ¬ Stg (callEnvC fd ((h.push emptyDict).push (instObj hdrCls h.objs.size)).objs.size 97) c := fun c hc => by
      rintro (q | ⟨y, q⟩)
      · rw [hloc] at q; rw [q] at hc; exact absurd hc (Nat.lt_irrefl _)
      · exact absurd (Nat.lt_trans hc (cab y c q)) (Nat.lt_irrefl _)
    obtain ⟨h1, tk1, e1⟩ := x.toInCall.same
    subst e1
    refine init_run (n := n + 1) (by omega) T B hk hok (Nat.ne_of_lt (Nat.lt_succ_self _)) (fun b q => lv b q) (nlive _ (Nat.le_succ _)) (nlive _ (Nat.le_refl _)) er1 ?_ ?_ (stg _ (Nat.lt_succ_self _)) (stg _ (Nat.lt_succ_of_lt (Nat.lt_succ_self _))) fun h' tk' k' r' => ?_
    · exact x.toInCall.keep _ _ (by have := Heap.get?_push_size (h.push emptyDict) (o := instObj hdrCls h.objs.size) rfl; rw [Heap.size_push] at this; exact this)
    · exact x.toInCall.keep _ _ (Heap.get?_push_of_some _ (Heap.get?_push_size h (o := emptyDict) rfl))
    · exact ⟨rfl, hQ (.ref (h.objs.size + 1)) h' tk' k' r'⟩
end
end Mine
end
section
open PySem PySem.W PyProof.Rows PySem.Calls PySem.Spec
set_option linter.unusedVariables false
set_option linter.unusedSectionVars false
set_option maxRecDepth 1000000
namespace Mine
open PySem.Builtin PySem.Builtin.Bytes
noncomputable def cntB (b sub : Array UInt8) : Int := match (if (window b.size none none).2 - (window b.size none none).1 < sub.size then none else some ((window b.size none none).1.toNat, (window b.size none none).2.toNat)) with
  | none => 0
  | some (lo, hi) => if sub.isEmpty then ((hi - lo + 1 : Nat) : Int) else ((occurrences b sub lo hi).length : Int)
section
variable {prog : Program} {w : World} {A : Around} {E : Value → Shared → Prop} {s : Shared}
theorem count_gives {b sub : Array UInt8} {t u : Tok} (hs : sub.isEmpty = false) {Q : Value → Shared → Prop} (h : ∀ t', Q (.int (cntB b sub) t') { s with toks := s.toks + 1 }) :
    wpAny (model prog w) A (Builtin.«bytes.count» ⟨[.bytes b t, .bytes sub u], []⟩) (fun fin s' => ∃ v, fin = .done (.ret v) ∧ Q v s') E s := by
  unfold Builtin.«bytes.count» countM searchArgs
  refine wpAny_bind (wpAny_bind ?_)
  refine wpAny_of_eq (a := (Value.bytes b t, [Value.bytes sub u])) (by kernel_rfl) ?_
  refine wpAny_bind (wpAny_of_eq (a := none) rfl ?_)
  refine wpAny_bind (wpAny_of_eq (a := none) rfl ?_)
  refine wpAny_bind (wpAny_of_eq KBy.buffer_eq ?_)
  refine wpAny_bind (wpAny_pure ?_)
  refine wpAny_bind (wpAny_of_eq (a := b) rfl ?_)
  unfold cntB at h
  generalize window b.size none none = lh at h ⊢
  obtain ⟨lo, hi⟩ := lh
  refine wpAny_pure ?_
  show wpAny _ _ (match (if hi - lo < (sub.size : Int) then none else some (lo.toNat, hi.toNat)) with
    | none => retInt 0
    | some (lo, hi) => if sub.isEmpty = true then _ else retInt ↑(occurrences b sub lo hi).length) _ _ _
  have h' : ∀ t', Q (.int (match (if hi - lo < (sub.size : Int) then none else some (lo.toNat, hi.toNat)) with
    | none => 0
    | some (lo, hi) => if sub.isEmpty = true then ((hi - lo + 1 : Nat) : Int) else ((occurrences b sub lo hi).length : Int)) t') { s with toks := s.toks + 1 } := h
  generalize (if hi - lo < (sub.size : Int) then none else some (lo.toNat, hi.toNat)) = r at h' ⊢
  cases r with
  | none =>
    refine wpAny_bind (wpAny_mkInt ?_)
    exact wpAny_pure ⟨_, rfl, h' _⟩
  | some p =>
    obtain ⟨x, y⟩ := p
    dsimp only at h' ⊢
    rw [if_neg (by rw [hs]; exact Bool.false_ne_true)] at h' ⊢
    refine wpAny_bind (wpAny_mkInt ?_)
    exact wpAny_pure ⟨_, rfl, h' _⟩
end
end Mine
end
section
open PySem PySem.W PyProof.Rows PySem.Calls PySem.Spec
set_option linter.unusedVariables false
set_option linter.unusedSectionVars false
set_option maxRecDepth 1000000
namespace Mine
variable [Inhabited Rho]
open PySem.Builtin PySem.Builtin.Bytes
inductive BytesAre : List Value → List (Array UInt8) → Prop
  | nil : BytesAre [] []
  | cons (b : Array UInt8) (t : Tok) {vs : List Value} {bs : List (Array UInt8)} : BytesAre vs bs → BytesAre (.bytes b t :: vs) (b :: bs)
theorem BytesAre.length : ∀ {vs : List Value} {bs : List (Array UInt8)}, BytesAre vs bs → vs.length = bs.length
  | _, _, .nil => rfl
  | _, _, .cons _ _ r => by rw [List.length_cons, List.length_cons, r.length]
theorem BytesAre.append {vs' : List Value} {bs' : List (Array UInt8)} (y : BytesAre vs' bs') : ∀ {vs : List Value} {bs : List (Array UInt8)}, BytesAre vs bs → BytesAre (vs ++ vs') (bs ++ bs')
  | _, _, .nil => y
  | _, _, .cons b t r => .cons b t (BytesAre.append y r)
theorem BytesAre.get : ∀ {vs : List Value} {bs : List (Array UInt8)}, BytesAre vs bs → ∀ (i : Nat) (hi : i < vs.length), ∃ t, vs[i]? = some (.bytes (bs.getD i #[]) t)
  | _, _, .cons b t r, 0, _ => ⟨t, by simp⟩
  | _, _, .cons b t r, i + 1, hi => by
    obtain ⟨u, e⟩ := r.get i (by simpa using hi)
    exact ⟨u, by simpa using e⟩

section
variable {prog : Program} {w : World} {A : Around} {E : Value → Shared → Prop} {s : Shared}
theorem take_bytes {id : String} {b : Array UInt8} {t : Tok} : takeBufferQuiet? id (.bytes b t) 0 = pure (some (b, none)) := by
  unfold takeBufferQuiet? takeBuffer?
  rw [KBy.special_eq KBy.look_buffer, KBy.own_buffer]
  have e : ((0 : Int) == fullReadOnly) = false := by decide
  simp only [pure_bind, e, KBy.buffer_eq]
  first
    | rfl
    | kernel_rfl
    | trace_state
noncomputable def TakenOk (l : List (Value × Option Value)) : Prop := ∀ p ∈ l, (∃ b t, p.1 = .bytes b t) ∧ p.2 = none
theorem taken_any {l : List (Value × Option Value)} (h : TakenOk l) : (l.any fun x => x.1.onHeap) = false := by
  rw [List.any_eq_false]
  intro p hp
  obtain ⟨⟨b, t, e⟩, _⟩ := h p hp
  rw [e]; exact Bool.false_ne_true
theorem go_ok {res : Value} : ∀ (l : List (Value × Option Value)), TakenOk l → ∀ {Q : Unit → Shared → Prop}, Q () s → wpAny (model prog w) A (joinLetGo l [res]) Q E s
  | [], _, _, h => wpAny_pure h
  | (x, w') :: rest, hk, Q, h => by
    obtain ⟨_, e⟩ := hk (x, w') (by simp)
    dsimp only at e
    subst e
    unfold joinLetGo
    exact wpAny_bind (wpAny_letGo (go_ok rest (fun p hp => hk p (List.mem_cons_of_mem _ hp)) h))
theorem join_loop {its : Array Value} {bs : List (Array UInt8)} {f : Nat → Array (Array UInt8) × List (Value × Option Value) → Sem (ForInStep (Array (Array UInt8) × List (Value × Option Value)))} {Q : Array (Array UInt8) × List (Value × Option Value) → Shared → Prop}
    (hb : BytesAre its.toList bs)
    (step : ∀ (i : Nat) (parts : Array (Array UInt8)) (taken : List (Value × Option Value)) (t : Tok) (Q' : _ → Shared → Prop), its[i]? = some (.bytes (bs.getD i #[]) t) → TakenOk taken → Q' (.yield (parts.push (bs.getD i #[]), taken ++ [(.bytes (bs.getD i #[]) t, none)])) s → wpAny (model prog w) A (f i (parts, taken)) Q' E s) :
    ∀ (n i : Nat) (parts : Array (Array UInt8)) (taken : List (Value × Option Value)), i + n = its.size → TakenOk taken → parts.toList = bs.take i → (∀ parts' taken', TakenOk taken' → parts'.toList = bs → Q (parts', taken') s) → wpAny (model prog w) A (forIn (List.range' i n 1) (parts, taken) f) Q E s
  | 0, i, parts, taken, hi, hk, hp, h => by
    have hl := hb.length
    simp at hl
    exact wpAny_pure (h _ _ hk (by rw [hp, List.take_of_length_le (by omega)]))
  | n + 1, i, parts, taken, hi, hk, hp, h => by
    have hl := hb.length
    simp at hl
    obtain ⟨t, ht⟩ := hb.get i (by simp; omega)
    have ht' : its[i]? = some (.bytes (bs.getD i #[]) t) := by simpa using ht
    rw [show List.range' i (n + 1) 1 = i :: List.range' (i + 1) n 1 from rfl]
    refine KPc.turn (step i parts taken t _ ht' hk ?_)
    refine join_loop hb step n (i + 1) _ _ (by omega) (fun p hp' => ?_) ?_ h
    · rcases List.mem_append.mp hp' with q | q
      · exact hk p q
      · simp at q; subst q; exact ⟨⟨_, _, rfl⟩, rfl⟩
    · rw [Array.toList_push, hp, List.take_add_one]
      have : i < bs.length := by omega
      simp [List.getD_eq_getElem?_getD, this]

theorem match_one {α : Type} (its : Array Value) (f : Value → Sem α) (g : Sem α) (P : Sem α → Prop) (h1 : ∀ x, its = #[x] → P (f x)) (h2 : P g) : P (match (generalizing := false) its with | #[x] => f x | _ => g) := by
  obtain ⟨l⟩ := its
  match l with
  | [] => exact h2
  | [x] => exact h1 x rfl
  | a :: b :: r => exact h2
theorem join_more {L : Addr} {its : Array Value} {bs : List (Array UInt8)} {t : Tok} (pl : PL s.heap L its) (hb : BytesAre its.toList bs) (hz : bs.foldl (fun a x => a + x.size) 0 ≤ 1000) {Q : Value → Shared → Prop} (h : ∀ k t', Q (.bytes (joined #[] bs) t') { s with toks := k })
    (hone : ∀ b t, its = #[.bytes b t] → Q (.bytes b t) s) (hj0 : (joined #[] bs).size ≤ 1000) :
    wpAny (model prog w) A (Builtin.«bytes.join» ⟨[.bytes #[] t, .ref L], []⟩) (fun fin s' => ∃ v, fin = .done (.ret v) ∧ Q v s') E s := by
  unfold Builtin.«bytes.join» joinM
  refine wpAny_bind (wpAny_of_eq (a := (Value.bytes #[] t, Value.ref L)) (by kernel_rfl) ?_)
  obtain ⟨n, ho⟩ := pl.plain
  have hj : ∀ Q : Value → Shared → Prop, Q (.ref L) s → wpAny (model prog w) A (joinItems (.ref L)) Q E s := fun Q h => by
    unfold joinItems
    refine wpAny_bind (wpAny_typeOf pl.isList.typeIs ?_)
    exact wpAny_pure h
  refine wpAny_bind (hj _ ?_)
  refine wpAny_bind (wpAny_seqItems ho rfl ?_)
  dsimp only
  rw [if_pos (by rfl)]
  refine match_one its _ _ (fun t => wpAny (model prog w) A t (fun fin s' => ∃ v, fin = PySem.Fin.done (Flow.ret v) ∧ Q v s') E s) (fun x hx => ?_) ?_
  · subst hx
    cases hb with
    | cons b t' r =>
      refine wpAny_bind (wpAny_of_eq (a := .type "bytes") rfl ?_)
      rw [if_pos (by rfl)]
      exact wpAny_bind (wpAny_rule (wpAny_pure ⟨_, rfl, hone b t' rfl⟩))
  · refine wpAny_bind ?_
    rw [KPc.range_list]
    refine join_loop hb (fun i parts taken t' Q' hi hk hq => ?_) its.size 0 #[] [] (by omega) (fun p hp => by simp at hp) (by simp) fun parts taken hk hp => ?_
    · refine wpAny_bind (wpAny_seqItems ho rfl ?_)
      dsimp only
      rw [taken_any hk]
      rw [if_neg (by decide)]
      have hx : its.getD i Value.none = .bytes (bs.getD i #[]) t' := by
        rw [Array.getD_eq_getD_getElem?, hi]; rfl
      rw [hx]
      refine wpAny_bind (wpAny_holding (wpAny_of_eq take_bytes ?_))
      dsimp only
      refine wpAny_bind (wpAny_seqItems ho rfl ?_)
      dsimp only
      rw [if_neg (by simp)]
      exact wpAny_pure hq
    · refine wpAny_bind (wpAny_of_eq (a := #[]) rfl ?_)
      dsimp only
      have hz' : Array.foldl (fun x1 x2 => x1 + x2.size) ((#[] : Array UInt8).size * (parts.size - 1)) parts ≤ 1000 := by
        rw [← Array.foldl_toList, hp]
        simpa using hz
      have hz2 : tooLong (Array.foldl (fun x1 x2 => x1 + x2.size) ((#[] : Array UInt8).size * (parts.size - 1)) parts) = false := by
        unfold tooLong; rw [sizeLine_eq]; exact decide_eq_false (by omega)
      rw [hz2, if_neg Bool.false_ne_true]
      rw [hp]
      refine wpAny_bind (wpAny_mkBytes ?_ ?_)
      · refine wpAny_bind (wpAny_holding (wpAny_point (wpAny_bind (go_ok (s := { s with toks := s.toks + 1 }) taken hk ?_))))
        exact wpAny_pure ⟨_, rfl, h _ _⟩
      · rw [sizeLine_eq]; omega
end
end Mine
end
section
open PySem PySem.W PyProof.Rows PySem.Calls PySem.Spec
set_option linter.unusedVariables false
set_option linter.unusedSectionVars false
set_option maxRecDepth 1000000
namespace Mine
variable [Inhabited Rho]
open PySem.Builtin PySem.Builtin.Bytes PySem.Builtin.Re
noncomputable def drv : Nat → Sre.M → Sre.M
  | 0, m => m
  | k + 1, m => if (m.runFor reTurnSteps).outcome.isSome then m.runFor reTurnSteps else drv k (m.runFor reTurnSteps)
noncomputable def codeQ : Array Nat := #[14, 8, 1, 2, 4294967295, 1, 1, 34, 0, 16, 34, 28, 22, 0, 4294967295, 7, 11, 13, 7, 21, 16, 34, 16, 92, 0, 15, 8, 6, 16, 92, 2, 15, 2, 0, 1, 16, 34, 1]
noncomputable def cutB (b : Array UInt8) (i j : Nat) : Array UInt8 := ((b.map (·.toNat)).extract i j).map (·.toUInt8)
noncomputable def subF (b : Array UInt8) : Nat → Nat → Nat → Bool → List (Array UInt8) → Option (List (Array UInt8))
  | 0, _, _, _, _ => none
  | k + 1, dn, start, must, ps =>
    let r := drv 60 (Sre.forSearch codeQ (b.map (·.toNat)) 0 start (b.map (·.toNat)).size must)
    match r.outcome with
    | some .matched => subF b k r.handed r.handed (r.handed == r.start) (ps ++ (if dn < r.start then [cutB b dn r.start] else []) ++ [#[]])
    | some .failed => some (ps ++ if dn < (b.map (·.toNat)).size then [cutB b dn (b.map (·.toNat)).size] else [])
    | _ => none
section
variable {prog : Program} {w : World} {A : Around} {E : Value → Shared → Prop} {s : Shared}
theorem drive_wp {Q : Sre.M → Shared → Prop} : ∀ (k j : Nat) (m : Sre.M), (drv k m).outcome.isSome = true → m.outcome.isSome = false → Q (drv k m) s → wpAny (model prog w) A (reDrive (j + k) m) Q E s
  | 0, j, m, h, h0, q => by rw [show drv 0 m = m from rfl, h0] at h; cases h
  | k + 1, j, m, h, h0, q => by
    show wpAny _ _ (let m := m.runFor reTurnSteps
      if m.outcome.isSome then pure m else do rule "sre.turn"; reDrive (j + k) m) _ _ _
    unfold drv at h q
    dsimp only
    by_cases z : (m.runFor reTurnSteps).outcome.isSome = true
    · rw [if_pos z] at h q ⊢
      exact wpAny_pure q
    · rw [if_neg z] at h q ⊢
      exact wpAny_bind (wpAny_rule (drive_wp k j _ h (by simpa using z) q))
theorem run_gives {m r : Sre.M} (h0 : m.outcome.isSome = false) (hr : drv 60 m = r) {x : Option Sre.M} (hx : (r.outcome = some .matched ∧ x = some r) ∨ (r.outcome = some .failed ∧ x = none)) {Q : Option Sre.M → Shared → Prop} (h : Q x s) : wpAny (model prog w) A (reRunToEnd m) Q E s := by
  unfold reRunToEnd
  have e : (2 ^ 64 : Nat) = (2 ^ 64 - 60) + 60 := by decide
  rw [e]
  refine wpAny_bind (drive_wp 60 _ m (by rw [hr]; rcases hx with ⟨q, _⟩ | ⟨q, _⟩ <;> rw [q] <;> rfl) h0 ?_)
  rw [hr]
  refine wpAny_bind (wp_rules ?_)
  rcases hx with ⟨q, rfl⟩ | ⟨q, rfl⟩
  · rw [q]; exact wpAny_pure h
  · rw [q]; exact wpAny_pure h
end
end Mine
end
section
open PySem PySem.W PyProof.Rows PySem.Calls PySem.Spec
set_option linter.unusedVariables false
set_option linter.unusedSectionVars false
set_option maxRecDepth 1000000
namespace Mine
variable [Inhabited Rho]
open PySem.Builtin PySem.Builtin.Bytes PySem.Builtin.Re
section
variable {prog : Program} {w : World} {A : Around} {E : Value → Shared → Prop} {s : Shared}
theorem push_pl {L : Addr} {its : Array Value} {v : Value} {Q : Unit → Shared → Prop} (pl : PL s.heap L its) (hz : its.size ≤ 1000) (h : ∀ h', PL h' L (its.push v) → Heap.SameBut L s.heap h' → Q () { s with heap := h' }) : wpAny (model prog w) A (updateSeq L (·.push v)) Q E s := by
  obtain ⟨n, ho⟩ := pl.plain
  have e' : ∃ n', Obj.mapSeq (·.push v) { cls := .type "list", data := .seq its n } = { cls := .type "list", data := .seq (its.push v) n' } := ⟨_, rfl⟩
  obtain ⟨n', e'⟩ := e'
  refine wpAny_updateSeq ho rfl (h _ ⟨_, Heap.get?_update_self _ ho (by rw [e']; rfl), by rw [e'], by rw [e'], by rw [e'], n', by rw [e']⟩ (Heap.SameBut.update ..)) (by rw [sizeLine_eq]; omega) (by rw [sizeLine_eq, Array.size_push]; omega)
noncomputable def tgt (p : Addr) (b : Array UInt8) (t : Tok) : ReTarget := { pattern := .ref p, string := .bytes b t, code := codeQ, text := b.map (·.toNat), kind := 1, groups := 0, pos := 0, lim := (b.map (·.toNat)).size }
theorem bytes_text {b : Array UInt8} {t : Tok} : reTextOf (.bytes b t) = pure (b.map (·.toNat), 1) := by
  unfold reTextOf
  have e : asStr? (.bytes b t) = pure none := rfl
  rw [e, pure_bind]
  dsimp only
  rw [KBy.quiet_eq]
  rfl
theorem no_coll {b : Array UInt8} {t : Tok} : reNoCollectionInside (.bytes b t) 1 = pure () := by
  unfold reNoCollectionInside
  rw [KBy.isInstance_eq]
  rfl
theorem lit_ok {b : Array UInt8} {t : Tok} : reLiteralCannotBeTurned (.bytes b t) = pure () := by
  unfold reLiteralCannotBeTurned
  have e : asStr? (.bytes b t) = pure none := rfl
  rw [e, pure_bind, KBy.isInstance_eq]
  rfl
theorem whole_wp {p : Addr} {b : Array UInt8} {t : Tok} (hp : PatAt s.heap p codeQ 1) {Q : ReTarget → Shared → Prop} (h : Q (tgt p b t) s) : wpAny (model prog w) A (reWholeTarget (.ref p) (.bytes b t)) Q E s := by
  obtain ⟨src, fl, g, tt, q, oq, items, n, ha, hb, hc, hd⟩ := hp.ex
  unfold reWholeTarget
  refine wpAny_bind (wpAny_fieldsOf ha rfl ?_)
  refine wpAny_bind (wpAny_of_eq bytes_text ?_)
  dsimp only
  refine wpAny_bind (wpAny_of_eq (a := ()) rfl ?_)
  refine wpAny_bind (wpAny_bind (wpAny_seqItems hb hc (wpAny_pure ?_)))
  have e2 : Array.map (fun x => x.toNat) (Array.map reRawOf ((some items).getD #[])) = codeQ := hd
  rw [e2]
  exact wpAny_pure h
theorem forS_none (text : Array Nat) (start lim : Nat) (must : Bool) : (Sre.forSearch codeQ text 0 start lim must).outcome.isSome = false ∨ True := .inr trivial
theorem next_wp {p : Addr} {b : Array UInt8} {t : Tok} {start : Nat} {must : Bool} {r : Sre.M} {x : Option Sre.M} (h0 : (Sre.forSearch codeQ (b.map (·.toNat)) 0 start (b.map (·.toNat)).size must).outcome.isSome = false)
    (hr : drv 60 (Sre.forSearch codeQ (b.map (·.toNat)) 0 start (b.map (·.toNat)).size must) = r) (hx : (r.outcome = some .matched ∧ x = some r) ∨ (r.outcome = some .failed ∧ x = none)) {Q : Option Sre.M → Shared → Prop} (h : Q x s) :
    wpAny (model prog w) A (reNextFound (tgt p b t) start must) Q E s := run_gives h0 hr hx h

theorem loop_ok {p L : Addr} {b : Array UInt8} {t u : Tok} {ps' : List (Array UInt8)} (hb : b.size ≤ 100) (hsub : ∀ i j, (cutB b i j).size ≤ 100)
    (h0 : ∀ start must, (Sre.forSearch codeQ (b.map (·.toNat)) 0 start (b.map (·.toNat)).size must).outcome.isSome = false)
    (hz : ps'.foldl (fun a x => a + x.size) 0 ≤ 1000) (hj : (joined #[] ps').size ≤ 1000) (hne : ps' ≠ []) (hone : ∀ c, ps' = [c] → joined #[] ps' = c) {R : Result → Shared → Prop} :
    ∀ (k : Nat) (s : Shared) (dn start : Nat) (must : Bool) (n : Int) (ps : List (Array UInt8)) (its : Array Value), subF b k dn start must ps = some ps' → (∀ h1 : Heap, (∀ c o, c ≠ L → s.heap.get? c = some o → h1.get? c = some o) → PatAt h1 p codeQ 1) → PL s.heap L its → BytesAre its.toList ps → its.size + 3 * k ≤ 900  →
      (∀ h' tk t', (∀ c o, c ≠ L → s.heap.get? c = some o → h'.get? c = some o) → R (.ok (.ret (.bytes (joined #[] ps') t'))) { s with heap := h', toks := tk }) →
      codeAny (model prog w) A (.builtin "re.Pattern.sub.loop" ⟨[.ref p, .bytes b t, .bytes #[] u, rawInt 0, rawInt 0, rawInt n, rawInt dn, rawInt start, .bool must, .ref L, .bool false], []⟩) R s
  | 0, s, dn, start, must, n, ps, its, h, _, _, _, _, _ => by cases h
  | k + 1, s, dn, start, must, n, ps, its, h, hpK, pl, hba, hsz, hR => by
    refine codeAny_builtin entry_subloop ?_
    unfold Builtin.«re.Pattern.sub.loop»
    dsimp only [rawInt]
    have hp := hpK s.heap fun _ _ _ e => e
    refine wpAny_bind (whole_wp hp ?_)
    rw [if_pos (by rfl)]
    refine wpAny_bind (wpAny_of_eq lit_ok ?_)
    rw [if_neg (by simp)]
    simp only [Int.toNat_natCast]
    unfold subF at h
    dsimp only at h
    generalize hr : drv 60 (Sre.forSearch codeQ (b.map (·.toNat)) 0 start (b.map (·.toNat)).size must) = r at h
    split at h
    · rename_i ho
      refine wpAny_bind (next_wp (h0 _ _) hr (.inl ⟨ho, rfl⟩) ?_)
      dsimp only
      have fin : ∀ (h1 : Heap) (tk1 : Nat) (its1 : Array Value) (ps1 : List (Array UInt8)), (∀ c o, c ≠ L → s.heap.get? c = some o → h1.get? c = some o) → PL h1 L its1 → BytesAre its1.toList ps1 → its1.size ≤ its.size + 2 → subF b k r.handed r.handed (r.handed == r.start) ps1 = some ps' →
          codeAny (model prog w) A (.builtin "re.Pattern.sub.loop" ⟨[.ref p, .bytes b t, .bytes #[] u, rawInt 0, rawInt 0, rawInt (n + 1), rawInt r.handed, rawInt r.handed, .bool (r.handed == r.start), .ref L, .bool false], []⟩) R { s with heap := h1, toks := tk1 } :=
        fun h1 tk1 its1 ps1 k1 pl1 hb1 hs1 hsub1 => loop_ok hb hsub h0 hz hj hne hone k { s with heap := h1, toks := tk1 } r.handed r.handed (r.handed == r.start) (n + 1) ps1 its1 hsub1 (fun h2 k2 => hpK h2 fun c o q e => k2 c o q (k1 c o q e)) pl1 hb1 (by omega) fun h' tk t' kk => hR h' tk t' fun c o q e => kk c o q (k1 c o q e)
      have hqt : (Code.builtin "re.Pattern.sub.loop" ⟨[.ref p, .bytes b t, .bytes #[] u, rawInt 0, rawInt 0, rawInt (n + 1), rawInt r.handed, rawInt r.handed, .bool (r.handed == r.start), .ref L, .bool false], []⟩).quiet = true := Code.quiet_builtin _ (by decide +kernel)
      by_cases hlt : dn < r.start
      · rw [if_pos hlt] at h ⊢
        refine wpAny_bind (wpAny_mkBytes ?_ (by rw [sizeLine_eq]; exact Nat.le_trans (hsub dn r.start) (by decide)))
        refine wpAny_bind (push_pl (s := { s with toks := s.toks + 1 }) pl (by omega) fun h1 pl1 sb1 => ?_)
        rw [if_pos (by rfl)]
        refine wpAny_bind (wpAny_pure ?_)
        rw [if_pos (by rfl)]
        refine wpAny_bind (push_pl (s := { s with heap := h1, toks := s.toks + 1 }) pl1 (by rw [Array.size_push]; omega) fun h2 pl2 sb2 => ?_)
        refine wpAny_pure ⟨hqt, fin h2 _ _ _ (fun c o q e => (sb2.2 c q).trans ((sb1.2 c q).trans e)) pl2 ?_ (by rw [Array.size_push, Array.size_push]; omega) h⟩
        rw [Array.toList_push, Array.toList_push]
        exact BytesAre.append (.cons _ _ .nil) (BytesAre.append (.cons _ _ .nil) hba)
      · rw [if_neg hlt] at h ⊢
        rw [if_pos (by rfl)]
        refine wpAny_bind (wpAny_pure ?_)
        rw [if_pos (by rfl)]
        refine wpAny_bind (push_pl pl (by omega) fun h2 pl2 sb2 => ?_)
        refine wpAny_pure ⟨hqt, fin h2 _ _ _ (fun c o q e => (sb2.2 c q).trans e) pl2 ?_ (by rw [Array.size_push]; omega) h⟩
        rw [Array.toList_push, List.append_nil]
        exact BytesAre.append (.cons _ _ .nil) hba
    · rename_i ho
      have hps : (ps ++ if dn < (b.map (·.toNat)).size then [cutB b dn (b.map (·.toNat)).size] else []) = ps' := Option.some.inj h
      refine wpAny_bind (next_wp (h0 _ _) hr (.inr ⟨ho, rfl⟩) ?_)
      dsimp only
      have fin : ∀ (h1 : Heap) (tk1 : Nat) (its1 : Array Value), (∀ c o, c ≠ L → s.heap.get? c = some o → h1.get? c = some o) → PL h1 L its1 → BytesAre its1.toList ps' → its1.size ≤ its.size + 1 →
          ∀ tj, wpAny (model prog w) (A.under (.builtin "re.Pattern.sub.loop" ⟨[.ref p, .bytes b t, .bytes #[] u, rawInt 0, rawInt 0, rawInt n, rawInt dn, rawInt start, .bool must, .ref L, .bool false], []⟩)) (call (.builtin "bytes.join") [.bytes #[] tj, .ref L]) (fun v s' => R (.ok (.ret v)) s') (fun e s' => R (.error e) s') { s with heap := h1, toks := tk1 } := by
        intro h1 tk1 its1 k1 pl1 hb1 _ tj
        refine wpAny_call_entry slot_bjoin (typeIs_bytes _ _ _) entry_bjoin (join_more pl1 hb1 hz (fun kk t' => hR h1 kk t' k1) (fun c t' e => ?_) hj) (args_bjoin _ _)
        subst e
        have e2 : ps' = [c] := by
          generalize hq : (#[Value.bytes c t'] : Array Value).toList = l at hb1
          cases hb1 with
          | nil => exfalso; first | exact no_some hq | cases hq
          | cons b' t2 r =>
            cases hq
            cases r; rfl
        have := hR h1 tk1 t' k1
        rw [hone _ e2] at this
        exact this
      by_cases hlt : dn < (b.map (·.toNat)).size
      · rw [if_pos hlt] at hps
        rw [if_pos (show dn < (tgt p b t).lim from hlt)]
        refine wpAny_bind (wpAny_mkBytes ?_ (by rw [sizeLine_eq]; exact Nat.le_trans (hsub dn _) (by decide)))
        refine wpAny_bind (push_pl (s := { s with toks := s.toks + 1 }) pl (by omega) fun h1 pl1 sb1 => ?_)
        have hb1 : BytesAre (its.push (.bytes (cutB b dn (b.map (·.toNat)).size) s.toks)).toList ps' := by
          rw [Array.toList_push, ← hps]
          exact BytesAre.append (.cons _ _ .nil) hba
        refine wpAny_bind (wpAny_mkBytes ?_ (by rw [sizeLine_eq]; simp))
        obtain ⟨n1, ho1⟩ := PL.plain pl1
        refine wpAny_bind (wpAny_seqItems ho1 rfl ?_)
        have hl := BytesAre.length hb1
        have hl2 : ps'.length ≠ 0 := fun e => hne (List.length_eq_zero_iff.mp e)
        rw [if_neg (by simp only [Option.getD_some, Array.isEmpty_iff]; intro e; have := congrArg Array.size e; rw [Array.size_push] at this; simp at this)]
        have ej : ((tgt p b t).text.extract 0 0).map (·.toUInt8) = #[] := by simp
        rw [ej]
        refine wpAny_bind (wpAny_mono (fin h1 _ _ (fun c o q e => (sb1.2 c q).trans e) pl1 hb1 (by rw [Array.size_push]; omega) _) (fun v s' hv => ?_) fun _ _ e => e)
        rw [if_neg Bool.false_ne_true]
        exact wpAny_pure hv
      · rw [if_neg hlt] at hps
        rw [if_neg (show ¬ dn < (tgt p b t).lim from hlt)]
        have hb1 : BytesAre its.toList ps' := by rw [← hps, List.append_nil]; exact hba
        refine wpAny_bind (wpAny_mkBytes ?_ (by rw [sizeLine_eq]; simp))
        obtain ⟨n1, ho1⟩ := PL.plain pl
        refine wpAny_bind (wpAny_seqItems ho1 rfl ?_)
        have hl := BytesAre.length hb1
        have hl2 : ps'.length ≠ 0 := fun e => hne (List.length_eq_zero_iff.mp e)
        rw [if_neg (by simp only [Option.getD_some, Array.isEmpty_iff]; intro e; rw [e] at hl; simp at hl; omega)]
        have ej : ((tgt p b t).text.extract 0 0).map (·.toUInt8) = #[] := by simp
        rw [ej]
        refine wpAny_bind (wpAny_mono (fin s.heap _ _ (fun _ _ _ e => e) pl hb1 (by omega) _) (fun v s' hv => ?_) fun _ _ e => e)
        rw [if_neg Bool.false_ne_true]
        exact wpAny_pure hv
    · exfalso; first | exact no_some h | cases h
end
end Mine
end
section
open PySem PySem.W PyProof.Rows PySem.Calls PySem.Spec
set_option linter.unusedVariables false
set_option linter.unusedSectionVars false
set_option maxRecDepth 1000000
namespace Mine
variable [Inhabited Rho]
open PySem.Builtin PySem.Builtin.Bytes PySem.Builtin.Re
theorem look_bcall : typeLookup (.type "bytes") "__call__" = pure none := by rw [typeLookup_type, builtinLookup_eq_fast]; kernel_rfl
theorem named_sub (id : String) (a b : Value) : reNamed id "sub" ["repl", "string", "count"] 2 [a, b] [] = pure [some a, some b, none] := by kernel_rfl
section
variable {prog : Program} {w : World} {A : Around} {E : Value → Shared → Prop} {s : Shared}
theorem sub_gives {p : Addr} {b : Array UInt8} {t u : Tok} {ps' : List (Array UInt8)} (hp : PatAt s.heap p codeQ 1) (hb : b.size ≤ 100) (hsub : ∀ i j, (cutB b i j).size ≤ 100)
    (h0 : ∀ start must, (Sre.forSearch codeQ (b.map (·.toNat)) 0 start (b.map (·.toNat)).size must).outcome.isSome = false)
    (hz : ps'.foldl (fun a x => a + x.size) 0 ≤ 1000) (hj : (joined #[] ps').size ≤ 1000) (hne : ps' ≠ []) (hone : ∀ c, ps' = [c] → joined #[] ps' = c) (hF : subF b 10 0 0 false [] = some ps') {Q : Value → Shared → Prop}
    (h : ∀ h' tk t', Kp s.heap h' → Q (.bytes (joined #[] ps') t') { s with heap := h', toks := tk }) : wpAny (model prog w) A (call (.builtin "re.Pattern.sub") [.ref p, .bytes #[] u, .bytes b t]) Q E s := by
  obtain ⟨src, fl, g, tt, q, oq, items, n, ha, hb', hc, hd⟩ := id hp.ex
  refine wpAny_call (codeAny_call_builtin slot_sub.plain entry_sub (slot_sub.check _ _ _ _ _ _ _ _ ⟨_, ha, rfl⟩ (args_sub _ _ _) ?_))
  unfold Builtin.«re.Pattern.sub» reSubstitute
  dsimp only
  rw [named_sub]
  refine wpAny_bind (wpAny_pure ?_)
  dsimp only
  refine wpAny_bind (wpAny_pure ?_)
  refine wpAny_bind (wpAny_of_eq (KBy.special_eq look_bcall) ?_)
  rw [if_neg (by simp)]
  refine wpAny_bind (wpAny_of_eq (a := none) rfl ?_)
  refine wpAny_bind (wpAny_of_eq KBy.quiet_eq ?_)
  refine wpAny_bind (wpAny_pure ?_)
  rw [if_neg (by simp)]
  rw [if_pos (by simp)]
  refine wpAny_bind (wpAny_pure ?_)
  refine wpAny_bind (wpAny_holding (whole_wp hp ?_))
  rw [if_neg (by simp)]
  refine wpAny_bind (wpAny_newList ?_)
  refine wpAny_pure ⟨Code.quiet_builtin _ (by decide +kernel), ?_⟩
  refine loop_ok hb hsub h0 hz hj hne hone 10 _ 0 0 false 0 [] #[] hF (fun h1 k1 => ?_) ⟨_, Heap.get?_push_size _ rfl, rfl, rfl, rfl, _, rfl⟩ .nil (by simp) fun h' tk t' k' => ?_
  · exact hp.keeps fun c o e => k1 c o (Nat.ne_of_lt (Heap.lt_size e)) (Heap.get?_push_of_some _ e)
  · exact h h' tk t' fun c o e => k' c o (Nat.ne_of_lt (Heap.lt_size e)) (Heap.get?_push_of_some _ e)
end
end Mine
end
section
open PySem PySem.W PyProof.Rows PySem.Calls PySem.Spec
set_option linter.unusedVariables false
set_option linter.unusedSectionVars false
set_option maxRecDepth 1000000
namespace Mine
variable [Inhabited Rho]
open PySem.Builtin PySem.Builtin.Bytes PySem.Builtin.Re
structure ParSub (b : Array UInt8) (k : Int) (ps : List (Array UInt8)) : Prop where
  run : subF b 10 0 0 false [] = some ps
  z : ps.foldl (fun a x => a + x.size) 0 ≤ 1000
  j : (joined #[] ps).size ≤ 1000
  ne : ps ≠ []
  b1 : b.size ≤ 100
  c : cntB (joined #[] ps) #[40] - cntB (joined #[] ps) #[41] = k
theorem par_sub {b : Array UInt8} {k : Int} (h : ParOk b k) : ∃ ps, ParSub b k ps := by
  rcases h with ⟨rfl, rfl | rfl | rfl⟩ | ⟨rfl, rfl | rfl | rfl⟩
  · exact ⟨[#[40]], by decide +kernel, by decide +kernel, by decide +kernel, by decide, by decide, by decide +kernel⟩
  · exact ⟨[#[], #[40]], by decide +kernel, by decide +kernel, by decide +kernel, by decide, by decide, by decide +kernel⟩
  · exact ⟨[#[41, 40], #[], #[40]], by decide +kernel, by decide +kernel, by decide +kernel, by decide, by decide, by decide +kernel⟩
  · exact ⟨[#[41]], by decide +kernel, by decide +kernel, by decide +kernel, by decide, by decide, by decide +kernel⟩
  · exact ⟨[#[41], #[]], by decide +kernel, by decide +kernel, by decide +kernel, by decide, by decide, by decide +kernel⟩
  · exact ⟨[#[], #[41, 41, 40]], by decide +kernel, by decide +kernel, by decide +kernel, by decide, by decide, by decide +kernel⟩
theorem cut_size {b : Array UInt8} (h : b.size ≤ 100) (i j : Nat) : (cutB b i j).size ≤ 100 := by
  unfold cutB
  simp
  omega
theorem for_none (text : Array Nat) (start lim : Nat) (must : Bool) : (Sre.forSearch codeQ text 0 start lim must).outcome.isSome = false := by
  unfold Sre.forSearch
  dsimp only
  split <;> rfl
theorem joined_one (c : Array UInt8) : joined #[] [c] = c := by simp [joined]
theorem pat_quoted {P : Params} {h : Heap} (X : (hd.heap_39 P).In h) : PatAt h 43 codeQ 1 := ⟨_, _, _, _, _, _, _, _, X 43 _ rfl, X 42 _ rfl, rfl, by decide +kernel⟩
end Mine
end
section
open PySem PySem.W PyProof.Rows PySem.Calls PySem.Spec
set_option linter.unusedVariables false
set_option linter.unusedSectionVars false
set_option maxRecDepth 1000000
namespace Mine
variable [Inhabited Rho]
open PySem.Builtin PySem.Builtin.Bytes PySem.Builtin.Re
noncomputable def parSh (x : (Nat → Pos) × Nat × Nat × Nat) : Prop := (dfn "_paren_depth").2.2 =
    [.Assign [.Name "data" (x.1 0)] (.Call (.Attribute (.Name "_quoted" (x.1 1)) "sub" (x.1 2)) [.Constant (.bytes []) x.2.1 (x.1 3), .Name "data" (x.1 4)] [] (x.1 5)) (x.1 6),
     .Return (some (.BinOp (.BinOp (.Name "depth" (x.1 7)) .Add (.Call (.Attribute (.Name "data" (x.1 8)) "count" (x.1 9)) [.Constant (.bytes [40]) x.2.2.1 (x.1 10)] [] (x.1 11)) (x.1 12)) .Sub (.Call (.Attribute (.Name "data" (x.1 13)) "count" (x.1 14)) [.Constant (.bytes [41]) x.2.2.2 (x.1 15)] [] (x.1 16)) (x.1 17))) (x.1 18)] ∧
    ((x.1 2).endLine == (x.1 5).line) = true ∧ ((x.1 9).endLine == (x.1 11).line) = true ∧ ((x.1 14).endLine == (x.1 16).line) = true
omit [Inhabited Rho] in
theorem par_ex : ∃ x, parSh x :=
  ⟨(fun i => [_, _, _, _, _, _, _, _, _, _, _, _, _, _, _, _, _, _, _].getD i default, _, _, _), rfl, rfl, rfl, rfl⟩
noncomputable def parX : (Nat → Pos) × Nat × Nat × Nat := par_ex.choose
omit [Inhabited Rho] in
theorem paren_shape : parSh parX := par_ex.choose_spec

section
variable {prog : Program} {w : World} {n : Nat} {hB h₀ : Heap} {W : Ow} {ad : PySem.Str → Addr} {env : Env} {cx : Cx} {s : Shared} {d : D} {A : Around}
theorem count_call (er : ER h₀ W ad s.heap env cx) {b : Array UInt8} {t : Tok} (hx : cx.vars.lookup ("data" : PySem.Str) = some (.sy (.raw (.bytes b t)))) {sub : List UInt8} (hs : sub.toArray.isEmpty = false) {p1 p2 p3 p4 : Pos} {c : Nat} (hpos : (p2.endLine == p4.line) = true)
    {Q : Value → Shared → Prop} {E : Value → Shared → Prop} (h : ∀ t' tk, Q (.int (cntB b sub.toArray) t') { s with toks := tk }) : wpAny (model prog w) A (eval (.Call (.Attribute (.Name "data" p1) "count" p2) [.Constant (.bytes sub) c p3] [] p4) env) Q E s := by
  refine wpAny_Call_method_late rfl rfl hpos rfl (raw_name er hx (by decide +kernel) ?_)
  refine ⟨"bytes", _, pa_bytes, slot_bcount, type_bcount, typeIs_bytes _ _ _, (fun a e => nomatch e), ?_⟩
  refine callWith_method1 (args_cons (fun _ _ _ => args_nil ?_) rfl)
  exact wpAny_call_entry slot_bcount (typeIs_bytes _ _ _) entry_bcount (count_gives hs fun t' => h t' _) (args_bcount _ _)

theorem paren_run (T : TopK w hB) (hb : Kp hB h₀) {k h : Int} (er : ER h₀ W ad s.heap env (startCx (dfn "_paren_depth").1 ["data", "depth"] [.par k, .int h])) : ExG prog w n h₀ W ad env (startCx (dfn "_paren_depth").1 ["data", "depth"] [.par k, .int h]) { startCx (dfn "_paren_depth").1 ["data", "depth"] [.par k, .int h] with vars := [] } (some (.int (h + k))) (execs (dfn "_paren_depth").2.2 env) s := by
  obtain ⟨hbd, hp1, hp2, hp3⟩ := paren_shape
  rw [hbd]
  obtain ⟨v, lk, r⟩ := er.vars ("data" : PySem.Str) (.par k) rfl
  obtain ⟨b, t, rfl, hpar⟩ := r.par_v
  ·
    obtain ⟨ps, P⟩ := par_sub hpar
    have T1 := (T.keeps hb).keeps er.base
    intro Q E hQ
    refine wpAny_execs_cons (assignName rfl (wpAny_Call_method_late rfl rfl hp1 rfl (top_name T1 (v := .ref 43) rfl er rfl (by decide +kernel) ?_)))
    obtain ⟨src, fl, g, tt, q, oq, items, m, ha, hb', hc, hd⟩ := (pat_quoted T1.X).ex
    refine ⟨"re.Pattern", _, pa_pat, slot_sub, type_sub, ⟨_, ha, rfl⟩, (fun b e => by cases e; exact ⟨_, ha, rfl⟩), ?_⟩
    refine callWith_method1 (args_cons (fun _ _ _ => args_cons (wpAny_Name (load_lk (s := { s with toks := s.toks + 1 }) er.kind lk (args_nil ?_)) (by decide +kernel)) rfl) rfl)
    refine sub_gives (s := { s with toks := s.toks + 1 }) (pat_quoted T1.X) P.b1 (cut_size P.b1) (fun st mu => for_none _ st _ mu) P.z P.j P.ne (fun c e => by rw [e]; exact joined_one c) P.run fun h1 tk1 t1 k1 => ?_
    refine store_wp (s := { s with heap := h1, toks := tk1 }) (er.kp k1) (of_decide_eq_true (by rfl)) fun h2 tk2 z => ?_
    obtain ⟨er2, T2, K2⟩ := (er.kp k1).set (of_decide_eq_true (by rfl)) (.sy _ _ rfl : R _ h1 (.sy (.raw (.bytes (joined #[] ps) t1))) _) z
    obtain ⟨v3, lk3, r3⟩ := er2.vars ("depth" : PySem.Str) (.int h) rfl
    refine wpAny_execs_cons (wpAny_Return_some (wpAny_BinOp (wpAny_BinOp (wpAny_Name (load_lk er2.kind lk3 ?_) (by decide +kernel)))))
    obtain ⟨t3, rfl⟩ := r3.int_v
    ·
      refine count_call (s := { s with heap := h2, toks := tk2 }) er2 rfl rfl hp2 fun t4 tk4 => add_int ?_
      refine count_call (s := { s with heap := h2, toks := _ }) er2 rfl rfl hp3 fun t5 tk5 => sub_int ?_
      have ec : h + cntB (joined #[] ps) [40].toArray - cntB (joined #[] ps) [41].toArray = h + k := by
        have := P.c
        show h + cntB (joined #[] ps) #[40] - cntB (joined #[] ps) #[41] = h + k
        omega
      have er3 : ER h₀ W ad h2 env { startCx (dfn "_paren_depth").1 ["data", "depth"] [.par k, .int h] with vars := [] } := er2.weaken rfl (fun _ hx => hx) (fun _ _ hx => by cases hx) (fun _ => rfl)
      have T3 : Tr (Oo W ad env ((startCx (dfn "_paren_depth").1 ["data", "depth"] [.par k, .int h]).set "data" (.sy (.raw (.bytes (joined #[] ps) t1))))) h2 (Oo W ad env { startCx (dfn "_paren_depth").1 ["data", "depth"] [.par k, .int h] with vars := [] }) h2 := .sub fun b q => q
      exact hQ (.ret (.int _ _)) ad h2 _ er3 ((Tr.of_kp k1).trans (T2.trans T3)) ((KW.of_kp k1).trans K2) ⟨_, rfl, ec ▸ .int _ _⟩
end
end Mine
end
section
open PySem PySem.W PyProof.Rows PySem.Calls PySem.Spec
set_option linter.unusedVariables false
set_option linter.unusedSectionVars false
set_option maxRecDepth 1000000
namespace Mine
variable [Inhabited Rho]
section
variable {prog : Program} {w : World} {n : Nat} {hB : Heap} {s : Shared} {d : D}
theorem paren_gives (hn : n < 50) (T : TopK w hB) {O : Ow} {vs : List Value} {k h : Int} (hk : Kp hB s.heap) (lv : ∀ b, O b → ∃ o, s.heap.get? b = some o) (rl : RL O s.heap [.par k, .int h] vs) :
    Gives prog w n O (call (.ref 51) vs) (.int (h + k)) s := fun Q E hQ => by
  have T' := T.keeps hk
  have hl := rl.length
  have kx : ∀ x ∈ ((["data", "depth"] : List PySem.Str) ++ ([] : List PySem.Str)), (dfn "_paren_depth").1.names.lookup x = some .local ∨ (dfn "_paren_depth").1.names.lookup x = some .cell := by
    have : ((["data", "depth"] : List PySem.Str).all fun x => (dfn "_paren_depth").1.names.lookup x == some .local || (dfn "_paren_depth").1.names.lookup x == some .cell) = true := by rfl
    simp only [List.all_eq_true, Bool.or_eq_true, beq_iff_eq] at this
    exact this
  refine wpAny_call (def_ex (n := n + 1) (O := O) (ds := [.par k, .int h]) (d := .int (h + k)) (cx' := { startCx (dfn "_paren_depth").1 ["data", "depth"] [.par k, .int h] with vars := [] }) (xs := ["data", "depth"]) (ys := []) (kw := []) rfl (by show 400 + 10 * min n 50 + 1 ≤ 400 + 10 * min (n + 1) 50; omega) (by show 100 + 20 * min n 50 + 3 ≤ 100 + 20 * min (n + 1) 50; omega)
    (fn_paren T'.X) T'.lim hl.symm rfl (of_decide_eq_true (by rfl)) kx (of_decide_eq_true (by rfl)) rfl rfl lv (by simpa using rl) (fun env s₁ hs1 k1 er => ?_) fun v h' tk k r => hQ v h' tk k r)
  exact paren_run T hk er

/-- what it takes to answer a call -/
noncomputable def Ans (prog : Program) (w : World) (n : Nat) (hB : Heap) (x : PySem.Str) (ds : List D) (d : D) : Prop := ∃ f, gl x = some f ∧ ∀ (O : Ow) (s : Shared) (vs : List Value), Kp hB s.heap → (∀ b, O b → ∃ o, s.heap.get? b = some o) → RL O s.heap ds vs → Gives prog w n O (call f vs) d s
noncomputable def P2 : Pr := fun x ds => match ds with
  | [] => orr (if x = "_MOVE_COST" then some (.int 2) else none) (if x = "_CASE_COST" then some (.int 1) else none)
  | _ :: _ => none
theorem p2_ok : PrimOk prog w n gl P2 hB := by
  refine ⟨fun x ds d hne h => ?_, fun x d h => ?_⟩
  · cases ds with
    | nil => exact absurd rfl hne
    | cons => exfalso; exact no_some h
  · rcases orr_some h with h | h
    · obtain ⟨rfl, rfl⟩ := ite_eq h
      exact ⟨.int 2 367, rfl, fun _ _ => .int _ _⟩
    · obtain ⟨rfl, rfl⟩ := ite_eq h
      exact ⟨.int 1 369, rfl, fun _ _ => .int _ _⟩

/-- a def of the text, run -/
noncomputable def runD (P : Pr) (nm : PySem.Str) (mu : List PySem.Str) (ds : List D) : Option D := (xsN (evN P 20) mu 20 (startCx (dfn nm).1 (dfn nm).2.1 ds) (dfn nm).2.2).bind (·.2)
noncomputable def P1c (x : PySem.Str) (ds : List D) : Option D :=
  orr (if x = "_substitution_cost" then (pair? ds).bind fun _ => runD P2 "_substitution_cost" [] ds else none)
    (orr (if x = "_strcoll" then (pair? ds).bind fun _ => runD P2 "_strcoll" [] ds else none)
      (orr (if x = "_paren_depth" then (pair? ds).bind fun p => bind2 p.1.par? p.2.int? fun k h => some (.int (h + k)) else none)
        (orr (if x = "Headers" then (one? ds).bind fun a => a.list?.bind fun l => if pairsOk l = true then some (.hdr l) else none else none)
          (if x = ".get_all" then (pair? ds).bind fun p => bind2 p.1.hdr? p.2.str? getAllD else none))))
noncomputable def P1 : Pr := fun x ds => match ds with
  | [] => none
  | a :: r => P1c x (a :: r)
theorem run_def {P : Pr} (T : TopK w hB) (B : Bg prog w gl hB) (pk : PrimOk prog w (n + 1) gl P hB) (hn : n < 50) {nm : PySem.Str} {f : Addr} {mu : List PySem.Str} {ds : List D} (F : FnAt hB f (dfn nm).2.1 [] [] (dfn nm).1 (dfn nm).2.2) (hlen : (dfn nm).2.1.length = ds.length)
    (hst : (nodupB (dfn nm).2.1 && ((dfn nm).2.1.all fun x => (dfn nm).1.names.lookup x == some .local || (dfn nm).1.names.lookup x == some .cell) && scopeOk (dfn nm).1 && !(dfn nm).1.isCoroutine && !(dfn nm).1.isGenerator) = true) (h : runD P nm mu ds = some d)
    {O : Ow} {vs : List Value} (hk : Kp hB s.heap) (lv : ∀ b, O b → ∃ o, s.heap.get? b = some o) (rl : RL O s.heap ds vs) : Gives prog w n O (call (.ref f) vs) d s := by
  unfold runD at h
  obtain ⟨⟨cx', o⟩, hrun, ho⟩ := bind_ex h
  have ho : o = some d := ho
  subst ho
  exact def_run B pk hn F T.lim hlen hst hrun hk lv rl
theorem p1c_ok (hn : n < 48) (T : TopK w hB) (B : Bg prog w gl hB) {x : PySem.Str} {ds : List D} (h : P1c x ds = some d) : Ans prog w n hB x ds d := by
  rcases orr_some h with h | h
  · obtain ⟨rfl, h⟩ := ite_ex h
    obtain ⟨p, hp, h⟩ := bind_ex h
    rw [pair_eq hp] at h ⊢
    exact ⟨_, rfl, fun O s vs hk lv rl => run_def T B p2_ok (by omega) (fn_subst T.X) rfl (by rfl) h hk lv rl⟩
  rcases orr_some h with h | h
  · obtain ⟨rfl, h⟩ := ite_ex h
    obtain ⟨p, hp, h⟩ := bind_ex h
    rw [pair_eq hp] at h ⊢
    exact ⟨_, rfl, fun O s vs hk lv rl => run_def T B p2_ok (by omega) (fn_strcoll T.X) rfl (by rfl) h hk lv rl⟩
  rcases orr_some h with h | h
  · obtain ⟨rfl, h⟩ := ite_ex h
    obtain ⟨p, hp, h⟩ := bind_ex h
    obtain ⟨k, i, hk, hi, h⟩ := bind2_ex h
    rw [pair_eq hp, par_eq hk, int_eq hi, ← Option.some.inj h]
    exact ⟨_, rfl, fun O s vs hk lv rl => paren_gives (by omega) T hk lv rl⟩
  rcases orr_some h with h | h
  · obtain ⟨rfl, h⟩ := ite_ex h
    obtain ⟨p, hp, h⟩ := bind_ex h
    obtain ⟨l, hl, h⟩ := bind_ex h
    obtain ⟨ho, rfl⟩ := ite_eq h
    rw [one_eq hp, list_eq hl]
    exact ⟨_, rfl, fun O s vs hk lv rl => headers_gives (by omega) T B hk lv rl ho⟩
  · obtain ⟨rfl, h⟩ := ite_ex h
    obtain ⟨p, hp, h⟩ := bind_ex h
    obtain ⟨l, y, hl, hy, h⟩ := bind2_ex h
    rw [pair_eq hp, hdr_eq hl, str_eq hy]
    exact ⟨_, rfl, fun O s vs hk lv rl => getall_gives (by omega) T B hk lv rl h⟩
theorem p1_ok (hn : n < 48) (T : TopK w hB) (B : Bg prog w gl hB) : PrimOk prog w n gl P1 hB := by
  refine ⟨fun x ds d hne h => ?_, fun x d h => (no_some h).elim⟩
  cases ds with
  | nil => exact absurd rfl hne
  | cons a r => exact p1c_ok hn T B h
end
end Mine
end
section
open PySem PySem.W PyProof.Rows PySem.Calls PySem.Spec
set_option linter.unusedVariables false
set_option linter.unusedSectionVars false
set_option maxRecDepth 1000000
namespace Mine

/-- one case of the law: its sizes, its bits below m, its words, the two powers -/
structure Kase where
  sz : List Int
  m : Int
  bits : Int
  ws : List PySem.Str
  k1 : Nat
  k2 : Nat
noncomputable def hold (κ : Kase) (i : Nat) (v : Value) : Prop :=
  if i < 3 then ∃ x t, κ.ws[i]? = some x ∧ v = .str x t
  else if i = 3 then ∃ j t, v = .int j t ∧ 0 < κ.m ∧ j.fmod κ.m = κ.bits
  else ∃ j t, κ.sz[i - 4]? = some j ∧ v = .int j t
noncomputable def monB (κ : Kase) (p : Po) : Option Nat := (one? p).bind fun q => if q.2 = 1 then some (q.1.a + q.1.b * κ.k1 + q.1.c * κ.k2) else none
noncomputable def gd (b : Bool) : Option Unit := if b = true then some () else none
theorem gd_ex {b : Bool} {u : Unit} (h : gd b = some u) : b = true := (ite_ex h).1
noncomputable def Sy.opq? : Sy → Option Nat
  | .opq i => some i
  | _ => none
theorem opq_eq {x : Sy} {k : Nat} (e : x.opq? = some k) : x = .opq k := by
  cases x <;> first | exact Option.some.inj e ▸ rfl | (exfalso; exact no_some e)
noncomputable def Sy.ex? : Sy → Option Po
  | .ex i => some i
  | _ => none
theorem ex_eq {x : Sy} {k : Po} (e : x.ex? = some k) : x = .ex k := by
  cases x <;> first | exact Option.some.inj e ▸ rfl | (exfalso; exact no_some e)
/-- d is what the case's value i is -/
noncomputable def atO (κ : Kase) (d : D) (i : Nat) : Option Unit :=
  orr (d.str?.bind fun x => gd (Nat.blt i 3 && (κ.ws[i]? == some x))) (orr (d.int?.bind fun j => gd (Nat.blt 3 i && (κ.sz[i - 4]? == some j))) (d.mod?.bind fun q => gd ((i == 3) && ((q.1 == κ.m) && (q.2 == κ.bits)))))
noncomputable def eqA (κ : Kase) (d d' : D) : Option Unit :=
  orr (bind2 d.int? d'.int? fun a b => gd (a == b)) (bind2 (d.sy?.bind Sy.po?) (d'.sy?.bind Sy.po?) fun p q => bind2 (monB κ p) (monB κ q) fun a b => gd (a == b))
noncomputable def wkA (κ : Kase) (d d' : D) : Option Unit :=
  orr ((d'.sy?.bind Sy.opq?).bind (atO κ d)) (orr (bind2 d.int? (d'.sy?.bind Sy.ex?) fun c q => gd (decide (0 ≤ c) && (decide (c ≤ 8) && (monB κ q == some c.toNat)))) (eqA κ d d'))
noncomputable def sbA (κ : Kase) (d d' : D) : Option Unit := orr ((d.sy?.bind Sy.opq?).bind (atO κ d')) (eqA κ d d')
noncomputable def allL (f : D → D → Option Unit) : List D → List D → Option Unit
  | [], [] => some ()
  | a :: as, b :: bs => (f a b).bind fun _ => allL f as bs
  | [], _ :: _ => none
  | _ :: _, [] => none
/-- f, or lists of it -/
noncomputable def deep (f : D → D → Option Unit) : Nat → D → D → Option Unit
  | 0, d, d' => f d d'
  | k + 1, d, d' => orr (f d d') (bind2 d.list? d'.list? (allL (deep f k)))
noncomputable def wkB (κ : Kase) (d d' : D) : Bool := (deep (wkA κ) 3 d d').isSome
noncomputable def sbB (κ : Kase) (d d' : D) : Bool := (deep (sbA κ) 3 d d').isSome
noncomputable def sbL (κ : Kase) (l l' : List D) : Bool := (allL (deep (sbA κ) 3) l l').isSome

/-- the valuation is this case's -/
structure KOk (κ : Kase) [ρ : Inhabited Rho] : Prop where
  o : ∀ i v, ρ.default.o i v ↔ hold κ i v
  y : ρ.default.y = ρ.default.x ^ κ.k1
  z : ρ.default.z = ρ.default.x ^ κ.k2

section
variable [ρ : Inhabited Rho] {κ : Kase}
theorem mon_ev (K : KOk κ) {p : Po} {a : Nat} (h : monB κ p = some a) : p.ev = ρ.default.x ^ a := by
  obtain ⟨q, hq, h⟩ := bind_ex h
  obtain ⟨hc, rfl⟩ := ite_eq h
  rw [one_eq hq]
  show q.2 * (ρ.default.x ^ q.1.a * ρ.default.y ^ q.1.b * ρ.default.z ^ q.1.c) + 0 = _
  rw [hc, K.y, K.z, ← Int.pow_mul, ← Int.pow_mul, ← Int.pow_add, ← Int.pow_add, Nat.mul_comm κ.k1, Nat.mul_comm κ.k2]
  omega
noncomputable def Imp (f : D → D → Option Unit) : Prop := ∀ (d d' : D) (u : Unit) (O : Ow) (h : Heap) (v : Value), f d d' = some u → R O h d v → R O h d' v
theorem hold_lt {i : Nat} {v : Value} (h : i < 3) : hold κ i v ↔ ∃ x t, κ.ws[i]? = some x ∧ v = .str x t := by unfold hold; rw [if_pos h]
theorem hold_3 {v : Value} : hold κ 3 v ↔ ∃ j t, v = .int j t ∧ 0 < κ.m ∧ j.fmod κ.m = κ.bits := by unfold hold; rw [if_neg (by decide), if_pos rfl]
theorem hold_gt {i : Nat} {v : Value} (h : 3 < i) : hold κ i v ↔ ∃ j t, κ.sz[i - 4]? = some j ∧ v = .int j t := by
  unfold hold; rw [if_neg (Nat.not_lt.mpr (Nat.le_of_lt h)), if_neg (Nat.ne_of_gt h)]
theorem atO_hold {d : D} {i : Nat} {u : Unit} (h : atO κ d i = some u) {O : Ow} {hp : Heap} {v : Value} : (R O hp d v → hold κ i v) ∧ (hold κ i v → R O hp d v) := by
  rcases orr_some h with h | h
  · obtain ⟨x, hx, h⟩ := bind_ex h
    have h := gd_ex h
    rw [Bool.and_eq_true, beq_iff_eq] at h
    rw [hold_lt (X.blt_true h.1), str_eq hx, h.2]
    refine ⟨fun r => ?_, fun q => ?_⟩
    · obtain ⟨t, rfl⟩ := r.str_v
      exact ⟨x, t, rfl, rfl⟩
    · obtain ⟨y, t, e, rfl⟩ := q
      exact Option.some.inj e ▸ .str _ _
  rcases orr_some h with h | h
  · obtain ⟨x, hx, h⟩ := bind_ex h
    have h := gd_ex h
    rw [Bool.and_eq_true, beq_iff_eq] at h
    rw [hold_gt (X.blt_true h.1), int_eq hx, h.2]
    refine ⟨fun r => ?_, fun q => ?_⟩
    · obtain ⟨t, rfl⟩ := r.int_v
      exact ⟨x, t, rfl, rfl⟩
    · obtain ⟨y, t, e, rfl⟩ := q
      exact Option.some.inj e ▸ .int _ _
  · obtain ⟨x, hx, h⟩ := bind_ex h
    have h := gd_ex h
    rw [Bool.and_eq_true, Bool.and_eq_true, beq_iff_eq, beq_iff_eq, beq_iff_eq] at h
    rw [h.1, hold_3, mod_eq hx, h.2.1, h.2.2]
    refine ⟨fun r => ?_, fun q => ?_⟩
    · obtain ⟨j, t, rfl, h0, hj⟩ := r.mod_v
      exact ⟨j, t, rfl, h0, hj⟩
    · obtain ⟨j, t, rfl, h0, hj⟩ := q
      exact .mod _ _ _ _ h0 hj
theorem eqA_ok (K : KOk κ) : Imp (eqA κ) := fun d d' u O h v hw r => by
  rcases orr_some hw with hw | hw
  · obtain ⟨a, b, ha, hb, hw⟩ := bind2_ex hw
    rw [int_eq hb, ← beq_iff_eq.mp (gd_ex hw), ← int_eq ha]
    exact r
  · obtain ⟨p, q, hp, hq, hw⟩ := bind2_ex hw
    obtain ⟨a, b, ha, hb, hw⟩ := bind2_ex hw
    obtain ⟨y, hy, hp⟩ := bind_ex hp
    obtain ⟨z, hz, hq⟩ := bind_ex hq
    have rr := syR r hy
    rw [spo_eq hp] at rr
    obtain ⟨t, rfl⟩ := rr
    rw [sy_eq hz, spo_eq hq]
    exact .sy _ _ ⟨t, by rw [mon_ev K ha, mon_ev K hb, beq_iff_eq.mp (gd_ex hw)]⟩
theorem wkA_ok (K : KOk κ) : Imp (wkA κ) := fun d d' u O h v hw r => by
  rcases orr_some hw with hw | hw
  · obtain ⟨i, hi, hw⟩ := bind_ex hw
    obtain ⟨y, hy, hi⟩ := bind_ex hi
    rw [sy_eq hy, opq_eq hi]
    exact .sy _ _ ((K.o _ _).mpr ((atO_hold hw).1 r))
  rcases orr_some hw with hw | hw
  · obtain ⟨c, q, hc, hq, hw⟩ := bind2_ex hw
    obtain ⟨y, hy, hq⟩ := bind_ex hq
    have hw := gd_ex hw
    rw [Bool.and_eq_true, Bool.and_eq_true, beq_iff_eq, decide_eq_true_eq, decide_eq_true_eq] at hw
    obtain ⟨t, rfl⟩ := intR r hc
    rw [sy_eq hy, ex_eq hq]
    exact .sy _ _ ⟨_, _, rfl, hw.1, hw.2.1, (mon_ev K hw.2.2).symm⟩
  · exact eqA_ok K d d' u O h v hw r
theorem sbA_ok (K : KOk κ) : Imp (sbA κ) := fun d d' u O h v hw r => by
  rcases orr_some hw with hw | hw
  · obtain ⟨i, hi, hw⟩ := bind_ex hw
    obtain ⟨y, hy, hi⟩ := bind_ex hi
    have q := syR r hy
    rw [opq_eq hi] at q
    exact (atO_hold hw).2 ((K.o _ _).mp q)
  · exact eqA_ok K d d' u O h v hw r
theorem allL_ok {f : D → D → Option Unit} (hf : Imp f) : ∀ (l l' : List D) (u : Unit) (O : Ow) (h : Heap) (vs : List Value), allL f l l' = some u → RL O h l vs → RL O h l' vs
  | [], [], _, _, _, _, _, r => r
  | a :: as, b :: bs, u, O, h, vs, hw, r => by
    obtain ⟨u1, h1, h2⟩ := bind_ex hw
    obtain ⟨v, vs, rfl, rv, r⟩ := r.uncons
    exact .cons _ _ _ _ (hf a b u1 O h v h1 rv) (allL_ok hf as bs u O h vs h2 r)
  | [], _ :: _, _, _, _, _, hw, _ => (no_some hw).elim
  | _ :: _, [], _, _, _, _, hw, _ => (no_some hw).elim
theorem deep_ok {f : D → D → Option Unit} (hf : Imp f) : ∀ k, Imp (deep f k)
  | 0 => hf
  | k + 1 => fun d d' u O h v hw r => by
    rcases orr_some hw with hw | hw
    · exact hf d d' u O h v hw r
    · obtain ⟨l, l', hl, hl', hw⟩ := bind2_ex hw
      obtain ⟨a, its, rfl, n, il, rl⟩ := listR r hl
      rw [list_eq hl']
      exact .list _ a its n il (allL_ok (deep_ok hf k) _ _ _ _ _ _ hw rl)
theorem wkB_ok (K : KOk κ) {d d' : D} {O : Ow} {h : Heap} {v : Value} (hw : wkB κ d d' = true) (r : R O h d v) : R O h d' v := by
  obtain ⟨u, hu⟩ := Option.isSome_iff_exists.mp hw
  exact deep_ok (wkA_ok K) 3 d d' u O h v hu r
theorem sbB_ok (K : KOk κ) {d d' : D} {O : Ow} {h : Heap} {v : Value} (hw : sbB κ d d' = true) (r : R O h d v) : R O h d' v := by
  obtain ⟨u, hu⟩ := Option.isSome_iff_exists.mp hw
  exact deep_ok (sbA_ok K) 3 d d' u O h v hu r
theorem sbL_ok (K : KOk κ) {d d' : List D} {O : Ow} {h : Heap} {v : List Value} (hw : sbL κ d d' = true) (r : RL O h d v) : RL O h d' v := by
  obtain ⟨u, hu⟩ := Option.isSome_iff_exists.mp hw
  exact allL_ok (deep_ok (sbA_ok K) 3) d d' u O h v hu r
end
end Mine
end
section
open PySem PySem.W PyProof.Rows PySem.Calls PySem.Spec
set_option linter.unusedVariables false
set_option maxRecDepth 1000000
namespace Mine
noncomputable def op (i : Nat) : D := .sy (.opq i)
noncomputable def exD (p : Po) : D := .sy (.ex p)
noncomputable def wordsA : Nat → D
  | 0 => .list [op 0]
  | 1 => .list [op 0, op 1]
  | _ => .list [op 0, op 1, op 2]
noncomputable def sizesA : Nat → D
  | 0 => .list []
  | 1 => .list [op 4]
  | _ => .list [op 4, op 5]
noncomputable def factorsA : Nat → D
  | 0 => .list []
  | 1 => .list [po X1]
  | _ => .list [po X1, po X2]
noncomputable def C1 : Po := Po.con 1
noncomputable def X12 : Po := [(⟨0, 1, 1⟩, 1)]
noncomputable def costsA : Nat → D
  | 0 => .list [.list [exD C1]]
  | 1 => .list [.list [exD C1, exD X1], .list [exD X1, exD C1]]
  | _ => .list [.list [exD C1, exD X1, exD X12], .list [exD X1, exD C1, exD X2], .list [exD X12, exD X2, exD C1]]
noncomputable def orderA : Nat → D
  | 0 => .list [.list [.int 0]]
  | 1 => .list [.list [.int 0, .int (-1)], .list [.int 1, .int 0]]
  | _ => .list [.list [.int 0, .int (-1), .int (-1)], .list [.int 1, .int 0, .int (-1)], .list [.int 1, .int 1, .int 0]]
noncomputable def cxW (nm : PySem.Str) (vars : List (PySem.Str × D)) : Cx := { kinds := (dfn nm).1.names, mine := mineOf (dfn nm).1, vars := vars, own := [] }
noncomputable def topsCx (n : Nat) (st : Int) : Cx := cxW "_law_tops_and_valleys" [("words", wordsA n), ("base", po X0), ("start", .int st), ("order", orderA n), ("costs", costsA n)]
noncomputable def topsA (n : Nat) (st : Int) : Option D := (xsN (evN P1 20) ["kept"] 20 (topsCx n st) ((dfn "_law_tops_and_valleys").2.2.drop 2)).bind (·.2)
noncomputable def five? : List D → Option Unit
  | a :: b :: l => (trip? l).map fun _ => ()
  | [] => none
  | [_] => none
theorem five_eq {l : List D} {u : Unit} (h : five? l = some u) : ∃ a b c d e, l = [a, b, c, d, e] := by
  cases l with
  | nil => exfalso; exact no_some h
  | cons a l => cases l with
    | nil => exfalso; exact no_some h
    | cons b l =>
      obtain ⟨p, hp, _⟩ := map_ex h
      exact ⟨a, b, p.1, p.2.1, p.2.2, by rw [trip_eq hp]⟩
noncomputable def isOpq (i : Nat) (d : D) : Bool := ((d.sy?.bind Sy.opq?).map fun j => Nat.beq j i).getD false
theorem isOpq_eq {i : Nat} {d : D} (h : isOpq i d = true) : d = op i := by
  obtain ⟨j, hj, h⟩ := map_ex (getD_ex h)
  obtain ⟨y, hy, hj⟩ := bind_ex hj
  rw [sy_eq hy, opq_eq hj, Nat.eq_of_beq_eq_true h]; rfl
noncomputable def isWords (d : D) : Option Nat := d.list?.bind fun l =>
  orr ((one? l).bind fun a => if isOpq 0 a = true then some 0 else none) (orr ((pair? l).bind fun p => if isOpq 0 p.1 = true ∧ isOpq 1 p.2 = true then some 1 else none) ((trip? l).bind fun p => if isOpq 0 p.1 = true ∧ isOpq 1 p.2.1 = true ∧ isOpq 2 p.2.2 = true then some 2 else none))
noncomputable def nil? (l : List D) : Option Nat := match l with
  | [] => some 0
  | _ :: _ => none
noncomputable def isSizes (d : D) : Option Nat := d.list?.bind fun l =>
  orr (nil? l) (orr ((one? l).bind fun a => if isOpq 4 a = true then some 1 else none) ((pair? l).bind fun p => if isOpq 4 p.1 = true ∧ isOpq 5 p.2 = true then some 2 else none))
noncomputable def isBase (d : D) : Bool := ((d.sy?.bind Sy.po?).map isX).getD false
noncomputable def P0w (n : Nat) (ds : List D) : Option D := (pair? ds).bind fun p => if isSizes p.1 = some n ∧ isOpq 3 p.2 = true then some (wordsA n) else none
noncomputable def P0f (n : Nat) (ds : List D) : Option D := (trip? ds).bind fun p => if isSizes p.1 = some n ∧ isOpq 3 p.2.1 = true ∧ isBase p.2.2 = true then some (factorsA n) else none
noncomputable def P0t (n : Nat) (ds : List D) : Option D := (trip? ds).bind fun p => p.2.2.int?.bind fun st => if isWords p.1 = some n ∧ isBase p.2.1 = true ∧ 0 ≤ st ∧ st ≤ n then topsA n st else none
noncomputable def P0c (n : Nat) (x : PySem.Str) (ds : List D) : Option D :=
  orr (if x = "_law_words" then P0w n ds else none)
    (orr (if x = "_law_factors" then P0f n ds else none)
      (orr (if x = "_law_crowds" then (five? ds).bind fun _ => runD P1 "_law_crowds" ["falls", "tables", "pairs"] ds else none)
        (orr (if x = "_law_denominator" then (one? ds).bind fun _ => runD P1 "_law_denominator" ["new"] ds else none)
          (orr (if x = "_law_tops_and_valleys" then P0t n ds else none) (if x = ".get_all" then P1 ".get_all" ds else none)))))
noncomputable def P0 (n : Nat) : Pr := fun x ds => match ds with
  | [] => none
  | a :: r => P0c n x (a :: r)
noncomputable def modN (n : Nat) : Int := match n with
  | 0 => 3
  | 1 => 6
  | _ => 9
noncomputable def drawnA (n : Nat) (d : Int) : D := .list [.sy .ai, op 3, .sy (.pmod 7 (Po.add X0 (Po.con 3))), .mod (modN n) d, .sy .ai]
noncomputable def lawCx (n : Nat) (d : Int) : Cx := cxW "law" [("drawn", drawnA n d), ("sizes", sizesA n)]
noncomputable def lawA (n : Nat) (d : Int) : Option D := (xsN (evN (P0 n) 20) [] 20 (lawCx n d) ((dfn "law").2.2.drop 6)).bind (·.2)
/-- the defs that are run on a case -/
noncomputable def cds (κ : Kase) : List D := [.list (κ.sz.map .int), .mod κ.m κ.bits]
noncomputable def wordsOk (κ : Kase) : Bool := ((runD P2 "_law_words" [] (cds κ)).map fun r => wkB κ r (wordsA κ.sz.length)).getD false
noncomputable def factorsOk (κ : Kase) : Bool := ((runD P2 "_law_factors" ["factors"] (cds κ ++ [po X0])).map fun r => wkB κ r (factorsA κ.sz.length)).getD false
noncomputable def tops0 (κ : Kase) (st : Int) : Cx := startCx (dfn "_law_tops_and_valleys").1 (dfn "_law_tops_and_valleys").2.1 [.list (κ.ws.map .str), po X0, .int st]
noncomputable def noOwn (a : Cx) (x : PySem.Str) : Option D := match a.own.lookup x with
  | some _ => none
  | none => a.vars.lookup x
noncomputable def wkCx (κ : Kase) (a b : Cx) : Bool := b.own.isEmpty && b.vars.all fun p => ((noOwn a p.1).map fun d => wkB κ d p.2).getD false
noncomputable def head1 (q : Cx × Option D) : Option Cx := match q.2 with
  | none => some q.1
  | some _ => none
noncomputable def headOk (κ : Kase) (st : Int) : Bool := (((xsN (evN P1 20) ["kept"] 20 (tops0 κ st) ((dfn "_law_tops_and_valleys").2.2.take 2)).bind head1).map fun cx => wkCx κ (frz cx ["order", "costs"]) (topsCx κ.sz.length st)).getD false
noncomputable def kaseOk (κ : Kase) : Bool := Nat.beq κ.ws.length (κ.sz.length + 1) && (Nat.ble κ.sz.length 2 && (sbL κ [sizesA κ.sz.length, op 3] (cds κ) && (sbB κ (wordsA κ.sz.length) (.list (κ.ws.map .str)) && (wordsOk κ && (factorsOk κ &&
  (headOk κ 0 && ((κ.sz.length == 0 || headOk κ 1) && (Nat.ble κ.sz.length 1 || headOk κ 2))))))))
noncomputable def bit (b : Nat) (i : Nat) : Nat := b / 2 ^ i % 2
/-- the words of a case -/
noncomputable def wordsN (sz : List Nat) (b : Nat) : List PySem.Str :=
  let whole := sz.sum
  let raised := (List.range whole).map fun i => if bit b i = 1 then 98 else 97
  (List.range (sz.length + 1)).map fun c => ⟨(raised.take (sz.take c).sum ++ List.replicate (whole - (sz.take c).sum) 65).toArray⟩
noncomputable def expN (sz : List Nat) (b : Nat) (i : Nat) : Nat := ((List.range (sz.getD i 0)).map fun j => 1 + bit b (((sz.take i).sum) + j)).sum
noncomputable def kase (sz : List Nat) (b : Nat) : Kase := { sz := sz.map fun (n : Nat) => (n : Int), m := (2 ^ sz.sum : Nat), bits := (b : Nat), ws := wordsN sz b, k1 := expN sz b 0, k2 := expN sz b 1 }
end Mine
end
section
open PySem PySem.W PyProof.Rows PySem.Calls PySem.Spec
set_option linter.unusedVariables false
set_option linter.unusedSectionVars false
set_option maxRecDepth 1000000
namespace Mine
variable [ρ : Inhabited Rho]

theorem execs_app (a b : List Stmt) (env : Env) : execs (a ++ b) env = (execs a env >>= fun f => match f with | .next => execs b env | f => pure f) := by
  induction a with
  | nil => rfl
  | cons st rest ih =>
    rw [List.cons_append, execs_cons, execs_cons, bind_assoc]
    refine congrArg _ (funext fun f => ?_)
    cases f <;> first | exact ih | rfl

section
variable {prog : Program} {w : World} {n : Nat} {hB h₀ : Heap} {W : Ow} {ad : PySem.Str → Addr} {env : Env} {cx cx1 cx2 : Cx} {s : Shared} {d : D} {o : Option D} {h : Heap}
theorem Gives.weaken {O : Ow} {t : Sem Value} {d d' : D} (x : Gives prog w n O t d s) (hw : ∀ h v, R O h d v → R O h d' v) : Gives prog w n O t d' s :=
  fun Q E hQ => x Q E fun v h tk k r => hQ v h tk k (hw h v r)

theorem ExG.app {a b : List Stmt} (x : ExG prog w n h₀ W ad env cx cx1 none (execs a env) s)
    (y : ∀ ad' h' tk, ER h₀ W ad' h' env cx1 → ExG prog w n h₀ W ad' env cx1 cx2 o (execs b env) { s with heap := h', toks := tk }) : ExG prog w n h₀ W ad env cx cx2 o (execs (a ++ b) env) s := fun Q E hQ => by
  rw [execs_app]
  refine wpAny_bind (x _ E fun fl ad' h' tk e' T' K' F' => ?_)
  have : fl = .next := F'
  subst this
  exact y ad' h' tk e' Q E fun fl ad2 h2 tk2 e2 T2 K2 F2 => hQ fl ad2 h2 tk2 e2 (T'.trans T2) (KW.trans K' K2) F2

theorem noOwn_ex {a : Cx} {x : PySem.Str} {d : D} (h : noOwn a x = some d) : a.vars.lookup x = some d := by
  unfold noOwn at h
  cases q : a.own.lookup x with
  | some _ => rw [q] at h; exfalso; exact no_some h
  | none => rw [q] at h; exact h
theorem ER.wk {κ : Kase} (K : KOk κ) {a b : Cx} (e : ER h₀ W ad h env a) (ys : List PySem.Str) (hk : env.scope.names = b.kinds) (hm : ∀ x, x ∈ b.mine → x ∈ a.mine) (hw : wkCx κ (frz a ys) b = true) : ER h₀ W ad h env b ∧ ∀ c, Oo W ad env b c → Oo W ad env a c := by
  obtain ⟨e1, sub⟩ := frz_sound ys a h e
  unfold wkCx at hw
  rw [Bool.and_eq_true, List.isEmpty_iff, List.all_eq_true] at hw
  obtain ⟨ho, hv⟩ := hw
  have oo : ∀ c, Oo W ad env b c → Oo W ad env a c := by
    rintro c (w | g | ⟨y, l, hy, e⟩)
    · exact .inl w
    · exact .inr (.inl g)
    · rw [ho] at hy; cases hy
  have oo1 : ∀ c, Oo W ad env b c → Oo W ad env (frz a ys) c := by
    rintro c (w | g | ⟨y, l, hy, e⟩)
    · exact .inl w
    · exact .inr (.inl g)
    · rw [ho] at hy; cases hy
  refine ⟨?_, oo⟩
  exact { base := e.base, kind := e.kind, names := hk, glob := e.glob, bi := e.bi, wl := e.wl, ns := e.ns, nl := e.nl, nl0 := e.nl0, cells := e.cells, cw := e.cw, cinj := e.cinj
          mine := fun x hx => e.mine x (hm x hx)
          vars := fun x d hx => by
            obtain ⟨d', hd', hq⟩ := map_ex (getD_ex (hv _ (mem_of_lookup hx)))
            obtain ⟨v, lk, r⟩ := e1.vars x _ (noOwn_ex hd')
            exact ⟨v, lk, wkB_ok K hq (r.tr (.sub oo1))⟩
          own := fun x l hx => by rw [ho] at hx; cases hx
          inj := fun x y l l' hx => by rw [ho] at hx; cases hx }

theorem isSizes_eq {d : D} {n : Nat} (h : isSizes d = some n) : d = sizesA n := by
  obtain ⟨l, hl, h⟩ := bind_ex h
  rw [list_eq hl]
  rcases orr_some h with h | h
  · cases l with
    | nil => rw [← Option.some.inj h]; rfl
    | cons => exfalso; exact no_some h
  rcases orr_some h with h | h
  · obtain ⟨a, ha, h⟩ := bind_ex h
    obtain ⟨h1, rfl⟩ := ite_eq h
    rw [one_eq ha, isOpq_eq h1]; rfl
  · obtain ⟨a, ha, h⟩ := bind_ex h
    obtain ⟨h1, rfl⟩ := ite_eq h
    rw [pair_eq ha, isOpq_eq h1.1, isOpq_eq h1.2]; rfl
theorem isWords_eq {d : D} {n : Nat} (h : isWords d = some n) : d = wordsA n := by
  obtain ⟨l, hl, h⟩ := bind_ex h
  rw [list_eq hl]
  rcases orr_some h with h | h
  · obtain ⟨a, ha, h⟩ := bind_ex h
    obtain ⟨h1, rfl⟩ := ite_eq h
    rw [one_eq ha, isOpq_eq h1]; rfl
  rcases orr_some h with h | h
  · obtain ⟨a, ha, h⟩ := bind_ex h
    obtain ⟨h1, rfl⟩ := ite_eq h
    rw [pair_eq ha, isOpq_eq h1.1, isOpq_eq h1.2]; rfl
  · obtain ⟨a, ha, h⟩ := bind_ex h
    obtain ⟨h1, rfl⟩ := ite_eq h
    rw [trip_eq ha, isOpq_eq h1.1, isOpq_eq h1.2.1, isOpq_eq h1.2.2]; rfl
theorem base_R {O : Ow} {d : D} {v : Value} (hd : isBase d = true) (r : R O h d v) : R O h (po X0) v := by
  obtain ⟨p, hp, hx⟩ := map_ex (getD_ex hd)
  obtain ⟨y, hy, hp⟩ := bind_ex hp
  have q := syR r hy
  rw [spo_eq hp] at q
  obtain ⟨t, rfl⟩ := q
  exact .sy _ _ ⟨t, by rw [isX_ev hx, isX_ev (p := X0) rfl]⟩

theorem tops_run {κ : Kase} (K : KOk κ) (hh : n < 48) (T : TopK w hB) (B : Bg prog w gl hB) {st : Int} (h1 : xsN (evN P1 20) ["kept"] 20 (tops0 κ st) ((dfn "_law_tops_and_valleys").2.2.take 2) = some (cx1, none)) (hst : wkCx κ (frz cx1 ["order", "costs"]) (topsCx κ.sz.length st) = true)
    (h2 : xsN (evN P1 20) ["kept"] 20 (topsCx κ.sz.length st) ((dfn "_law_tops_and_valleys").2.2.drop 2) = some (cx2, some d)) (hb : Kp hB h₀) (er : ER h₀ W ad s.heap env (tops0 κ st)) :
    ExG prog w n h₀ W ad env (tops0 κ st) cx2 (some d) (execs (dfn "_law_tops_and_valleys").2.2 env) s := by
  rw [← List.take_append_drop 2 (dfn "_law_tops_and_valleys").2.2]
  have pk := p1_ok (prog := prog) hh T B
  have xo := xsN_sound (n := n) (evN_sound B pk 20) (evN_star P1 20) B (mu := ["kept"]) 20
  refine ExG.app (xo.1 _ _ _ _ h1 h₀ W ad env s hb er) fun ad' h' tk e' => ?_
  obtain ⟨e2, sub⟩ := e'.wk (b := topsCx κ.sz.length st) K ["order", "costs"] er.names (fun x hx => by rw [xo.2 _ _ _ h1]; exact hx) hst
  intro Q E hQ
  exact xo.1 _ _ _ _ h2 h₀ W ad' env { s with heap := h', toks := tk } hb e2 Q E fun fl ad2 h2 tk2 e3 T3 K3 F3 => hQ fl ad2 h2 tk2 e3 ((Tr.sub sub).trans T3) K3 F3

theorem tops_gives {κ : Kase} (K : KOk κ) (hn : n < 46) (T : TopK w hB) (B : Bg prog w gl hB) {st : Int} (hst : headOk κ st = true) (hd : topsA κ.sz.length st = some d) {O : Ow} {vs : List Value} (hk : Kp hB s.heap) (lv : ∀ b, O b → ∃ o, s.heap.get? b = some o) (rl : RL O s.heap [.list (κ.ws.map .str), po X0, .int st] vs) :
    Gives prog w n O (call (.ref 246) vs) d s := fun Q E hQ => by
  have T' := T.keeps hk
  have hl := rl.length
  have kx : ∀ x ∈ ((["words", "base", "start"] : List PySem.Str) ++ ([] : List PySem.Str)), (dfn "_law_tops_and_valleys").1.names.lookup x = some .local ∨ (dfn "_law_tops_and_valleys").1.names.lookup x = some .cell := by
    have : ((["words", "base", "start"] : List PySem.Str).all fun x => (dfn "_law_tops_and_valleys").1.names.lookup x == some .local || (dfn "_law_tops_and_valleys").1.names.lookup x == some .cell) = true := by rfl
    simp only [List.all_eq_true, Bool.or_eq_true, beq_iff_eq] at this
    exact this
  obtain ⟨cx1, h1, hst⟩ := map_ex (getD_ex hst)
  obtain ⟨⟨c, oo⟩, h1, he⟩ := bind_ex h1
  cases oo with
  | some _ => exfalso; exact no_some he
  | none =>
    rw [show c = cx1 from Option.some.inj he] at h1
    obtain ⟨⟨cx2, o2⟩, h2, h3⟩ := bind_ex hd
    rw [show o2 = some d from h3] at h2
    exact wpAny_call (def_ex (n := n + 1) (O := O) (ds := [.list (κ.ws.map .str), po X0, .int st]) (d := d) (cx' := cx2) (xs := ["words", "base", "start"]) (ys := []) (kw := []) rfl (by show 400 + 10 * min n 50 + 1 ≤ 400 + 10 * min (n + 1) 50; omega) (by show 100 + 20 * min n 50 + 3 ≤ 100 + 20 * min (n + 1) 50; omega)
      (fn_tops T'.X) T'.lim hl.symm rfl (of_decide_eq_true (by rfl)) kx (of_decide_eq_true (by rfl)) rfl rfl lv (by simpa using rl) (fun env s₁ hs1 k1 er => tops_run (n := n + 1) K (by omega) T B h1 hst h2 hk er) fun v h' tk k r => hQ v h' tk k r)

/-- what kaseOk has looked at -/
structure KK (κ : Kase) : Prop where
  l2 : κ.sz.length ≤ 2
  hs : sbL κ [sizesA κ.sz.length, op 3] (cds κ) = true
  hw : sbB κ (wordsA κ.sz.length) (.list (κ.ws.map .str)) = true
  hW : wordsOk κ = true
  hF : factorsOk κ = true
  t0 : headOk κ 0 = true
  t1 : κ.sz.length = 0 ∨ headOk κ 1 = true
  t2 : κ.sz.length ≤ 1 ∨ headOk κ 2 = true
theorem kase_kk {κ : Kase} (hκ : kaseOk κ = true) : KK κ := by
  unfold kaseOk at hκ
  rw [Bool.and_eq_true, Bool.and_eq_true, Bool.and_eq_true, Bool.and_eq_true, Bool.and_eq_true, Bool.and_eq_true, Bool.and_eq_true, Bool.and_eq_true, Bool.or_eq_true, Bool.or_eq_true, beq_iff_eq] at hκ
  obtain ⟨hl, h2, hs, hw, hW, hF, t0, t1, t2⟩ := hκ
  exact ⟨Nat.le_of_ble_eq_true h2, hs, hw, hW, hF, t0, t1, t2.imp Nat.le_of_ble_eq_true id⟩
theorem KK.head {κ : Kase} (H : KK κ) {st : Int} (h0 : 0 ≤ st) (hle : st ≤ κ.sz.length) : headOk κ st = true := by
  have l2 := H.l2
  have : st = 0 ∨ st = 1 ∨ st = 2 := by omega
  rcases this with rfl | rfl | rfl
  · exact H.t0
  · exact H.t1.elim (fun q => absurd hle (by omega)) id
  · exact H.t2.elim (fun q => absurd hle (by omega)) id
theorem p0c_ok {κ : Kase} (K : KOk κ) (H : KK κ) (hn : n < 46) (T : TopK w hB) (B : Bg prog w gl hB) {x : PySem.Str} {ds : List D} (hne : ds ≠ []) (h : P0c κ.sz.length x ds = some d) : Ans prog w n hB x ds d := by
  rcases orr_some h with h | h
  · obtain ⟨rfl, h⟩ := ite_ex h
    obtain ⟨p, hp, h⟩ := bind_ex h
    obtain ⟨⟨hz, h3⟩, rfl⟩ := ite_eq h
    rw [pair_eq hp, isSizes_eq hz, isOpq_eq h3]
    obtain ⟨r, hr, hW⟩ := map_ex (getD_ex H.hW)
    exact ⟨_, rfl, fun O s vs hk lv rl => (run_def T B p2_ok (by omega) (fn_words T.X) rfl (by rfl) hr hk lv (sbL_ok K H.hs rl)).weaken fun h v => wkB_ok K hW⟩
  rcases orr_some h with h | h
  · obtain ⟨rfl, h⟩ := ite_ex h
    obtain ⟨p, hp, h⟩ := bind_ex h
    obtain ⟨⟨hz, h3, hbase⟩, rfl⟩ := ite_eq h
    rw [trip_eq hp, isSizes_eq hz, isOpq_eq h3]
    obtain ⟨r, hr, hF⟩ := map_ex (getD_ex H.hF)
    refine ⟨_, rfl, fun O s vs hk lv rl => (run_def T B p2_ok (by omega) (fn_factors T.X) rfl (by rfl) hr hk lv ?_).weaken fun h v => wkB_ok K hF⟩
    obtain ⟨v1, v2, v3, rfl, r1, r2, r3⟩ := rl.three
    exact RL.append (.cons _ _ _ _ (base_R hbase r3) .nil) (sbL_ok K H.hs (.cons _ _ _ _ r1 (.cons _ _ _ _ r2 .nil)))
  rcases orr_some h with h | h
  · obtain ⟨rfl, h⟩ := ite_ex h
    obtain ⟨p, hp, h⟩ := bind_ex h
    obtain ⟨a, b, c, d, e, hds⟩ := five_eq hp
    rw [hds] at h ⊢
    exact ⟨_, rfl, fun O s vs hk lv rl => run_def T B (p1_ok (by omega) T B) (by omega) (fn_crowds T.X) rfl (by rfl) h hk lv rl⟩
  rcases orr_some h with h | h
  · obtain ⟨rfl, h⟩ := ite_ex h
    obtain ⟨p, hp, h⟩ := bind_ex h
    rw [one_eq hp] at h ⊢
    exact ⟨_, rfl, fun O s vs hk lv rl => run_def T B (p1_ok (by omega) T B) (by omega) (fn_denom T.X) rfl (by rfl) h hk lv rl⟩
  rcases orr_some h with h | h
  · obtain ⟨rfl, h⟩ := ite_ex h
    obtain ⟨p, hp, h⟩ := bind_ex h
    obtain ⟨st, hst, h⟩ := bind_ex h
    obtain ⟨⟨hz, hbase, h0, hle⟩, h⟩ := ite_ex h
    rw [trip_eq hp, isWords_eq hz, int_eq hst]
    refine ⟨_, rfl, fun O s vs hk lv rl => tops_gives K hn T B (H.head h0 hle) h hk lv ?_⟩
    obtain ⟨v1, v2, v3, rfl, r1, r2, r3⟩ := rl.three
    exact .cons _ _ _ _ (sbB_ok K H.hw r1) (.cons _ _ _ _ (base_R hbase r2) (.cons _ _ _ _ r3 .nil))
  · obtain ⟨rfl, h⟩ := ite_ex h
    exact (p1_ok (prog := prog) (n := n) (by omega) T B).1 ".get_all" ds d hne h
/-- the defs that are answered for a case -/
theorem p0_ok {κ : Kase} (K : KOk κ) (hκ : kaseOk κ = true) (hn : n < 46) (T : TopK w hB) (B : Bg prog w gl hB) : PrimOk prog w n gl (P0 κ.sz.length) hB := by
  refine ⟨fun x ds d hne h => ?_, fun x d h => (no_some h).elim⟩
  cases ds with
  | nil => exact absurd rfl hne
  | cons a r => exact p0c_ok K (kase_kk hκ) hn T B hne h
end
end Mine
end
section
open PySem PySem.W PyProof.Rows PySem.Calls PySem.Spec
set_option linter.unusedVariables false
set_option linter.unusedSectionVars false
set_option maxRecDepth 1000000
namespace Mine
noncomputable def firstD : D := .tup [.int 2, .int 5, .int 1, .int 1, .int 8]
noncomputable def drawnD (l : List D) : Option D := runD P2 "_law_drawn" ["told"] [.list l, firstD]
noncomputable def intsOf : Option D → List Int
  | some (.list l) => (asInts l).getD []
  | _ => []
noncomputable def fiveI (l : List D) : Option Unit := match l with
  | a :: b :: l => bind2 a.int? b.int? fun _ _ => (trip? l).bind fun p => bind2 p.1.int? p.2.1.int? fun _ _ => p.2.2.int?.map fun _ => ()
  | [] => none
  | [_] => none
noncomputable def fiveOk (o : Option D) : Bool := (o.bind fun d => d.list?.bind fiveI).isSome
noncomputable def rowF (f : Nat → Int) (n : Nat) : List D := (List.range n).map fun i => .int (f i)
theorem dr_all (f : Nat → Int) : ((List.range 64).all fun n => fiveOk (drawnD (rowF f n))) = true := by kernel_rfl
theorem five_ex {o : Option D} (h : fiveOk o = true) : ∃ a b c d e, o = some (.list [.int a, .int b, .int c, .int d, .int e]) := by
  obtain ⟨u, hu⟩ := Option.isSome_iff_exists.mp h
  obtain ⟨x, e, hu⟩ := bind_ex hu
  obtain ⟨l, hl, hu⟩ := bind_ex hu
  rw [e, list_eq hl]
  cases l with
  | nil => exfalso; exact no_some hu
  | cons a l => cases l with
    | nil => exfalso; exact no_some hu
    | cons b l =>
      obtain ⟨i, j, hi, hj, hu⟩ := bind2_ex hu
      obtain ⟨p, hp, hu⟩ := bind_ex hu
      obtain ⟨c, d, hc, hd, hu⟩ := bind2_ex hu
      obtain ⟨e, he, hu⟩ := map_ex hu
      exact ⟨i, j, c, d, e, by rw [int_eq hi, int_eq hj, trip_eq hp, int_eq hc, int_eq hd, int_eq he]⟩
theorem rowF_eq (ns : List Int) : ns.map D.int = rowF (fun i => ns.getD i 0) ns.length := by
  apply List.ext_getElem
  · simp [rowF]
  · intro i h1 h2
    simp [rowF]
    simp at h1
    rw [List.getElem?_eq_getElem h1]
    rfl
/-- the five drawn numbers -/
theorem drawn_ex (ns : List Int) (h : ns.length ≤ 63) : ∃ a b c d e, drawnD (ns.map .int) = some (.list [.int a, .int b, .int c, .int d, .int e]) := by
  have := dr_all fun i => ns.getD i 0
  rw [List.all_eq_true] at this
  rw [rowF_eq]
  exact five_ex (this ns.length (by simp; omega))
end Mine
end
section
open PySem PySem.W PyProof.Rows PySem.Calls PySem.Spec
set_option linter.unusedVariables false
set_option linter.unusedSectionVars false
set_option maxRecDepth 1000000
namespace Mine

/-- the numbers of a case of drawn[0] % 20 -/
noncomputable def nearR (r : Nat) : Nat := 1 + r % 2
noncomputable def farR (r : Nat) : Nat := 1 + r / 2 % 2
noncomputable def formR (r : Nat) : Nat := r / 4 % 5
noncomputable def argN (r : Nat) : List Nat := match formR r with
  | 0 => [nearR r, farR r]
  | 1 => [nearR r, 0, farR r]
  | 2 => [nearR r, 127, farR r]
  | 3 => [nearR r]
  | _ => [0, nearR r, farR r]
noncomputable def szR (r : Nat) : List Nat := match formR r with
  | 0 => [nearR r, farR r]
  | 1 => [nearR r, nearR r]
  | 2 => [nearR r]
  | 3 => [nearR r]
  | _ => []
noncomputable def intD (n : Nat) : D := .int (n : Int)
noncomputable def toldD (r : Nat) : D := match formR r with
  | 4 => .list [.str "refused"]
  | _ => .list ((szR r).map intD)

noncomputable def PH : Pr := fun x ds => if x = "_law_drawn" then (match ds with | [_, _] => runD P2 "_law_drawn" ["told"] ds | _ => none) else none
noncomputable def lawB : List Stmt := (dfn "law").2.2
noncomputable def lawSc : Scope := (dfn "law").1
noncomputable def argE : Stmt → Expr
  | .Assign _ (.Call _ [e] _ _) _ => e
  | _ => .Constant .none 0 default
noncomputable def mkX (r : Nat) (a b c d : D) : D := .list [.mod 20 (r : Int), a, b, c, d]
noncomputable def cxH (X : D) : Cx := cxW "law" [("drawn", X)]
noncomputable def cx3 (r : Nat) (X : D) : Cx := cxW "law" [("form", intD (formR r)), ("near", intD (nearR r)), ("far", intD (farR r)), ("drawn", X)]
noncomputable def cx5 (r : Nat) (X : D) : Cx := cxW "law" [("sizes", .list ((szR r).map intD)), ("told", toldD r), ("form", intD (formR r)), ("near", intD (nearR r)), ("far", intD (farR r)), ("drawn", X)]

theorem stm0 (l : List D) : xsN (evN PH 20) [] 20 (startCx lawSc ["script"] [.list l]) (lawB.take 1) = ((drawnD l).map fun d => ((startCx lawSc ["script"] [.list l]).set "drawn" d, none)).bind fun p => match p.2 with
  | some d => some (p.1, some d)
  | none => some (p.1, none) := by kernel_rfl

noncomputable def allR (p : Nat → Prop) : Prop := p 0 ∧ p 1 ∧ p 2 ∧ p 3 ∧ p 4 ∧ p 5 ∧ p 6 ∧ p 7 ∧ p 8 ∧ p 9 ∧ p 10 ∧ p 11 ∧ p 12 ∧ p 13 ∧ p 14 ∧ p 15 ∧ p 16 ∧ p 17 ∧ p 18 ∧ p 19
theorem allR_at {p : Nat → Prop} (h : allR p) {r : Nat} (hr : r < 20) : p r := by
  obtain ⟨h0, h1, h2, h3, h4, h5, h6, h7, h8, h9, h10, h11, h12, h13, h14, h15, h16, h17, h18, h19⟩ := h
  match r, hr with
  | 0, _ => exact h0
  | 1, _ => exact h1
  | 2, _ => exact h2
  | 3, _ => exact h3
  | 4, _ => exact h4
  | 5, _ => exact h5
  | 6, _ => exact h6
  | 7, _ => exact h7
  | 8, _ => exact h8
  | 9, _ => exact h9
  | 10, _ => exact h10
  | 11, _ => exact h11
  | 12, _ => exact h12
  | 13, _ => exact h13
  | 14, _ => exact h14
  | 15, _ => exact h15
  | 16, _ => exact h16
  | 17, _ => exact h17
  | 18, _ => exact h18
  | 19, _ => exact h19
  | n + 20, h => exact absurd h (by omega)
theorem stm12 (a b c d : D) : allR fun r => xsN (evN PH 20) [] 20 (cxH (mkX r a b c d)) ((lawB.drop 1).take 2) = some (cx3 r (mkX r a b c d), none) := by
  refine ⟨?_, ?_, ?_, ?_, ?_, ?_, ?_, ?_, ?_, ?_, ?_, ?_, ?_, ?_, ?_, ?_, ?_, ?_, ?_, ?_⟩ <;> kernel_rfl
theorem stm3 (a b c d : D) : allR fun r => evN PH 20 (cx3 r (mkX r a b c d)) (argE (lawB.getD 3 (.Pass default))) = some (.list ((argN r).map intD)) := by
  refine ⟨?_, ?_, ?_, ?_, ?_, ?_, ?_, ?_, ?_, ?_, ?_, ?_, ?_, ?_, ?_, ?_, ?_, ?_, ?_, ?_⟩ <;> kernel_rfl
theorem stm45 (a b c d : D) : allR fun r => xsN (evN PH 20) [] 20 ((cx3 r (mkX r a b c d)).set "told" (toldD r)) ((lawB.drop 4).take 2) = some (cx5 r (mkX r a b c d), none) := by
  refine ⟨?_, ?_, ?_, ?_, ?_, ?_, ?_, ?_, ?_, ?_, ?_, ?_, ?_, ?_, ?_, ?_, ?_, ?_, ?_, ?_⟩ <;> kernel_rfl
theorem told_shape : ∃ p1 p2 e p3 p4, lawB.getD 3 (.Pass default) = .Assign [.Name "told" p1] (.Call (.Name "_law_sizes" p2) [e] [] p3) p4 ∧ e = argE (lawB.getD 3 (.Pass default)) ∧ (∀ env, starEach [e] env = [(false, eval e env)]) ∧ lawB = lawB.take 1 ++ ((lawB.drop 1).take 2 ++ (lawB.getD 3 (.Pass default) :: ((lawB.drop 4).take 2 ++ lawB.drop 6))) :=
  ⟨_, _, _, _, _, rfl, rfl, fun _ => rfl, rfl⟩
end Mine
end
section
open PySem PySem.W PyProof.Rows PySem.Calls PySem.Spec
set_option linter.unusedVariables false
set_option linter.unusedSectionVars false
set_option maxRecDepth 1000000
namespace Mine
variable [ρ : Inhabited Rho]

/-- all stays but the notes on one object -/
structure Moved (L : Addr) (h h' : Heap) : Prop where
  kp : ∀ b o, b ≠ L → h.get? b = some o → h'.get? b = some o
  lo : ∀ o, h.get? L = some o → ∃ sl, h'.get? L = some { o with slots := sl }

noncomputable def ToldOk (prog : Program) (w : World) : Prop := ∀ (r : Nat), r < 20 → ∀ (env : Env) (s : Shared) (a : Addr) (O : Ow) (Q : Value → Shared → Prop) (E : Value → Shared → Prop) (hb : Heap),
  TopK w hb → Kp hb s.heap → hb.get? env.locals = none → TopK w s.heap → env.scope.kind = .function → env.frame = some env.locals → (∃ m, s.heap.Ns env.locals m) → s.gens = #[] → (∀ b, O b → ∃ o, s.heap.get? b = some o) →
  R O s.heap (.list ((argN r).map intD)) (.ref a) →
  (∀ v h' tk g', AllBare g' → Moved env.locals s.heap h' → R O h' (toldD r) v → Q v { s with heap := h', toks := tk, gens := g' }) → wpAny (model prog w) (callerA.deeper env) (call (.ref 219) [.ref a]) Q E s

section
variable {prog : Program} {w : World} {n : Nat} {hB h₀ h h' : Heap} {W : Ow} {ad : PySem.Str → Addr} {env : Env} {cx cx1 cx2 : Cx} {s : Shared} {d : D} {o : Option D}
theorem ER.moved (e : ER h₀ W ad h env cx) (ho : cx.own = []) (m : Moved env.locals h h') : ER h₀ W ad h' env cx ∧ Tr (Oo W ad env cx) h (Oo W ad env cx) h' := by
  have T : Tr (Oo W ad env cx) h (Oo W ad env cx) h' := fun b o hb n => ⟨m.kp b o (fun q => n (.inr (.inl (.inl q)))) hb, n⟩
  have hcl : ∀ y c, env.cells.lookup y = some c → c ≠ env.locals := fun y c hy q => by
    obtain ⟨u, o, ho, hd⟩ := e.cells y c hy
    obtain ⟨m, o', es, ep, ho', hd', _⟩ := e.ns
    rw [q] at ho; rw [ho] at ho'; cases ho'; rw [hd] at hd'; cases hd'
  have nsm : ∀ f, h.Ns env.locals f → h'.Ns env.locals f := fun f ⟨o, es, ep, ho, hd, r⟩ => let ⟨sl, e⟩ := m.lo o ho; ⟨_, es, ep, e, hd, r⟩
  have cm : ∀ y c u, env.cells.lookup y = some c → h.IsCell c u → h'.IsCell c u := fun y c u hy ⟨o, ho, hd⟩ => ⟨o, m.kp c o (hcl y c hy) ho, hd⟩
  have lk : ∀ x v, Lk h env x v → Lk h' env x v := fun x v l => by
    rcases l with ⟨a, f, n, q⟩ | ⟨a, c, q, r⟩
    · exact .inl ⟨a, f, nsm f n, q⟩
    · exact .inr ⟨a, c, q, cm x c _ q r⟩
  refine ⟨?_, T⟩
  exact { base := fun b o hb => m.kp b o (fun q => by rw [q, e.nl0] at hb; cases hb) (e.base b o hb), kind := e.kind, names := e.names, glob := e.glob, bi := e.bi
          wl := fun b hb => let ⟨o, ho⟩ := e.wl b hb; ⟨o, m.kp b o (fun q => e.nl (q ▸ hb)) ho⟩
          ns := let ⟨f, n⟩ := e.ns; ⟨f, nsm f n⟩
          nl := e.nl, nl0 := e.nl0
          cells := fun x c hx => let ⟨v, r⟩ := e.cells x c hx; ⟨v, cm x c v hx r⟩
          cw := e.cw, cinj := e.cinj, mine := e.mine
          vars := fun x d hx => let ⟨v, l, r⟩ := e.vars x d hx; ⟨v, lk x v l, r.tr T⟩
          own := fun x l hx => by rw [ho] at hx; cases hx
          inj := fun x y l l' hx => by rw [ho] at hx; cases hx }

theorem ER.to {a b : Cx} (e : ER h₀ W ad h env a) (hk : env.scope.names = b.kinds) (hm : ∀ x, x ∈ b.mine → x ∈ a.mine) (ho : b.own = []) (hoa : a.own = [])
    (hv : ∀ x d, b.vars.lookup x = some d → ∃ d', a.vars.lookup x = some d' ∧ ∀ (O : Ow) (h : Heap) v, R O h d' v → R O h d v) : ER h₀ W ad h env b := by
  have oo : ∀ c, Oo W ad env b c → Oo W ad env a c := by
    rintro c (w | g | ⟨y, l, hy, e⟩)
    · exact .inl w
    · exact .inr (.inl g)
    · rw [ho] at hy; cases hy
  exact { base := e.base, kind := e.kind, names := hk, glob := e.glob, bi := e.bi, wl := e.wl, ns := e.ns, nl := e.nl, nl0 := e.nl0, cells := e.cells, cw := e.cw, cinj := e.cinj
          mine := fun x hx => e.mine x (hm x hx)
          vars := fun x d hx => by
            obtain ⟨d', hd', hr⟩ := hv x d hx
            obtain ⟨v, lk, r⟩ := e.vars x _ hd'
            exact ⟨v, lk, hr _ _ v (r.tr (.sub oo))⟩
          own := fun x l hx => by rw [ho] at hx; cases hx
          inj := fun x y l l' hx => by rw [ho] at hx; cases hx }

theorem ph_ok (hn : n < 49) (T : TopK w hB) (B : Bg prog w gl hB) : PrimOk prog w n gl PH hB := by
  refine ⟨fun x ds d hne h => ?_, fun x d h => ?_⟩
  · unfold PH at h
    split at h
    · rename_i q; subst q
      split at h
      · exact ⟨_, rfl, fun O s vs hk lv rl => run_def T B p2_ok (by omega) (fn_drawn T.X) rfl (by rfl) h hk lv rl⟩
      · exfalso; first | exact no_some h | cases h
    · exfalso; first | exact no_some h | cases h
  · unfold PH at h
    dsimp only at h
    split at h <;> cases h

theorem base3 {A : Around} (hA : ∀ Γ : PySem.Ctx, Γ.In A → Γ.In (Ar n)) {Q : Flow → Shared → Prop} {E : Value → Shared → Prop} {t : Sem Flow} (x : ExG prog w n h₀ W ad env cx cx1 o t s)
    (h : ∀ fl ad' h' tk, ER h₀ W ad' h' env cx1 → FlowIs (Oo W ad' env cx1) h' o fl → Q fl { s with heap := h', toks := tk }) : wpAny (model prog w) A t Q E s :=
  wp_weak hA (x Q E fun fl ad' h' tk e T K F => h fl ad' h' tk e F)
end
end Mine
end
section
open PySem PySem.W PyProof.Rows PySem.Calls PySem.Spec
set_option linter.unusedVariables false
set_option linter.unusedSectionVars false
set_option maxRecDepth 1000000
namespace Mine
variable [ρ : Inhabited Rho]

theorem lookup1 {x y : PySem.Str} {d d' : D} (h : List.lookup x [(y, d)] = some d') : x = y ∧ d = d' := by
  rw [List.lookup_cons] at h
  split at h
  · rename_i q; cases h; exact ⟨beq_iff_eq.mp q, rfl⟩
  · exfalso; first | exact no_some h | cases h
noncomputable def pmD : D := .sy (.pmod 7 (Po.add X0 (Po.con 3)))
noncomputable def ai : D := .sy .ai
structure Fits (κ : Kase) (r : Nat) (d0 d1 d2 d3 : Int) (M : Int) : Prop where
  K : KOk κ
  r : d0.fmod 20 = r
  m : 0 < κ.m
  b : d1.fmod κ.m = κ.bits
  x : d2.fmod 7 = ρ.default.x + 3
  M : 0 < M
theorem drawn_wk {κ : Kase} {r : Nat} {d0 d1 d2 d3 d4 M : Int} (F : Fits κ r d0 d1 d2 d3 M) {O : Ow} {h : Heap} {v : Value} (rv : R O h (.list [.int d0, .int d1, .int d2, .int d3, .int d4]) v) :
    R O h (mkX r (op 3) pmD (.mod M (d3.fmod M)) ai) v := by
  obtain ⟨a, its, rfl, n, il, rl⟩ := rv.list_v
  ·
    refine .list _ a its n il ?_
    generalize its.toList = L at rl
    obtain ⟨v0, L0, rfl, r0, rl⟩ := rl.uncons
    obtain ⟨v1, L1, rfl, r1, rl⟩ := rl.uncons
    obtain ⟨v2, v3, v4, rfl, r2, r3, r4⟩ := rl.three
    obtain ⟨t0, rfl⟩ := r0.int_v
    obtain ⟨t1, rfl⟩ := r1.int_v
    obtain ⟨t2, rfl⟩ := r2.int_v
    obtain ⟨t3, rfl⟩ := r3.int_v
    obtain ⟨t4, rfl⟩ := r4.int_v
    ·
              refine .cons _ _ _ _ (.mod _ _ _ _ (by decide) F.r) (.cons _ _ _ _ (.sy _ _ ((F.K.o _ _).mpr ?_)) (.cons _ _ _ _ (.sy _ _ ⟨_, _, rfl, ?_⟩) (.cons _ _ _ _ (.mod _ _ _ _ F.M rfl) (.cons _ _ _ _ (.sy _ _ ⟨_, _, rfl⟩) .nil))))
              · unfold hold
                rw [if_neg (by omega), if_pos rfl]
                exact ⟨_, _, rfl, F.m, F.b⟩
              · rw [Po.ev_add, Po.ev_con, isX_ev (p := X0) rfl]
                exact F.x
theorem mkX_wk {r : Nat} {a b c d : D} {O : Ow} {h : Heap} {v : Value} (rv : R O h (mkX r a b c d) v) : R O h (.list [ai, a, b, c, d]) v := by
  obtain ⟨a, its, rfl, n, il, rl⟩ := rv.list_v
  ·
    refine .list _ a its n il ?_
    generalize its.toList = L at rl
    obtain ⟨v0, L0, rfl, r0, rs⟩ := rl.uncons
    clear rl
    ·
      obtain ⟨k0, t0, rfl, _⟩ := r0.mod_v
      exact .cons _ _ _ _ (.sy _ _ ⟨_, _, rfl⟩) rs

section
variable {prog : Program} {w : World} {h₀ : Heap} {ad : PySem.Str → Addr} {env : Env} {s : Shared} {A : Around} {Q : Flow → Shared → Prop} {E : Value → Shared → Prop}
theorem args_one {f : Value} {e : Expr} {pos : Pos} {n : Nat} {Q : Args → Shared → Prop} (hse : starEach [e] env = [(false, eval e env)]) (h : wpAny (model prog w) A (eval e env) (fun v s' => Q ⟨[v], []⟩ s') E s) : wpAny (model prog w) A (evalArgs f true (backTo pos (starEach [e] env)) []) Q E s := by
  have body : wpAny (model prog w) A (spliced (backTo pos (starEach [e] env))) (fun vs s' => Q ⟨vs, []⟩ s') E s := args_cons (wpAny_mono h (fun v s' h' => args_nil h') fun _ _ x => x) hse
  rw [hse] at body ⊢
  exact evalArgs_plain body
theorem law_body (told : ToldOk prog w) (T : TopK w h₀) (B : Bg prog w gl h₀) (hAe : A = callerA.deeper env) (hh : A.handled = none) (hdep : A.depth ≤ 350) (hun : A.units ≤ 50) (hf : env.frame = some env.locals)
    {κ : Kase} (hκ : kaseOk κ = true) {r : Nat} (hr : r < 20) (hsz : wkB κ (.list ((szR r).map intD)) (sizesA κ.sz.length) = true) {l : List D} {d0 d1 d2 d3 d4 : Int} (five : drawnD l = some (.list [.int d0, .int d1, .int d2, .int d3, .int d4]))
    (F : Fits κ r d0 d1 d2 d3 (modN κ.sz.length)) (hlaw : lawA κ.sz.length (d3.fmod (modN κ.sz.length)) = some (.bool true))
    (er : ER h₀ (fun _ => False) ad s.heap env (startCx lawSc ["script"] [.list l])) (hg : s.gens = #[])
    (hQ : ∀ h' tk g', AllBare g' → Kp h₀ h' → Q (.ret (.bool true)) { s with heap := h', toks := tk, gens := g' }) : wpAny (model prog w) A (execs lawB env) Q E s := by
  have hA : ∀ Γ : PySem.Ctx, Γ.In A → Γ.In (Ar 0) := fun Γ ⟨a, b, c, d, e⟩ => ⟨a.trans hh, Nat.le_trans b (Nat.le_trans hdep (by decide)), (fun _ q => by cases q), (fun _ q => by cases q), Nat.le_trans e (Nat.le_trans hun (by decide))⟩
  have pkH := ph_ok (prog := prog) (n := 0) (by omega) T B
  have xo := (xsN_sound (n := 0) (evN_sound B pkH 20) (evN_star PH 20) B (mu := []) 20).1
  obtain ⟨p1, p2, e, p3, p4, hst, he, hse, hL⟩ := told_shape
  have X5 := allR_at (stm45 (op 3) pmD (.mod (modN κ.sz.length) (d3.fmod (modN κ.sz.length))) ai) hr
  have X3 := allR_at (stm3 (op 3) pmD (.mod (modN κ.sz.length) (d3.fmod (modN κ.sz.length))) ai) hr
  have X1 := allR_at (stm12 (op 3) pmD (.mod (modN κ.sz.length) (d3.fmod (modN κ.sz.length))) ai) hr
  generalize hX : mkX r (op 3) pmD (.mod (modN κ.sz.length) (d3.fmod (modN κ.sz.length))) ai = X at X1 X3 X5
  rw [hL, execs_app]
  refine wpAny_bind (base3 hA (xo _ _ _ none (by rw [stm0, five]; rfl) h₀ _ ad env s (Kp.refl _) er) fun fl ad1 h1 tk1 e1 F1 => ?_)
  have : fl = .next := F1
  subst this
  have e1 := e1.to (b := cxH X) er.names (fun x h => h) rfl rfl fun x d hx => by
    obtain ⟨rfl, rfl⟩ := lookup1 hx
    exact ⟨_, rfl, fun O h v rv => hX ▸ drawn_wk F rv⟩
  dsimp only
  rw [execs_app]
  refine wpAny_bind (base3 hA (xo _ _ _ none X1 h₀ _ ad1 env { s with heap := h1, toks := tk1 } (Kp.refl _) e1) fun fl ad2 h2 tk2 e2 F2 => ?_)
  have : fl = .next := F2
  subst this
  dsimp only
  rw [hst]
  refine wpAny_execs_cons (assignName rfl (wpAny_Call_NameR (top_name (T.keeps e2.base) (v := .ref 219) rfl e2 rfl (by decide +kernel) ?_)))
  refine callWith_of (P := fun h' => Kp h2 h') (by rw [hse env]; rfl) (fun h' k => B.kp "_law_sizes" (.ref 219) h' rfl (e2.base.trans k)) ?_
  refine args_one (n := 0) (hse env) (wp_weak hA (evN_sound B pkH 20 _ _ _ (he ▸ X3) h₀ _ ad2 env { s with heap := h2, toks := tk2 } (Kp.refl _) e2 _ E fun v h3 tk3 k3 rv => ⟨k3, ?_⟩))
  have e3 := e2.kp k3
  obtain ⟨a, rfl⟩ : ∃ a, v = .ref a := by obtain ⟨a, its, e, _⟩ := rv.list_v; exact ⟨a, e⟩
  subst hAe
  refine told r hr env { s with heap := h3, toks := tk3 } a _ _ E h₀ T e3.base e3.nl0 (T.keeps e3.base) er.kind hf e3.ns hg e3.live rv fun v h4 tk4 g4 hg4 hm rv4 => ?_
  obtain ⟨e4, T4⟩ := e3.moved rfl hm
  refine store_wp (s := { s with heap := h4, toks := tk4, gens := g4 }) e4 (of_decide_eq_true (by rfl)) fun h5 tk5 z => ?_
  obtain ⟨e5, T5, K5⟩ := e4.set (of_decide_eq_true (by rfl)) rv4 z
  dsimp only
  rw [execs_app]
  refine wpAny_bind (base3 hA (xo _ _ _ none X5 h₀ _ ad2 env { s with heap := h5, toks := tk5, gens := g4 } (Kp.refl _) e5) fun fl ad6 h6 tk6 e6 F6 => ?_)
  have : fl = .next := F6
  subst this
  have e6 := e6.to (b := lawCx κ.sz.length (d3.fmod (modN κ.sz.length))) er.names (fun x h => h) rfl rfl fun x d hx => by
    unfold lawCx cxW at hx
    rw [List.lookup_cons] at hx
    split at hx
    · rename_i q
      have := beq_iff_eq.mp q
      subst this
      cases hx
      exact ⟨X, rfl, fun O h v rv => mkX_wk (hX ▸ rv)⟩
    · obtain ⟨rfl, rfl⟩ := lookup1 hx
      exact ⟨_, rfl, fun O h v rv => wkB_ok F.K hsz rv⟩
  have pk0 := p0_ok (prog := prog) (n := 0) F.K hκ (by omega) T B
  have xo0 := (xsN_sound (n := 0) (evN_sound B pk0 20) (evN_star (P0 κ.sz.length) 20) B (mu := []) 20).1
  unfold lawA at hlaw
  obtain ⟨⟨cx7, o7⟩, h7, q7⟩ := bind_ex hlaw
  have q7 : o7 = some (.bool true) := q7
  subst q7
  dsimp only
  refine base3 hA (xo0 _ _ _ _ h7 h₀ _ ad6 env { s with heap := h6, toks := tk6, gens := g4 } (Kp.refl _) e6) fun fl ad8 h8 tk8 e8 F8 => ?_
  obtain ⟨v, rfl, rv8⟩ := F8
  obtain rfl := rv8.bool_v
  exact hQ h8 tk8 g4 hg4 e8.base
end
end Mine
end
section
open PySem PySem.W PyProof.Rows PySem.Calls PySem.Spec
set_option maxRecDepth 1000000
namespace Mine
/-- the checks of a case -/
noncomputable def tabS (sz : List Nat) (b : Nat) : Bool := kaseOk (kase sz b) && (Nat.ble (kase sz b).k1 4 && (Nat.ble (kase sz b).k2 4 && wkB (kase sz b) (.list (sz.map intD)) (sizesA (kase sz b).sz.length)))
theorem tb0n0 : tabS [1, 1] 0 = true := by decide +kernel
theorem tb0n1 : tabS [1, 1] 1 = true := by decide +kernel
theorem tb0n2 : tabS [1, 1] 2 = true := by decide +kernel
theorem tb0n3 : tabS [1, 1] 3 = true := by decide +kernel
theorem tb0 : ∀ b, b < 4 → tabS [1, 1] b = true
  | 0, _ => tb0n0
  | 1, _ => tb0n1
  | 2, _ => tb0n2
  | 3, _ => tb0n3
  | k + 4, h => absurd h (by omega)
theorem tb1n0 : tabS [1, 2] 0 = true := by decide +kernel
theorem tb1n1 : tabS [1, 2] 1 = true := by decide +kernel
theorem tb1n2 : tabS [1, 2] 2 = true := by decide +kernel
theorem tb1n3 : tabS [1, 2] 3 = true := by decide +kernel
theorem tb1n4 : tabS [1, 2] 4 = true := by decide +kernel
theorem tb1n5 : tabS [1, 2] 5 = true := by decide +kernel
theorem tb1n6 : tabS [1, 2] 6 = true := by decide +kernel
theorem tb1n7 : tabS [1, 2] 7 = true := by decide +kernel
theorem tb1 : ∀ b, b < 8 → tabS [1, 2] b = true
  | 0, _ => tb1n0
  | 1, _ => tb1n1
  | 2, _ => tb1n2
  | 3, _ => tb1n3
  | 4, _ => tb1n4
  | 5, _ => tb1n5
  | 6, _ => tb1n6
  | 7, _ => tb1n7
  | k + 8, h => absurd h (by omega)
theorem tb2n0 : tabS [2, 1] 0 = true := by decide +kernel
theorem tb2n1 : tabS [2, 1] 1 = true := by decide +kernel
theorem tb2n2 : tabS [2, 1] 2 = true := by decide +kernel
theorem tb2n3 : tabS [2, 1] 3 = true := by decide +kernel
theorem tb2n4 : tabS [2, 1] 4 = true := by decide +kernel
theorem tb2n5 : tabS [2, 1] 5 = true := by decide +kernel
theorem tb2n6 : tabS [2, 1] 6 = true := by decide +kernel
theorem tb2n7 : tabS [2, 1] 7 = true := by decide +kernel
theorem tb2 : ∀ b, b < 8 → tabS [2, 1] b = true
  | 0, _ => tb2n0
  | 1, _ => tb2n1
  | 2, _ => tb2n2
  | 3, _ => tb2n3
  | 4, _ => tb2n4
  | 5, _ => tb2n5
  | 6, _ => tb2n6
  | 7, _ => tb2n7
  | k + 8, h => absurd h (by omega)
theorem tb3n0 : tabS [2, 2] 0 = true := by decide +kernel
theorem tb3n1 : tabS [2, 2] 1 = true := by decide +kernel
theorem tb3n2 : tabS [2, 2] 2 = true := by decide +kernel
theorem tb3n3 : tabS [2, 2] 3 = true := by decide +kernel
theorem tb3n4 : tabS [2, 2] 4 = true := by decide +kernel
theorem tb3n5 : tabS [2, 2] 5 = true := by decide +kernel
theorem tb3n6 : tabS [2, 2] 6 = true := by decide +kernel
theorem tb3n7 : tabS [2, 2] 7 = true := by decide +kernel
theorem tb3n8 : tabS [2, 2] 8 = true := by decide +kernel
theorem tb3n9 : tabS [2, 2] 9 = true := by decide +kernel
theorem tb3n10 : tabS [2, 2] 10 = true := by decide +kernel
theorem tb3n11 : tabS [2, 2] 11 = true := by decide +kernel
theorem tb3n12 : tabS [2, 2] 12 = true := by decide +kernel
theorem tb3n13 : tabS [2, 2] 13 = true := by decide +kernel
theorem tb3n14 : tabS [2, 2] 14 = true := by decide +kernel
theorem tb3n15 : tabS [2, 2] 15 = true := by decide +kernel
theorem tb3 : ∀ b, b < 16 → tabS [2, 2] b = true
  | 0, _ => tb3n0
  | 1, _ => tb3n1
  | 2, _ => tb3n2
  | 3, _ => tb3n3
  | 4, _ => tb3n4
  | 5, _ => tb3n5
  | 6, _ => tb3n6
  | 7, _ => tb3n7
  | 8, _ => tb3n8
  | 9, _ => tb3n9
  | 10, _ => tb3n10
  | 11, _ => tb3n11
  | 12, _ => tb3n12
  | 13, _ => tb3n13
  | 14, _ => tb3n14
  | 15, _ => tb3n15
  | k + 16, h => absurd h (by omega)
theorem tb4n0 : tabS [1] 0 = true := by decide +kernel
theorem tb4n1 : tabS [1] 1 = true := by decide +kernel
theorem tb4 : ∀ b, b < 2 → tabS [1] b = true
  | 0, _ => tb4n0
  | 1, _ => tb4n1
  | k + 2, h => absurd h (by omega)
theorem tb5n0 : tabS [2] 0 = true := by decide +kernel
theorem tb5n1 : tabS [2] 1 = true := by decide +kernel
theorem tb5n2 : tabS [2] 2 = true := by decide +kernel
theorem tb5n3 : tabS [2] 3 = true := by decide +kernel
theorem tb5 : ∀ b, b < 4 → tabS [2] b = true
  | 0, _ => tb5n0
  | 1, _ => tb5n1
  | 2, _ => tb5n2
  | 3, _ => tb5n3
  | k + 4, h => absurd h (by omega)
theorem tb6n0 : tabS [] 0 = true := by decide +kernel
theorem tb6 : ∀ b, b < 1 → tabS [] b = true
  | 0, _ => tb6n0
  | k + 1, h => absurd h (by omega)
theorem lw0n0 : isT (lawA 0 0) = true := by decide +kernel
theorem lw0n1 : isT (lawA 0 1) = true := by decide +kernel
theorem lw0n2 : isT (lawA 0 2) = true := by decide +kernel
theorem lw0 : ∀ d : Nat, d < 3 → isT (lawA 0 (d : Int)) = true
  | 0, _ => lw0n0
  | 1, _ => lw0n1
  | 2, _ => lw0n2
  | k + 3, h => absurd h (by omega)
theorem lw1n0 : isT (lawA 1 0) = true := by decide +kernel
theorem lw1n1 : isT (lawA 1 1) = true := by decide +kernel
theorem lw1n2 : isT (lawA 1 2) = true := by decide +kernel
theorem lw1n3 : isT (lawA 1 3) = true := by decide +kernel
theorem lw1n4 : isT (lawA 1 4) = true := by decide +kernel
theorem lw1n5 : isT (lawA 1 5) = true := by decide +kernel
theorem lw1 : ∀ d : Nat, d < 6 → isT (lawA 1 (d : Int)) = true
  | 0, _ => lw1n0
  | 1, _ => lw1n1
  | 2, _ => lw1n2
  | 3, _ => lw1n3
  | 4, _ => lw1n4
  | 5, _ => lw1n5
  | k + 6, h => absurd h (by omega)
theorem lw2n0 : isT (lawA 2 0) = true := by decide +kernel
theorem lw2n1 : isT (lawA 2 1) = true := by decide +kernel
theorem lw2n2 : isT (lawA 2 2) = true := by decide +kernel
theorem lw2n3 : isT (lawA 2 3) = true := by decide +kernel
theorem lw2n4 : isT (lawA 2 4) = true := by decide +kernel
theorem lw2n5 : isT (lawA 2 5) = true := by decide +kernel
theorem lw2n6 : isT (lawA 2 6) = true := by decide +kernel
theorem lw2n7 : isT (lawA 2 7) = true := by decide +kernel
theorem lw2n8 : isT (lawA 2 8) = true := by decide +kernel
theorem lw2 : ∀ d : Nat, d < 9 → isT (lawA 2 (d : Int)) = true
  | 0, _ => lw2n0
  | 1, _ => lw2n1
  | 2, _ => lw2n2
  | 3, _ => lw2n3
  | 4, _ => lw2n4
  | 5, _ => lw2n5
  | 6, _ => lw2n6
  | 7, _ => lw2n7
  | 8, _ => lw2n8
  | k + 9, h => absurd h (by omega)
theorem sz_all {r : Nat} (hr : r < 20) : szR r = [1, 1] ∨ szR r = [1, 2] ∨ szR r = [2, 1] ∨ szR r = [2, 2] ∨ szR r = [1] ∨ szR r = [2] ∨ szR r = [] := by
  have : ∀ r, r < 20 → szR r = [1, 1] ∨ szR r = [1, 2] ∨ szR r = [2, 1] ∨ szR r = [2, 2] ∨ szR r = [1] ∨ szR r = [2] ∨ szR r = [] := by decide +kernel
  exact this r hr
theorem tab_all {sz : List Nat} (h : sz = [1, 1] ∨ sz = [1, 2] ∨ sz = [2, 1] ∨ sz = [2, 2] ∨ sz = [1] ∨ sz = [2] ∨ sz = []) {b : Nat} (hb : b < 2 ^ sz.sum) : tabS sz b = true := by
  rcases h with rfl | rfl | rfl | rfl | rfl | rfl | rfl
  · exact tb0 b hb
  · exact tb1 b hb
  · exact tb2 b hb
  · exact tb3 b hb
  · exact tb4 b hb
  · exact tb5 b hb
  · exact tb6 b hb
theorem isT_eq {o : Option D} (h : isT o = true) : o = some (.bool true) := by
  unfold isT at h
  split at h
  · rfl
  · exfalso; first | exact no_some h | cases h
theorem law_all {sz : List Nat} (h : sz = [1, 1] ∨ sz = [1, 2] ∨ sz = [2, 1] ∨ sz = [2, 2] ∨ sz = [1] ∨ sz = [2] ∨ sz = []) {d : Int} (h0 : 0 ≤ d) (h1 : d < modN sz.length) : lawA sz.length d = some (.bool true) := by
  obtain ⟨k, rfl⟩ := Int.eq_ofNat_of_zero_le h0
  apply isT_eq
  rcases h with rfl | rfl | rfl | rfl | rfl | rfl | rfl
  · exact lw2 k (Int.ofNat_lt.mp h1)
  · exact lw2 k (Int.ofNat_lt.mp h1)
  · exact lw2 k (Int.ofNat_lt.mp h1)
  · exact lw2 k (Int.ofNat_lt.mp h1)
  · exact lw1 k (Int.ofNat_lt.mp h1)
  · exact lw1 k (Int.ofNat_lt.mp h1)
  · exact lw0 k (Int.ofNat_lt.mp h1)
end Mine
end
section
open PySem PySem.W PyProof.Rows PySem.Calls PySem.Spec
set_option linter.unusedVariables false
set_option linter.unusedSectionVars false
set_option maxRecDepth 1000000
namespace Mine

theorem ints_rl [Inhabited Rho] {O : Ow} {h : Heap} : ∀ {vs : List Value} {ns : List Int}, IntsAre vs ns → RL O h (ns.map .int) vs
  | _, _, .nil => .nil
  | _, _, .cons n t r => .cons _ _ _ _ (.int n t) (ints_rl r)
theorem fmod_nonneg' (a : Int) {b : Int} (h : 0 < b) : 0 ≤ a.fmod b := by
  rw [Int.fmod_eq_emod_of_nonneg _ (by omega)]; exact Int.emod_nonneg _ (by omega)
theorem fmod_lt' (a : Int) {b : Int} (h : 0 < b) : a.fmod b < b := by
  rw [Int.fmod_eq_emod_of_nonneg _ (by omega)]; exact Int.emod_lt_of_pos _ h

theorem law_call {prog : Program} {w : World} {s : Shared} {Q : Value → Shared → Prop} {E : Value → Shared → Prop} (told : ∀ [Inhabited Rho], ToldOk prog w) (T : TopK w s.heap) {a : Addr} {its : Array Value} {ns : List Int} (il : s.heap.IsList a its) (hI : IntsAre its.toList ns) (hlen : ns.length ≤ 63) (hg : s.gens = #[])
    (hQ : ∀ h' tk g', AllBare g' → Kp s.heap h' → Q (.bool true) { s with heap := h', toks := tk, gens := g' }) : wpAny (model prog w) callerA (call (.ref 251) [.ref a]) Q E s := by
  obtain ⟨d0, d1, d2, d3, d4, five⟩ := drawn_ex ns hlen
  have hr0 := fmod_nonneg' d0 (b := 20) (by decide)
  have hr1 := fmod_lt' d0 (b := 20) (by decide)
  obtain ⟨r, hr⟩ := Int.eq_ofNat_of_zero_le hr0
  have hr20 : r < 20 := by omega
  have hs := sz_all hr20
  have hm : (0 : Int) < ((2 ^ (szR r).sum : Nat) : Int) := Int.ofNat_lt.mpr (Nat.pow_pos (by decide))
  obtain ⟨b, hb⟩ := Int.eq_ofNat_of_zero_le (fmod_nonneg' d1 hm)
  have hblt : b < 2 ^ (szR r).sum := by have := fmod_lt' d1 hm; rw [hb] at this; exact Int.ofNat_lt.mp this
  have tb := tab_all hs hblt
  unfold tabS at tb
  simp only [Bool.and_eq_true, Nat.ble_eq] at tb
  obtain ⟨hκ, hk1, hk2, hsz⟩ := tb
  have x0 := fmod_nonneg' d2 (b := 7) (by decide)
  have x1 := fmod_lt' d2 (b := 7) (by decide)
  have hx : (d2.fmod 7 - 3).natAbs ≤ 3 := by omega
  have p81 : ∀ k : Nat, k ≤ 4 → ((d2.fmod 7 - 3) ^ k).natAbs ≤ 81 := fun k hk => Nat.le_trans (pow_abs hx k) (Nat.le_trans (Nat.pow_le_pow_right (by decide) hk) (by decide))
  letI : Inhabited Rho := ⟨{ x := d2.fmod 7 - 3, y := (d2.fmod 7 - 3) ^ (kase (szR r) b).k1, z := (d2.fmod 7 - 3) ^ (kase (szR r) b).k2, hx := hx, hy := p81 _ hk1, hz := p81 _ hk2, o := hold (kase (szR r) b) }⟩
  have K : KOk (kase (szR r) b) := ⟨fun _ _ => Iff.rfl, rfl, rfl⟩
  have hl : (kase (szR r) b).sz.length = (szR r).length := by simp [kase]
  have hM : 0 < modN (kase (szR r) b).sz.length := by unfold modN; split <;> decide
  have F : Fits (kase (szR r) b) r d0 d1 d2 d3 (modN (kase (szR r) b).sz.length) := ⟨K, hr, hm, hb, by show d2.fmod 7 = d2.fmod 7 - 3 + 3; omega, hM⟩
  have hlaw : lawA (kase (szR r) b).sz.length (d3.fmod (modN (kase (szR r) b).sz.length)) = some (.bool true) := by
    rw [hl] at hM ⊢
    exact law_all hs (fmod_nonneg' d3 hM) (fmod_lt' d3 hM)
  obtain ⟨mb, nb, hmb⟩ := T.mb
  have B : Bg prog w gl s.heap := bg T.X nb hmb
  obtain ⟨ob, fd, ho, hdata, hcd, hbody, hscp, hclo, hgl, hbi, hbind⟩ := (fn_law T.X).ex
  have kx : ∀ x ∈ (["script"] : List PySem.Str), fd.scope.names.lookup x = some .local ∨ fd.scope.names.lookup x = some .cell := by
    have : ((["script"] : List PySem.Str).all fun x => (dfn "law").1.names.lookup x == some .local || (dfn "law").1.names.lookup x == some .cell) = true := by rfl
    simp only [List.all_eq_true, Bool.or_eq_true, beq_iff_eq] at this
    rw [hscp]
    exact this
  have hsc : scopeOk fd.scope = true := by rw [hscp]; exact of_decide_eq_true (by rfl)
  have hkd : fd.scope.kind = .function := by rw [hscp]; rfl
  refine wpAny_call (codeAny_call_cells_kw (A := callerA) (binds := zipB ["script"] [.ref a]) (by decide) ho hdata T.lim hcd hbody (hbind _ [.ref a] rfl) hclo (fun p hp => ?_) (fun s₁ x => ?_) (by rw [hscp]; rfl) (by rw [hscp]; rfl) hkd)
  · rcases kx p.1 (zipB_names hp) with q | q
    · exact .inl q
    · refine .inr ⟨q, ?_⟩
      obtain ⟨c, hc⟩ := cells_has fd.scope.names (s.heap.objs.size + 1) [] p.1 (mem_of_lookup q)
      obtain ⟨c', hc'⟩ := lookup_of_mem hc
      rw [hc']; rfl
  · have er := call_er (ds := [.list (ns.map .int)]) (O := fun _ => False) (fun b q => q.elim) (.cons _ _ _ _ (.list _ a its (fun q => q) il (ints_rl hI)) .nil) rfl (by decide +kernel) kx hgl hbi hsc x (fun _ => 0)
    rw [hscp] at er
    obtain ⟨h1, tk1, e1⟩ := x.toInCall.same
    subst e1
    refine law_body told T B rfl rfl (by show callerA.depth + 1 ≤ 350; decide) (by show callerA.units + 3 ≤ 50; decide) (by rfl) hκ hr20 hsz five F hlaw er hg fun h' tk g' hb k => ?_
    exact hQ h' tk g' hb k
end Mine
end
section
open PySem PySem.W PyProof.Rows PySem.Calls PySem.Spec
set_option linter.unusedVariables false
set_option linter.unusedSectionVars false
set_option maxRecDepth 1000000
namespace Mine
section
variable {prog : Program} {w : World} {A : Around} {R : GenEnd} {Y : Protocol} {n : Nat} {s₀ : Shared} {fs : List Frame} {s : Shared} {env : Env} {c : Code}
  {K : Flow → Sem PySem.Fin} {H : Value → Sem PySem.Fin} {gd : Bool → Bool} {lv : List Value → List Value}

/-- the code of a for within a generator -/
noncomputable abbrev forK (env : Env) (K : Flow → Sem PySem.Fin) (H : Value → Sem PySem.Fin) (gd : Bool → Bool) (lv : List Value → List Value) : Result → Sem PySem.Fin := fun r => ((match r with | .ok f => (.pure f : Sem Flow) | .error e => .raise e).onRaise fun (x : Value) => do
        if (← field x 1) == Value.none then unsupported "frame.own-activation:exception-without-traceback"
        setFlight x env.frame).wrap K H gd lv
noncomputable abbrev noteK (env : Env) : Value → Sem PySem.Fin := fun e => (do noteFrame e env; theTreesLotGoes e : Sem Unit).wrap (fun _ => .raise e) .raise id id

theorem seg_For {target iter : Expr} {body : List Stmt} {pos : Pos} (hs : ∀ x, foldedSetIterable iter env x = pure x)
    (h : wpAny (model prog w) (A.over c fs) (eval iter env) (fun x s₁ => wpAny (model prog w) (A.over c fs) (pyIter x) (fun it s₂ =>
      ∀ p, Seg (model prog w) A R Y n s₀ (.forLoop target it body [] env) ((model prog w).den (.forLoop target it body [] env)) (.ret (forK env K H gd lv) none (gd false) (lv []) c p [] :: fs) s₂)
        (fun x s' => Seg (model prog w) A R Y n s₀ c (H x) fs s') s₁) (fun x s' => Seg (model prog w) A R Y n s₀ c (H x) fs s') s) :
    Seg (model prog w) A R Y n s₀ c ((exec (.For target iter body [] pos) env).wrap K H gd lv) fs s := by
  rw [exec_For]
  simp only [hs]
  refine seg_at ?_
  show Seg _ A R Y n s₀ c ((eval iter env >>= fun v => (standAt iter.pos >>= fun _ => (holding [v] (pyIter v) >>= fun it => runOwn (.forLoop target it body [] env) env))).wrap K H gd lv) fs s
  rw [Sem.bind_eq_wrap', Sem.wrap_wrap]
  refine seg_wrap (wpAny_mono h (fun x s₁ h₁ => ?_) fun _ _ x => x)
  refine seg_at ?_
  show Seg _ A R Y n s₀ c ((holding [x] (pyIter x) >>= fun it => runOwn (.forLoop target it body [] env) env).wrap K H gd lv) fs s₁
  rw [Sem.bind_eq_wrap', Sem.wrap_wrap]
  refine seg_wrap (wpAny_holding (wpAny_mono h₁ (fun it s₂ h₂ => ?_) fun _ _ x => x))
  exact seg_call fun p => h₂ p

theorem seg_forLoop {x : PySem.Str} {tp : Pos} {it : Value} {body : List Stmt}
    (h : wpAny (model prog w) (A.over (.forLoop (.Name x tp) it body [] env) fs) (pyNext it) (fun r s₁ => match r with
      | none => Seg (model prog w) A R Y n s₀ (.forLoop (.Name x tp) it body [] env) (.pure (.again (.block [] env))) fs s₁
      | some v => wpAny (model prog w) (A.over (.forLoop (.Name x tp) it body [] env) fs) (assign (.Name x tp) env v) (fun _ s₃ =>
          Seg (model prog w) A R Y n s₀ (.forLoop (.Name x tp) it body [] env) ((execs body env).wrap (fun f => match f with
            | .next | .cont => .pure (.again (.forLoop (.Name x tp) it body [] env))
            | .brk => .pure (.done .next)
            | .ret v => .pure (.done (.ret v))) (noteK env) id id) fs s₃) (fun e s' => Seg (model prog w) A R Y n s₀ (.forLoop (.Name x tp) it body [] env) (noteK env e) fs s') s₁)
      (fun e s' => Seg (model prog w) A R Y n s₀ (.forLoop (.Name x tp) it body [] env) (noteK env e) fs s') s) :
    Seg (model prog w) A R Y n s₀ (.forLoop (.Name x tp) it body [] env) ((model prog w).den (.forLoop (.Name x tp) it body [] env)) fs s := by
  show Seg _ A R Y n s₀ _ ((forTurn (.Name x tp) it body [] env).onRaise (fun x => do noteFrame x env; theTreesLotGoes x)) fs s
  rw [Sem.onRaise_eq_wrap]
  have hH : (fun e => (do noteFrame e env; theTreesLotGoes e : Sem Unit).bind fun _ => (.raise e : Sem PySem.Fin)) = noteK env := by
    funext e
    rw [Sem.bind_eq_wrap]
  rw [hH]
  unfold forTurn
  show Seg _ A R Y n s₀ _ ((standAt tp >>= fun _ => ((pyNext it).onRaise (fun _ => standAt { tp with line := 0 }) >>= fun r => match r with
    | none => again (.block [] env)
    | some v => (assign (.Name x tp) env v >>= fun _ => (execs body env >>= fun f => match f with
      | .next | .cont => again (.forLoop (.Name x tp) it body [] env)
      | .brk => pure (.done .next)
      | .ret v => pure (.done (.ret v)))))).wrap .pure (noteK env) id id) fs s
  refine seg_at ?_
  show Seg _ A R Y n s₀ _ ((((pyNext it).onRaise (fun _ => standAt { tp with line := 0 })) >>= _).wrap .pure (noteK env) id id) fs s
  rw [Sem.bind_eq_wrap', Sem.wrap_wrap]
  refine seg_wrap (wpAny_onRaise (wpAny_mono h (fun r s₁ h₁ => ?_) fun e s₁ h₁ => wpAny_standAt h₁))
  cases r with
  | none => exact h₁
  | some v =>
    show Seg _ A R Y n s₀ _ ((assign (.Name x tp) env v >>= _).wrap .pure (noteK env) id id) fs s₁
    rw [Sem.bind_eq_wrap', Sem.wrap_wrap]
    refine seg_wrap (wpAny_mono h₁ (fun _ s₂ h₂ => ?_) fun _ _ x => x)
    show Seg _ A R Y n s₀ _ ((execs body env >>= _).wrap .pure (noteK env) id id) fs s₂
    rw [Sem.bind_eq_wrap', Sem.wrap_wrap]
    have e := fun (K₀ : Flow → Sem PySem.Fin) (hK : ∀ f, K₀ f = (match f with
            | .next | .cont => .pure (.again (.forLoop (.Name x tp) it body [] env))
            | .brk => .pure (.done .next)
            | .ret v => .pure (.done (.ret v)))) => Sem.wrap_congr (execs body env) (H := noteK env) (H' := noteK env) id id hK fun _ => rfl
    show Seg _ A R Y n s₀ _ (Sem.wrap (fun f => Sem.wrap Sem.pure (noteK env) id id (match f with
      | .next | .cont => again (.forLoop (.Name x tp) it body [] env)
      | .brk => pure (.done .next)
      | .ret v => pure (.done (.ret v)))) (noteK env) id id (execs body env)) fs s₂
    rw [e _ fun f => by cases f <;> rfl]
    exact h₂

/-- a statement without a yield -/
theorem seg_plain {st : Stmt} {rest : List Stmt} (h : wpAny (model prog w) (A.over c fs) (exec st env) (fun f s' => match f with
      | .next => Seg (model prog w) A R Y n s₀ c ((execs rest env).wrap K H gd lv) fs s'
      | f => Seg (model prog w) A R Y n s₀ c (K f) fs s') (fun x s' => Seg (model prog w) A R Y n s₀ c (H x) fs s') s) :
    Seg (model prog w) A R Y n s₀ c ((execs (st :: rest) env).wrap K H gd lv) fs s :=
  seg_execs_cons (seg_wrap (wpAny_mono h (fun f s' h' => by cases f <;> exact h') fun _ _ x => x))
/-- an if whose test is true -/
theorem seg_IfT {test : Expr} {body orelse rest : List Stmt} {pos : Pos} (h : wpAny (model prog w) (A.over c fs) (isTrue test env (eval test env)) (fun b s' => b = true ∧ Seg (model prog w) A R Y n s₀ c ((execs body env).wrap (fun f => match f with | .next => (execs rest env).wrap K H gd lv | f => K f) H gd lv) fs s') (fun x s' => Seg (model prog w) A R Y n s₀ c (H x) fs s') s) :
    Seg (model prog w) A R Y n s₀ c ((execs (.If test body orelse pos :: rest) env).wrap K H gd lv) fs s := by
  refine seg_execs_cons ?_
  rw [exec_If]
  refine seg_at ?_
  show Seg _ A R Y n s₀ c ((isTrue test env (eval test env) >>= fun b => if b = true then execs body env else execs orelse env).wrap _ H gd lv) fs s
  rw [Sem.bind_eq_wrap', Sem.wrap_wrap]
  refine seg_wrap (wpAny_mono h (fun b s' h' => ?_) fun _ _ x => x)
  obtain ⟨rfl, h'⟩ := h'
  exact h'
end
end Mine
end
section
open PySem PySem.W PyProof.Rows PySem.Calls PySem.Spec
set_option linter.unusedVariables false
set_option linter.unusedSectionVars false
set_option maxRecDepth 1000000
namespace Mine
section
variable {prog : Program} {w : World} {A : Around} {E : Value → Shared → Prop} {s : Shared}

theorem nextOf_range_item {it : Addr} {x left step : Int} {Q : Value → Shared → Prop} (hit : IsRangeIter s.heap it x left step) (hleft : 0 < left)
    (hQ : ∀ h' t, IsRangeIter h' it (x + step) (left - 1) step → Heap.SameBut it s.heap h' → Q (.int x t) { s with heap := h', toks := s.toks + 1 }) : wpAny (model prog w) A (Builtin.SmallTypes.nextOf (.ref it)) Q E s := by
  have hT : s.TypeIs (.ref it) "range_iterator" := ⟨_, hit, rfl⟩
  unfold Builtin.SmallTypes.nextOf
  refine wpAny_bind (wpAny_callSpecial?_slot (name := Str.ofString "__next__") hT F.slot_range_iterator_next
    (call_meets F.slot_range_iterator_next hT F.entry_range_iterator_next (F.args_range_iterator_next_1 _) (AutoRange.range_iterator___next___range_iterator_1 it x left step (by omega)) ⟨hit, ?_⟩))
  exact wpAny_pure (hQ _ _ (Heap.get?_update_self _ (Heap.get?_update_self _ hit rfl) rfl) ((Heap.SameBut.update ..).trans (Heap.SameBut.update ..)))

/-- the made StopIteration -/
noncomputable def Stopped (e : Addr) (h : Heap) : Prop := ∃ o, h.get? e = some o ∧ o.cls = .type "StopIteration"
theorem stop_wp {α : Type} {Q : α → Shared → Prop} {f : Value → Sem α} (hf : ∀ e s, E (.ref e) s → wpAny (model prog w) A (f (.ref e)) Q E s) (h : ∀ h' e, Kp s.heap h' → Stopped e h' → E (.ref e) { s with heap := h' }) : wpAny (model prog w) A (newExc (.type "StopIteration") [] >>= f) Q E s := by
  refine wpAny_bind ?_
  simp only [newExc, newTuple]
  refine wpAny_bind (wpAny_newObj_type ?_ (by size_fits))
  refine wpAny_bind (m := firstArgMember _ _) (wpAny_of_eq (a := Value.none) (by first | rfl | (simp only [firstArgMember]; rfl)) ?_)
  refine wpAny_newObj_type (hf _ _ (h _ _ ?_ ?_)) (by size_fits)
  · exact fun b o hb => Heap.get?_push_of_some _ (Heap.get?_push_of_some _ hb)
  · exact ⟨_, Heap.get?_push_size _ rfl, rfl⟩

theorem nextOf_range_end {it : Addr} {x left step : Int} {Q : Value → Shared → Prop} (hh : A.handled = none) (hit : IsRangeIter s.heap it x left step) (hleft : left ≤ 0)
    (hQ : ∀ h' e, Kp s.heap h' → Stopped e h' → E (.ref e) { s with heap := h' }) : wpAny (model prog w) A (Builtin.SmallTypes.nextOf (.ref it)) Q E s := by
  have hT : s.TypeIs (.ref it) "range_iterator" := ⟨_, hit, rfl⟩
  unfold Builtin.SmallTypes.nextOf
  refine wpAny_bind (wpAny_callSpecial?_slot (name := Str.ofString "__next__") hT F.slot_range_iterator_next
    (wpAny_call_entry F.slot_range_iterator_next hT F.entry_range_iterator_next ?_ (F.args_range_iterator_next_1 _)))
  show wpAny _ _ (field (.ref it) 0 >>= _) _ _ s
  refine wpAny_bind (wpAny_field hit rfl (x := rawInt x) rfl ?_)
  show wpAny _ _ (field (.ref it) 1 >>= _) _ _ s
  refine wpAny_bind (wpAny_field hit rfl (x := rawInt left) rfl ?_)
  show wpAny _ _ (field (.ref it) 2 >>= _) _ _ s
  refine wpAny_bind (wpAny_field hit rfl (x := rawInt step) rfl ?_)
  show wpAny _ _ (if left ≤ 0 then _ else _) _ _ s
  rw [if_pos hleft]
  refine wpAny_bind (wpAny_rule ?_)
  refine wpAny_bind ?_
  exact stop_wp (A := A.in1) (fun e s h => wpAny_raiseNew_none hh h) fun h' e k st => hQ h' e k st

/-- a generator woken by next: it yields, ends, or raises -/
theorem nextOf_gen {a : Addr} {g n : Nat} {gs : GenState} {R : GenEnd} {Y : Protocol} {Q : Value → Shared → Prop} (hh : A.handled = none) (hl : s.heap.NoLimit) (hroom : A.depth < recursionLimit) (hg : s.heap.IsGen a g) (hgs : s.gens[g]? = some gs)
    (hgo : gs.Goes (model prog w) A.in1 R Y n (.send .none) (s.setGen g .running))
    (hY : ∀ v s₁ gs', gs'.bare = true → Y (n - 1) (s.setGen g .running) v s₁ (fun r' s'' => match n with
        | 0 => False
        | m + 1 => gs'.Goes (model prog w) A.in1 R Y m r' s'') → Q v (s₁.setGen g gs'))
    (hR : ∀ x s₁, R n (s.setGen g .running) x s₁ → (x = .ok (.ret .none) ∧ ∀ h' e, Kp s₁.heap h' → Stopped e h' → E (.ref e) { s₁.setGen g .finished with heap := h' }) ∨ (∃ e, x = .error e ∧ wpAny (model prog w) A.in1 (Builtin.Generator.genLeft (.ref a) e : Sem PySem.Fin) (fun _ _ => False) E (s₁.setGen g .finished))) :
    wpAny (model prog w) A (Builtin.SmallTypes.nextOf (.ref a)) Q E s := by
  unfold Builtin.SmallTypes.nextOf
  refine wpAny_bind (wpAny_callSpecial?_slot (name := Str.ofString "__next__") hg.typeIs slot_gen_next
    (wpAny_call_entry slot_gen_next hg.typeIs entry_gen_next ?_ (args_gen_next _)))
  show wpAny _ _ (Builtin.Generator.genWake (.ref a) (.send .none)) _ _ s
  unfold Builtin.Generator.genWake
  refine wpAny_bind (wpAny_holding (wpAny_genNumber hg (wpAny_bind (wpAny_genState hgs ?_))))
  cases gs with
  | running => exact hgo.elim
  | finished => exact hgo.elim
  | _ =>
    refine wpAny_bind (wpAny_roomToWake hl hroom ?_)
    show wpAny _ _ (.resume g (.send .none) [] _) _ _ s
    refine wpAny_resumeQ hgs hgo (fun x s₁ hx => ?_) (fun v s₁ gs' hb hv => ?_)
    · rcases hR x s₁ hx with ⟨rfl, hp⟩ | ⟨e, rfl, hp⟩
      · show wpAny _ _ (newExc (.type "StopIteration") [] >>= _) _ _ _
        exact stop_wp (A := A.in1) (fun e s h => wpAny_bind (wpAny_raiseNew_none hh h)) fun h' e k st => hp h' e k st
      · exact wpAny_mono hp (fun fin s' h' => h'.elim) fun _ _ x => x
    · exact wpAny_pure ⟨v, rfl, wpAny_pure (hY v s₁ gs' hb hv)⟩
end
end Mine
end
section
open PySem PySem.W PyProof.Rows PySem.Calls PySem.Spec
set_option linter.unusedVariables false
set_option linter.unusedSectionVars false
set_option maxRecDepth 1000000
namespace Mine
structure ZB (z TI TO i1 : Addr) : Prop where
  a : TI ≠ z
  b : TO ≠ z
  c : i1 ≠ z
  e : TI ≠ TO
  f : TI ≠ i1
  h : TO ≠ i1
section
variable {prog : Program} {w : World} {A : Around} {E : Value → Shared → Prop} {s : Shared}

theorem zg_next {z TI TO i1 i2 : Addr} {a b : Value} {x left : Int} {Q : Value → Shared → Prop} (D : ZB z TI TO i1)
    (hz : IsZip s.heap z TI TO .none) (hTI : IsPair s.heap TI (.ref i1) (.ref i2)) (hTO : IsPair s.heap TO a b) (h1 : IsRangeIter s.heap i1 x left 1) (hleft : 0 < left)
    (hN : ∀ g3 tk t, IsZip g3 z TI TO .ellipsis → IsPair g3 TO (.int x t) b → IsRangeIter g3 i1 (x + 1) (left - 1) 1 → (∀ c o, c ≠ z → c ≠ TO → c ≠ i1 → s.heap.get? c = some o → g3.get? c = some o) →
      wpAny (model prog w) A (Builtin.SmallTypes.nextOf (.ref i2)) (fun v s4 => IsZip s4.heap z TI TO .ellipsis ∧ IsPair s4.heap TO (.int x t) b ∧ ∀ h' tk', IsZip h' z TI TO (rawInt s4.heap.objs.size) → IsPair h' s4.heap.objs.size (.int x t) v → (∃ a b, IsPair h' TO a b) →
          (∀ c o, c ≠ z → c ≠ TO → s4.heap.get? c = some o → h'.get? c = some o) → Q (.ref s4.heap.objs.size) { s4 with heap := h', toks := tk' })
        (fun e s4 => IsZip s4.heap z TI TO .ellipsis ∧ ∀ h', (∀ c o, c ≠ z → s4.heap.get? c = some o → h'.get? c = some o) → E e { s4 with heap := h' }) { s with heap := g3, toks := tk }) :
    wpAny (model prog w) A (Builtin.«zip.__next__» ⟨[.ref z], []⟩) (fun fin s' => ∃ v, fin = .done (.ret v) ∧ Q v s') E s := by
  show wpAny _ _ (field (.ref z) 2 >>= _) _ _ _
  refine wpAny_bind (wpAny_field hz rfl (x := .bool false) rfl ?_)
  show wpAny _ _ (field (.ref z) 3 >>= _) _ _ _
  refine wpAny_bind (wpAny_field hz rfl (x := .ref TI) rfl (wpAny_bind (wpAny_seqItems hTI rfl ?_)))
  show wpAny _ _ (Builtin.SmallTypes.ownedTupleIsFree (.ref z) >>= _) _ _ _
  unfold Builtin.SmallTypes.ownedTupleIsFree
  refine wpAny_bind (wpAny_bind (wpAny_field hz rfl (x := .none) rfl (wpAny_pure ?_)))
  simp only [if_true]
  refine wpAny_bind (wpAny_rule (wpAny_bind (wpAny_field hz rfl (x := .ref TO) rfl ?_)))
  refine wpAny_bind (wpAny_setField_rec hz (by simp) fun g1 z1 b1 => ?_)
  refine wpAny_bind ?_
  simp only [List.zipIdx_cons, List.zipIdx_nil, List.forIn_cons, List.forIn_nil]
  refine wpAny_bind (wpAny_bind (wpAny_onRaise ?_))
  show wpAny _ _ (Builtin.SmallTypes.nextOf (.ref i1) >>= _) _ _ _
  refine wpAny_bind (nextOf_range_item (s := { s with heap := g1 }) (b1.extBut _ _ D.c h1) hleft fun g2 t n1 b2 => wpAny_pure ?_)
  have T2 : IsPair g2 TO a b := b2.extBut _ _ D.h (b1.extBut _ _ D.b hTO)
  refine wpAny_bind (wpAny_seqItems T2 rfl (wpAny_bind (wpAny_updateSeq_pair T2 fun g3 T3 b3 => wpAny_bind (wpAny_letGo (wpAny_pure ?_)))))
  refine wpAny_bind (wpAny_bind (wpAny_onRaise ?_))
  show wpAny _ _ (Builtin.SmallTypes.nextOf (.ref i2) >>= _) _ _ _
  have z3 : IsZip g3 z TI TO .ellipsis := b3.extBut _ _ D.b.symm (b2.extBut _ _ D.c.symm z1)
  have kk : ∀ c o, c ≠ z → c ≠ TO → c ≠ i1 → s.heap.get? c = some o → g3.get? c = some o := fun c o q1 q2 q3 e => b3.extBut _ _ q2 (b2.extBut _ _ q3 (b1.extBut _ _ q1 e))
  refine wpAny_bind (wpAny_mono (hN g3 _ t z3 T3 (b3.extBut _ _ D.h.symm n1) kk) (fun v s4 h4 => wpAny_pure ?_) fun e s4 h4 => ?_)
  · obtain ⟨z4, T4, hQ⟩ := h4
    refine wpAny_bind (wpAny_seqItems T4 rfl (wpAny_bind (wpAny_updateSeq_pair T4 fun g5 T5 b5 => wpAny_bind (wpAny_letGo (wpAny_pure (wpAny_pure ?_))))))
    replace T5 : IsPair g5 TO (.int x t) v := T5
    refine wpAny_bind (wpAny_seqItems T5 rfl (wpAny_bind (wpAny_newTuple ?_)))
    have hsz : g5.objs.size = s4.heap.objs.size := b5.1
    have z5 : IsZip g5 z TI TO .ellipsis := b5.extBut _ _ D.b.symm z4
    have ltz : z < g5.objs.size := Heap.lt_size z5
    show wpAny _ _ (Builtin.SmallTypes.ownedTupleHandOut (.ref z) (.ref g5.objs.size) >>= _) _ _ _
    unfold Builtin.SmallTypes.ownedTupleHandOut
    generalize hp : ({ cls := .type "tuple", data := .seq #[.int x t, v] } : Obj) = po
    have hpf : po.isFreed = false := by rw [← hp]; rfl
    have z6 : IsZip (g5.push po) z TI TO .ellipsis := Heap.get?_push_of_some _ z5
    have fin : wpAny (model prog w) A (do setField (.ref z) 0 (rawInt g5.objs.size); setField (.ref z) 1 (.bool false)) (fun _ s' => ∃ h' tk, s' = { s4 with heap := h', toks := tk } ∧ IsZip h' z TI TO (rawInt g5.objs.size) ∧ ∀ c o, c ≠ z → (g5.push po).get? c = some o → h'.get? c = some o) E { s4 with heap := g5.push po } := by
      refine wpAny_bind (wpAny_setField_rec z6 (by simp) fun g7 z7 b7 => ?_)
      refine wpAny_setField_rec z7 (by simp) fun g8 z8 b8 => ⟨g8, _, rfl, z8, fun c o q e => b8.extBut _ _ q (b7.extBut _ _ q e)⟩
    subst hp
    refine wpAny_bind (wpAny_mono fin (fun _ s' h' => ?_) fun _ _ e => e)
    obtain ⟨g8, tk, rfl, z8, k8⟩ := h'
    have T8 := k8 _ _ (Nat.ne_of_gt ltz) (Heap.get?_push_size g5 (o := { cls := .type "tuple", data := .seq #[.int x t, v] }) rfl)
    have k9 : ∀ c o, c ≠ z → g5.get? c = some o → g8.get? c = some o := fun c o q e => k8 c o q (Heap.get?_push_of_some _ e)
    refine wpAny_pure ⟨_, rfl, ?_⟩
    have := hQ g8 tk (hsz ▸ z8) (hsz ▸ T8) ⟨_, _, k9 _ _ D.b T5⟩ fun c o q1 q2 e => k9 c o q1 (b5.extBut _ _ q2 e)
    rw [← hsz] at this
    exact this
  · obtain ⟨z4, hE⟩ := h4
    exact wpAny_setField_rec z4 (by simp) fun g5 _ b5 => hE g5 fun c o q e => b5.extBut _ _ q e

theorem zg_end {z TI TO i1 i2 : Addr} {a b : Value} {x left : Int} {Q : PySem.Fin → Shared → Prop} (hh : A.handled = none) (D : ZB z TI TO i1)
    (hz : IsZip s.heap z TI TO .none) (hTI : IsPair s.heap TI (.ref i1) (.ref i2)) (hTO : IsPair s.heap TO a b) (h1 : IsRangeIter s.heap i1 x left 1) (hleft : left ≤ 0)
    (hE : ∀ h' e, (∀ c o, c ≠ z → s.heap.get? c = some o → h'.get? c = some o) → Stopped e h' → E (.ref e) { s with heap := h' }) :
    wpAny (model prog w) A (Builtin.«zip.__next__» ⟨[.ref z], []⟩) Q E s := by
  show wpAny _ _ (field (.ref z) 2 >>= _) _ _ _
  refine wpAny_bind (wpAny_field hz rfl (x := .bool false) rfl ?_)
  show wpAny _ _ (field (.ref z) 3 >>= _) _ _ _
  refine wpAny_bind (wpAny_field hz rfl (x := .ref TI) rfl (wpAny_bind (wpAny_seqItems hTI rfl ?_)))
  show wpAny _ _ (Builtin.SmallTypes.ownedTupleIsFree (.ref z) >>= _) _ _ _
  unfold Builtin.SmallTypes.ownedTupleIsFree
  refine wpAny_bind (wpAny_bind (wpAny_field hz rfl (x := .none) rfl (wpAny_pure ?_)))
  simp only [if_true]
  refine wpAny_bind (wpAny_rule (wpAny_bind (wpAny_field hz rfl (x := .ref TO) rfl ?_)))
  refine wpAny_bind (wpAny_setField_rec hz (by simp) fun g1 z1 b1 => ?_)
  refine wpAny_bind ?_
  simp only [List.zipIdx_cons, List.zipIdx_nil, List.forIn_cons, List.forIn_nil]
  refine wpAny_bind (wpAny_bind (wpAny_onRaise ?_))
  show wpAny _ _ (Builtin.SmallTypes.nextOf (.ref i1) >>= _) _ _ _
  refine wpAny_bind (nextOf_range_end (s := { s with heap := g1 }) hh (b1.extBut _ _ D.c h1) hleft fun g2 e k2 st => ?_)
  obtain ⟨oe, hoe, hce⟩ := st
  have z2 : IsZip g2 z TI TO .ellipsis := k2 _ _ z1
  have hez : e ≠ z := fun q => by subst q; rw [z2] at hoe; cases hoe; simp at hce
  exact wpAny_setField_rec z2 (by simp) fun g3 _ b3 => hE g3 e (fun c o q w => b3.extBut _ _ q (k2 _ _ (b1.extBut _ _ q w))) ⟨oe, b3.extBut _ _ hez hoe, hce⟩
end
end Mine
end
section
open PySem PySem.W PyProof.Rows PySem.Calls PySem.Spec
set_option linter.unusedVariables false
set_option linter.unusedSectionVars false
set_option maxRecDepth 1000000
namespace Mine
variable [Inhabited Rho]

noncomputable def gl2L : List (PySem.Str × Value) := ("CHAR_MAX", .int 127 354) :: glL
noncomputable def gl2 (x : PySem.Str) : Option Value := gl2L.lookup x
theorem gl2_nm (P : Params) : gl2L.all (nmOk (hd.heap_39 P)) = true := by rfl
theorem gl2_kp (P : Params) : (gl2L.all fun p => kpOk (hd.heap_39 P) p.2) = true := by rfl
theorem gl2_mem {x : PySem.Str} {v : Value} (h : gl2 x = some v) : (x, v) ∈ gl2L := mem_of_lookup h
section
variable {prog : Program} {w : World}
theorem bg2 {h : Heap} (X : (Kf w).In h) {mb : PySem.Str → Option Value} (hb : h.Ns builtinsNs mb) (hmb : ∀ x : PySem.Str, x ≠ "__name__" → mb x = bootBuiltins x) : Bg prog w gl2 h where
  nm := fun x v hx hn => by
    have := gl2_nm w.params
    rw [List.all_eq_true] at this
    have := this _ (gl2_mem hx)
    unfold nmOk at this
    simp only [hn, Bool.not_true, Bool.false_or, Bool.or_eq_true, Bool.and_eq_true, beq_iff_eq, Bool.not_eq_true', beq_eq_false_iff_ne] at this
    rcases this with q | ⟨q, q2, q3⟩
    · exact .inl (looks_nsIn X q)
    · exact .inr ⟨looks_nsIn X q, mb, hb, (hmb x q3).trans q2⟩
  kp := fun x v h' hx k => by
    have := gl2_kp w.params
    rw [List.all_eq_true] at this
    have := this _ (gl2_mem hx)
    dsimp only at this
    cases v with
    | ref a => exact keeps_K (K := Kf w) (f := .ref a) this h' (X.keeps k)
    | builtin i => exact ⟨.machine, .inr (.inl rfl), Looks.of_pure rfl⟩
    | type i => exact ⟨.machine, .inr (.inl rfl), Looks.of_pure rfl⟩
    | int i t => exact ⟨.machine, .inr (.inl rfl), Looks.of_pure rfl⟩
    | _ => exfalso; first | exact no_some this | cases this
  len := rfl
  sum := rfl
  int := rfl
  list := rfl
  range := rfl
  enum := rfl
  zip := rfl
  gm := fun f hf O s ov l k r pl A Q E hq => by
    have : f = .ref 142 := by
      have e : gl2 ".get_all" = some (.ref 142) := rfl
      rw [e] at hf; exact (Option.some.inj hf).symm
    subst this
    exact bg_gm X k r pl A Q E hq
end
noncomputable def P3 : Pr := fun x ds => match ds with
  | [] => if x = "CHAR_MAX" then some (.int 127) else none
  | _ => none
theorem p3_ok {prog : Program} {w : World} {n : Nat} {hB : Heap} : PrimOk prog w n gl2 P3 hB := by
  refine ⟨fun x ds d hne h => ?_, fun x d h => ?_⟩
  · unfold P3 at h
    split at h
    · exact absurd rfl hne
    · exfalso; first | exact no_some h | cases h
  · unfold P3 at h
    dsimp only at h
    split at h
    · rename_i q; subst q; cases h; exact ⟨.int 127 354, rfl, fun _ _ => .int _ _⟩
    · exfalso; first | exact no_some h | cases h

section
variable {A : Around}
theorem over1 (hh : A.handled = none) (hd : A.depth ≤ 350) (hu : A.units ≤ 50) (b : List Stmt) (env : Env) : ∀ Γ : PySem.Ctx, Γ.In (A.over (.func b env) []) → Γ.In (Ar 0) := fun Γ ⟨a, b, c, d, e⟩ => by
  refine ⟨a.trans ?_, Nat.le_trans b ?_, (fun _ q => by cases q), (fun _ q => by cases q), Nat.le_trans e ?_⟩
  · exact hh
  · show A.depth + 0 + 1 ≤ 400; omega
  · show A.units + 0 + 3 ≤ 100; omega
theorem over2 (hh : A.handled = none) (hd : A.depth ≤ 350) (hu : A.units ≤ 50) {b b' : List Stmt} {env : Env} {x : Expr} {it : Value} {k : Result → Sem PySem.Fin} {g : Bool} {l : List Value} {p : Pos} : ∀ Γ : PySem.Ctx, Γ.In (A.over (.forLoop x it b' [] env) [.ret k none g l (.func b env) p []]) → Γ.In (Ar 0) := fun Γ ⟨a, b, c, d, e⟩ => by
  refine ⟨a.trans ?_, Nat.le_trans b ?_, (fun _ q => by cases q), (fun _ q => by cases q), Nat.le_trans e ?_⟩
  · exact hh
  · show A.depth + 1 + 0 ≤ 400; omega
  · first | (show A.units + 3 + 0 ≤ 100; omega) | (show A.units + 3 + 1 ≤ 100; omega) | (show A.units + 3 + 2 ≤ 100; omega) | (show A.units + 3 + 4 ≤ 100; omega) | (show A.units + 3 + 5 ≤ 100; omega) | (show A.units + 3 + 6 ≤ 100; omega)
end
end Mine
end
section
open PySem PySem.W PyProof.Rows PySem.Calls PySem.Spec
set_option linter.unusedVariables false
set_option linter.unusedSectionVars false
set_option maxRecDepth 1000000
namespace Mine
variable [Inhabited Rho]
noncomputable def genB : List Stmt := (dfn "_grouping_intervals").2.2
noncomputable def genSc : Scope := (dfn "_grouping_intervals").1
theorem gen_shape : ∃ (S0 : Stmt) (p1 p2 : Pos) (I1 I2 : Stmt) (p3 p4 p5 : Pos) (S4 : Stmt) (p6 : Pos), genB = [S0, .For (.Name "interval" p1) (.Name "grouping" p2) [I1, I2, .Expr (.Yield (some (.Name "interval" p3)) p4) p5, S4] [] p6] ∧
    S0 = genB.getD 0 (.Pass default) ∧ (∃ b, (match genB.getD 1 (.Pass default) with | .For _ _ b _ _ => b | _ => []) = b ∧ I1 = b.getD 0 (.Pass default) ∧ I2 = b.getD 1 (.Pass default) ∧ S4 = b.getD 3 (.Pass default)) :=
  ⟨_, _, _, _, _, _, _, _, _, _, rfl, rfl, _, rfl, rfl, rfl, rfl⟩
noncomputable def forB : List Stmt := match genB.getD 1 (.Pass default) with | .For _ _ b _ _ => b | _ => []
noncomputable abbrev Kg : Flow → Sem PySem.Fin := fun f => .pure (.done (.ret (match f with | .ret v => v | _ => .none)))
noncomputable abbrev Hf (env : Env) : Value → Sem PySem.Fin := fun e => (leaving env e).wrap (fun _ => .raise e) .raise id id
noncomputable abbrev Kn (env : Env) : Flow → Sem PySem.Fin := fun f => match f with | .next => (execs [] env).wrap Kg (Hf env) id id | f => Kg f
noncomputable abbrev frF (env : Env) (p : Pos) : List Frame := [.ret (forK env (Kn env) (Hf env) id id) none (id false) (id []) (.func genB env) p []]

/-- what lies between two looks at the generator -/
structure GS (h₀ : Heap) (W : Ow) (env : Env) (I a : Addr) (its : Array Value) (i : Nat) (cx : Cx) (h : Heap) : Prop where
  er : ∃ ad, ER h₀ (fun b => W b ∨ b = I) ad h env cx
  it : h.IsListIter I a i
  li : h.IsList a its
  own : cx.own = []
structure GO (h₀ : Heap) (W : Ow) (I a : Addr) : Prop where
  w0 : ∀ b, W b → h₀.get? b = none
  i0 : h₀.get? I = none
  iw : ¬ W I
  ai : ∃ o, h₀.get? a = some o
section
variable {h₀ h h' : Heap} {W : Ow} {env : Env} {I a : Addr} {its : Array Value} {i : Nat} {cx cx' : Cx}
theorem GS.frame (g : GS h₀ W env I a its i cx h) (o : GO h₀ W I a) (k : ∀ b o, h.get? b = some o → ¬ W b → h'.get? b = some o) (lv : ∀ b, W b → ∃ o, h'.get? b = some o) : GS h₀ W env I a its i cx h' := by
  obtain ⟨ad, e⟩ := g.er
  refine ⟨⟨ad, e.frame W (fun b w => ⟨.inl w, o.w0 b w⟩) k lv⟩, ?_, ?_, g.own⟩
  · obtain ⟨q, hq, r⟩ := g.it; exact ⟨q, k _ _ hq o.iw, r⟩
  · obtain ⟨q, hq, r⟩ := g.li
    obtain ⟨q', hq'⟩ := o.ai
    have := e.base _ _ hq'
    rw [hq] at this; cases this
    refine ⟨q, k _ _ hq fun w => ?_, r⟩
    rw [o.w0 _ w] at hq'; cases hq'
theorem GS.step (g : GS h₀ W env I a its i cx h) (o : GO h₀ W I a) {ad' : PySem.Str → Addr} (e' : ER h₀ (fun b => W b ∨ b = I) ad' h' env cx') (ho : cx'.own = []) (K : KW (fun b => W b ∨ b = I) h h') : GS h₀ W env I a its i cx' h' := by
  refine ⟨⟨ad', e'⟩, ?_, ?_, ho⟩
  · obtain ⟨q, hq, r⟩ := g.it; exact ⟨q, K _ (.inr rfl) _ hq, r⟩
  · obtain ⟨q, hq, r⟩ := g.li
    obtain ⟨q', hq'⟩ := o.ai
    obtain ⟨ad, e⟩ := g.er
    have := e.base _ _ hq'
    rw [hq] at this; cases this
    exact ⟨q, e'.base _ _ hq', r⟩
theorem GS.turn (g : GS h₀ W env I a its i cx h) (o : GO h₀ W I a) (it : h'.IsListIter I a (i + 1)) (sb : Heap.SameBut I h h') : GS h₀ W env I a its (i + 1) cx h' := by
  obtain ⟨ad, e⟩ := g.er
  refine ⟨⟨ad, e.frame (fun b => b = I) (fun b w => ⟨.inr w, w ▸ o.i0⟩) (fun b o q n => (sb.2 b n).trans q) (fun b q => let ⟨o, ho, _⟩ := it; ⟨o, q ▸ ho⟩)⟩, it, ?_, g.own⟩
  obtain ⟨q, hq, r⟩ := g.li
  obtain ⟨q', hq'⟩ := o.ai
  refine ⟨q, (sb.2 a fun z => ?_).trans hq, r⟩
  rw [z, o.i0] at hq'; cases hq'
end

section
variable {prog : Program} {w : World} {A : Around} {h₀ : Heap} {W : Ow} {env : Env} {I a : Addr} {its : Array Value} {i : Nat} {cx : Cx}
/-- the yields, and the end -/
noncomputable def Yp (h₀ : Heap) (W : Ow) (vals : Nat → Int) (req : Nat → Bool) : Protocol := fun m s₀ v s' kap => (∃ t, v = .int (vals m) t) ∧ (∃ h tk, s' = { s₀ with heap := h, toks := tk } ∧ KW W s₀.heap h) ∧ Kp h₀ s'.heap ∧
  (req m = true → ∀ s'', (∀ b o, s'.heap.get? b = some o → ¬ W b → s''.heap.get? b = some o) → (∀ b, W b → ∃ o, s''.heap.get? b = some o) → kap (.send .none) s'')
noncomputable def Rp (h₀ : Heap) (W : Ow) : GenEnd := fun m s₀ r s' => m = 0 ∧ r = .ok (.ret .none) ∧ (∃ h tk, s' = { s₀ with heap := h, toks := tk } ∧ KW W s₀.heap h) ∧ Kp h₀ s'.heap

/-- one item that is yielded -/
theorem seg_item {R : GenEnd} {vals : Nat → Int} {req : Nat → Bool} {n : Nat} {s₀ s : Shared} {x : Int} {t : Tok} {p p1 p3 p4 p5 : Pos} {I1 I2 S4 : Stmt} {hI : Heap} (hh : A.handled = none) (hd : A.depth ≤ 350) (hu : A.units ≤ 50) (go : GO h₀ W I a) (hco : env.scope.isCoroutine = false) (B : Bg prog w gl2 h₀)
    (fr : ∃ h tk, s = { s₀ with heap := h, toks := tk } ∧ KW W s₀.heap h) (g : GS h₀ W env I a its i cx s.heap) (hx : its[i]? = some (.int x t)) (hm : ("interval" : PySem.Str) ∈ cx.mine) (hkd : cx.kinds = genSc.names) (hI : I1 = forB.getD 0 (.Pass default)) (hI2 : I2 = forB.getD 1 (.Pass default))
    (r1 : exS (evN P3 10) [] (xsN (evN P3 10) [] 5) (cx.set "interval" (.int x)) I1 = some (cx.set "interval" (.int x), none)) (r2 : exS (evN P3 10) [] (xsN (evN P3 10) [] 5) (cx.set "interval" (.int x)) I2 = some (cx.set "interval" (.int x), none)) (hv : vals n = x)
    (hc : ∀ s'' s3 : Shared, req n = true → (∃ h tk, s3 = { s'' with heap := h, toks := tk } ∧ KW W s''.heap h) → GS h₀ W env I a its (i + 1) (cx.set "interval" (.int x)) s3.heap →
      Seg (model prog w) A R (Yp h₀ W vals req) n s'' (.forLoop (.Name "interval" p1) (.ref I) [I1, I2, .Expr (.Yield (some (.Name "interval" p3)) p4) p5, S4] [] env) ((execs [S4] env).wrap (fun f => match f with
            | .next | .cont => .pure (.again (.forLoop (.Name "interval" p1) (.ref I) [I1, I2, .Expr (.Yield (some (.Name "interval" p3)) p4) p5, S4] [] env))
            | .brk => .pure (.done .next)
            | .ret v => .pure (.done (.ret v))) (noteK env) id id) (frF env p) s3) :
    Seg (model prog w) A R (Yp h₀ W vals req) (n + 1) s₀ (.forLoop (.Name "interval" p1) (.ref I) [I1, I2, .Expr (.Yield (some (.Name "interval" p3)) p4) p5, S4] [] env) ((model prog w).den (.forLoop (.Name "interval" p1) (.ref I) [I1, I2, .Expr (.Yield (some (.Name "interval" p3)) p4) p5, S4] [] env)) (frF env p) s := by
  have hA := over2 (A := A) hh hd hu (b := genB) (b' := [I1, I2, .Expr (.Yield (some (.Name "interval" p3)) p4) p5, S4]) (env := env) (x := .Name "interval" p1) (it := .ref I) (k := forK env (Kn env) (Hf env) id id) (g := id false) (l := id []) (p := p)
  obtain ⟨hs0, tk0, rfl, K0⟩ := fr
  refine seg_forLoop (wpAny_pyNext_list_item g.it g.li hx fun h1 it1 sb1 => ?_)
  have g1 := g.turn go it1 sb1
  obtain ⟨ad1, e1⟩ := g1.er
  have K1 : KW W s₀.heap h1 := K0.trans fun b wb o q => (sb1.2 b fun z => go.iw (z ▸ wb)).trans q
  refine wpAny_assign_Name (store_wp (s := { s₀ with heap := h1, toks := tk0 }) e1 hm fun h2 tk2 z => ?_)
  obtain ⟨e2, T2, K2⟩ := e1.set hm (.int x t : Mine.R _ h1 (.int x) _) z
  have own2 : (cx.set "interval" (.int x)).own = [] := by show del _ cx.own = []; rw [g.own]; rfl
  have g2 := g1.step go e2 own2 K2
  have pk := p3_ok (prog := prog) (w := w) (n := 0) (hB := h₀)
  have xo := xsN_sound (n := 0) (evN_sound B pk 10) (evN_star P3 10) B (mu := []) 5
  refine seg_plain (wp_weak hA (ex_sound (evN_sound B pk 10) (evN_star P3 10) B xo.1 xo.2 (Kp.refl _) e2 r1 (s := { s₀ with heap := h2, toks := tk2 }) _ _ fun fl ad3 h3 tk3 e3 T3 K3 F3 => ?_))
  have : fl = .next := F3
  subst this
  refine seg_plain (wp_weak hA (ex_sound (evN_sound B pk 10) (evN_star P3 10) B xo.1 xo.2 (Kp.refl _) e3 r2 (s := { s₀ with heap := h3, toks := tk3 }) _ _ fun fl ad4 h4 tk4 e4 T4 K4 F4 => ?_))
  have : fl = .next := F4
  subst this
  have g4 := (g2.step go e3 own2 K3).step go e4 own2 K4
  refine seg_execs_cons (seg_Expr_Yield rfl rfl rfl ?_ ?_ ?_)
  · obtain ⟨v, lk, rv⟩ := e4.vars "interval" (.int x) (by rw [lookup_set_vars]; simp)
    refine wpAny_Name (load_lk e4.kind lk ?_) (by decide +kernel)
    obtain ⟨t', rfl⟩ := rv.int_v
    ·
      intro kap hk
      refine ⟨⟨t', by rw [hv]⟩, ⟨h4, tk4, rfl, ?_⟩, e4.base, fun hr s'' k lv => hk .none s'' ?_⟩
      · exact ((K1.trans fun b wb => K2 b (.inl wb)).trans fun b wb => K3 b (.inl wb)).trans fun b wb => K4 b (.inl wb)
      · exact hc s'' s'' hr ⟨s''.heap, s''.toks, rfl, fun _ _ _ e => e⟩ (g4.frame go k lv)
  · exact hco
  · unfold interactive; rw [e4.kind]; rfl
end
end Mine
end
section
open PySem PySem.W PyProof.Rows PySem.Calls PySem.Spec
set_option linter.unusedVariables false
set_option linter.unusedSectionVars false
set_option maxRecDepth 1000000
namespace Mine
variable [Inhabited Rho]
section
variable {prog : Program} {w : World} {A : Around} {h₀ : Heap} {W : Ow} {env : Env} {I a : Addr} {its : Array Value} {i : Nat} {cx : Cx} {R : GenEnd} {vals : Nat → Int} {req : Nat → Bool} {n : Nat} {s₀ s : Shared} {p p1 : Pos} {body : List Stmt}

/-- the end of the for: return or no more items -/
theorem seg_out {Y : Protocol} {c : Code} {f : Flow} (hf : f = .next ∨ f = .ret .none) (h : R n s₀ (.ok (.ret .none)) s) : Seg (model prog w) A R Y n s₀ c (.pure (.done f)) (frF env p) s := by
  refine seg_leaf (r := .ok f) ?_
  have e : forK env (Kn env) (Hf env) id id (.ok f) = leafOf (.ok (.ret .none)) := by rcases hf with rfl | rfl <;> rfl
  rw [e]
  exact seg_end _ h
theorem seg_exhaust {Y : Protocol} {x : PySem.Str} (hh : A.handled = none) (go : GO h₀ W I a) (g : GS h₀ W env I a its i cx s.heap) (hx : its[i]? = none)
    (hR : ∀ h1, Heap.ExtBut I s.heap h1 → R n s₀ (.ok (.ret .none)) { s with heap := h1 }) :
    Seg (model prog w) A R Y n s₀ (.forLoop (.Name x p1) (.ref I) body [] env) ((model prog w).den (.forLoop (.Name x p1) (.ref I) body [] env)) (frF env p) s := by
  refine seg_forLoop (wpAny_pyNext_list_end (by exact hh) g.it g.li hx fun h1 eb => ?_)
  refine seg_again rfl ?_
  exact seg_out (f := .next) (.inl rfl) (hR h1 eb)

/-- an item that ends it -/
theorem seg_ret {Y : Protocol} {x : Int} {t : Tok} {e1 : Expr} {rp ip : Pos} {rest : List Stmt} (hh : A.handled = none) (hd : A.depth ≤ 350) (hu : A.units ≤ 50) (go : GO h₀ W I a) (B : Bg prog w gl2 h₀)
    (g : GS h₀ W env I a its i cx s.heap) (hx : its[i]? = some (.int x t)) (hm : ("interval" : PySem.Str) ∈ cx.mine) (r1 : tst (evN P3 10) (cx.set "interval" (.int x)) e1 = some true)
    (hR : ∀ h1 tk, KW W s.heap h1 → Kp h₀ h1 → R n s₀ (.ok (.ret .none)) { s with heap := h1, toks := tk }) :
    Seg (model prog w) A R Y n s₀ (.forLoop (.Name "interval" p1) (.ref I) (.If e1 [.Return none rp] [] ip :: rest) [] env) ((model prog w).den (.forLoop (.Name "interval" p1) (.ref I) (.If e1 [.Return none rp] [] ip :: rest) [] env)) (frF env p) s := by
  have hA := over2 (A := A) hh hd hu (b := genB) (b' := .If e1 [.Return none rp] [] ip :: rest) (env := env) (x := .Name "interval" p1) (it := .ref I) (k := forK env (Kn env) (Hf env) id id) (g := id false) (l := id []) (p := p)
  refine seg_forLoop (wpAny_pyNext_list_item g.it g.li hx fun h1 it1 sb1 => ?_)
  have g1 := g.turn go it1 sb1
  obtain ⟨ad1, e1'⟩ := g1.er
  have K1 : KW W s.heap h1 := fun b wb o q => (sb1.2 b fun z => go.iw (z ▸ wb)).trans q
  refine wpAny_assign_Name (store_wp (s := { s with heap := h1 }) e1' hm fun h2 tk2 z => ?_)
  obtain ⟨e2, T2, K2⟩ := e1'.set hm (.int x t : Mine.R _ h1 (.int x) _) z
  have pk := p3_ok (prog := prog) (w := w) (n := 0) (hB := h₀)
  refine seg_plain (wpAny_If (wp_weak hA (tst_sound (evN_sound B pk 10) (Kp.refl _) e2 (s := { s with heap := h2, toks := tk2 }) r1 _ _ fun h3 tk3 k3 => ?_)))
  simp only [if_true]
  refine wpAny_execs_cons (wpAny_Return_none ?_)
  exact seg_out (f := .ret .none) (.inr rfl) (hR h3 tk3 ((K1.trans fun b wb => K2 b (.inl wb)).trans (KW.of_kp k3)) (e2.base.trans k3))

/-- a nought behind an item: the item again -/
theorem seg_zero {t : Tok} {y : Int} {I1 : Stmt} {e2 : Expr} {p3 p4 p5 p6 p7 p8 p9 p10 p11 p12 : Pos} {c1 c2 k1 k2 : Nat} {rb rest : List Stmt} (hh : A.handled = none) (hd : A.depth ≤ 350) (hu : A.units ≤ 50) (go : GO h₀ W I a) (hco : env.scope.isCoroutine = false) (B : Bg prog w gl2 h₀)
    (fr : ∃ h tk, s = { s₀ with heap := h, toks := tk } ∧ KW W s₀.heap h) (g : GS h₀ W env I a its i cx s.heap) (hx : its[i]? = some (.int 0 t)) (hm : ("interval" : PySem.Str) ∈ cx.mine)
    (r1 : exS (evN P3 10) [] (xsN (evN P3 10) [] 5) (cx.set "interval" (.int 0)) I1 = some (cx.set "interval" (.int 0), none)) (r2 : tst (evN P3 10) (cx.set "interval" (.int 0)) e2 = some true)
    (hl : cx.vars.lookup ("last_interval" : PySem.Str) = some (.int y)) (hv : vals n = y) (hr : req n = false) :
    Seg (model prog w) A R (Yp h₀ W vals req) (n + 1) s₀ (.forLoop (.Name "interval" p1) (.ref I) (I1 :: .If e2 [.If (.Compare (.Name "last_interval" p3) [.Is] [.Constant .none k1 p4] p5) rb [] p6, .While (.Constant (.bool true) k2 p7) [.Expr (.Yield (some (.Name "last_interval" p8)) p9) p10] [] p11] [] p12 :: rest) [] env)
      ((model prog w).den (.forLoop (.Name "interval" p1) (.ref I) (I1 :: .If e2 [.If (.Compare (.Name "last_interval" p3) [.Is] [.Constant .none k1 p4] p5) rb [] p6, .While (.Constant (.bool true) k2 p7) [.Expr (.Yield (some (.Name "last_interval" p8)) p9) p10] [] p11] [] p12 :: rest) [] env)) (frF env p) s := by
  generalize hb : (I1 :: .If e2 [.If (.Compare (.Name "last_interval" p3) [.Is] [.Constant .none k1 p4] p5) rb [] p6, .While (.Constant (.bool true) k2 p7) [.Expr (.Yield (some (.Name "last_interval" p8)) p9) p10] [] p11] [] p12 :: rest) = body
  have hA := over2 (A := A) hh hd hu (b := genB) (b' := body) (env := env) (x := .Name "interval" p1) (it := .ref I) (k := forK env (Kn env) (Hf env) id id) (g := id false) (l := id []) (p := p)
  obtain ⟨hs0, tk0, rfl, K0⟩ := fr
  refine seg_forLoop (wpAny_pyNext_list_item g.it g.li hx fun h1 it1 sb1 => ?_)
  have g1 := g.turn go it1 sb1
  obtain ⟨ad1, e1⟩ := g1.er
  have K1 : KW W s₀.heap h1 := K0.trans fun b wb o q => (sb1.2 b fun z => go.iw (z ▸ wb)).trans q
  refine wpAny_assign_Name (store_wp (s := { s₀ with heap := h1, toks := tk0 }) e1 hm fun h2 tk2 z => ?_)
  obtain ⟨e2', T2, K2⟩ := e1.set hm (.int 0 t : Mine.R _ h1 (.int 0) _) z
  have pk := p3_ok (prog := prog) (w := w) (n := 0) (hB := h₀)
  have xo := xsN_sound (n := 0) (evN_sound B pk 10) (evN_star P3 10) B (mu := []) 5
  rw [← hb]
  refine seg_plain (wp_weak (hb ▸ hA) (ex_sound (evN_sound B pk 10) (evN_star P3 10) B xo.1 xo.2 (Kp.refl _) e2' r1 (s := { s₀ with heap := h2, toks := tk2 }) _ _ fun fl ad3 h3 tk3 e3 T3 K3 F3 => ?_))
  have : fl = .next := F3
  subst this
  refine seg_IfT (wp_weak (hb ▸ hA) (tst_sound (evN_sound B pk 10) (Kp.refl _) e3 (s := { s₀ with heap := h3, toks := tk3 }) r2 _ _ fun h4 tk4 k4 => ⟨rfl, ?_⟩))
  have e4 := e3.kp k4
  have hl4 : (cx.set "interval" (.int 0)).vars.lookup ("last_interval" : PySem.Str) = some (.int y) := by rw [lookup_set_vars]; exact hl
  obtain ⟨v, lk, rv⟩ := e4.vars _ _ hl4
  obtain ⟨t', rfl⟩ := rv.int_v
  ·
    refine seg_plain (wpAny_If (wpAny_isTrue_Compare1 (wpAny_Name (load_lk e4.kind lk ?_) (by decide +kernel)) rfl))
    refine wpAny_Constant_none (wpAny_is_other rfl (by simp) (wpAny_truthy_bool ?_))
    simp only [Bool.false_eq_true, if_false]
    refine wpAny_execs_nil ?_
    refine seg_execs_cons (seg_While fun q => seg_whileLoop ?_)
    refine isTrue_plain (wpAny_Constant_bool (wpAny_truthy_bool ?_)) rfl
    simp only [if_true]
    refine seg_execs_cons (seg_Expr_Yield rfl rfl rfl ?_ hco (by unfold interactive; rw [e4.kind]; rfl))
    refine wpAny_Name (load_lk e4.kind lk ?_) (by decide +kernel)
    intro kap hk
    refine ⟨⟨t', by rw [hv]⟩, ⟨h4, tk4, rfl, ?_⟩, e4.base, fun hq => by rw [hr] at hq; cases hq⟩
    exact ((K1.trans fun b wb => K2 b (.inl wb)).trans fun b wb => K3 b (.inl wb)).trans (KW.of_kp k4)
end
end Mine
end
section
open PySem PySem.W PyProof.Rows PySem.Calls PySem.Spec
set_option linter.unusedVariables false
set_option linter.unusedSectionVars false
set_option maxRecDepth 1000000
namespace Mine
variable [Inhabited Rho]
noncomputable def gS (k : Nat) : Stmt := forB.getD k (.Pass default)
noncomputable def gcx (l : Addr) : Cx := startCx genSc ["grouping"] [.sy (.raw (.ref l))]
noncomputable def cxa (l : Addr) : Cx := (gcx l).set "last_interval" .non
noncomputable def cxb (l : Addr) (x : Int) : Cx := ((cxa l).set "interval" (.int x)).set "last_interval" (.int x)
noncomputable abbrev e10 : Ev := evN P3 10
noncomputable abbrev x5 : Xs := xsN (evN P3 10) [] 5
noncomputable def tstE : Stmt → Expr
  | .If t _ _ _ => t
  | _ => .Constant .none 0 default
noncomputable def g2Sh (x : (Nat → Pos) × Nat × Nat × List Stmt) : Prop := genB = [genB.getD 0 (.Pass default), .For (.Name "interval" (x.1 0)) (.Name "grouping" (x.1 1)) [gS 0, gS 1, .Expr (.Yield (some (.Name "interval" (x.1 2))) (x.1 3)) (x.1 4), gS 3] [] (x.1 5)] ∧ gS 0 = .If (tstE (gS 0)) [.Return none (x.1 6)] [] (x.1 7) ∧
    gS 1 = .If (tstE (gS 1)) [.If (.Compare (.Name "last_interval" (x.1 8)) [.Is] [.Constant .none x.2.1 (x.1 9)] (x.1 10)) x.2.2.2 [] (x.1 11), .While (.Constant (.bool true) x.2.2.1 (x.1 12)) [.Expr (.Yield (some (.Name "last_interval" (x.1 13))) (x.1 14)) (x.1 15)] [] (x.1 16)] [] (x.1 17)
omit [Inhabited Rho] in
theorem g2_ex : ∃ x, g2Sh x :=
  ⟨(fun i => [_, _, _, _, _, _, _, _, _, _, _, _, _, _, _, _, _, _].getD i default, _, _, _), rfl, rfl, rfl⟩
noncomputable def g2X : (Nat → Pos) × Nat × Nat × List Stmt := g2_ex.choose
omit [Inhabited Rho] in
theorem gen_shape2 : g2Sh g2X := g2_ex.choose_spec

section
variable {prog : Program} {w : World} {A : Around} {h₀ : Heap} {W : Ow} {env : Env} {a : Addr} {R : GenEnd} {s₀ s : Shared} {vals : Nat → Int} {req : Nat → Bool}
theorem r_1 (l : Addr) {x : Int} (hx : x = 1 ∨ x = 2) : exS e10 [] x5 ((cxa l).set "interval" (.int x)) (gS 0) = some ((cxa l).set "interval" (.int x), none) ∧ exS e10 [] x5 ((cxa l).set "interval" (.int x)) (gS 1) = some ((cxa l).set "interval" (.int x), none) := by
  rcases hx with rfl | rfl <;> exact ⟨by kernel_rfl, by kernel_rfl⟩
theorem r_2 (l : Addr) (y : Int) {x : Int} (hx : x = 1 ∨ x = 2) : exS e10 [] x5 ((cxb l y).set "interval" (.int x)) (gS 0) = some ((cxb l y).set "interval" (.int x), none) ∧ exS e10 [] x5 ((cxb l y).set "interval" (.int x)) (gS 1) = some ((cxb l y).set "interval" (.int x), none) := by
  rcases hx with rfl | rfl <;> exact ⟨by kernel_rfl, by kernel_rfl⟩
theorem r_3 (l : Addr) (y : Int) : exS e10 [] x5 ((cxb l y).set "interval" (.int 0)) (gS 0) = some ((cxb l y).set "interval" (.int 0), none) ∧ tst e10 ((cxb l y).set "interval" (.int 0)) (tstE (gS 1)) = some true ∧ tst e10 ((cxb l y).set "interval" (.int 127)) (tstE (gS 0)) = some true :=
  ⟨by kernel_rfl, by kernel_rfl, by kernel_rfl⟩
theorem r_4 (l : Addr) (x : Int) : exS e10 [] x5 ((cxa l).set "interval" (.int x)) (gS 3) = some (cxb l x, none) := by kernel_rfl
theorem r_0 (l : Addr) : exS e10 [] x5 (gcx l) (genB.getD 0 (.Pass default)) = some (cxa l, none) := by kernel_rfl

/-- the head of the generator -/
theorem seg_head {Y : Protocol} {n : Nat} {ad : PySem.Str → Addr} {its : Array Value} (hh : A.handled = none) (hd : A.depth ≤ 350) (hu : A.units ≤ 50) (w0 : ∀ b, W b → h₀.get? b = none) (B : Bg prog w gl2 h₀) (er : ER h₀ W ad s.heap env (gcx a)) (rl : (h₀.IsList a its))
    {p1 p2 : Pos} {body : List Stmt} {p6 : Pos} (hb : genB = [genB.getD 0 (.Pass default), .For (.Name "interval" p1) (.Name "grouping" p2) body [] p6])
    (hk : ∀ I h tk p, GO h₀ W I a → KW W s.heap h → GS h₀ W env I a its 0 (cxa a) h → Seg (model prog w) A R Y n s (.forLoop (.Name "interval" p1) (.ref I) body [] env) ((model prog w).den (.forLoop (.Name "interval" p1) (.ref I) body [] env)) (frF env p) { s with heap := h, toks := tk }) :
    Seg (model prog w) A R Y n s (.func genB env) ((model prog w).den (.func genB env)) [] s := by
  refine seg_func ?_
  have hA := over1 (A := A) hh hd hu genB env
  have pk := p3_ok (prog := prog) (w := w) (n := 0) (hB := h₀)
  have xo := xsN_sound (n := 0) (evN_sound B pk 10) (evN_star P3 10) B (mu := []) 5
  have e1 : (execs genB env).wrap Kg (Hf env) id id = (execs [genB.getD 0 (.Pass default), .For (.Name "interval" p1) (.Name "grouping" p2) body [] p6] env).wrap Kg (Hf env) id id := by rw [← hb]
  show Seg _ A R Y n s _ ((execs genB env).wrap Kg (Hf env) id id) [] s
  rw [e1]
  refine seg_plain (wp_weak hA (ex_sound (evN_sound B pk 10) (evN_star P3 10) B xo.1 xo.2 (Kp.refl _) er (r_0 a) _ _ fun fl ad1 h1 tk1 e1 T1 K1 F1 => ?_))
  have : fl = .next := F1
  subst this
  refine seg_execs_cons (seg_For (fun _ => rfl) ?_)
  obtain ⟨v, lk, rv⟩ := e1.vars ("grouping" : PySem.Str) (.sy (.raw (.ref a))) rfl
  ·
    have q : v = .ref a := rv.sy_v
    subst q
    refine wpAny_Name (load_lk e1.kind lk ?_) (by decide +kernel)
    have il : h1.IsList a its := let ⟨o, ho, z⟩ := rl; ⟨o, e1.base _ _ ho, z⟩
    refine wpAny_pyIter_list il fun p => ?_
    have fr : ∀ b o, h1.get? b = some o → b ≠ h1.objs.size := fun b o e => Nat.ne_of_lt (Heap.lt_size e)
    have gI : (h1.push { cls := .type "list_iterator", data := .fields #[.ref a, .int 0 0] }).get? h1.objs.size = some _ := Heap.get?_push_size _ rfl
    have k2 : Kp h1 (h1.push { cls := .type "list_iterator", data := .fields #[.ref a, .int 0 0] }) := kp_push _ _
    have nI : h1.get? h1.objs.size = none := size_none h1
    obtain ⟨e2, T2⟩ := e1.grow (M := fun b => b = h1.objs.size) k2 (fun b q => q ▸ nI) (fun b q => q ▸ ⟨_, gI⟩)
    refine hk h1.objs.size _ tk1 p ⟨w0, ?_, ?_, ?_⟩ ?_ ⟨⟨ad1, e2⟩, ⟨_, gI, rfl, rfl⟩, let ⟨o, ho, z⟩ := il; ⟨o, k2 _ _ ho, z⟩, rfl⟩
    · cases q : h₀.get? h1.objs.size with
      | none => rfl
      | some o => have := e1.base _ _ q; rw [nI] at this; cases this
    · intro wI
      obtain ⟨o, ho⟩ := e1.wl _ wI
      rw [nI] at ho; cases ho
    · obtain ⟨o, ho, _⟩ := rl; exact ⟨o, ho⟩
    · exact K1.trans (KW.of_kp k2)

/-- what stands behind a yield -/
theorem seg_rest {Y : Protocol} {n : Nat} {I : Addr} {i : Nat} {its : Array Value} {x : Int} {p p1 p3 p4 p5 : Pos} (hh : A.handled = none) (hd : A.depth ≤ 350) (hu : A.units ≤ 50) (go : GO h₀ W I a) (B : Bg prog w gl2 h₀) (g : GS h₀ W env I a its i ((cxa a).set "interval" (.int x)) s.heap)
    (hk : ∀ h tk, KW W s.heap h → GS h₀ W env I a its i (cxb a x) h → Seg (model prog w) A R Y n s₀ (.forLoop (.Name "interval" p1) (.ref I) [gS 0, gS 1, .Expr (.Yield (some (.Name "interval" p3)) p4) p5, gS 3] [] env) ((model prog w).den (.forLoop (.Name "interval" p1) (.ref I) [gS 0, gS 1, .Expr (.Yield (some (.Name "interval" p3)) p4) p5, gS 3] [] env)) (frF env p) { s with heap := h, toks := tk }) :
    Seg (model prog w) A R Y n s₀ (.forLoop (.Name "interval" p1) (.ref I) [gS 0, gS 1, .Expr (.Yield (some (.Name "interval" p3)) p4) p5, gS 3] [] env) ((execs [gS 3] env).wrap (fun f => match f with
            | .next | .cont => .pure (.again (.forLoop (.Name "interval" p1) (.ref I) [gS 0, gS 1, .Expr (.Yield (some (.Name "interval" p3)) p4) p5, gS 3] [] env))
            | .brk => .pure (.done .next)
            | .ret v => .pure (.done (.ret v))) (noteK env) id id) (frF env p) s := by
  have hA := over2 (A := A) hh hd hu (b := genB) (b' := [gS 0, gS 1, .Expr (.Yield (some (.Name "interval" p3)) p4) p5, gS 3]) (env := env) (x := .Name "interval" p1) (it := .ref I) (k := forK env (Kn env) (Hf env) id id) (g := id false) (l := id []) (p := p)
  have pk := p3_ok (prog := prog) (w := w) (n := 0) (hB := h₀)
  have xo := xsN_sound (n := 0) (evN_sound B pk 10) (evN_star P3 10) B (mu := []) 5
  obtain ⟨ad1, e1⟩ := g.er
  refine seg_plain (wp_weak hA (ex_sound (evN_sound B pk 10) (evN_star P3 10) B xo.1 xo.2 (Kp.refl _) e1 (r_4 a x) _ _ fun fl ad2 h2 tk2 e2 T2 K2 F2 => ?_))
  have : fl = .next := F2
  subst this
  refine seg_execs_nil (seg_again rfl ?_)
  exact hk h2 tk2 (fun b wb => K2 b (.inl wb)) (g.step go e2 rfl K2)
end
end Mine
end
section
open PySem PySem.W PyProof.Rows PySem.Calls PySem.Spec
set_option linter.unusedVariables false
set_option linter.unusedSectionVars false
set_option maxRecDepth 1000000
namespace Mine
variable [Inhabited Rho]
section
variable {prog : Program} {w : World} {A : Around} {h₀ : Heap} {W : Ow} {env : Env} {a : Addr} {s : Shared} {ad : PySem.Str → Addr}
theorem m_int (a : Addr) : ("interval" : PySem.Str) ∈ (cxa a).mine := of_decide_eq_true (by rfl)
theorem m_int2 (a : Addr) (x : Int) : ("interval" : PySem.Str) ∈ (cxb a x).mine := of_decide_eq_true (by rfl)

theorem gen0 {x y : Int} {t u : Tok} (hx : x = 1 ∨ x = 2) (hy : y = 1 ∨ y = 2) (hh : A.handled = none) (hd : A.depth ≤ 350) (hu : A.units ≤ 50) (w0 : ∀ b, W b → h₀.get? b = none) (hco : env.scope.isCoroutine = false) (B : Bg prog w gl2 h₀) (er : ER h₀ W ad s.heap env (gcx a)) (il : h₀.IsList a #[.int x t, .int y u]) :
    Seg (model prog w) A (Rp h₀ W) (Yp h₀ W (fun m => if m = 1 then x else y) (fun m => m == 1)) 2 s (.func genB env) ((model prog w).den (.func genB env)) [] s := by
  obtain ⟨hB, h0, h1⟩ := gen_shape2
  refine seg_head hh hd hu w0 B er il hB fun I h tk p go K g => ?_
  refine seg_item (n := 1) (hI := h) hh hd hu go hco B ⟨h, tk, rfl, K⟩ g rfl (m_int a) rfl rfl rfl (r_1 a hx).1 (r_1 a hx).2 (if_pos rfl) fun s'' s3 hr fr3 g3 => ?_
  refine seg_rest hh hd hu go B g3 fun h4 tk4 K4 g4 => ?_
  obtain ⟨h3, tk3, rfl, K3⟩ := fr3
  exact seg_item (n := 0) (hI := h) hh hd hu go hco B ⟨h4, tk4, rfl, K3.trans K4⟩ g4 rfl (m_int2 a x) rfl rfl rfl (r_2 a x hy).1 (r_2 a x hy).2 (if_neg (by decide)) fun s'' s3 hr => by simp at hr

theorem gen1 {x : Int} {t u : Tok} {v : Value} (hx : x = 1 ∨ x = 2) (hh : A.handled = none) (hd : A.depth ≤ 350) (hu : A.units ≤ 50) (w0 : ∀ b, W b → h₀.get? b = none) (hco : env.scope.isCoroutine = false) (B : Bg prog w gl2 h₀) (er : ER h₀ W ad s.heap env (gcx a)) (il : h₀.IsList a #[.int x t, .int 0 u, v]) :
    Seg (model prog w) A (Rp h₀ W) (Yp h₀ W (fun m => x) (fun m => m == 1)) 2 s (.func genB env) ((model prog w).den (.func genB env)) [] s := by
  obtain ⟨hB, h0, h1⟩ := gen_shape2
  refine seg_head hh hd hu w0 B er il hB fun I h tk p go K g => ?_
  refine seg_item (n := 1) (hI := h) hh hd hu go hco B ⟨h, tk, rfl, K⟩ g rfl (m_int a) rfl rfl rfl (r_1 a hx).1 (r_1 a hx).2 rfl fun s'' s3 hr fr3 g3 => ?_
  refine seg_rest hh hd hu go B g3 fun h4 tk4 K4 g4 => ?_
  obtain ⟨h3, tk3, rfl, K3⟩ := fr3
  have z := seg_zero (A := A) (W := W) (R := Rp h₀ W) (vals := fun m => x) (req := fun m => m == 1) (n := 0) (s₀ := s'') (s := { s'' with heap := h4, toks := tk4 }) (p := p) (p1 := (g2X.1 0)) (I1 := gS 0) (e2 := tstE (gS 1)) (rb := g2X.2.2.2) (y := x) (c1 := 0) (c2 := 0)
    (p3 := (g2X.1 8)) (p4 := (g2X.1 9)) (p5 := (g2X.1 10)) (p6 := (g2X.1 11)) (p7 := (g2X.1 12)) (p8 := (g2X.1 13)) (p9 := (g2X.1 14)) (p10 := (g2X.1 15)) (p11 := (g2X.1 16)) (p12 := (g2X.1 17)) (k1 := g2X.2.1) (k2 := g2X.2.2.1) (rest := [.Expr (.Yield (some (.Name "interval" (g2X.1 2))) (g2X.1 3)) (g2X.1 4), gS 3]) hh hd hu go hco B ⟨h4, tk4, rfl, K3.trans K4⟩ g4 rfl (m_int2 a x) (r_3 a x).1 (r_3 a x).2.1 rfl rfl rfl
  rw [← h1] at z
  exact z

theorem gen2 {x : Int} {t u : Tok} {v : Value} (hx : x = 1 ∨ x = 2) (hh : A.handled = none) (hd : A.depth ≤ 350) (hu : A.units ≤ 50) (w0 : ∀ b, W b → h₀.get? b = none) (hco : env.scope.isCoroutine = false) (B : Bg prog w gl2 h₀) (er : ER h₀ W ad s.heap env (gcx a)) (il : h₀.IsList a #[.int x t, .int 127 u, v]) :
    Seg (model prog w) A (Rp h₀ W) (Yp h₀ W (fun m => x) (fun m => true)) 1 s (.func genB env) ((model prog w).den (.func genB env)) [] s := by
  obtain ⟨hB, h0, h1⟩ := gen_shape2
  refine seg_head hh hd hu w0 B er il hB fun I h tk p go K g => ?_
  refine seg_item (n := 0) (hI := h) hh hd hu go hco B ⟨h, tk, rfl, K⟩ g rfl (m_int a) rfl rfl rfl (r_1 a hx).1 (r_1 a hx).2 rfl fun s'' s3 hr fr3 g3 => ?_
  refine seg_rest hh hd hu go B g3 fun h4 tk4 K4 g4 => ?_
  obtain ⟨h3, tk3, rfl, K3⟩ := fr3
  have z := seg_ret (A := A) (W := W) (R := Rp h₀ W) (Y := Yp h₀ W (fun m => x) (fun m => true)) (n := 0) (s₀ := s'') (s := { s'' with heap := h4, toks := tk4 }) (p := p) (p1 := (g2X.1 0)) (e1 := tstE (gS 0)) (rp := (g2X.1 6)) (ip := (g2X.1 7)) (rest := [gS 1, .Expr (.Yield (some (.Name "interval" (g2X.1 2))) (g2X.1 3)) (g2X.1 4), gS 3]) hh hd hu go B g4 rfl (m_int2 a x) (r_3 a x).2.2
    fun h5 tk5 K5 b5 => ⟨rfl, rfl, ⟨h5, tk5, rfl, (K3.trans K4).trans K5⟩, b5⟩
  rw [← h0] at z
  exact z

theorem gen3 {x : Int} {t : Tok} (hx : x = 1 ∨ x = 2) (hh : A.handled = none) (hd : A.depth ≤ 350) (hu : A.units ≤ 50) (w0 : ∀ b, W b → h₀.get? b = none) (hco : env.scope.isCoroutine = false) (B : Bg prog w gl2 h₀) (er : ER h₀ W ad s.heap env (gcx a)) (il : h₀.IsList a #[.int x t]) :
    Seg (model prog w) A (Rp h₀ W) (Yp h₀ W (fun m => x) (fun m => true)) 1 s (.func genB env) ((model prog w).den (.func genB env)) [] s := by
  obtain ⟨hB, h0, h1⟩ := gen_shape2
  refine seg_head hh hd hu w0 B er il hB fun I h tk p go K g => ?_
  refine seg_item (n := 0) (hI := h) hh hd hu go hco B ⟨h, tk, rfl, K⟩ g rfl (m_int a) rfl rfl rfl (r_1 a hx).1 (r_1 a hx).2 rfl fun s'' s3 hr fr3 g3 => ?_
  refine seg_rest hh hd hu go B g3 fun h4 tk4 K4 g4 => ?_
  obtain ⟨h3, tk3, rfl, K3⟩ := fr3
  refine seg_exhaust hh go g4 rfl fun h5 eb => ⟨rfl, rfl, ⟨h5, tk4, rfl, (K3.trans K4).trans fun b wb o q => eb b o (fun z => go.iw (z ▸ wb)) q⟩, ?_⟩
  obtain ⟨ad5, e5⟩ := g4.er
  exact fun b o q => eb b o (fun z => by rw [z, go.i0] at q; cases q) (e5.base b o q)
end
end Mine
end
section
open PySem PySem.W PyProof.Rows PySem.Calls PySem.Spec
set_option linter.unusedVariables false
set_option linter.unusedSectionVars false
set_option maxRecDepth 1000000
namespace Mine
variable [Inhabited Rho]
theorem ne_cls {h : Heap} {a b : Addr} {o o' : Obj} (ha : h.get? a = some o) (hb : h.get? b = some o') (hc : o.cls ≠ o'.cls) : a ≠ b := fun q => by
  subst q; rw [ha] at hb; cases hb; exact hc rfl

/-- the things of the loop, and that they are new -/
structure LX (hs : Heap) (z TI TO i1 i2 C D : Addr) : Prop where
  zb : ZB z TI TO i1
  nz : hs.get? z = none
  nTO : hs.get? TO = none
  ni : hs.get? i1 = none
  nC : hs.get? C = none
  nD : hs.get? D = none
  cz : C ≠ z
  cTI : C ≠ TI
  cTO : C ≠ TO
  ci : C ≠ i1
  cg : C ≠ i2
  cD : C ≠ D
  dz : D ≠ z
  dTI : D ≠ TI
  dTO : D ≠ TO
  di : D ≠ i1
  dg : D ≠ i2
  gz : i2 ≠ z
  gTO : i2 ≠ TO
  gi : i2 ≠ i1
structure LS9 (hs : Heap) (z TI TO i1 i2 C D : Addr) (g : Nat) (k : Int) (acc : List Int) (h : Heap) : Prop where
  z : IsZip h z TI TO .none
  ti : IsPair h TI (.ref i1) (.ref i2)
  to : ∃ a b, IsPair h TO a b
  r : IsRangeIter h i1 k (2 - k) 1
  g : h.IsGen i2 g
  d : ∃ its, PL h D its ∧ IntsAre its.toList acc
  c : ∃ m, h.Ns C m
  kp : Kp hs h
theorem IntsAre.snoc {x : Int} {t : Tok} : ∀ {vs : List Value} {ns : List Int}, IntsAre vs ns → IntsAre (vs ++ [.int x t]) (ns ++ [x])
  | _, _, .nil => .cons _ _ .nil
  | _, _, .cons n t r => .cons _ _ (IntsAre.snoc r)
theorem IntsAre.len : ∀ {vs : List Value} {ns : List Int}, IntsAre vs ns → vs.length = ns.length
  | _, _, .nil => rfl
  | _, _, .cons n t r => by simp [IntsAre.len r]

section
variable {prog : Program} {w : World} {A : Around} {s : Shared} {hs : Heap} {z TI TO i1 i2 C D : Addr} {g : Nat} {k : Int} {acc : List Int} {R : Result → Shared → Prop} {cenv : Env}
noncomputable abbrev cK : List PySem.Str := ["turn", "size"]
/-- one turn of the comprehension that gives an item -/
theorem comp_turn {it elt : Expr} {sc : Scope} {pos p1 p2 p3 p4 : Pos} {kk : Nat} (X : LX hs z TI TO i1 i2 C D) (L : LS9 hs z TI TO i1 i2 C D g k acc s.heap) (hk : k < 2) (hacc : acc.length ≤ 10) (hh : A.handled = none)
    (hC : cenv.locals = C) (hkd : cenv.scope.kind = .function) (hkt : cenv.kindOf "turn" = some .local) (hks : cenv.kindOf "size" = some .local)
    (hN : ∀ g3 tk, (∀ b o, s.heap.get? b = some o → ¬ (b = z ∨ b = TO ∨ b = i1) → g3.get? b = some o) → (∀ b, (b = z ∨ b = TO ∨ b = i1) → ∃ o, g3.get? b = some o) →
      wpAny (model prog w) A.in1 (Builtin.SmallTypes.nextOf (.ref i2)) (fun v s4 => ∃ x t, v = .int x t ∧ (∀ b, (b = z ∨ b = TI ∨ b = TO ∨ b = i1 ∨ b = i2 ∨ b = C ∨ b = D) → ∀ o, g3.get? b = some o → s4.heap.get? b = some o) ∧ Kp hs s4.heap ∧
          ∀ h' tk', LS9 hs z TI TO i1 i2 C D g (k + 1) (acc ++ [x]) h' → (∀ b o, ¬ (b = z ∨ b = TO ∨ b = C ∨ b = D) → s4.heap.get? b = some o → h'.get? b = some o) →
            codeAny (model prog w) A (.compLoop (.ListComp (.Name "size" p1) [⟨.Tuple [.Name "turn" p2, .Name "size" p3] kk p4, it, [], 0⟩] sc pos) 0 (.ref z) (.ref D) cenv) R { s4 with heap := h', toks := tk' })
        (fun e s4 => (∃ a, e = .ref a ∧ Stopped a s4.heap) ∧ (∀ b, (b = z ∨ b = TI ∨ b = TO ∨ b = i1 ∨ b = i2 ∨ b = C ∨ b = D) → ∀ o, g3.get? b = some o → s4.heap.get? b = some o) ∧ Kp hs s4.heap ∧
          ∀ h', Kp hs h' → (∀ b, (b = C ∨ b = D) → ∀ o, s4.heap.get? b = some o → h'.get? b = some o) → R (.ok .next) { s4 with heap := h' }) { s with heap := g3, toks := tk }) :
    codeAny (model prog w) A (.compLoop (.ListComp (.Name "size" p1) [⟨.Tuple [.Name "turn" p2, .Name "size" p3] kk p4, it, [], 0⟩] sc pos) 0 (.ref z) (.ref D) cenv) R s := by
  refine codeAny_of_tree ?_
  show wpAny _ A ((compTurn _ 0 (.ref z) (.ref D) cenv).onRaise (fun x => do noteFrame x cenv; theTreesLotGoes x)) _ _ _
  refine wpAny_noted (turn_last rfl rfl ?_)
  obtain ⟨a0, b0, hto⟩ := L.to
  have hT : s.TypeIs (.ref z) "zip" := ⟨_, L.z, rfl⟩
  unfold pyNext
  refine wpAny_bind (wpAny_attempt (wpAny_callSpecial?_slot (name := Str.ofString "__next__") hT F.slot_zip_next (wpAny_call_entry F.slot_zip_next hT F.entry_zip_next
    (zg_next (A := A.in1) (s := s) X.zb L.z L.ti hto L.r (by omega) fun g3 tk t z3 T3 r3 kk3 => ?_) (F.args_zip_next_1 _))))
  refine wpAny_mono (hN g3 tk (fun b o e q => kk3 b o (fun y => q (.inl y)) (fun y => q (.inr (.inl y))) (fun y => q (.inr (.inr y))) e) (fun b q => ?_)) (fun v s4 h4 => ?_) fun e s4 h4 => ?_
  · rcases q with rfl | rfl | rfl
    · exact ⟨_, z3⟩
    · exact ⟨_, T3⟩
    · exact ⟨_, r3⟩
  · obtain ⟨x, u, rfl, keep, kp4, next⟩ := h4
    have z4 := keep z (.inl rfl) _ z3
    have T4 := keep TO (.inr (.inr (.inl rfl))) _ T3
    have i3 : ∀ b o, ¬ (b = z ∨ b = TO ∨ b = i1) → s.heap.get? b = some o → g3.get? b = some o := fun b o q e => kk3 b o (fun y => q (.inl y)) (fun y => q (.inr (.inl y))) (fun y => q (.inr (.inr y))) e
    have ti4 : IsPair s4.heap TI (.ref i1) (.ref i2) := keep TI (.inr (.inl rfl)) _ (i3 _ _ (by rintro (q | q | q); exact X.zb.a q; exact X.zb.e q; exact X.zb.f q) L.ti)
    have r4 := keep i1 (.inr (.inr (.inr (.inl rfl)))) _ r3
    have g4 : s4.heap.IsGen i2 g := by
      obtain ⟨o, nm, qn, ho, rr⟩ := L.g
      exact ⟨o, nm, qn, keep i2 (by simp) _ (i3 _ _ (by rintro (q | q | q); exact X.gz q; exact X.gTO q; exact X.gi q) ho), rr⟩
    obtain ⟨its, ⟨od, hod, pd⟩, hI⟩ := L.d
    have d4 := keep D (by simp) _ (i3 _ _ (by rintro (q | q | q); exact X.dz q; exact X.dTO q; exact X.di q) hod)
    obtain ⟨m, oc, es, ep, hoc, pc⟩ := L.c
    have c4 := keep C (by simp) _ (i3 _ _ (by rintro (q | q | q); exact X.cz q; exact X.cTO q; exact X.ci q) hoc)
    refine ⟨z4, T4, fun h5 tk5 z5 T5 to5 k5 => wpAny_pure ?_⟩
    have nT : ∀ b o, s4.heap.get? b = some o → b ≠ s4.heap.objs.size := fun b o e => Nat.ne_of_lt (Heap.lt_size e)
    refine wpAny_letOwnedTupleGo_zip (s := { s4 with heap := h5, toks := tk5 }) z5 fun h6 z6 sb6 => ?_
    have T6 : h6.get? s4.heap.objs.size = some _ := (sb6.2 _ fun q => nT _ _ z4 q.symm).trans T5
    refine wpAny_assign_Tuple (s := { s4 with heap := h6, toks := tk5 }) hh ⟨_, T6, rfl, _, rfl⟩ rfl rfl fun h7 e7 => ?_
    have k7 : ∀ b o, ¬ (b = z ∨ b = TO) → s4.heap.get? b = some o → h7.get? b = some o := fun b o q e => e7 b o (by
      intro y
      have := (sb6.2 b fun y => q (.inl y)).trans (k5 b o (fun y => q (.inl y)) (fun y => q (.inr y)) e)
      exact absurd (Heap.lt_size this) (by rw [y]; exact Nat.lt_irrefl _)) ((sb6.2 b fun y => q (.inl y)).trans (k5 b o (fun y => q (.inl y)) (fun y => q (.inr y)) e))
    have lt7 : ∀ b o, h6.get? b = some o → h7.get? b = some o := fun b o e => e7 b o (Nat.ne_of_lt (Heap.lt_size e)) e
    have c7 : h7.Ns cenv.locals m := ⟨oc, es, ep, by rw [hC]; exact k7 _ _ (by rintro (q | q); exact X.cz q; exact X.cTO q) c4, pc⟩
    show wpAny _ A (assignInOrder [assign (.Name "turn" p2) cenv, assign (.Name "size" p3) cenv] [.int k t, .int x u]) _ _ _
    refine assignInOrder_cons (wpAny_assign_Name (wpAny_storeName_local (s := { s4 with heap := h7, toks := tk5 }) hkt c7 (fun h8 c8 s8 => ?_) (by rw [hkd]; rfl)))
    refine assignInOrder_cons (wpAny_assign_Name (wpAny_storeName_local (s := { s4 with heap := h8, toks := _ }) hks c8 (fun h9 c9 s9 => assignInOrder_nil ?_) (by rw [hkd]; rfl)))
    have k9 : ∀ b o, b ≠ C → h7.get? b = some o → h9.get? b = some o := fun b o q e => (s9.2 b (by rw [hC]; exact q)).trans ((s8.2 b (by rw [hC]; exact q)).trans e)
    unfold restLast
    refine wpAny_bind (wpAny_pure ?_)
    simp only [if_true]
    have lk9 : Lk h9 cenv "size" (.int x u) := .inl ⟨hks, _, c9, by simp⟩
    refine wpAny_bind (wpAny_bind (wpAny_Name (load_lk hkd lk9 ?_) (by decide +kernel)))
    have d9 := k9 D _ (Ne.symm X.cD) (k7 D _ (by rintro (q | q); exact X.dz q; exact X.dTO q) d4)
    have pl9 : PL h9 D its := ⟨od, d9, pd⟩
    have hlen := Mine.IntsAre.len hI
    refine wpAny_bind (wpAny_list_append_plain (hsz := by simp at hlen; rw [sizeLine_eq]; omega) pl9.plain (fun h10 il10 sb10 => ?_))
    refine wpAny_pure (wpAny_pure ⟨rfl, next h10 _ ?_ fun b o q e => ?_⟩)
    · have kk10 : ∀ b o, b ≠ C → b ≠ D → h7.get? b = some o → h10.get? b = some o := fun b o q1 q2 e => (sb10.2 b q2).trans (k9 b o q1 e)
      obtain ⟨a5, b5, to5⟩ := to5
      refine ⟨kk10 _ _ (Ne.symm X.cz) (Ne.symm X.dz) (lt7 _ _ z6), kk10 _ _ (Ne.symm X.cTI) (Ne.symm X.dTI) (k7 _ _ (by rintro (q | q); exact X.zb.a q; exact X.zb.e q) ti4), ⟨a5, b5, kk10 _ _ (Ne.symm X.cTO) (Ne.symm X.dTO) (lt7 _ _ ((sb6.2 _ X.zb.b).trans to5))⟩, ?_, ?_, ⟨_, .of il10, by rw [Array.toList_push]; exact Mine.IntsAre.snoc hI⟩, ?_, ?_⟩
      · have r5 := kk10 _ _ (Ne.symm X.ci) (Ne.symm X.di) (k7 _ _ (by rintro (q | q); exact X.zb.c q; exact X.zb.h q.symm) r4)
        rw [show (2 : Int) - (k + 1) = 2 - k - 1 by omega]
        exact r5
      · obtain ⟨o, nm, qn, ho, rr⟩ := g4
        exact ⟨o, nm, qn, kk10 _ _ (Ne.symm X.cg) (Ne.symm X.dg) (k7 _ _ (by rintro (q | q); exact X.gz q; exact X.gTO q) ho), rr⟩
      · rw [hC] at c9
        exact ⟨_, c9.sameBut sb10 X.cD⟩
      · intro b o e
        have nb : ∀ c, hs.get? c = none → b ≠ c := fun c hc q => by rw [q, hc] at e; cases e
        exact kk10 b o (nb _ X.nC) (nb _ X.nD) (k7 b o (by rintro (q | q); exact nb _ X.nz q; exact nb _ X.nTO q) (kp4 b o e))
    · exact (sb10.2 b fun y => q (.inr (.inr (.inr y)))).trans (k9 b o (fun y => q (.inr (.inr (.inl y)))) (k7 b o (fun y => q (y.elim .inl fun y => .inr (.inl y))) e))
  · obtain ⟨⟨a, rfl, st⟩, keep, kp4, fin⟩ := h4
    have z4 := keep z (.inl rfl) _ z3
    refine ⟨z4, fun h5 k5 => ?_⟩
    obtain ⟨oe, hoe, hce⟩ := st
    have hez : a ≠ z := ne_cls hoe z4 (by rw [hce]; show Value.type "StopIteration" ≠ Value.type "zip"; decide)
    refine wpAny_bind (wpAny_isInstance (T := "StopIteration") (b := true) ⟨oe, k5 _ _ hez hoe, hce⟩ isSubtype_stop ?_)
    refine wpAny_pure (fin h5 (fun b o e => k5 b o (fun q => by rw [q, X.nz] at e; cases e) (kp4 b o e)) fun b q o e => k5 b o (by rcases q with rfl | rfl; exact X.cz; exact X.dz) e)
end
end Mine
end
section
open PySem PySem.W PyProof.Rows PySem.Calls PySem.Spec
set_option linter.unusedVariables false
set_option linter.unusedSectionVars false
set_option maxRecDepth 1000000
namespace Mine
variable [Inhabited Rho]
section
variable {prog : Program} {w : World} {A : Around} {s : Shared} {hs : Heap} {z TI TO i1 i2 C D : Addr} {g : Nat} {k : Int} {acc : List Int} {R : Result → Shared → Prop} {cenv : Env}
/-- the turn behind the last number -/
theorem comp_last {it : Expr} {sc : Scope} {pos p1 p2 p3 p4 : Pos} {kk : Nat} (X : LX hs z TI TO i1 i2 C D) (L : LS9 hs z TI TO i1 i2 C D g 2 acc s.heap) (hh : A.handled = none)
    (hR : ∀ h', Kp hs h' → (∀ b, (b = C ∨ b = D) → ∀ o, s.heap.get? b = some o → h'.get? b = some o) → R (.ok .next) { s with heap := h' }) :
    codeAny (model prog w) A (.compLoop (.ListComp (.Name "size" p1) [⟨.Tuple [.Name "turn" p2, .Name "size" p3] kk p4, it, [], 0⟩] sc pos) 0 (.ref z) (.ref D) cenv) R s := by
  refine codeAny_of_tree ?_
  show wpAny _ A ((compTurn _ 0 (.ref z) (.ref D) cenv).onRaise (fun x => do noteFrame x cenv; theTreesLotGoes x)) _ _ _
  refine wpAny_noted (turn_last rfl rfl ?_)
  obtain ⟨a0, b0, hto⟩ := L.to
  have hT : s.TypeIs (.ref z) "zip" := ⟨_, L.z, rfl⟩
  unfold pyNext
  refine wpAny_bind (wpAny_attempt (wpAny_callSpecial?_slot (name := Str.ofString "__next__") hT F.slot_zip_next (wpAny_call_entry F.slot_zip_next hT F.entry_zip_next
    (zg_end (A := A.in1) (s := s) hh X.zb L.z L.ti hto L.r (by omega) fun h5 e k5 st => ?_) (F.args_zip_next_1 _))))
  obtain ⟨oe, hoe, hce⟩ := st
  refine wpAny_bind (wpAny_isInstance (T := "StopIteration") (b := true) ⟨oe, hoe, hce⟩ isSubtype_stop ?_)
  exact wpAny_pure (hR h5 (fun b o e => k5 b o (fun q => by rw [q, X.nz] at e; cases e) (L.kp b o e)) fun b q o e => k5 b o (by rcases q with rfl | rfl; exact X.cz; exact X.dz) e)

/-- the others' part, seen from the generator -/
structure GW (hs h₀ : Heap) (W : Ow) (z TI TO i1 i2 C D : Addr) : Prop where
  w0 : ∀ b, W b → h₀.get? b = none
  kp : Kp hs h₀
  all : ∀ b, (b = z ∨ b = TI ∨ b = TO ∨ b = i1 ∨ b = i2 ∨ b = C ∨ b = D) → W b
/-- the resumption of a yield, as nextOf wants it -/
noncomputable def Wake (prog : Program) (w : World) (A : Around) (h₀ : Heap) (W : Ow) (vals : Nat → Int) (req : Nat → Bool) (n : Nat) (gs : GenState) (h : Heap) : Prop :=
  ∀ s : Shared, (∀ b o, h.get? b = some o → ¬ W b → s.heap.get? b = some o) → (∀ b, W b → ∃ o, s.heap.get? b = some o) → gs.Goes (model prog w) A (Rp h₀ W) (Yp h₀ W vals req) n (.send .none) s

theorem bare_set {gens : Array GenState} {g : Nat} {x : GenState} (h : AllBare gens) (hx : x.bare = true) : AllBare (gens.setIfInBounds g x) := fun y hy => by
  rcases Array.mem_or_eq_of_mem_setIfInBounds hy with q | q
  · exact h y q
  · exact q ▸ hx
theorem turn_yield {it : Expr} {sc : Scope} {pos p1 p2 p3 p4 : Pos} {kk m : Nat} {h₀ : Heap} {W : Ow} {vals : Nat → Int} {req : Nat → Bool} {gs : GenState} (X : LX hs z TI TO i1 i2 C D) (G : GW hs h₀ W z TI TO i1 i2 C D) (T : TopK w hs) (L : LS9 hs z TI TO i1 i2 C D g k acc s.heap) (hk : k < 2) (hacc : acc.length ≤ 10) (hh : A.handled = none) (hd : A.depth ≤ 340)
    (hC : cenv.locals = C) (hkd : cenv.scope.kind = .function) (hkt : cenv.kindOf "turn" = some .local) (hks : cenv.kindOf "size" = some .local) (hw : ∀ b, W b → ∃ o, s.heap.get? b = some o) (hgs : s.gens[g]? = some gs) (hb : AllBare s.gens)
    (wk : Wake prog w A.in1.in1 h₀ W vals req (m + 1) gs s.heap)
    (next : ∀ gs' h' tk' gens', LS9 hs z TI TO i1 i2 C D g (k + 1) (acc ++ [vals m]) h' → (∀ b, W b → ∃ o, h'.get? b = some o) → gens'[g]? = some gs' → AllBare gens' → (req m = true → Wake prog w A.in1.in1 h₀ W vals req m gs' h') →
      codeAny (model prog w) A (.compLoop (.ListComp (.Name "size" p1) [⟨.Tuple [.Name "turn" p2, .Name "size" p3] kk p4, it, [], 0⟩] sc pos) 0 (.ref z) (.ref D) cenv) R { s with heap := h', toks := tk', gens := gens' }) :
    codeAny (model prog w) A (.compLoop (.ListComp (.Name "size" p1) [⟨.Tuple [.Name "turn" p2, .Name "size" p3] kk p4, it, [], 0⟩] sc pos) 0 (.ref z) (.ref D) cenv) R s := by
  have hsub : ∀ b, (b = z ∨ b = TO ∨ b = i1) → W b := fun b q => G.all b (by rcases q with q | q | q <;> simp [q])
  refine comp_turn (elt := it) X L hk hacc hh hC hkd hkt hks fun g3 tk k3 lv3 => ?_
  have kp3 : Kp hs g3 := fun b o e => k3 b o (L.kp b o e) (by
    rintro (q | q | q)
    · rw [q, X.nz] at e; cases e
    · rw [q, X.nTO] at e; cases e
    · rw [q, X.ni] at e; cases e)
  have g3g : g3.IsGen i2 g := let ⟨o, nm, qn, ho, rr⟩ := L.g; ⟨o, nm, qn, k3 _ _ ho (by rintro (q | q | q); exact X.gz q; exact X.gTO q; exact X.gi q), rr⟩
  have w3 : ∀ b, W b → ∃ o, g3.get? b = some o := fun b wb => by
    by_cases q : b = z ∨ b = TO ∨ b = i1
    · exact lv3 b q
    · obtain ⟨o, ho⟩ := hw b wb; exact ⟨o, k3 b o ho q⟩
  refine nextOf_gen (A := A.in1) (s := { s with heap := g3, toks := tk }) hh (T.keeps kp3).lim (by show A.depth < 1000; omega) g3g hgs (wk _ (fun b o e nw => k3 b o e fun q => nw (hsub b q)) w3) (fun v s₁ gs' hbare hy => ?_) fun x s₁ hx => absurd hx.1 (Nat.succ_ne_zero m)
  obtain ⟨⟨t, rfl⟩, ⟨h, tk', rfl, K⟩, kp1, cont⟩ := hy
  refine ⟨vals m, t, rfl, fun b q o e => K b (G.all b q) o e, G.kp.trans kp1, fun h' tk2 L' k' => ?_⟩
  refine next gs' h' tk2 _ L' (fun b wb => ?_) (setGen_self (s := Shared.setGen { s with heap := g3, toks := tk } g .running) (setGen_self hgs)) (bare_set (bare_set hb rfl) hbare) fun hr s'' k'' lv'' => ?_
  · by_cases q : b = z ∨ b = TO ∨ b = C ∨ b = D
    · rcases q with rfl | rfl | rfl | rfl
      · exact ⟨_, L'.z⟩
      · obtain ⟨_, _, q⟩ := L'.to; exact ⟨_, q⟩
      · obtain ⟨_, o, _, _, q, _⟩ := L'.c; exact ⟨o, q⟩
      · obtain ⟨_, ⟨o, q, _⟩, _⟩ := L'.d; exact ⟨o, q⟩
    · obtain ⟨o, ho⟩ := w3 b wb
      exact ⟨o, k' b o q (K b wb o ho)⟩
  · refine cont hr s'' (fun b o e nw => k'' b o (k' b o (fun q => nw (G.all b (by rcases q with q | q | q | q <;> simp [q]))) e) nw) lv''
theorem turn_stop {it : Expr} {sc : Scope} {pos p1 p2 p3 p4 : Pos} {kk : Nat} {h₀ : Heap} {W : Ow} {vals : Nat → Int} {req : Nat → Bool} {gs : GenState} (X : LX hs z TI TO i1 i2 C D) (G : GW hs h₀ W z TI TO i1 i2 C D) (T : TopK w hs) (L : LS9 hs z TI TO i1 i2 C D g k acc s.heap) (hk : k < 2) (hacc : acc.length ≤ 10) (hh : A.handled = none) (hd : A.depth ≤ 340)
    (hC : cenv.locals = C) (hkd : cenv.scope.kind = .function) (hkt : cenv.kindOf "turn" = some .local) (hks : cenv.kindOf "size" = some .local) (hw : ∀ b, W b → ∃ o, s.heap.get? b = some o) (hgs : s.gens[g]? = some gs) (hb : AllBare s.gens) (hreq : req 0 = true)
    (wk : Wake prog w A.in1.in1 h₀ W vals req 0 gs s.heap)
    (fin : ∀ h' tk' gens', Kp hs h' → (∃ its, PL h' D its ∧ IntsAre its.toList acc) → (∃ m, h'.Ns C m) → AllBare gens' → R (.ok .next) { s with heap := h', toks := tk', gens := gens' }) :
    codeAny (model prog w) A (.compLoop (.ListComp (.Name "size" p1) [⟨.Tuple [.Name "turn" p2, .Name "size" p3] kk p4, it, [], 0⟩] sc pos) 0 (.ref z) (.ref D) cenv) R s := by
  have hsub : ∀ b, (b = z ∨ b = TO ∨ b = i1) → W b := fun b q => G.all b (by rcases q with q | q | q <;> simp [q])
  refine comp_turn (elt := it) X L hk hacc hh hC hkd hkt hks fun g3 tk k3 lv3 => ?_
  have kp3 : Kp hs g3 := fun b o e => k3 b o (L.kp b o e) (by
    rintro (q | q | q)
    · rw [q, X.nz] at e; cases e
    · rw [q, X.nTO] at e; cases e
    · rw [q, X.ni] at e; cases e)
  have g3g : g3.IsGen i2 g := let ⟨o, nm, qn, ho, rr⟩ := L.g; ⟨o, nm, qn, k3 _ _ ho (by rintro (q | q | q); exact X.gz q; exact X.gTO q; exact X.gi q), rr⟩
  have w3 : ∀ b, W b → ∃ o, g3.get? b = some o := fun b wb => by
    by_cases q : b = z ∨ b = TO ∨ b = i1
    · exact lv3 b q
    · obtain ⟨o, ho⟩ := hw b wb; exact ⟨o, k3 b o ho q⟩
  refine nextOf_gen (A := A.in1) (s := { s with heap := g3, toks := tk }) hh (T.keeps kp3).lim (by show A.depth < 1000; omega) g3g hgs (wk _ (fun b o e nw => k3 b o e fun q => nw (hsub b q)) w3) (fun v s₁ gs' hbare hy => ?_) fun x s₁ hx => ?_
  · obtain ⟨_, ⟨h, tk', rfl, K⟩, _, cont⟩ := hy
    exact (cont hreq _ (fun b o e _ => e) (fun b wb => let ⟨o, ho⟩ := w3 b wb; ⟨o, K b wb o ho⟩)).elim
  · obtain ⟨_, rfl, ⟨h, tk', rfl, K⟩, kp1⟩ := hx
    refine .inl ⟨rfl, fun h2 e k2 st => ⟨⟨e, rfl, st⟩, fun b q o e => k2 b o (K b (G.all b q) o e), (G.kp.trans kp1).trans k2, fun h3 k3' keep => ?_⟩⟩
    obtain ⟨its, ⟨od, hod, pd⟩, hI⟩ := L.d
    obtain ⟨mm, oc, es, ep, hoc, pc⟩ := L.c
    have d3 := k3 _ _ hod (by rintro (q | q | q); exact X.dz q; exact X.dTO q; exact X.di q)
    have c3 := k3 _ _ hoc (by rintro (q | q | q); exact X.cz q; exact X.cTO q; exact X.ci q)
    exact fin h3 tk' _ k3' ⟨its, ⟨od, keep D (.inr rfl) _ (k2 _ _ (K D (G.all D (by simp)) _ d3)), pd⟩, hI⟩ ⟨mm, oc, es, ep, keep C (.inl rfl) _ (k2 _ _ (K C (G.all C (by simp)) _ c3)), pc⟩ (bare_set (bare_set hb rfl) rfl)
end
end Mine
end
section
open PySem PySem.W PyProof.Rows PySem.Calls PySem.Spec
set_option linter.unusedVariables false
set_option linter.unusedSectionVars false
set_option maxRecDepth 1000000
namespace Mine
variable [Inhabited Rho]
section
variable {prog : Program} {w : World} {A : Around} {E : Value → Shared → Prop} {s : Shared}
noncomputable abbrev rIt : Obj := { cls := .type "range_iterator", data := .fields #[rawInt 0, rawInt (Builtin.Range.rangeSize 0 2 1), rawInt 1] }
noncomputable abbrev y1 (h : Heap) : Heap := h.push rIt
noncomputable abbrev y2 (h : Heap) (b : Addr) : Heap := (y1 h).push { cls := .type "tuple", data := .seq #[.ref h.objs.size, .ref b] }
noncomputable abbrev y3 (h : Heap) (b : Addr) : Heap := (y2 h b).push { cls := .type "tuple", data := .seq #[.none, .none] }
noncomputable abbrev y4 (h : Heap) (b : Addr) : Heap := (y3 h b).push { cls := .type "zip", data := .fields #[.none, .bool false, .bool false, .ref (y1 h).objs.size, .ref (y2 h b).objs.size] }
set_option maxHeartbeats 4000000 in
theorem meets_zg (r b : Addr) (g : Nat) (t u v : Tok) :
    Meets (Builtin.«zip.__new__» ⟨[.type "zip", .ref r, .ref b], []⟩) (fun _ R s => IsRange s.heap r 0 2 1 t u v ∧ s.heap.IsGen b g ∧ R (.ok (.ret (.ref (y3 s.heap b).objs.size))) { s with heap := y4 s.heap b }) :=
  .of_wp fun prog w A R s ⟨hr, hg, h⟩ => by
    obtain ⟨hp, gg, d, tk, os⟩ := s
    have hsub := sub_zip
    have hr : IsRange hp r 0 2 1 t u v := hr
    have hg : hp.IsGen b g := hg
    have hg1 : (y1 hp).IsGen b g := hg.push _
    wp_walk using wpAny_pyIter_range hr rfl, wpAny_pyIter_gen hg1
    exact ⟨_, rfl, h⟩
theorem call_zg {r b : Addr} {g : Nat} {t u v : Tok} {Q : Value → Shared → Prop} (hr : IsRange s.heap r 0 2 1 t u v) (hg : s.heap.IsGen b g)
    (h : ∀ h', IsZip h' (s.heap.objs.size + 3) (s.heap.objs.size + 1) (s.heap.objs.size + 2) .none → IsPair h' (s.heap.objs.size + 1) (.ref s.heap.objs.size) (.ref b) → IsPair h' (s.heap.objs.size + 2) .none .none → IsRangeIter h' s.heap.objs.size 0 2 1 → h'.objs.size = s.heap.objs.size + 4 → Kp s.heap h' →
      Q (.ref (s.heap.objs.size + 3)) { s with heap := h' }) : wpAny (model prog w) A (call (.type "zip") [.ref r, .ref b]) Q E s := by
  refine callType_new F.called_zip (by decide) (F.typeCall_zip_2 _ _) (F.newCall_zip_2 _ _) (fun obj => F.args_object_init_3 obj _ _) F.entry_zip_new (meets_zg r b g t u v) ⟨hr, hg, ?_⟩
  have z1 : (y1 s.heap).objs.size = s.heap.objs.size + 1 := Heap.size_push ..
  have z2 : (y2 s.heap b).objs.size = s.heap.objs.size + 2 := by rw [Heap.size_push, z1]
  have z3 : (y3 s.heap b).objs.size = s.heap.objs.size + 3 := by rw [Heap.size_push, z2]
  have z4 : (y4 s.heap b).objs.size = s.heap.objs.size + 4 := by rw [Heap.size_push, z3]
  have g4 : (y4 s.heap b).get? (y3 s.heap b).objs.size = some _ := Heap.get?_push_size _ rfl
  have g3 : (y4 s.heap b).get? (y2 s.heap b).objs.size = some _ := Heap.get?_push_of_some _ (Heap.get?_push_size _ rfl)
  have g2 : (y4 s.heap b).get? (y1 s.heap).objs.size = some _ := Heap.get?_push_of_some _ (Heap.get?_push_of_some _ (Heap.get?_push_size _ rfl))
  have g1 : (y4 s.heap b).get? s.heap.objs.size = some _ := Heap.get?_push_of_some _ (Heap.get?_push_of_some _ (Heap.get?_push_of_some _ (Heap.get?_push_size _ rfl)))
  show _ ∧ _
  rw [z1, z2, z3] at g4
  rw [z2] at g3
  rw [z1] at g2
  rw [z3]
  exact ⟨⟨_, g4, rfl⟩, h _ g4 g2 g3 g1 z4 fun c o q => Heap.get?_push_of_some _ (Heap.get?_push_of_some _ (Heap.get?_push_of_some _ (Heap.get?_push_of_some _ q)))⟩

theorem fn_group {P : Params} {h : Heap} (X : (hd.heap_39 P).In h) : ∃ ob fd, h.get? 65 = some ob ∧ ob.data = .func fd ∧ h.CodeRec fd.code fd.qualname ∧ fd.body = .stmts genB ∧ fd.scope = genSc ∧ fd.closure = [] ∧ fd.globals = mainGlobals ∧ fd.builtins = builtinsNs ∧ ∀ (M : Model) (v : Value), Looks M h (bindArgs fd ⟨[v], []⟩) [("grouping", v)] :=
  ⟨_, _, X 65 _ rfl, rfl, ⟨_, _, _, _, rfl, X 64 _ rfl, rfl, rfl⟩, rfl, rfl, rfl, rfl, rfl, fun M v => Looks.of_pure rfl⟩

/-- the made generator -/
theorem call_gen {a : Addr} {Q : Value → Shared → Prop} (T : TopK w s.heap) (hd : A.depth ≤ 350)
    (h : ∀ hg ge h' tk, Kp s.heap hg → ER s.heap (fun _ => False) (fun _ => 0) hg ge (gcx a) → ge.scope.isCoroutine = false → ge.frame = some ge.locals → Kp hg h' → h'.IsGen hg.objs.size s.gens.size → hg.get? hg.objs.size = none → h'.objs.size = hg.objs.size + 1 →
      Q (.ref hg.objs.size) { s with heap := h', toks := tk, gens := s.gens.push (.fresh (.func genB ge)) }) : wpAny (model prog w) A (call (.ref 65) [.ref a]) Q E s := by
  obtain ⟨ob, fd, ho, hdata, hcd, hbody, hscp, hclo, hgl, hbi, hbind⟩ := fn_group T.X
  have kx : ∀ x ∈ (["grouping"] : List PySem.Str), fd.scope.names.lookup x = some .local ∨ fd.scope.names.lookup x = some .cell := by
    have : ((["grouping"] : List PySem.Str).all fun x => genSc.names.lookup x == some .local || genSc.names.lookup x == some .cell) = true := by rfl
    simp only [List.all_eq_true, Bool.or_eq_true, beq_iff_eq] at this
    rw [hscp]
    exact this
  have hsc : scopeOk fd.scope = true := by rw [hscp]; exact of_decide_eq_true (by rfl)
  refine wpAny_call (codeAny_call_generator (by show A.depth < 1000; omega) ho hdata (by rw [hscp]; rfl) (by rw [hscp]; rfl) hbody hcd ?_)
  rw [hclo]
  refine (hbind _ _).here (wpAny_newFunctionEnv_cells (by rw [hscp]; rfl) (fun p hp => ?_) fun env he s' x => ?_)
  · rcases List.mem_singleton.mp hp with rfl
    exact .inl (by rw [hscp]; rfl)
  subst he
  have er := call_er (fd := fd) (f := 65) (xs := ["grouping"]) (ds := [.sy (.raw (.ref a))]) (vs := [.ref a]) (O := fun _ => False) (s := s) (s₁ := s') (fun b q => q.elim) (.cons _ _ _ _ (.sy _ _ rfl) .nil) rfl (by decide +kernel) kx hgl hbi hsc x (fun _ => 0)
  rw [hscp] at er
  obtain ⟨h1, tk1, e1⟩ := x.toInCall.same
  subst e1
  refine ⟨T.lim.keeps x.toInCall.keep, ?_⟩
  exact h h1 _ _ _ x.toInCall.keep er (by show fd.scope.isCoroutine = false; rw [hscp]; rfl) rfl (kp_push _ _) ⟨_, _, _, Heap.get?_push_size _ rfl, rfl, rfl, rfl⟩ (size_none _) (Heap.size_push ..)
end
end Mine
end
section
open PySem PySem.W PyProof.Rows PySem.Calls PySem.Spec
set_option linter.unusedVariables false
set_option linter.unusedSectionVars false
set_option maxRecDepth 1000000
namespace Mine
variable [Inhabited Rho]
noncomputable def szB : List Stmt := (dfn "_law_sizes").2.2
noncomputable def szSc : Scope := (dfn "_law_sizes").1
noncomputable def scx (a : Addr) : Cx := startCx szSc ["ruler"] [.sy (.raw (.ref a))]
noncomputable def compSc : Scope := match szB with
  | [.Try [.Return (some (.ListComp _ _ sc _)) _] _ _ _ _] => sc
  | _ => szSc
noncomputable abbrev itE (q1 q2 q3 q4 q5 q6 q7 q8 : Pos) (k : Nat) : Expr := .Call (.Name "zip" q1) [.Call (.Name "range" q2) [.Constant (.int 2) k q3] [] q4, .Call (.Name "_grouping_intervals" q5) [.Name "ruler" q6] [] q7] [] q8
noncomputable def szsSh (x : (Nat → Pos) × Nat × Nat × Nat × PySem.Str) : Prop := szB = [.Try [.Return (some (.ListComp (.Name "size" (x.1 0)) [⟨.Tuple [.Name "turn" (x.1 1), .Name "size" (x.1 2)] x.2.1 (x.1 3), itE (x.1 4) (x.1 5) (x.1 6) (x.1 7) (x.1 8) (x.1 9) (x.1 10) (x.1 11) x.2.2.1, [], 0⟩] compSc (x.1 12))) (x.1 13)]
    [.ExceptHandler (some (.Name "ValueError" (x.1 15))) none [.Return (some (.List [.Constant (.str x.2.2.2.2) x.2.2.2.1 (x.1 16)] (x.1 17))) (x.1 18)] (x.1 19)] [] [] (x.1 14)] ∧ x.2.2.2.2 = "refused"
omit [Inhabited Rho] in
theorem szs_ex : ∃ x, szsSh x :=
  ⟨(fun i => [_, _, _, _, _, _, _, _, _, _, _, _, _, _, _, _, _, _, _, _].getD i default, _, _, _, _), rfl, rfl⟩
noncomputable def szsX : (Nat → Pos) × Nat × Nat × Nat × PySem.Str := szs_ex.choose
omit [Inhabited Rho] in
theorem sz_shape : szsSh szsX := szs_ex.choose_spec

section
variable {prog : Program} {w : World} {A : Around} {E : Value → Shared → Prop} {s : Shared} {h₁ : Heap} {ad : PySem.Str → Addr} {env : Env} {a : Addr}
theorem args_calls {f : Value} {f1 f2 : Expr} {a1 a2 : List Expr} {k1 k2 : List Keyword} {p1 p2 pos : Pos} {Q : Args → Shared → Prop}
    (h : wpAny (model prog w) A (eval (.Call f1 a1 k1 p1) env) (fun v s1 => wpAny (model prog w) A (eval (.Call f2 a2 k2 p2) env) (fun u s2 => Q ⟨[v, u], []⟩ s2) E s1) E s) :
    wpAny (model prog w) A (evalArgs f true (backTo pos (starEach [.Call f1 a1 k1 p1, .Call f2 a2 k2 p2] env)) []) Q E s := by
  have body : wpAny (model prog w) A (spliced (backTo pos (starEach [.Call f1 a1 k1 p1, .Call f2 a2 k2 p2] env))) (fun vs s' => Q ⟨vs, []⟩ s') E s :=
    args_cons (wpAny_mono h (fun v s1 h1 => args_cons (wpAny_mono h1 (fun u s2 h2 => args_nil h2) fun _ _ x => x)) fun _ _ x => x)
  exact evalArgs_plain body
/-- the iterator's making -/
theorem iter_eval {q1 q2 q3 q4 q5 q6 q7 q8 : Pos} {k : Nat} {Q : Value → Shared → Prop} (hd : A.depth ≤ 340) (T : TopK w s.heap) (er : ER h₁ (fun _ => False) ad s.heap env (scx a)) (hg0 : s.gens = #[])
    (h : ∀ hr hg ge h4 tk, Kp s.heap hr → Kp hr hg → ER hr (fun _ => False) (fun _ => 0) hg ge (gcx a) → ge.scope.isCoroutine = false → ge.frame = some ge.locals → Kp hg h4 → h4.IsGen hg.objs.size 0 → IsZip h4 (hg.objs.size + 4) (hg.objs.size + 2) (hg.objs.size + 3) .none → IsPair h4 (hg.objs.size + 2) (.ref (hg.objs.size + 1)) (.ref hg.objs.size) →
      IsPair h4 (hg.objs.size + 3) .none .none → IsRangeIter h4 (hg.objs.size + 1) 0 2 1 → h4.objs.size = hg.objs.size + 5 → Q (.ref (hg.objs.size + 4)) { s with heap := h4, toks := tk, gens := #[.fresh (.func genB ge)] }) :
    wpAny (model prog w) A (eval (itE q1 q2 q3 q4 q5 q6 q7 q8 k) env) Q E s := by
  have tk : ∀ {T : String} (h : Heap), ∃ k, (k = Keeper.frame ∨ k = Keeper.machine ∨ k = Keeper.boundFrame) ∧ Looks (model prog w) h (keeperOf (.type T)) k := fun h => ⟨.machine, .inr (.inl rfl), Looks.of_pure rfl⟩
  refine wpAny_Call_NameR (bi_name T (v := .type "zip") rfl rfl (by decide +kernel) er rfl (by decide +kernel) ?_)
  refine callWith_of (P := fun _ => True) rfl (fun h' k => tk h') ?_
  refine args_calls ?_
  refine wpAny_Call_NameR (bi_name T (v := .type "range") rfl rfl (by decide +kernel) er rfl (by decide +kernel) ?_)
  refine callWith_of (P := fun _ => True) rfl (fun h' k => tk h') ?_
  refine args_one (n := 0) rfl (wpAny_Constant_int ⟨trivial, ?_⟩)
  refine call_range_1 ?_
  dsimp only
  have kr : Kp s.heap (s.heap.push { cls := .type "range", data := .fields #[.int 0 (s.toks + 1), .int 2 s.toks, .int 1 (s.toks + 1 + 1)] }) := kp_push _ _
  have gr : IsRange (s.heap.push { cls := .type "range", data := .fields #[.int 0 (s.toks + 1), .int 2 s.toks, .int 1 (s.toks + 1 + 1)] }) s.heap.objs.size 0 2 1 (s.toks + 1) s.toks (s.toks + 1 + 1) := IsRange.new _ _ _ _ _ _ _
  generalize (s.heap.push { cls := .type "range", data := .fields #[.int 0 (s.toks + 1), .int 2 s.toks, .int 1 (s.toks + 1 + 1)] }) = hr at kr gr ⊢
  have Tr := T.keeps kr
  obtain ⟨mb, nb, hmb⟩ := Tr.mb
  refine wpAny_Call_NameR (top_name (s := { s with heap := hr, toks := s.toks + 1 + 1 + 1 }) Tr (v := .ref 65) rfl (er.kp kr) rfl (by decide +kernel) ?_)
  refine callWith_of (P := fun h' => Kp hr h') rfl (fun h' k => (bg (prog := prog) Tr.X nb hmb).kp "_grouping_intervals" (.ref 65) h' rfl k) ?_
  refine args_one (n := 0) rfl (raw_name (s := { s with heap := hr, toks := s.toks + 1 + 1 + 1 }) (er.kp kr) (v := .ref a) rfl (by decide +kernel) ⟨fun _ _ e => e, ?_⟩)
  refine call_gen (s := { s with heap := hr, toks := s.toks + 1 + 1 + 1 }) Tr (by omega) fun hg ge h' tk' k1 eg hco hgf k2 ig n1 sz => ⟨trivial, ?_⟩
  refine call_zg (s := { s with heap := h', toks := tk', gens := s.gens.push (.fresh (.func genB ge)) }) (k2 _ _ (k1 _ _ gr)) ig fun h4 z4 ti4 to4 r4 sz4 k4 => ?_
  dsimp only at z4 ti4 to4 r4 sz4 k4
  rw [sz] at z4 ti4 to4 r4 sz4
  have ig0 : h'.IsGen hg.objs.size 0 := by rw [hg0] at ig; exact ig
  have fin := h hr hg ge h4 tk' kr k1 eg hco hgf (k2.trans k4) (ig0.keeps k4) z4 ti4 to4 r4 sz4
  show Q (.ref (h'.objs.size + 3)) _
  rw [sz, hg0]
  exact fin
end
end Mine
end
section
open PySem PySem.W PyProof.Rows PySem.Calls PySem.Spec
set_option linter.unusedVariables false
set_option linter.unusedSectionVars false
set_option maxRecDepth 1000000
namespace Mine
variable [Inhabited Rho]
section
variable {prog : Program} {w : World} {A : Around} {E : Value → Shared → Prop} {s : Shared} {h₁ : Heap} {ad : PySem.Str → Addr} {env : Env} {a : Addr}
noncomputable abbrev compE (p1 p2 p3 p4 q1 q2 q3 q4 q5 q6 q7 q8 pos : Pos) (kk k : Nat) : Expr := .ListComp (.Name "size" p1) [⟨.Tuple [.Name "turn" p2, .Name "size" p3] kk p4, itE q1 q2 q3 q4 q5 q6 q7 q8 k, [], 0⟩] compSc pos
/-- what is known at the head of the comprehension's loop -/
structure Ready (prog : Program) (w : World) (hs : Heap) (its : Array Value) (a z TI TO i1 i2 C D : Addr) (cenv ge : Env) (h₀ : Heap) (W : Ow) (h : Heap) : Prop where
  X : LX hs z TI TO i1 i2 C D
  G : GW hs h₀ W z TI TO i1 i2 C D
  L : LS9 hs z TI TO i1 i2 C D 0 0 [] h
  hw : ∀ b, W b → ∃ o, h.get? b = some o
  er : ∃ ad, ER h₀ W ad h ge (gcx a)
  B : Bg prog w gl2 h₀
  co : ge.scope.isCoroutine = false
  il : h₀.IsList a its
  cC : cenv.locals = C
  ck : cenv.scope.kind = .function
  ct : cenv.kindOf "turn" = some .local
  cs : cenv.kindOf "size" = some .local

theorem none_ge {hs hg : Heap} (k : Kp hs hg) {b : Addr} (hb : hg.objs.size ≤ b) : hs.get? b = none := by
  cases q : hs.get? b with
  | none => rfl
  | some o => exact absurd (Heap.lt_size (k b o q)) (Nat.not_lt.mpr hb)
theorem get_lt {h : Heap} {b : Addr} {o : Obj} (e : h.get? b = some o) : b < h.objs.size := Heap.lt_size e

theorem zb_new (n : Nat) : ZB (n + 4) (n + 2) (n + 3) (n + 1) := by constructor <;> (intro e; exact absurd (show (_ : Nat) = _ from e) (by omega))
theorem lx_new {hs hg : Heap} (k : Kp hs hg) : LX hs (hg.objs.size + 4) (hg.objs.size + 2) (hg.objs.size + 3) (hg.objs.size + 1) hg.objs.size (hg.objs.size + 5 + 1) (hg.objs.size + 5) := by
  have nn : ∀ b, hg.objs.size ≤ b → hs.get? b = none := fun b hb => none_ge k hb
  generalize hg.objs.size = n at *
  refine ⟨zb_new n, nn _ (by omega), nn _ (by omega), nn _ (by omega), nn _ (by omega), nn _ (by omega), ?_, ?_, ?_, ?_, ?_, ?_, ?_, ?_, ?_, ?_, ?_, ?_, ?_, ?_⟩ <;> (intro e; exact absurd (show (_ : Nat) = _ from e) (by omega))
theorem sizes_comp {p1 p2 p3 p4 q1 q2 q3 q4 q5 q6 q7 q8 pos : Pos} {kk k : Nat} {Q : Value → Shared → Prop} {its : Array Value} {outs : List Int} (hh : A.handled = none) (hd : A.depth ≤ 340) (T : TopK w s.heap) (er : ER h₁ (fun _ => False) ad s.heap env (scx a)) (hg0 : s.gens = #[]) (il : s.heap.IsList a its)
    (run : ∀ z TI TO i1 i2 C D cenv ge h₀ W (s3 : Shared) (Rr : Result → Shared → Prop), Ready prog w s.heap its a z TI TO i1 i2 C D cenv ge h₀ W s3.heap → s3.gens = #[.fresh (.func genB ge)] →
      (∀ h' tk' gens', Kp s.heap h' → (∃ its', PL h' D its' ∧ IntsAre its'.toList outs) → (∃ m, h'.Ns C m) → AllBare gens' → Rr (.ok .next) { s3 with heap := h', toks := tk', gens := gens' }) →
      codeAny (model prog w) A (.compLoop (compE p1 p2 p3 p4 q1 q2 q3 q4 q5 q6 q7 q8 pos kk k) 0 (.ref z) (.ref D) cenv) Rr s3)
    (hQ : ∀ D h' tk' gens' its', AllBare gens' → Kp s.heap h' → PL h' D its' → IntsAre its'.toList outs → s.heap.get? D = none → Q (.ref D) { s with heap := h', toks := tk', gens := gens' }) :
    wpAny (model prog w) A (eval (compE p1 p2 p3 p4 q1 q2 q3 q4 q5 q6 q7 q8 pos kk k) env) Q E s := by
  rw [eval_ListComp]
  refine wpAny_comprehension_free (cl := []) rfl (fun _ => rfl) rfl rfl (fun x hx hl => ?_) ?_
  · have : ∀ x ∈ compSc.names, x.2 = .local → compSc.names.lookup x.1 = some .local := by decide +kernel
    exact this x hx hl
  show wpAny (model prog w) A (eval (itE q1 q2 q3 q4 q5 q6 q7 q8 k) env) _ E s
  refine iter_eval hd T er hg0 fun hr hg ge h4 tk k0 k1 eg hco hgf k2 ig z4 ti4 to4 r4 sz4 => ?_
  refine wpAny_pyIter_zip (s := { s with heap := h4, toks := tk, gens := _ }) z4 ?_
  refine wpAny_newObj_type (new_env ?_)
  dsimp only
  rw [show (h4.push { cls := .type "list", dict := none, data := .seq ([] : List Value).toArray }).objs.size = h4.objs.size + 1 from Heap.size_push .., sz4]
  have hpc : ∀ h : Heap, pushCells h compSc.names = h := fun h => rfl
  rw [hpc]
  have k5 : Kp h4 (h4.push { cls := .type "list", dict := none, data := .seq ([] : List Value).toArray }) := kp_push _ _
  have gD : (h4.push { cls := .type "list", dict := none, data := .seq ([] : List Value).toArray }).get? (hg.objs.size + 5) = some { cls := .type "list", dict := none, data := .seq ([] : List Value).toArray } := by rw [← sz4]; exact Heap.get?_push_size _ rfl
  have s5 : (h4.push { cls := .type "list", dict := none, data := .seq ([] : List Value).toArray }).objs.size = hg.objs.size + 5 + 1 := by rw [Heap.size_push, sz4]
  generalize (h4.push { cls := .type "list", dict := none, data := .seq ([] : List Value).toArray }) = h5 at k5 gD s5 ⊢
  have k6 : Kp h5 (h5.push { cls := .type "dict", data := .dict #[] }) := kp_push _ _
  have gC : (h5.push { cls := .type "dict", data := .dict #[] }).get? (hg.objs.size + 5 + 1) = some { cls := .type "dict", data := .dict #[] } := by rw [← s5]; exact Heap.get?_push_size _ rfl
  generalize (h5.push { cls := .type "dict", data := .dict #[] }) = h6 at k6 gC ⊢
  have k46 := k5.trans k6
  have kg := (k2.trans k46)
  have ks := (k0.trans k1)
  have R0 : Ready prog w s.heap its a (hg.objs.size + 4) (hg.objs.size + 2) (hg.objs.size + 3) (hg.objs.size + 1) hg.objs.size (hg.objs.size + 5 + 1) (hg.objs.size + 5)
      { newEnv compSc (hg.objs.size + 5 + 1) env.globals (cellsFrom (hg.objs.size + 5 + 1 + 1) compSc.names []) env.qual none .none (some env) builtinsNs with scope := relabel compSc env } ge hr (fun b => False ∨ ((∃ o, h6.get? b = some o) ∧ hg.get? b = none)) h6 := by
    have hgn : ∀ b, hg.objs.size ≤ b → hg.get? b = none := fun b hb => none_ge (fun _ _ e => e) hb
    have z6 := k46 _ _ z4
    have ti6 := k46 _ _ ti4
    have to6 := k46 _ _ to4
    have r6 := k46 _ _ r4
    obtain ⟨og, nm, qn, gg, pg⟩ := ig.keeps k46
    have D6 := k6 _ _ gD
    obtain ⟨mb, nb, hmb⟩ := (T.keeps k0).mb
    refine ⟨lx_new ks, ⟨fun b q => ?_, k0, fun b q => ?_⟩, ⟨z6, ti6, ⟨_, _, to6⟩, ?_, ⟨og, nm, qn, gg, pg⟩, ⟨#[], ⟨_, D6, rfl, rfl, rfl, _, rfl⟩, .nil⟩, ⟨fun _ => none, _, _, _, gC, rfl, (fun e he => by simp at he), fun _ => rfl⟩, ks.trans kg⟩, fun b q => ?_, ⟨_, (eg.grow (M := fun b => (∃ o, h6.get? b = some o) ∧ hg.get? b = none) kg (fun b q => q.2) fun b q => q.1).1⟩, bg2 (T.keeps k0).X nb hmb, hco, ?_, rfl, rfl, rfl, rfl⟩
    · rcases q with q | ⟨_, q⟩
      · exact q.elim
      · cases z : hr.get? b with
        | none => rfl
        | some o => rw [k1 b o z] at q; cases q
    · refine .inr ?_
      rcases q with q | q | q | q | q | q | q
      · exact ⟨⟨_, q ▸ z6⟩, hgn _ (by rw [q]; exact Nat.le_add_right _ _)⟩
      · exact ⟨⟨_, q ▸ ti6⟩, hgn _ (by rw [q]; exact Nat.le_add_right _ _)⟩
      · exact ⟨⟨_, q ▸ to6⟩, hgn _ (by rw [q]; exact Nat.le_add_right _ _)⟩
      · exact ⟨⟨_, q ▸ r6⟩, hgn _ (by rw [q]; exact Nat.le_add_right _ _)⟩
      · exact ⟨⟨_, q ▸ gg⟩, hgn _ (by rw [q]; exact Nat.le_refl _)⟩
      · exact ⟨⟨_, q ▸ gC⟩, hgn _ (by rw [q]; exact Nat.le_trans (Nat.le_add_right _ 5) (Nat.le_add_right _ 1))⟩
      · exact ⟨⟨_, q ▸ D6⟩, hgn _ (by rw [q]; exact Nat.le_add_right _ _)⟩
    · rw [show (2 : Int) - 0 = 2 by decide]; exact r6
    · rcases q with q | q
      · exact q.elim
      · exact q.1
    · obtain ⟨o, ho, y⟩ := il; exact ⟨o, k0 _ _ ho, y⟩
  have fin := run _ _ _ _ _ _ _ _ _ _ _ { s with heap := h6, toks := tk, gens := #[.fresh (.func genB ge)] } (compPost (model prog w) A E none Q (.ref (hg.objs.size + 5)) (hg.objs.size + 5 + 1)) R0 rfl fun h' tk' gens' kp d c bb => ?_
  · refine compStart_at rfl fin (wpAny_pyIter_zip (s := { s with heap := h6, toks := tk, gens := _ }) (R0.L.z) ?_)
    exact fin
  · obtain ⟨its', pl, hI⟩ := d
    obtain ⟨m, hc⟩ := c
    refine ⟨m, hc, fun h'' sb => ?_⟩
    have nC := R0.X.nC
    have cD := R0.X.cD
    refine hQ _ h'' tk' gens' its' bb (fun b o e => (sb.2 b fun q => by rw [q, nC] at e; cases e).trans (kp b o e)) ?_ hI R0.X.nD
    obtain ⟨o, ho, y⟩ := pl
    exact ⟨o, (sb.2 _ (Ne.symm cD)).trans ho, y⟩
end
end Mine
end
section
open PySem PySem.W PyProof.Rows PySem.Calls PySem.Spec
set_option linter.unusedVariables false
set_option linter.unusedSectionVars false
set_option maxRecDepth 1000000
namespace Mine
variable [Inhabited Rho]
section
variable {prog : Program} {w : World} {A : Around} {hs : Heap} {its : Array Value} {a z TI TO i1 i2 C D : Addr} {cenv ge : Env} {h₀ : Heap} {W : Ow} {s3 : Shared} {Rr : Result → Shared → Prop} {vals : Nat → Int} {req : Nat → Bool} {p1 p2 p3 p4 q1 q2 q3 q4 q5 q6 q7 q8 pos : Pos} {kk k : Nat}
noncomputable abbrev HEnd (hs : Heap) (C D : Addr) (outs : List Int) (s3 : Shared) (Rr : Result → Shared → Prop) : Prop := ∀ h' tk' gens', Kp hs h' → (∃ its', PL h' D its' ∧ IntsAre its'.toList outs) → (∃ m, h'.Ns C m) → AllBare gens' → Rr (.ok .next) { s3 with heap := h', toks := tk', gens := gens' }
theorem wake0 {n : Nat} (R : Ready prog w hs its a z TI TO i1 i2 C D cenv ge h₀ W s3.heap)
    (first : ∀ ad s', ER h₀ W ad s'.heap ge (gcx a) → Seg (model prog w) A.in1.in1 (Rp h₀ W) (Yp h₀ W vals req) n s' (.func genB ge) ((model prog w).den (.func genB ge)) [] s') : Wake prog w A.in1.in1 h₀ W vals req n (.fresh (.func genB ge)) s3.heap := fun s' k lv => by
  obtain ⟨ad, e⟩ := R.er
  exact ⟨rfl, first ad s' (e.frame W (fun b wb => ⟨wb, R.G.w0 b wb⟩) k lv)⟩
theorem keep_d {h h' : Heap} {acc : List Int} (d : ∃ its', PL h D its' ∧ IntsAre its'.toList acc) (keep : ∀ o, h.get? D = some o → h'.get? D = some o) : ∃ its', PL h' D its' ∧ IntsAre its'.toList acc := by
  obtain ⟨its', ⟨o, ho, y⟩, hI⟩ := d
  exact ⟨its', ⟨o, keep o ho, y⟩, hI⟩
theorem keep_c {h h' : Heap} (c : ∃ m, h.Ns C m) (keep : ∀ o, h.get? C = some o → h'.get? C = some o) : ∃ m, h'.Ns C m := by
  obtain ⟨m, o, es, ep, ho, y⟩ := c
  exact ⟨m, o, es, ep, keep o ho, y⟩
theorem run_two (T : TopK w hs) (hh : A.handled = none) (hd : A.depth ≤ 340) (R : Ready prog w hs its a z TI TO i1 i2 C D cenv ge h₀ W s3.heap) (hg : s3.gens = #[.fresh (.func genB ge)]) (hr : req 1 = true)
    (first : ∀ ad s', ER h₀ W ad s'.heap ge (gcx a) → Seg (model prog w) A.in1.in1 (Rp h₀ W) (Yp h₀ W vals req) 2 s' (.func genB ge) ((model prog w).den (.func genB ge)) [] s') (hend : HEnd hs C D [vals 1, vals 0] s3 Rr) :
    codeAny (model prog w) A (.compLoop (compE p1 p2 p3 p4 q1 q2 q3 q4 q5 q6 q7 q8 pos kk k) 0 (.ref z) (.ref D) cenv) Rr s3 := by
  refine turn_yield (m := 1) R.X R.G T R.L (by decide) (by simp) hh hd R.cC R.ck R.ct R.cs R.hw (by rw [hg]; rfl) (by rw [hg]; intro y hy; simp at hy; rw [hy]; rfl) (wake0 R first) fun gs' h' tk' gens' L' lv' hg' b' wk' => ?_
  refine turn_yield (m := 0) (s := { s3 with heap := h', toks := tk', gens := gens' }) R.X R.G T L' (by decide) (by simp) hh hd R.cC R.ck R.ct R.cs lv' hg' b' (wk' hr) fun gs2 h2 tk2 gens2 L2 lv2 hg2 b2 _ => ?_
  refine comp_last (s := { s3 with heap := h2, toks := tk2, gens := gens2 }) R.X L2 hh fun h3 kp keep => ?_
  exact hend h3 tk2 gens2 kp (keep_d L2.d (keep D (.inr rfl))) (keep_c L2.c (keep C (.inl rfl))) b2
theorem run_one (T : TopK w hs) (hh : A.handled = none) (hd : A.depth ≤ 340) (R : Ready prog w hs its a z TI TO i1 i2 C D cenv ge h₀ W s3.heap) (hg : s3.gens = #[.fresh (.func genB ge)]) (hr : req 0 = true)
    (first : ∀ ad s', ER h₀ W ad s'.heap ge (gcx a) → Seg (model prog w) A.in1.in1 (Rp h₀ W) (Yp h₀ W vals req) 1 s' (.func genB ge) ((model prog w).den (.func genB ge)) [] s') (hend : HEnd hs C D [vals 0] s3 Rr) :
    codeAny (model prog w) A (.compLoop (compE p1 p2 p3 p4 q1 q2 q3 q4 q5 q6 q7 q8 pos kk k) 0 (.ref z) (.ref D) cenv) Rr s3 := by
  refine turn_yield (m := 0) R.X R.G T R.L (by decide) (by simp) hh hd R.cC R.ck R.ct R.cs R.hw (by rw [hg]; rfl) (by rw [hg]; intro y hy; simp at hy; rw [hy]; rfl) (wake0 R first) fun gs' h' tk' gens' L' lv' hg' b' wk' => ?_
  exact turn_stop (s := { s3 with heap := h', toks := tk', gens := gens' }) R.X R.G T L' (by decide) (by simp) hh hd R.cC R.ck R.ct R.cs lv' hg' b' hr (wk' hr) fun h2 tk2 gens2 kp d c b => hend h2 tk2 gens2 kp d c b

theorem in1_depth : (A.in1.in1).depth = A.depth := rfl
end
end Mine
end
section
open PySem PySem.W PyProof.Rows PySem.Calls PySem.Spec
set_option linter.unusedVariables false
set_option linter.unusedSectionVars false
set_option maxRecDepth 1000000
namespace Mine
variable [Inhabited Rho]
section
variable {prog : Program} {w : World} {A : Around} {E : Value → Shared → Prop} {s : Shared} {a : Addr} {env : Env}
theorem sizes_call {its : Array Value} {outs : List Int} {Q : Value → Shared → Prop} (T : TopK w s.heap) (hg0 : s.gens = #[]) (il : s.heap.IsList a its)
    (run : ∀ (A : Around), A.handled = none → A.depth ≤ 340 → A.units ≤ 40 → ∀ (hs : Heap), TopK w hs → ∀ (p1 p2 p3 p4 q1 q2 q3 q4 q5 q6 q7 q8 pos : Pos) (kk k : Nat) z TI TO i1 i2 C D cenv ge h₀ W (s3 : Shared) (Rr : Result → Shared → Prop), Ready prog w hs its a z TI TO i1 i2 C D cenv ge h₀ W s3.heap → s3.gens = #[.fresh (.func genB ge)] → HEnd hs C D outs s3 Rr →
      codeAny (model prog w) A (.compLoop (compE p1 p2 p3 p4 q1 q2 q3 q4 q5 q6 q7 q8 pos kk k) 0 (.ref z) (.ref D) cenv) Rr s3)
    (hQ : ∀ D h' tk' gens' its', AllBare gens' → Kp s.heap h' → PL h' D its' → IntsAre its'.toList outs → s.heap.get? D = none → Q (.ref D) { s with heap := h', toks := tk', gens := gens' }) :
    wpAny (model prog w) (callerA.deeper env) (call (.ref 219) [.ref a]) Q E s := by
  obtain ⟨ob, fd, ho, hdata, hcd, hbody, hscp, hclo, hgl, hbi, hbind⟩ := (fn_sizes T.X).ex
  have kx : ∀ x ∈ (["ruler"] : List PySem.Str), fd.scope.names.lookup x = some .local ∨ fd.scope.names.lookup x = some .cell := by
    have : ((["ruler"] : List PySem.Str).all fun x => szSc.names.lookup x == some .local || szSc.names.lookup x == some .cell) = true := by rfl
    simp only [List.all_eq_true, Bool.or_eq_true, beq_iff_eq] at this
    rw [hscp]
    exact this
  have hsc : scopeOk fd.scope = true := by rw [hscp]; exact of_decide_eq_true (by rfl)
  have hkd : fd.scope.kind = .function := by rw [hscp]; rfl
  refine wpAny_call (codeAny_call_cells_kw (A := callerA.deeper env) (binds := zipB ["ruler"] [.ref a]) (by show callerA.depth + 1 < 1000; decide) ho hdata T.lim hcd hbody (hbind _ [.ref a] rfl) hclo (fun p hp => ?_) (fun s₁ x => ?_) (by rw [hscp]; rfl) (by rw [hscp]; rfl) hkd)
  · rcases List.mem_singleton.mp hp with rfl
    exact .inl (by rw [hscp]; rfl)
  have er := call_er (fd := fd) (f := 219) (xs := ["ruler"]) (ds := [.sy (.raw (.ref a))]) (vs := [.ref a]) (O := fun _ => False) (s := s) (s₁ := s₁) (fun b q => q.elim) (.cons _ _ _ _ (.sy _ _ rfl) .nil) rfl (by decide +kernel) kx hgl hbi hsc x (fun _ => 0)
  rw [hscp] at er
  have kp1 := x.toInCall.keep
  obtain ⟨h1, tk1, e1⟩ := x.toInCall.same
  subst e1
  generalize callEnvC fd s.heap.objs.size 219 = env1 at er ⊢
  have il1 : h1.IsList a its := let ⟨o, ho, y⟩ := il; ⟨o, kp1 _ _ ho, y⟩
  obtain ⟨hB, _⟩ := sz_shape
  show wpAny _ _ (execs szB env1) _ _ _
  rw [hB]
  refine wpAny_execs_cons (wpAny_Try_except (wpAny_execs_cons (wpAny_Return_some ?_)))
  refine sizes_comp (s := { s with heap := h1, toks := tk1 }) (h₁ := s.heap) (ad := fun _ => 0) (its := its) (outs := outs) rfl (by show callerA.depth + 1 + 1 ≤ 340; decide) (T.keeps kp1) er hg0 il1
    (fun z TI TO i1 i2 C D cenv ge h₀ W s3 Rr R hg he => run _ rfl (by show callerA.depth + 1 + 1 ≤ 340; decide) (by show callerA.units + 3 + 3 ≤ 40; decide) h1 (T.keeps kp1) (szsX.1 0) (szsX.1 1) (szsX.1 2) (szsX.1 3) (szsX.1 4) (szsX.1 5) (szsX.1 6) (szsX.1 7) (szsX.1 8) (szsX.1 9) (szsX.1 10) (szsX.1 11) (szsX.1 12) szsX.2.1 szsX.2.2.1 z TI TO i1 i2 C D cenv ge h₀ W s3 Rr R hg he)
    fun D h' tk' gens' its' hb kp pl hI nD => ?_
  refine hQ D h' tk' gens' its' hb (Kp.trans kp1 kp) pl hI ?_
  cases q : s.heap.get? D with
  | none => rfl
  | some o => have := kp1 _ _ q; rw [show h1.get? D = none from nD] at this; cases this
end
end Mine
end
section
open PySem PySem.W PyProof.Rows PySem.Calls PySem.Spec
set_option linter.unusedVariables false
set_option linter.unusedSectionVars false
set_option maxRecDepth 1000000
namespace Mine
variable [Inhabited Rho]
section
variable {prog : Program} {w : World} {E : Value → Shared → Prop} {s : Shared} {a : Addr} {env : Env} {Q : Value → Shared → Prop} {x y : Int} {t u : Tok} {v : Value}
noncomputable abbrev SEnd (s : Shared) (outs : List Int) (Q : Value → Shared → Prop) : Prop := ∀ D h' tk' gens' its', AllBare gens' → Kp s.heap h' → PL h' D its' → IntsAre its'.toList outs → s.heap.get? D = none → Q (.ref D) { s with heap := h', toks := tk', gens := gens' }
theorem sz0 (hx : x = 1 ∨ x = 2) (hy : y = 1 ∨ y = 2) (T : TopK w s.heap) (hg0 : s.gens = #[]) (il : s.heap.IsList a #[.int x t, .int y u]) (hQ : SEnd s [x, y] Q) : wpAny (model prog w) (callerA.deeper env) (call (.ref 219) [.ref a]) Q E s :=
  sizes_call T hg0 il (fun A hh hd hu hs T' p1 p2 p3 p4 q1 q2 q3 q4 q5 q6 q7 q8 pos kk k z TI TO i1 i2 C D cenv ge h₀ W s3 Rr R hg he =>
    run_two (vals := fun m => if m = 1 then x else y) (req := fun m => m == 1) T' hh hd R hg rfl (fun ad s' er => gen0 hx hy hh (by show A.depth ≤ 350; omega) (by show A.units + 1 + 1 ≤ 50; omega) R.G.w0 R.co R.B er R.il) he) hQ
theorem sz1 (hx : x = 1 ∨ x = 2) (T : TopK w s.heap) (hg0 : s.gens = #[]) (il : s.heap.IsList a #[.int x t, .int 0 u, v]) (hQ : SEnd s [x, x] Q) : wpAny (model prog w) (callerA.deeper env) (call (.ref 219) [.ref a]) Q E s :=
  sizes_call T hg0 il (fun A hh hd hu hs T' p1 p2 p3 p4 q1 q2 q3 q4 q5 q6 q7 q8 pos kk k z TI TO i1 i2 C D cenv ge h₀ W s3 Rr R hg he =>
    run_two (vals := fun m => x) (req := fun m => m == 1) T' hh hd R hg rfl (fun ad s' er => gen1 hx hh (by show A.depth ≤ 350; omega) (by show A.units + 1 + 1 ≤ 50; omega) R.G.w0 R.co R.B er R.il) he) hQ
theorem sz2 (hx : x = 1 ∨ x = 2) (T : TopK w s.heap) (hg0 : s.gens = #[]) (il : s.heap.IsList a #[.int x t, .int 127 u, v]) (hQ : SEnd s [x] Q) : wpAny (model prog w) (callerA.deeper env) (call (.ref 219) [.ref a]) Q E s :=
  sizes_call T hg0 il (fun A hh hd hu hs T' p1 p2 p3 p4 q1 q2 q3 q4 q5 q6 q7 q8 pos kk k z TI TO i1 i2 C D cenv ge h₀ W s3 Rr R hg he =>
    run_one (vals := fun m => x) (req := fun m => true) T' hh hd R hg rfl (fun ad s' er => gen2 hx hh (by show A.depth ≤ 350; omega) (by show A.units + 1 + 1 ≤ 50; omega) R.G.w0 R.co R.B er R.il) he) hQ
theorem sz3 (hx : x = 1 ∨ x = 2) (T : TopK w s.heap) (hg0 : s.gens = #[]) (il : s.heap.IsList a #[.int x t]) (hQ : SEnd s [x] Q) : wpAny (model prog w) (callerA.deeper env) (call (.ref 219) [.ref a]) Q E s :=
  sizes_call T hg0 il (fun A hh hd hu hs T' p1 p2 p3 p4 q1 q2 q3 q4 q5 q6 q7 q8 pos kk k z TI TO i1 i2 C D cenv ge h₀ W s3 Rr R hg he =>
    run_one (vals := fun m => x) (req := fun m => true) T' hh hd R hg rfl (fun ad s' er => gen3 hx hh (by show A.depth ≤ 350; omega) (by show A.units + 1 + 1 ≤ 50; omega) R.G.w0 R.co R.B er R.il) he) hQ
theorem ints_RL {O : Ow} {h : Heap} : ∀ {vs : List Value} {ns : List Int}, IntsAre vs ns → RL O h (ns.map .int) vs
  | _, _, .nil => .nil
  | _, _, .cons n t r => .cons _ _ _ _ (.int n t) (ints_RL r)
/-- the end of a run, as ToldOk wants it -/
theorem s_end {O : Ow} {outs : List Int} {d : D} (hd : d = .list (outs.map .int)) (lv : ∀ b, O b → ∃ o, s.heap.get? b = some o) (hQ : ∀ v h' tk g', AllBare g' → Moved env.locals s.heap h' → R O h' d v → Q v { s with heap := h', toks := tk, gens := g' }) : SEnd s outs Q := fun D h' tk gens' its' hb kp pl hI nD => by
  refine hQ _ h' tk gens' hb ⟨fun b o _ e => kp b o e, fun o e => ⟨o.slots, kp _ o e⟩⟩ ?_
  rw [hd]
  refine .list _ D its' (fun q => ?_) pl.isList (ints_RL hI)
  obtain ⟨o, ho⟩ := lv D q
  rw [nD] at ho; cases ho
end
end Mine
end
section
open PySem PySem.W PyProof.Rows PySem.Calls PySem.Spec
set_option linter.unusedVariables false
set_option linter.unusedSectionVars false
set_option maxRecDepth 1000000
namespace Mine
/-- form 4 -/
noncomputable def Told4 [Inhabited Rho] (prog : Program) (w : World) : Prop := ∀ (env : Env) (s : Shared) (a : Addr) (x y : Int) (t u v : Tok) (O : Ow) (Q : Value → Shared → Prop) (E : Value → Shared → Prop) (hb : Heap),
  TopK w hb → Kp hb s.heap → hb.get? env.locals = none → TopK w s.heap → env.scope.kind = .function → env.frame = some env.locals → (∃ m, s.heap.Ns env.locals m) → s.gens = #[] → (∀ b, O b → ∃ o, s.heap.get? b = some o) → s.heap.IsList a #[.int 0 t, .int x u, .int y v] →
  (∀ v h' tk g', AllBare g' → Moved env.locals s.heap h' → R O h' (.list [.str "refused"]) v → Q v { s with heap := h', toks := tk, gens := g' }) → wpAny (model prog w) (callerA.deeper env) (call (.ref 219) [.ref a]) Q E s
theorem arr1 {its : Array Value} {a : Value} (h : its.toList = [a]) : its = #[a] := by apply Array.ext'; rw [h]
theorem arr2 {its : Array Value} {a b : Value} (h : its.toList = [a, b]) : its = #[a, b] := by apply Array.ext'; rw [h]
theorem arr3 {its : Array Value} {a b c : Value} (h : its.toList = [a, b, c]) : its = #[a, b, c] := by apply Array.ext'; rw [h]
theorem rl1 [Inhabited Rho] {O : Ow} {h : Heap} {its : Array Value} {i : Int} (r : RL O h [.int i] its.toList) : ∃ t, its = #[.int i t] := by
  generalize hL : its.toList = L at r
  obtain ⟨v, rfl, r1⟩ := r.one
  obtain ⟨t, rfl⟩ := r1.int_v
  exact ⟨_, arr1 hL⟩
theorem rl2 [Inhabited Rho] {O : Ow} {h : Heap} {its : Array Value} {i j : Int} (r : RL O h [.int i, .int j] its.toList) : ∃ t u, its = #[.int i t, .int j u] := by
  generalize hL : its.toList = L at r
  obtain ⟨v, v2, rfl, r1, r2⟩ := r.two
  obtain ⟨t, rfl⟩ := r1.int_v
  obtain ⟨t2, rfl⟩ := r2.int_v
  exact ⟨_, _, arr2 hL⟩
theorem rl3 [Inhabited Rho] {O : Ow} {h : Heap} {its : Array Value} {i j k : Int} (r : RL O h [.int i, .int j, .int k] its.toList) : ∃ t u v, its = #[.int i t, .int j u, .int k v] := by
  generalize hL : its.toList = L at r
  obtain ⟨v, v2, v3, rfl, r1, r2, r3⟩ := r.three
  obtain ⟨t, rfl⟩ := r1.int_v
  obtain ⟨t2, rfl⟩ := r2.int_v
  obtain ⟨t3, rfl⟩ := r3.int_v
  exact ⟨_, _, _, arr3 hL⟩
theorem near12 (r : Nat) : ((nearR r : Nat) : Int) = 1 ∨ ((nearR r : Nat) : Int) = 2 := by unfold nearR; omega
theorem far12 (r : Nat) : ((farR r : Nat) : Int) = 1 ∨ ((farR r : Nat) : Int) = 2 := by unfold farR; omega
theorem told_ok [Inhabited Rho] {prog : Program} {w : World} (h4 : Told4 prog w) : ToldOk prog w := by
  intro r hr env s a O Q E hb Tb kb nb T hk hf hn hg lv rl hQ
  have hform : formR r = 0 ∨ formR r = 1 ∨ formR r = 2 ∨ formR r = 3 ∨ formR r = 4 := by unfold formR; omega
  obtain ⟨_, its, ea, no, il, rl⟩ := rl.list_v
  cases ea
  ·
    rcases hform with q | q | q | q | q
    · have ha : argN r = [nearR r, farR r] := by unfold argN; rw [q]; rfl
      have ht : toldD r = .list ([((nearR r : Nat) : Int), ((farR r : Nat) : Int)].map .int) := by unfold toldD szR; rw [q]; rfl
      rw [ha] at rl
      obtain ⟨t, u, rfl⟩ := rl2 rl
      exact sz0 (near12 r) (far12 r) T hg il (s_end (env := env) ht lv hQ)
    · have ha : argN r = [nearR r, 0, farR r] := by unfold argN; rw [q]; rfl
      have ht : toldD r = .list ([((nearR r : Nat) : Int), ((nearR r : Nat) : Int)].map .int) := by unfold toldD szR; rw [q]; rfl
      rw [ha] at rl
      obtain ⟨t, u, v, rfl⟩ := rl3 rl
      exact sz1 (near12 r) T hg il (s_end (env := env) ht lv hQ)
    · have ha : argN r = [nearR r, 127, farR r] := by unfold argN; rw [q]; rfl
      have ht : toldD r = .list ([((nearR r : Nat) : Int)].map .int) := by unfold toldD szR; rw [q]; rfl
      rw [ha] at rl
      obtain ⟨t, u, v, rfl⟩ := rl3 rl
      exact sz2 (near12 r) T hg il (s_end (env := env) ht lv hQ)
    · have ha : argN r = [nearR r] := by unfold argN; rw [q]; rfl
      have ht : toldD r = .list ([((nearR r : Nat) : Int)].map .int) := by unfold toldD szR; rw [q]; rfl
      rw [ha] at rl
      obtain ⟨t, rfl⟩ := rl1 rl
      exact sz3 (near12 r) T hg il (s_end (env := env) ht lv hQ)
    · have ha : argN r = [0, nearR r, farR r] := by unfold argN; rw [q]; rfl
      have ht : toldD r = .list [.str "refused"] := by unfold toldD; rw [q]; rfl
      rw [ha] at rl
      obtain ⟨t, u, v, rfl⟩ := rl3 rl
      refine h4 env s a _ _ t u v O Q E hb Tb kb nb T hk hf hn hg lv il ?_
      rw [← ht]; exact hQ
end Mine
end
section
open PySem PySem.W PyProof.Rows PySem.Calls PySem.Spec
set_option linter.unusedVariables false
set_option linter.unusedSectionVars false
set_option maxRecDepth 1000000
namespace Mine
/-- an exception on its way: what was there before it stays, but the notes on the frames -/
structure Fly0 (hE : Heap) (S : List Addr) (e : Addr) (h : Heap) : Prop where
  kp : ∀ b o, b ∉ S → hE.get? b = some o → h.get? b = some o
  sl : ∀ b o, b ∈ S → hE.get? b = some o → ∃ sl, h.get? b = some { o with slots := sl }
  lv : ∀ b, b ∈ S → ∃ o, hE.get? b = some o
  ne : hE.get? e = none
structure Fly (hE : Heap) (S : List Addr) (e : Addr) (h : Heap) : Prop extends Fly0 hE S e h where
  ex : ∃ oe vs T oT ts, h.get? e = some oe ∧ oe.cls = .type "ValueError" ∧ oe.data = .fields vs ∧ 1 < vs.size ∧ vs[1]? = some (.ref T) ∧ hE.get? T = none ∧ T ≠ e ∧ h.get? T = some oT ∧ oT.data = .fields ts ∧ 3 < ts.size
noncomputable def noH : Heap := { objs := #[], life := default }
section
variable {M : Model} {A : Around} {E : Value → Shared → Prop} {s : Shared} {hE : Heap} {S : List Addr} {e : Addr}
theorem Fly0.eS {h : Heap} (F : Fly0 hE S e h) {b : Addr} (hb : b ∈ S) : b ≠ e := fun q => by
  obtain ⟨o, ho⟩ := F.lv b hb
  rw [q, F.ne] at ho; cases ho
theorem Fly0.ff {h : Heap} {l : List Env} (F : Fly0 hE S e h) (FF : hE.FunFrames noH l) : h.FunFrames noH l :=
  FF.of_keeps fun b o ho _ => by
    by_cases q : b ∈ S
    · obtain ⟨sl, hs⟩ := F.sl b o q ho; exact ⟨_, hs, rfl⟩
    · exact ⟨o, F.kp b o q ho, rfl⟩
/-- a change of new objects alone -/
theorem entry_wp {env env0 : Env} {outer l : List Env} {L : Addr} {oe : Obj} {vs : Array Value} {head : Value} {hadNext : Bool} {Q : Unit → Shared → Prop} (hfr : A.frames = some l) (hdw : l.dropWhile (fun x => x.frame != env.frame) = env0 :: outer) (hf0 : env0.frame = some L)
    (FF : hE.FunFrames noH (env0 :: outer)) (hS : ∀ b ∈ (env0 :: outer).filterMap (·.frame), b ∈ S) (F : Fly0 hE S e s.heap) (he : s.heap.get? e = some oe) (hc : oe.cls = .type "ValueError") (hd : oe.data = .fields vs) (hsz : 1 < vs.size) (h : ∀ h', Fly hE S e h' → Q () { s with heap := h' }) :
    wpAny M A (do let a ← PySem.frameOf env; let pl ← entryPlaceOf L hadNext; let b ← EntryCells.newEntry head a .none (rawInt L) .none pl; setField (.ref e) 1 b) Q E s := by
  unfold PySem.frameOf
  refine wpAny_bind (wpAny_bind (wpAny_frameEnvs hfr ?_))
  rw [hdw]
  unfold frameObject
  refine wpAny_bind (wpAny_bind (wpAny_readyFrames_fun (F.ff FF) fun h₁ hs₁ => wpAny_pure ?_))
  rw [hf0]
  refine wpAny_pure (wpAny_bind (wpAny_entryPlaceOf fun pl hpl => ?_))
  unfold EntryCells.newEntry newFields
  refine wpAny_bind (wpAny_newObj_type ?_ (hpl.sizeOk5 _ _ _ _ _))
  have e1 : h₁.get? e = some oe := (hs₁.2.1 e fun hm => F.eS (hS e hm) rfl).trans he
  generalize hto : ({ cls := .type "traceback", dict := none, data := .fields ([head, .ref L, .none, rawInt L, .none] ++ (if pl.isEmpty then List.replicate 6 Value.none else pl)).toArray } : Obj) = to
  have hte : ∃ ts, to.data = .fields ts ∧ 3 < ts.size := ⟨_, by rw [← hto], by simp⟩
  have htf : to.isFreed = false := by obtain ⟨ts, q, _⟩ := hte; exact Obj.isFreed_of_fields q
  have e2 : (h₁.push to).get? e = some oe := Heap.get?_push_of_some to e1
  have hT : (h₁.push to).get? h₁.objs.size = some to := Heap.get?_push_size _ htf
  have hTe : h₁.objs.size ≠ e := Nat.ne_of_gt (Heap.lt_size e1)
  refine wpAny_setField e2 hd hsz (h _ ?_)
  have hd3 := Obj.data_mapFields hd (·.setIfInBounds 1 (Value.ref h₁.objs.size))
  have keep : ∀ b o, b ≠ e → h₁.get? b = some o → ((h₁.push to).update e (Obj.mapFields (·.setIfInBounds 1 (Value.ref h₁.objs.size)))).get? b = some o := fun b o q ho => by
    rw [Heap.get?_update_other _ _ (Ne.symm q)]; exact Heap.get?_push_of_some _ ho
  have nE : ∀ b o, hE.get? b = some o → b ≠ e := fun b o ho q => by rw [q, F.ne] at ho; cases ho
  have back : hE.get? h₁.objs.size = none := by
    cases q : hE.get? h₁.objs.size with
    | none => rfl
    | some o =>
      have : ∃ o', h₁.get? h₁.objs.size = some o' := by
        by_cases z : h₁.objs.size ∈ S
        · obtain ⟨sl, y⟩ := F.sl _ o z q
          obtain ⟨sl2, y2⟩ := hs₁.2.2 _ _ y; exact ⟨_, y2⟩
        · obtain ⟨sl2, y2⟩ := hs₁.2.2 _ _ (F.kp _ o z q); exact ⟨_, y2⟩
      obtain ⟨o', ho'⟩ := this
      exact absurd (Heap.lt_size ho') (Nat.lt_irrefl _)
  refine ⟨⟨fun b o q ho => keep b o (nE b o ho) ((hs₁.2.1 b fun hm => q (hS b hm)).trans (F.kp b o q ho)), fun b o q ho => ?_, F.lv, F.ne⟩, ?_⟩
  · obtain ⟨sl, y⟩ := F.sl b o q ho
    obtain ⟨sl2, y2⟩ := hs₁.2.2 _ _ y
    exact ⟨sl2, keep b _ (nE b o ho) y2⟩
  · obtain ⟨ts, q1, q2⟩ := hte
    refine ⟨_, _, h₁.objs.size, to, ts, Heap.get?_update_self _ e2 (Obj.isFreed_of_fields hd3), (Obj.cls_mapFields _ _).trans hc, hd3, by simpa using hsz, by simp [hsz], back, hTe, ?_, q1, q2⟩
    rw [Heap.get?_update_other _ _ (Ne.symm hTe)]; exact hT

/-- a change of the head's mark -/
theorem Fly.mark {h : Heap} (F : Fly hE S e h) {T : Addr} {oT : Obj} {ts : Array Value} {oe : Obj} {vs : Array Value} {v : Value} (he : h.get? e = some oe) (hc : oe.cls = .type "ValueError") (hd : oe.data = .fields vs) (h1 : vs[1]? = some (.ref T)) (nT : hE.get? T = none) (hTe : T ≠ e) (hT : h.get? T = some oT) (hdT : oT.data = .fields ts) (hsz : 3 < ts.size) :
    Fly hE S e (h.update T (Obj.mapFields (·.setIfInBounds 3 v))) ∧ (h.update T (Obj.mapFields (·.setIfInBounds 3 v))).get? e = some oe := by
  have ot : ∀ b, b ≠ T → (h.update T (Obj.mapFields (·.setIfInBounds 3 v))).get? b = h.get? b := fun b q => Heap.get?_update_other _ _ (Ne.symm q)
  have nE : ∀ b o, hE.get? b = some o → b ≠ T := fun b o ho q => by rw [q, nT] at ho; cases ho
  have hd3 := Obj.data_mapFields hdT (·.setIfInBounds 3 v)
  refine ⟨⟨⟨fun b o q ho => (ot b (nE b o ho)).trans (F.kp b o q ho), fun b o q ho => ?_, F.lv, F.ne⟩, ⟨oe, vs, T, _, _, (ot e (Ne.symm hTe)).trans he, hc, hd, (Array.getElem?_eq_some_iff.mp h1).1, h1, nT, hTe, Heap.get?_update_self _ hT (Obj.isFreed_of_fields hd3), hd3, by simpa using hsz⟩⟩, (ot e (Ne.symm hTe)).trans he⟩
  obtain ⟨sl, y⟩ := F.sl b o q ho
  exact ⟨sl, (ot b (nE b o ho)).trans y⟩
theorem note_wp {env env0 : Env} {outer l : List Env} {L : Addr} {Q : Unit → Shared → Prop} (hfr : A.frames = some l) (hdw : l.dropWhile (fun x => x.frame != env.frame) = env0 :: outer) (hf0 : env0.frame = some L) (hf : env.frame = some L)
    (FF : hE.FunFrames noH (env0 :: outer)) (hS : ∀ b ∈ (env0 :: outer).filterMap (·.frame), b ∈ S) (F : Fly hE S e s.heap) (h : ∀ h', Fly hE S e h' → Q () { s with heap := h' }) : wpAny M A (noteFrame (.ref e) env) Q E s := by
  obtain ⟨oe, vs, T, oT, ts, he, hc, hd, hsz, h1, nT, hTe, hT, hdT, hsT⟩ := F.ex
  unfold noteFrame
  simp only [hf]
  refine wpAny_bind (wpAny_field he hd h1 ?_)
  rw [if_pos (show (Value.ref T != Value.none) = true from by simp)]
  refine wpAny_bind (wpAny_field hT hdT (x := ts[3]) (Array.getElem?_eq_getElem hsT) ?_)
  by_cases q : (ts[3] == rawInt L) = true
  · rw [if_pos q]; exact wpAny_pure (h s.heap F)
  · rw [if_neg q]
    obtain ⟨F', he'⟩ := F.mark (v := .none) he hc hd h1 nT hTe hT hdT hsT
    refine wpAny_bind (wpAny_setField hT hdT hsT ?_)
    exact entry_wp (s := { s with heap := _ }) hfr hdw hf0 FF hS F'.toFly0 he' hc hd hsz h
theorem note_first {env env0 : Env} {outer l : List Env} {L : Addr} {oe : Obj} {vs : Array Value} {Q : Unit → Shared → Prop} (hfr : A.frames = some l) (hdw : l.dropWhile (fun x => x.frame != env.frame) = env0 :: outer) (hf0 : env0.frame = some L) (hf : env.frame = some L)
    (FF : hE.FunFrames noH (env0 :: outer)) (hS : ∀ b ∈ (env0 :: outer).filterMap (·.frame), b ∈ S) (F : Fly0 hE S e s.heap) (he : s.heap.get? e = some oe) (hc : oe.cls = .type "ValueError") (hd : oe.data = .fields vs) (h1 : vs[1]? = some .none) (h : ∀ h', Fly hE S e h' → Q () { s with heap := h' }) : wpAny M A (noteFrame (.ref e) env) Q E s := by
  unfold noteFrame
  simp only [hf]
  refine wpAny_bind (wpAny_field he hd h1 ?_)
  rw [if_neg (by decide)]
  exact entry_wp hfr hdw hf0 FF hS F he hc hd (Array.getElem?_eq_some_iff.mp h1).1 h
/-- the mark is set -/
theorem flight_wp {f : Option Addr} {Q : Unit → Shared → Prop} (F : Fly hE S e s.heap) (h : ∀ h', Fly hE S e h' → Q () { s with heap := h' }) : wpAny M A (setFlight (.ref e) f) Q E s := by
  obtain ⟨oe, vs, T, oT, ts, he, hc, hd, hsz, h1, nT, hTe, hT, hdT, hsT⟩ := F.ex
  unfold setFlight
  refine wpAny_bind (wpAny_field he hd h1 ?_)
  rw [if_pos (show (Value.ref T != Value.none) = true from by simp)]
  exact wpAny_setField hT hdT hsT (h _ (F.mark he hc hd h1 nT hTe hT hdT hsT).1)
theorem leaving_wp {env env0 : Env} {outer l : List Env} {L : Addr} {Q : Unit → Shared → Prop} (hfr : A.frames = some l) (hdw : l.dropWhile (fun x => x.frame != env.frame) = env0 :: outer) (hf0 : env0.frame = some L) (hf : env.frame = some L)
    (FF : hE.FunFrames noH (env0 :: outer)) (hS : ∀ b ∈ (env0 :: outer).filterMap (·.frame), b ∈ S) (F : Fly hE S e s.heap) (h : ∀ h', Fly hE S e h' → Q () { s with heap := h' }) : wpAny M A (leaving env (.ref e)) Q E s := by
  unfold leaving
  exact wpAny_bind (note_wp hfr hdw hf0 hf FF hS F fun h' F' => flight_wp (s := { s with heap := h' }) F' h)
/-- what stands before the mark: the head is there -/
theorem came_wp {f : Option Addr} {Q : Unit → Shared → Prop} {what : String} (F : Fly hE S e s.heap) (h : ∀ h', Fly hE S e h' → Q () { s with heap := h' }) : wpAny M A (do
    if (← field (.ref e) 1) == Value.none then unsupported what
    setFlight (.ref e) f) Q E s := by
  obtain ⟨oe, vs, T, oT, ts, he, hc, hd, hsz, h1, nT, hTe, hT, hdT, hsT⟩ := F.ex
  refine wpAny_bind (wpAny_field he hd h1 ?_)
  rw [if_neg (show ¬ (Value.ref T == Value.none) = true from by simp)]
  exact flight_wp F h
end
end Mine
end
section
open PySem PySem.W PyProof.Rows PySem.Calls PySem.Spec
set_option linter.unusedVariables false
set_option linter.unusedSectionVars false
set_option maxRecDepth 1000000
namespace Mine
variable [Inhabited Rho]
noncomputable def g4Sh (x : (Nat → Pos) × Nat × Nat × PySem.Str × Stmt) : Prop := genB = [genB.getD 0 (.Pass default), .For (.Name "interval" (x.1 0)) (.Name "grouping" (x.1 1)) [gS 0, gS 1, .Expr (.Yield (some (.Name "interval" (x.1 2))) (x.1 3)) (x.1 4), gS 3] [] (x.1 5)] ∧
    gS 1 = .If (tstE (gS 1)) [.If (.Compare (.Name "last_interval" (x.1 6)) [.Is] [.Constant .none x.2.1 (x.1 7)] (x.1 8)) [.Raise (some (.Call (.Name "ValueError" (x.1 10)) [.Constant (.str x.2.2.2.1) x.2.2.1 (x.1 11)] [] (x.1 12))) none (x.1 13)] [] (x.1 9), x.2.2.2.2] [] (x.1 14)
omit [Inhabited Rho] in
theorem g4_ex : ∃ x, g4Sh x :=
  ⟨(fun i => [_, _, _, _, _, _, _, _, _, _, _, _, _, _, _].getD i default, _, _, _, _), rfl, rfl⟩
noncomputable def g4X : (Nat → Pos) × Nat × Nat × PySem.Str × Stmt := g4_ex.choose
omit [Inhabited Rho] in
theorem gen_shape4 : g4Sh g4X := g4_ex.choose_spec

/-- the generator ends in the exception -/
noncomputable def R4 (h₀ : Heap) (W : Ow) (S : List Addr) : GenEnd := fun _ s₀ r s' => ∃ e hE h tk, r = .error (.ref e) ∧ s' = { s₀ with heap := h, toks := tk } ∧ Fly hE S e h ∧ KW W s₀.heap hE ∧ Kp h₀ hE
section
variable {prog : Program} {w : World} {A : Around} {h₀ : Heap} {W : Ow} {ge : Env} {I a : Addr} {its : Array Value} {s₀ s : Shared}
theorem r_5 (l : Addr) : exS e10 [] x5 ((cxa l).set "interval" (.int 0)) (gS 0) = some ((cxa l).set "interval" (.int 0), none) ∧ tst e10 ((cxa l).set "interval" (.int 0)) (tstE (gS 1)) = some true :=
  ⟨by kernel_rfl, by kernel_rfl⟩
theorem seg_bad {Y : Protocol} {n : Nat} {S : List Addr} {l : List Env} {t : Tok} {p p1 p3 p4 p5 : Pos} (hh : A.handled = none) (hd : A.depth ≤ 350) (hu : A.units ≤ 50) (go : GO h₀ W I a) (T : TopK w h₀) (B : Bg prog w gl2 h₀)
    (fr : ∃ h tk, s = { s₀ with heap := h, toks := tk } ∧ KW W s₀.heap h) (g : GS h₀ W ge I a its 0 (cxa a) s.heap) (hx : its[0]? = some (.int 0 t))
    (hfr : A.frames = some l) (hgf : ge.frame = some ge.locals) (hFF : ∀ hE : Heap, Kp h₀ hE → (∃ m, hE.Ns ge.locals m) → hE.FunFrames noH (ge :: l)) (hS : ∀ b ∈ (ge :: l).filterMap (·.frame), b ∈ S) (hSl : ∀ b ∈ S, b = ge.locals ∨ ∃ o, h₀.get? b = some o) :
    Seg (model prog w) A (R4 h₀ W S) Y n s₀ (.forLoop (.Name "interval" p1) (.ref I) [gS 0, gS 1, .Expr (.Yield (some (.Name "interval" p3)) p4) p5, gS 3] [] ge) ((model prog w).den (.forLoop (.Name "interval" p1) (.ref I) [gS 0, gS 1, .Expr (.Yield (some (.Name "interval" p3)) p4) p5, gS 3] [] ge)) (frF ge p) s := by
  obtain ⟨_, h1⟩ := gen_shape4
  have hA := over2 (A := A) hh hd hu (b := genB) (b' := [gS 0, gS 1, .Expr (.Yield (some (.Name "interval" p3)) p4) p5, gS 3]) (env := ge) (x := .Name "interval" p1) (it := .ref I) (k := forK ge (Kn ge) (Hf ge) id id) (g := id false) (l := id []) (p := p)
  have hfo : (A.over (.forLoop (.Name "interval" p1) (.ref I) [gS 0, gS 1, .Expr (.Yield (some (.Name "interval" p3)) p4) p5, gS 3] [] ge) (frF ge p)).frames = some (ge :: l) := by
    unfold Around.over
    simp only [hfr]
    rfl
  have hdw : ∀ l : List Env, (ge :: l).dropWhile (fun x => x.frame != ge.frame) = ge :: l := fun l => by simp [List.dropWhile]
  obtain ⟨hs0, tk0, rfl, K0⟩ := fr
  refine seg_forLoop (wpAny_pyNext_list_item g.it g.li hx fun h1' it1 sb1 => ?_)
  have g1 := g.turn go it1 sb1
  obtain ⟨ad1, e1⟩ := g1.er
  have K1 : KW W s₀.heap h1' := K0.trans fun b wb o q => (sb1.2 b fun z => go.iw (z ▸ wb)).trans q
  refine wpAny_assign_Name (store_wp (s := { s₀ with heap := h1', toks := tk0 }) e1 (m_int a) fun h2 tk2 z => ?_)
  obtain ⟨e2', T2, K2⟩ := e1.set (m_int a) (.int 0 t : Mine.R _ h1' (.int 0) _) z
  have pk := p3_ok (prog := prog) (w := w) (n := 0) (hB := h₀)
  have xo := xsN_sound (n := 0) (evN_sound B pk 10) (evN_star P3 10) B (mu := []) 5
  refine seg_plain (wp_weak hA (ex_sound (evN_sound B pk 10) (evN_star P3 10) B xo.1 xo.2 (Kp.refl _) e2' (r_5 a).1 (s := { s₀ with heap := h2, toks := tk2 }) _ _ fun fl ad3 h3 tk3 e3 T3 K3 F3 => ?_))
  have : fl = .next := F3
  subst this
  have e0 : ∀ {K : Flow → Sem PySem.Fin} {H : Value → Sem PySem.Fin} {gd lv} (rest : List Stmt), (execs (gS 1 :: rest) ge).wrap K H gd lv = (execs (.If (tstE (gS 1)) [.If (.Compare (.Name "last_interval" (g4X.1 6)) [.Is] [.Constant .none g4X.2.1 (g4X.1 7)] (g4X.1 8)) [.Raise (some (.Call (.Name "ValueError" (g4X.1 10)) [.Constant (.str g4X.2.2.2.1) g4X.2.2.1 (g4X.1 11)] [] (g4X.1 12))) none (g4X.1 13)] [] (g4X.1 9), g4X.2.2.2.2] [] (g4X.1 14) :: rest) ge).wrap K H gd lv := fun rest => by rw [← h1]
  dsimp only
  rw [e0]
  refine seg_IfT (wp_weak hA (tst_sound (evN_sound B pk 10) (Kp.refl _) e3 (s := { s₀ with heap := h3, toks := tk3 }) (r_5 a).2 _ _ fun h4 tk4 k4 => ⟨rfl, ?_⟩))
  have e4 := e3.kp k4
  obtain ⟨v, lk, rv⟩ := e4.vars ("last_interval" : PySem.Str) .non rfl
  obtain rfl := rv.non_v
  refine seg_plain (wpAny_If (wpAny_isTrue_Compare1 (wpAny_Name (load_lk e4.kind lk ?_) (by decide +kernel)) rfl))
  refine wpAny_Constant_none (wpAny_is_self rfl (wpAny_truthy_bool ?_))
  simp only [if_true]
  refine wpAny_execs_cons (wpAny_Raise_call F.excCall_ValueError F.excRaise_ValueError (by exact hh) rfl ?_)
  refine bi_name (s := { s₀ with heap := h4, toks := tk4 }) (T.keeps e4.base) (v := .type "ValueError") rfl rfl (by decide +kernel) e4 rfl (by decide +kernel) ⟨rfl, ?_⟩
  refine args_one (n := 0) rfl (wpAny_Constant_str ⟨rfl, by rw [sizeLine_eq]; exact Nat.le_of_ble_eq_true rfl, fun h' e hm => ?_⟩)
  dsimp only at hm ⊢
  obtain ⟨tt, gt, _, _⟩ := hm.there
  have liveS : ∀ b, b ∈ S → ∃ o, h4.get? b = some o := fun b hb => by
    rcases hSl b hb with rfl | ⟨o, ho⟩
    · obtain ⟨m, o, _, _, ho, _⟩ := e4.ns; exact ⟨o, ho⟩
    · exact ⟨o, e4.base b o ho⟩
  have F0 : Fly0 h4 S e h' := ⟨fun b o _ ho => hm.keeps b o ho, fun b o _ ho => ⟨o.slots, hm.keeps b o ho⟩, liveS, hm.new⟩
  have FF := hFF h4 e4.base e4.ns
  have K4 : KW W s₀.heap h4 := ((K1.trans fun b wb => K2 b (.inl wb)).trans fun b wb => K3 b (.inl wb)).trans (KW.of_kp k4)
  have b4 := e4.base
  refine seg_wrap (wpAny_bind (note_first (s := { s₀ with heap := h', toks := tk4 + 1 }) hfo (hdw l) hgf hgf FF hS F0 gt rfl rfl rfl fun h5 F5 => wpAny_theTreesLotGoes ?_))
  refine seg_leaf (r := .error (.ref e)) ?_
  have eK : forK ge (Kn ge) (Hf ge) id id (.error (.ref e)) = (do
    if (← field (.ref e) 1) == Value.none then unsupported "frame.own-activation:exception-without-traceback"
    setFlight (.ref e) ge.frame : Sem Unit).wrap (fun _ => Hf ge (.ref e)) (Hf ge) id id := by
    show (Sem.onRaise (.raise (.ref e)) _).wrap _ _ _ _ = _
    rw [Sem.onRaise_eq_wrap]
    show (Sem.bind _ _).wrap _ _ _ _ = _
    rw [Sem.bind_eq_wrap, Sem.wrap_wrap]
    rfl
  rw [eK]
  refine seg_wrap (came_wp (s := { s₀ with heap := h5, toks := tk4 + 1 }) F5 fun h6 F6 => ?_)
  have hfo2 : (A.over (.func genB ge) []).frames = some (ge :: l) := by
    unfold Around.over
    simp only [hfr]
    rfl
  refine seg_wrap (leaving_wp (s := { s₀ with heap := h6, toks := tk4 + 1 }) hfo2 (hdw l) hgf hgf FF hS F6 fun h7 F7 => ?_)
  exact seg_end (r := .error (.ref e)) ⟨e, h4, h7, tk4 + 1, rfl, rfl, F7, K4, b4⟩
end
end Mine
end
section
open PySem PySem.W PyProof.Rows PySem.Calls PySem.Spec
set_option linter.unusedVariables false
set_option linter.unusedSectionVars false
set_option maxRecDepth 1000000
namespace Mine
variable [Inhabited Rho]
section
variable {prog : Program} {w : World} {A : Around} {h₀ : Heap} {W : Ow} {ge : Env} {a : Addr} {its : Array Value} {s : Shared} {ad : PySem.Str → Addr}
theorem gen4 {S : List Addr} {l : List Env} {t : Tok} {Y : Protocol} {n : Nat} (hh : A.handled = none) (hd : A.depth ≤ 350) (hu : A.units ≤ 50) (w0 : ∀ b, W b → h₀.get? b = none) (T : TopK w h₀) (B : Bg prog w gl2 h₀) (er : ER h₀ W ad s.heap ge (gcx a)) (il : h₀.IsList a its) (hx : its[0]? = some (.int 0 t))
    (hfr : A.frames = some l) (hgf : ge.frame = some ge.locals) (hFF : ∀ hE : Heap, Kp h₀ hE → (∃ m, hE.Ns ge.locals m) → hE.FunFrames noH (ge :: l)) (hS : ∀ b ∈ (ge :: l).filterMap (·.frame), b ∈ S) (hSl : ∀ b ∈ S, b = ge.locals ∨ ∃ o, h₀.get? b = some o) :
    Seg (model prog w) A (R4 h₀ W S) Y n s (.func genB ge) ((model prog w).den (.func genB ge)) [] s := by
  obtain ⟨hB, _⟩ := gen_shape4
  refine seg_head hh hd hu w0 B er il hB fun I h tk p go K g => ?_
  exact seg_bad hh hd hu go T B ⟨h, tk, rfl, K⟩ g hx hfr hgf hFF hS hSl
theorem sub_VE : isSubtype (.type "ValueError") (.type "StopIteration") = pure false := by
  first | rfl | kernel_rfl | decide +kernel

noncomputable def erase (h : Heap) (z : Addr) : Heap := h.update z fun _ => { cls := .none, data := .freed }
theorem erase_ne {h : Heap} {z b : Addr} (q : b ≠ z) : (erase h z).get? b = h.get? b := Heap.get?_update_other _ _ (Ne.symm q)
theorem erase_self {h : Heap} {z : Addr} : (erase h z).get? z = none := by
  cases q : (erase h z).get? z with
  | none => rfl
  | some o =>
    obtain ⟨e, f⟩ := Heap.get?_some_iff.mp q
    obtain ⟨objs, l⟩ := h
    unfold erase Heap.update at e
    simp [Array.getElem?_modify] at e
    obtain ⟨_, _, rfl⟩ := e
    cases f
theorem erase_none {h : Heap} {z b : Addr} (q : h.get? b = none) : (erase h z).get? b = none := by
  by_cases e : b = z
  · subst e; exact erase_self
  · rw [erase_ne e]; exact q
theorem Fly.off {hE h h' : Heap} {S : List Addr} {e z : Addr} (F : Fly hE S e h) (hz : ∃ o, hE.get? z = some o) (nS : z ∉ S) (k : ∀ c o, c ≠ z → h.get? c = some o → h'.get? c = some o) : Fly (erase hE z) S e h' := by
  obtain ⟨oz, hz⟩ := hz
  have nz : ∀ b, hE.get? b = none → b ≠ z := fun b q y => by rw [y, hz] at q; cases q
  obtain ⟨oe, vs, T, oT, ts, he, hc, hd, hsz, h1, nT, hTe, hT, hdT, hsT⟩ := F.ex
  refine ⟨⟨fun b o q ho => ?_, fun b o q ho => ?_, fun b q => ?_, erase_none F.ne⟩, oe, vs, T, oT, ts, k _ _ (nz _ F.ne) he, hc, hd, hsz, h1, erase_none nT, hTe, k _ _ (nz _ nT) hT, hdT, hsT⟩
  · have y : b ≠ z := fun y => by rw [y, erase_self] at ho; cases ho
    rw [erase_ne y] at ho
    exact k b o y (F.kp b o q ho)
  · have y : b ≠ z := fun y => nS (y ▸ q)
    rw [erase_ne y] at ho
    obtain ⟨sl, w⟩ := F.sl b o q ho
    exact ⟨sl, k b _ y w⟩
  · have y : b ≠ z := fun y => nS (y ▸ q)
    rw [erase_ne y]; exact F.lv b q
end
end Mine
end
section
open PySem PySem.W PyProof.Rows PySem.Calls PySem.Spec
set_option linter.unusedVariables false
set_option linter.unusedSectionVars false
set_option maxRecDepth 1000000
namespace Mine
variable [Inhabited Rho]
theorem sub_VE2 : isSubtype (.type "ValueError") (.type "StopIteration") = pure false := sub_VE
section
variable {prog : Program} {w : World} {A : Around} {hs : Heap} {its : Array Value} {a z TI TO i1 i2 C D : Addr} {cenv ge : Env} {h₀ : Heap} {W : Ow} {s3 : Shared} {Rr : Result → Shared → Prop} {p1 p2 p3 p4 q1 q2 q3 q4 q5 q6 q7 q8 pos : Pos} {kk k : Nat}
theorem genLeft_wp {e g : Addr} {i : Nat} {hE : Heap} {S : List Addr} {s : Shared} {E : Value → Shared → Prop} (hg : s.heap.IsGen g i) (F : Fly hE S e s.heap) (h : E (.ref e) s) : wpAny (model prog w) A (Builtin.Generator.genLeft (.ref g) (.ref e) : Sem PySem.Fin) (fun _ _ => False) E s := by
  obtain ⟨oe, vs, T, oT, ts, he, hc, _⟩ := F.ex
  obtain ⟨o, nm, qn, ho, hgc, hgd, hgs⟩ := hg
  unfold Builtin.Generator.genLeft Builtin.Generator.madeByALambda
  refine wpAny_bind (wpAny_bind (wpAny_load ho (wpAny_pure ?_)))
  refine wpAny_bind (wpAny_isInstance (T := "ValueError") (b := false) ⟨oe, he, hc⟩ sub_VE ?_)
  simp only [Bool.and_false, Bool.false_eq_true, if_false]
  unfold Builtin.Generator.genEscaped
  refine wpAny_bind (wpAny_isInstance (T := "ValueError") (b := false) ⟨oe, he, hc⟩ sub_VE ?_)
  simp only [Bool.not_false, if_true]
  exact wpAny_bind (wpAny_throw h)
theorem comp_raise {S : List Addr} {l : List Env} {L1 : Addr} {env1 : Env} {outer : List Env} (T : TopK w hs) (hh : A.handled = none) (hd : A.depth ≤ 340) (hu : A.units ≤ 40) (R : Ready prog w hs its a z TI TO i1 i2 C D cenv ge h₀ W s3.heap) (hg : s3.gens = #[.fresh (.func genB ge)])
    (hl : l = env1 :: outer) (hfr : A.frames = some l) (h1f : env1.frame = some L1) (hcf : cenv.frame = some L1) {Y : Protocol} (hY : ∀ n s v s' k, ¬ Y n s v s' k)
    (hFF : ∀ hE : Heap, Kp h₀ hE → (∃ m, hE.Ns ge.locals m) → hE.FunFrames noH (ge :: l)) (hFT : ∀ hE : Heap, Kp h₀ hE → hE.FunFrames noH l) (hS : ∀ b ∈ (ge :: l).filterMap (·.frame), b ∈ S) (hSt : ∀ b ∈ l.filterMap (·.frame), b ∈ S) (hSW : ∀ b ∈ S, ¬ W b) (hSl : ∀ b ∈ S, b = ge.locals ∨ ∃ o, h₀.get? b = some o)
    (first : ∀ ad s', ER h₀ W ad s'.heap ge (gcx a) → Seg (model prog w) A.in1.in1 (R4 h₀ W S) Y 0 s' (.func genB ge) ((model prog w).den (.func genB ge)) [] s')
    (hend : ∀ e hE h' tk gens', Fly hE S e h' → (∀ b o, hs.get? b = some o → hE.get? b = some o) → (∃ m, h'.Ns C m) → AllBare gens' → Rr (.error (.ref e)) { s3 with heap := h', toks := tk, gens := gens' }) :
    codeAny (model prog w) A (.compLoop (compE p1 p2 p3 p4 q1 q2 q3 q4 q5 q6 q7 q8 pos kk k) 0 (.ref z) (.ref D) cenv) Rr s3 := by
  have X := R.X
  have L := R.L
  refine codeAny_of_tree ?_
  show wpAny _ A ((compTurn _ 0 (.ref z) (.ref D) cenv).onRaise (fun x => do noteFrame x cenv; theTreesLotGoes x)) _ _ _
  refine wpAny_noted (turn_last rfl rfl ?_)
  obtain ⟨a0, b0, hto⟩ := L.to
  have hT : s3.TypeIs (.ref z) "zip" := ⟨_, L.z, rfl⟩
  unfold pyNext
  refine wpAny_bind (wpAny_attempt (wpAny_callSpecial?_slot (name := Str.ofString "__next__") hT F.slot_zip_next (wpAny_call_entry F.slot_zip_next hT F.entry_zip_next
    (zg_next (A := A.in1) (s := s3) X.zb L.z L.ti hto L.r (by omega) fun g3 tk t z3 T3 r3 kk3 => ?_) (F.args_zip_next_1 _))))
  have hsub : ∀ b, (b = z ∨ b = TO ∨ b = i1) → W b := fun b q => R.G.all b (by rcases q with q | q | q <;> simp [q])
  have k3 : ∀ b o, s3.heap.get? b = some o → ¬ W b → g3.get? b = some o := fun b o e nw => kk3 b o (fun q => nw (hsub b (.inl q))) (fun q => nw (hsub b (.inr (.inl q)))) (fun q => nw (hsub b (.inr (.inr q)))) e
  have w3 : ∀ b, W b → ∃ o, g3.get? b = some o := fun b wb => by
    by_cases q : b = z ∨ b = TO ∨ b = i1
    · rcases q with rfl | rfl | rfl
      · exact ⟨_, z3⟩
      · exact ⟨_, T3⟩
      · exact ⟨_, r3⟩
    · obtain ⟨o, ho⟩ := R.hw b wb
      exact ⟨o, kk3 b o (fun y => q (.inl y)) (fun y => q (.inr (.inl y))) (fun y => q (.inr (.inr y))) ho⟩
  have kp3 : Kp hs g3 := fun b o e => kk3 b o (fun q => by rw [q, X.nz] at e; cases e) (fun q => by rw [q, X.nTO] at e; cases e) (fun q => by rw [q, X.ni] at e; cases e) (L.kp b o e)
  have g3g : g3.IsGen i2 0 := let ⟨o, nm, qn, ho, rr⟩ := L.g; ⟨o, nm, qn, kk3 _ _ X.gz X.gTO X.gi ho, rr⟩
  obtain ⟨ad, er⟩ := R.er
  refine nextOf_gen (A := A.in1) (n := 0) (gs := .fresh (.func genB ge)) (s := { s3 with heap := g3, toks := tk }) hh (T.keeps kp3).lim (by show A.depth < 1000; omega) g3g (by show s3.gens[0]? = _; rw [hg]; rfl)
    ⟨rfl, first ad _ (er.frame W (fun b wb => ⟨wb, R.G.w0 b wb⟩) k3 w3)⟩ (fun v s₁ gs' hb hy => (hY _ _ _ _ _ hy).elim) fun x s₁ hx => ?_
  obtain ⟨e, hE, h, tk', rfl, rfl, Fl, KE, bE⟩ := hx
  have zS : z ∉ S := fun q => hSW z q (R.G.all z (by simp))
  have CS : C ∉ S := fun q => hSW C q (R.G.all C (by simp))
  have gS' : i2 ∉ S := fun q => hSW i2 q (R.G.all i2 (by simp))
  have inE : ∀ b o, W b → g3.get? b = some o → hE.get? b = some o := fun b o wb ho => KE b wb o ho
  have gE : h.IsGen i2 0 := let ⟨o, nm, qn, ho, rr⟩ := g3g; ⟨o, nm, qn, Fl.kp _ _ gS' (inE _ _ (R.G.all i2 (by simp)) ho), rr⟩
  have zE : hE.get? z = some _ := inE z _ (R.G.all z (by simp)) z3
  refine .inr ⟨.ref e, rfl, genLeft_wp (s := Shared.setGen { s3 with heap := h, toks := tk', gens := _ } 0 .finished) gE Fl ⟨Fl.kp z _ zS zE, fun h5 k5 => ?_⟩⟩
  have F5 := Fl.off ⟨_, zE⟩ zS k5
  obtain ⟨oe, vs, T5, oT, ts, he5, hc5, _⟩ := F5.ex
  refine wpAny_bind (wpAny_isInstance (T := "ValueError") (b := false) ⟨oe, he5, hc5⟩ sub_VE ?_)
  simp only [Bool.false_eq_true, if_false]
  refine wpAny_throw ?_
  show wpAny _ A (noteFrame (.ref e) cenv) (fun _ s'' => Rr (.error (.ref e)) s'') _ _
  have FT : (erase hE z).FunFrames noH l := (hFT hE bE).of_keeps fun b o ho hd => by
    by_cases q : b = z
    · subst q; rw [zE] at ho; cases ho; exact absurd rfl (hd _)
    · exact ⟨o, (erase_ne q).trans ho, rfl⟩
  obtain ⟨m, oc, es, ep, hoc, pc⟩ := L.c
  have cE : (erase hE z).get? C = some oc := (erase_ne X.cz).trans (inE C _ (R.G.all C (by simp)) (kk3 _ _ X.cz X.cTO X.ci hoc))
  subst hl
  refine note_wp (s := { s3 with heap := h5, toks := tk', gens := _ }) hfr (env0 := env1) (outer := outer) (by simp [List.dropWhile, h1f, hcf]) h1f hcf FT hSt F5 fun h6 F6 => ?_
  refine hend e (erase hE z) h6 tk' _ F6 (fun b o ho => (erase_ne fun q => by rw [q, X.nz] at ho; cases ho).trans (bE _ _ (R.G.kp b o ho))) ⟨m, oc, es, ep, F6.kp _ _ CS cE, pc⟩ (bare_set (bare_set (by rw [hg]; intro y hy; simp at hy; rw [hy]; rfl) rfl) rfl)
end
end Mine
end
section
open PySem PySem.W PyProof.Rows PySem.Calls PySem.Spec
set_option linter.unusedVariables false
set_option linter.unusedSectionVars false
set_option maxRecDepth 1000000
namespace Mine
variable [Inhabited Rho]
section
variable {prog : Program} {w : World} {A : Around} {E : Value → Shared → Prop} {s : Shared} {h₁ : Heap} {ad : PySem.Str → Addr} {env : Env} {a : Addr}
theorem Fly.offD {hE h h' : Heap} {S : List Addr} {e C : Addr} (F : Fly hE S e h) (hc : ∃ m, h.Ns C m) (CS : C ∉ S) (k : ∀ c o, c ≠ C → h.get? c = some o → h'.get? c = some o) : Fly (erase hE C) S e h' := by
  obtain ⟨m, oc, es, ep, hoc, hdc, _⟩ := hc
  obtain ⟨oe, vs, T, oT, ts, he, hcl, hd, hsz, h1, nT, hTe, hT, hdT, hsT⟩ := F.ex
  have eC : e ≠ C := fun q => by rw [q, hoc] at he; cases he; rw [hdc] at hd; cases hd
  have TC : T ≠ C := fun q => by rw [q, hoc] at hT; cases hT; rw [hdc] at hdT; cases hdT
  refine ⟨⟨fun b o q ho => ?_, fun b o q ho => ?_, fun b q => ?_, erase_none F.ne⟩, oe, vs, T, oT, ts, k _ _ eC he, hcl, hd, hsz, h1, erase_none nT, hTe, k _ _ TC hT, hdT, hsT⟩
  · have y : b ≠ C := fun y => by rw [y, erase_self] at ho; cases ho
    rw [erase_ne y] at ho
    exact k b o y (F.kp b o q ho)
  · have y : b ≠ C := fun y => CS (y ▸ q)
    rw [erase_ne y] at ho
    obtain ⟨sl, w⟩ := F.sl b o q ho
    exact ⟨sl, k b _ y w⟩
  · have y : b ≠ C := fun y => CS (y ▸ q)
    rw [erase_ne y]; exact F.lv b q
theorem sizes_comp4 {p1 p2 p3 p4 q1 q2 q3 q4 q5 q6 q7 q8 pos : Pos} {kk k : Nat} {Q : Value → Shared → Prop} {its : Array Value} (hh : A.handled = none) (hd : A.depth ≤ 340) (T : TopK w s.heap) (er : ER h₁ (fun _ => False) ad s.heap env (scx a)) (hg0 : s.gens = #[]) (il : s.heap.IsList a its)
    {outer : List Env} {t : Tok} (hu : A.units ≤ 40) (hx : its[0]? = some (.int 0 t)) (hfr : A.frames = some (env :: outer)) (h1f : env.frame = some env.locals) (hFT : ∀ hE : Heap, Kp s.heap hE → hE.FunFrames noH (env :: outer)) (hSt : ∀ b ∈ (env :: outer).filterMap (·.frame), ∃ o, s.heap.get? b = some o)
    (hQ : ∀ e S hE h' tk' gens', AllBare gens' → Fly hE S e h' → Kp s.heap hE → (∀ b ∈ (env :: outer).filterMap (·.frame), b ∈ S) → (∀ b ∈ S, s.heap.get? b = none ∨ b ∈ (env :: outer).filterMap (·.frame)) → E (.ref e) { s with heap := h', toks := tk', gens := gens' }) :
    wpAny (model prog w) A (eval (compE p1 p2 p3 p4 q1 q2 q3 q4 q5 q6 q7 q8 pos kk k) env) Q E s := by
  rw [eval_ListComp]
  refine wpAny_comprehension_free (cl := []) rfl (fun _ => rfl) rfl rfl (fun x hx hl => ?_) ?_
  · have : ∀ x ∈ compSc.names, x.2 = .local → compSc.names.lookup x.1 = some .local := by decide +kernel
    exact this x hx hl
  show wpAny (model prog w) A (eval (itE q1 q2 q3 q4 q5 q6 q7 q8 k) env) _ E s
  refine iter_eval hd T er hg0 fun hr hg ge h4 tk k0 k1 eg hco hgf k2 ig z4 ti4 to4 r4 sz4 => ?_
  refine wpAny_pyIter_zip (s := { s with heap := h4, toks := tk, gens := _ }) z4 ?_
  refine wpAny_newObj_type (new_env ?_)
  dsimp only
  rw [show (h4.push { cls := .type "list", dict := none, data := .seq ([] : List Value).toArray }).objs.size = h4.objs.size + 1 from Heap.size_push .., sz4]
  have hpc : ∀ h : Heap, pushCells h compSc.names = h := fun h => rfl
  rw [hpc]
  have k5 : Kp h4 (h4.push { cls := .type "list", dict := none, data := .seq ([] : List Value).toArray }) := kp_push _ _
  have gD : (h4.push { cls := .type "list", dict := none, data := .seq ([] : List Value).toArray }).get? (hg.objs.size + 5) = some { cls := .type "list", dict := none, data := .seq ([] : List Value).toArray } := by rw [← sz4]; exact Heap.get?_push_size _ rfl
  have s5 : (h4.push { cls := .type "list", dict := none, data := .seq ([] : List Value).toArray }).objs.size = hg.objs.size + 5 + 1 := by rw [Heap.size_push, sz4]
  generalize (h4.push { cls := .type "list", dict := none, data := .seq ([] : List Value).toArray }) = h5 at k5 gD s5 ⊢
  have k6 : Kp h5 (h5.push { cls := .type "dict", data := .dict #[] }) := kp_push _ _
  have gC : (h5.push { cls := .type "dict", data := .dict #[] }).get? (hg.objs.size + 5 + 1) = some { cls := .type "dict", data := .dict #[] } := by rw [← s5]; exact Heap.get?_push_size _ rfl
  generalize (h5.push { cls := .type "dict", data := .dict #[] }) = h6 at k6 gC ⊢
  have k46 := k5.trans k6
  have kg := (k2.trans k46)
  have ks := (k0.trans k1)
  have R0 : Ready prog w s.heap its a (hg.objs.size + 4) (hg.objs.size + 2) (hg.objs.size + 3) (hg.objs.size + 1) hg.objs.size (hg.objs.size + 5 + 1) (hg.objs.size + 5)
      { newEnv compSc (hg.objs.size + 5 + 1) env.globals (cellsFrom (hg.objs.size + 5 + 1 + 1) compSc.names []) env.qual none .none (some env) builtinsNs with scope := relabel compSc env } ge hr (fun b => False ∨ ((∃ o, h6.get? b = some o) ∧ hg.get? b = none)) h6 := by
    have hgn : ∀ b, hg.objs.size ≤ b → hg.get? b = none := fun b hb => none_ge (fun _ _ e => e) hb
    have z6 := k46 _ _ z4
    have ti6 := k46 _ _ ti4
    have to6 := k46 _ _ to4
    have r6 := k46 _ _ r4
    obtain ⟨og, nm, qn, gg, pg⟩ := ig.keeps k46
    have D6 := k6 _ _ gD
    obtain ⟨mb, nb, hmb⟩ := (T.keeps k0).mb
    refine ⟨lx_new ks, ⟨fun b q => ?_, k0, fun b q => ?_⟩, ⟨z6, ti6, ⟨_, _, to6⟩, ?_, ⟨og, nm, qn, gg, pg⟩, ⟨#[], ⟨_, D6, rfl, rfl, rfl, _, rfl⟩, .nil⟩, ⟨fun _ => none, _, _, _, gC, rfl, (fun e he => by simp at he), fun _ => rfl⟩, ks.trans kg⟩, fun b q => ?_, ⟨_, (eg.grow (M := fun b => (∃ o, h6.get? b = some o) ∧ hg.get? b = none) kg (fun b q => q.2) fun b q => q.1).1⟩, bg2 (T.keeps k0).X nb hmb, hco, ?_, rfl, rfl, rfl, rfl⟩
    · rcases q with q | ⟨_, q⟩
      · exact q.elim
      · cases z : hr.get? b with
        | none => rfl
        | some o => rw [k1 b o z] at q; cases q
    · refine .inr ?_
      rcases q with q | q | q | q | q | q | q
      · exact ⟨⟨_, q ▸ z6⟩, hgn _ (by rw [q]; exact Nat.le_add_right _ _)⟩
      · exact ⟨⟨_, q ▸ ti6⟩, hgn _ (by rw [q]; exact Nat.le_add_right _ _)⟩
      · exact ⟨⟨_, q ▸ to6⟩, hgn _ (by rw [q]; exact Nat.le_add_right _ _)⟩
      · exact ⟨⟨_, q ▸ r6⟩, hgn _ (by rw [q]; exact Nat.le_add_right _ _)⟩
      · exact ⟨⟨_, q ▸ gg⟩, hgn _ (by rw [q]; exact Nat.le_refl _)⟩
      · exact ⟨⟨_, q ▸ gC⟩, hgn _ (by rw [q]; exact Nat.le_trans (Nat.le_add_right _ 5) (Nat.le_add_right _ 1))⟩
      · exact ⟨⟨_, q ▸ D6⟩, hgn _ (by rw [q]; exact Nat.le_add_right _ _)⟩
    · rw [show (2 : Int) - 0 = 2 by decide]; exact r6
    · rcases q with q | q
      · exact q.elim
      · exact q.1
    · obtain ⟨o, ho, y⟩ := il; exact ⟨o, k0 _ _ ho, y⟩
  have geL : ∃ o, hg.get? ge.locals = some o := by obtain ⟨m, o, _, _, ho, _⟩ := eg.ns; exact ⟨o, ho⟩
  have old : ∀ b ∈ (env :: outer).filterMap (·.frame), ∃ o, hg.get? b = some o := fun b hb => let ⟨o, ho⟩ := hSt b hb; ⟨o, ks _ _ ho⟩
  have hFF : ∀ hE : Heap, Kp hr hE → (∃ m, hE.Ns ge.locals m) → hE.FunFrames noH (ge :: env :: outer) := fun hE k hm => ⟨by rw [show ge.scope.kind = .function from eg.kind]; decide, ⟨ge.locals, let ⟨m, o, es, ep, ho, hd, _⟩ := hm; ⟨o, hgf, rfl, ho, fun vs q => by rw [hd] at q; cases q⟩⟩, hFT hE (k0.trans k)⟩
  have hS : ∀ b ∈ (ge :: env :: outer).filterMap (·.frame), b ∈ ge.locals :: (env :: outer).filterMap (·.frame) := fun b hb => by rw [List.filterMap_cons, hgf] at hb; exact hb
  have liveS : ∀ b ∈ ge.locals :: (env :: outer).filterMap (·.frame), ∃ o, hg.get? b = some o := fun b hb => by
    rcases List.mem_cons.mp hb with rfl | hb
    · exact geL
    · exact old b hb
  have hSW : ∀ b ∈ ge.locals :: (env :: outer).filterMap (·.frame), ¬ (False ∨ ((∃ o, h6.get? b = some o) ∧ hg.get? b = none)) := fun b hb wb => by
    obtain ⟨o, ho⟩ := liveS b hb
    rcases wb with q | ⟨_, q⟩
    · exact q
    · rw [q] at ho; cases ho
  have hSl : ∀ b ∈ ge.locals :: (env :: outer).filterMap (·.frame), b = ge.locals ∨ ∃ o, hr.get? b = some o := fun b hb => by
    rcases List.mem_cons.mp hb with rfl | hb
    · exact .inl rfl
    · obtain ⟨o, ho⟩ := hSt b hb; exact .inr ⟨o, k0 _ _ ho⟩
  have fin := comp_raise (Y := fun _ _ _ _ _ => False) (S := ge.locals :: (env :: outer).filterMap (·.frame)) (s3 := { s with heap := h6, toks := tk, gens := #[.fresh (.func genB ge)] }) (Rr := compPost (model prog w) A E none Q (.ref (hg.objs.size + 5)) (hg.objs.size + 5 + 1))
    (p1 := p1) (p2 := p2) (p3 := p3) (p4 := p4) (q1 := q1) (q2 := q2) (q3 := q3) (q4 := q4) (q5 := q5) (q6 := q6) (q7 := q7) (q8 := q8) (pos := pos) (kk := kk) (k := k) (l := env :: outer) T hh hd hu R0 rfl rfl hfr h1f h1f (fun _ _ _ _ _ h => h)
    hFF (fun hE k => hFT hE (k0.trans k)) hS (fun b hb => List.mem_cons_of_mem _ hb) hSW hSl
    (fun ad s' er => gen4 (by exact hh) (by show A.depth ≤ 350; omega) (by show A.units + 1 + 1 ≤ 50; omega) R0.G.w0 (T.keeps k0) R0.B er R0.il hx hfr hgf hFF hS hSl)
    fun e hE h' tk' gens' F kpE c bb => ?_
  · exact compStart_at rfl fin (wpAny_pyIter_zip (s := { s with heap := h6, toks := tk, gens := _ }) (R0.L.z) fin)
  · refine (show ∃ m, Heap.Ns h' (hg.objs.size + 5 + 1) m ∧ ∀ h'', Heap.SameBut (hg.objs.size + 5 + 1) h' h'' → ∀ cenv : Env, cenv.locals = hg.objs.size + 5 + 1 → wpAny (model prog w) A (PySem.passOn "comprehension.variables-let-go" (.ref e) cenv : Sem Value) (fun _ _ => False) E { s with heap := h'', toks := tk', gens := gens' } from ?_)
    obtain ⟨m, hc⟩ := c
    refine ⟨m, hc, fun h'' sb cenv _ => ?_⟩
    have CS : hg.objs.size + 5 + 1 ∉ ge.locals :: (env :: outer).filterMap (·.frame) := fun q => by
      obtain ⟨o, ho⟩ := liveS _ q
      exact absurd (Heap.lt_size ho) (Nat.not_lt.mpr (Nat.le_trans (Nat.le_add_right _ 5) (Nat.le_add_right _ 1)))
    have F2 := F.offD ⟨m, hc⟩ CS (fun c o q ho => (sb.2 c q).trans ho)
    obtain ⟨oe, vs, T5, oT, ts, he, hcl, hd5, hsz, h15, _⟩ := F2.ex
    unfold PySem.passOn
    refine wpAny_bind (wpAny_field (s := { s with heap := h'', toks := tk', gens := gens' }) he hd5 h15 ?_)
    rw [if_neg (show ¬ (Value.ref T5 == Value.none) = true from by simp)]
    refine wpAny_bind (flight_wp (s := { s with heap := h'', toks := tk', gens := gens' }) F2 fun h3 F3 => wpAny_throw ?_)
    refine hQ e _ _ h3 tk' gens' bb F3 (fun b o ho => (erase_ne fun q => by rw [q, R0.X.nC] at ho; cases ho).trans (kpE b o ho)) (fun b hb => List.mem_cons_of_mem _ hb) fun b hb => ?_
    rcases List.mem_cons.mp hb with rfl | hb
    · refine .inl ?_
      cases q : s.heap.get? ge.locals with
      | none => rfl
      | some o => have := k0 _ _ q; rw [eg.nl0] at this; cases this
    · exact .inr hb
end
end Mine
end
section
open PySem PySem.W PyProof.Rows PySem.Calls PySem.Spec
set_option linter.unusedVariables false
set_option linter.unusedSectionVars false
set_option maxRecDepth 1000000
namespace Mine
variable [Inhabited Rho]
theorem exc_VE : isSubtype (.type "ValueError") (.type "BaseException") = pure true := by
  first | rfl | kernel_rfl | decide +kernel
theorem nt_VE : isSubtype (.type ((Manifest.find? "ValueError").elim "type" fun x => x.metatype)) (.type "tuple") = pure false := by
  first | rfl | kernel_rfl | decide +kernel
theorem ss_VE : isSubtype (.type "ValueError") (.type "ValueError") = pure true := by
  first | rfl | kernel_rfl | decide +kernel
section
variable {prog : Program} {w : World} {A : Around} {E : Value → Shared → Prop} {s : Shared} {a : Addr} {env : Env}
/-- a built-in's name, no environment relation -/
theorem bi_nameK (T : TopK w s.heap) {x : PySem.Str} {v : Value} (hn : nsIn (Kf w) mainGlobals x = some none) (hb : bootBuiltins x = some v) (hx : x ≠ "__name__") {p : Pos} (kd : env.scope.kind = .function) (hk : env.kindOf x = some .globalImplicit) (hg : env.globals = mainGlobals) (hbi : env.builtins = builtinsNs) (hd : (x == ("__debug__" : PySem.Str)) = false)
    {Q : Value → Shared → Prop} {E : Value → Shared → Prop} (h : Q v s) : wpAny (model prog w) A (eval (.Name x p) env) Q E s := by
  obtain ⟨mb, nb, hmb⟩ := T.mb
  refine wpAny_Name ?_ hd
  unfold loadName
  simp only [Env.blockKind, kd, hk, ScopeKind.isAnnotationScope, Bool.false_and, Bool.false_eq_true, if_false]
  unfold loadGlobal
  rw [hg, hbi]
  refine wpAny_bind ((looks_nsIn T.X hn).here ?_)
  refine wpAny_bind (wpAny_nsGet nb ?_)
  rw [(hmb x hx).trans hb]; exact wpAny_pure h
theorem sz_lookup : szSc.names.lookup ("ValueError" : PySem.Str) = some NameKind.globalImplicit := by decide +kernel
theorem sizes_call4 {its : Array Value} {t : Tok} {O : Ow} {Q : Value → Shared → Prop} {hb : Heap} (Tb : TopK w hb) (kb : Kp hb s.heap) (nb : hb.get? env.locals = none) (T : TopK w s.heap) (hk : env.scope.kind = .function) (hf : env.frame = some env.locals) (hns : ∃ m, s.heap.Ns env.locals m) (hg0 : s.gens = #[]) (lv : ∀ b, O b → ∃ o, s.heap.get? b = some o) (il : s.heap.IsList a its) (hx : its[0]? = some (.int 0 t))
    (hQ : ∀ v h' tk g', AllBare g' → Moved env.locals s.heap h' → R O h' (.list [.str "refused"]) v → Q v { s with heap := h', toks := tk, gens := g' }) :
    wpAny (model prog w) (callerA.deeper env) (call (.ref 219) [.ref a]) Q E s := by
  obtain ⟨ob, fd, ho, hdata, hcd, hbody, hscp, hclo, hgl, hbi, hbind⟩ := (fn_sizes T.X).ex
  have kx : ∀ x ∈ (["ruler"] : List PySem.Str), fd.scope.names.lookup x = some .local ∨ fd.scope.names.lookup x = some .cell := by
    have : ((["ruler"] : List PySem.Str).all fun x => szSc.names.lookup x == some .local || szSc.names.lookup x == some .cell) = true := by rfl
    simp only [List.all_eq_true, Bool.or_eq_true, beq_iff_eq] at this
    rw [hscp]
    exact this
  have hsc : scopeOk fd.scope = true := by rw [hscp]; exact of_decide_eq_true (by rfl)
  have hkd : fd.scope.kind = .function := by rw [hscp]; rfl
  refine wpAny_call (codeAny_call_cells_kw (A := callerA.deeper env) (binds := zipB ["ruler"] [.ref a]) (by show callerA.depth + 1 < 1000; decide) ho hdata T.lim hcd hbody (hbind _ [.ref a] rfl) hclo (fun p hp => ?_) (fun s₁ x => ?_) (by rw [hscp]; rfl) (by rw [hscp]; rfl) hkd)
  · rcases List.mem_singleton.mp hp with rfl
    exact .inl (by rw [hscp]; rfl)
  have er := call_er (fd := fd) (f := 219) (xs := ["ruler"]) (ds := [.sy (.raw (.ref a))]) (vs := [.ref a]) (O := fun _ => False) (s := s) (s₁ := s₁) (fun b q => q.elim) (.cons _ _ _ _ (.sy _ _ rfl) .nil) rfl (by decide +kernel) kx hgl hbi hsc x (fun _ => 0)
  rw [hscp] at er
  have kp1 := x.toInCall.keep
  have nsL := x.toInCall.ns
  have hL1 : (callEnvC fd s.heap.objs.size 219).locals = s.heap.objs.size := rfl
  have hf1 : (callEnvC fd s.heap.objs.size 219).frame = some s.heap.objs.size := rfl
  obtain ⟨h1, tk1, e1⟩ := x.toInCall.same
  subst e1
  generalize callEnvC fd s.heap.objs.size 219 = env1 at er nsL hL1 hf1 ⊢
  have il1 : h1.IsList a its := let ⟨o, ho, y⟩ := il; ⟨o, kp1 _ _ ho, y⟩
  have hf1' : env1.frame = some env1.locals := by rw [hf1, hL1]
  have fm : ∀ b, b ∈ (env1 :: [env]).filterMap (·.frame) → b = env1.locals ∨ b = env.locals := fun b hb => by
    rw [List.filterMap_cons, hf1', List.filterMap_cons, hf] at hb
    simpa using hb
  have mf : env.locals ∈ (env1 :: [env]).filterMap (·.frame) := by
    rw [List.filterMap_cons, hf1', List.filterMap_cons, hf]; simp
  have nsD : ∀ (h : Heap) (L : Addr) (m : PySem.Str → Option Value), h.Ns L m → ∃ o, h.get? L = some o ∧ ∀ vs, o.data ≠ .fields vs := fun h L m ⟨o, es, ep, ho, hd, _⟩ => ⟨o, ho, fun vs q => by rw [hd] at q; cases q⟩
  obtain ⟨mL, hmL⟩ := hns
  obtain ⟨oL, hoL, dL⟩ := nsD _ _ _ hmL
  obtain ⟨o1, ho1, d1⟩ := nsD _ _ _ nsL
  have hFT : ∀ hE : Heap, Kp h1 hE → hE.FunFrames noH (env1 :: [env]) := fun hE k =>
    ⟨by rw [er.kind]; decide, ⟨env1.locals, o1, hf1', rfl, k _ _ ho1, d1⟩, ⟨by rw [hk]; decide, ⟨env.locals, oL, hf, rfl, k _ _ (kp1 _ _ hoL), dL⟩, trivial⟩⟩
  have hSt : ∀ b ∈ (env1 :: [env]).filterMap (·.frame), ∃ o, h1.get? b = some o := fun b hb => by
    rcases fm b hb with rfl | rfl
    · exact ⟨_, ho1⟩
    · exact ⟨_, kp1 _ _ hoL⟩
  obtain ⟨hB, hxs⟩ := sz_shape
  show wpAny _ _ (execs szB env1) _ _ _
  rw [hB]
  refine wpAny_execs_cons (wpAny_Try_except (wpAny_execs_cons (wpAny_Return_some ?_)))
  refine sizes_comp4 (s := { s with heap := h1, toks := tk1 }) (h₁ := s.heap) (ad := fun _ => 0) (its := its) (outer := [env]) (t := t) rfl (by show callerA.depth + 1 + 1 ≤ 340; decide) (T.keeps kp1) er hg0 il1 (by show callerA.units + 3 + 3 ≤ 40; decide) hx rfl hf1' hFT hSt ?_
  intro e S hE h' tk' gens' bb F kpE inS newS
  have kpS : ∀ h, Fly hE S e h → ∀ b o, b ≠ env.locals → s.heap.get? b = some o → h.get? b = some o := fun h F b o hb hs => by
    refine F.kp b o (fun q => ?_) (kpE _ _ (kp1 _ _ hs))
    rcases newS b q with z | z
    · have hz : h1.get? b = none := z
      have := kp1 _ _ hs
      rw [hz] at this; cases this
    · rcases fm b z with y | y
      · rw [y, hL1] at hs; exact absurd (Heap.lt_size hs) (Nat.lt_irrefl _)
      · exact hb y
  have hdw : (env1 :: [env]).dropWhile (fun x => x.frame != env1.frame) = env1 :: [env] := by simp [List.dropWhile]
  refine note_wp (s := { s with heap := h', toks := tk', gens := gens' }) (env0 := env1) (outer := [env]) (l := env1 :: [env]) rfl hdw hf1' hf1' (hFT hE kpE) inS F fun h2 F2 => ?_
  refine flight_wp (s := { s with heap := h2, toks := tk', gens := gens' }) F2 fun h3 F3 => ?_
  have Tk : TopK w h3 := Tb.keeps fun b o hbo => kpS h3 F3 b o (fun q => by rw [q, nb] at hbo; cases hbo) (kb _ _ hbo)
  refine wpAny_handleBy_builtin (X := "ValueError") (T := "ValueError") (b := true) exc_VE nt_VE ss_VE ?_
  refine bi_nameK (s := { s with heap := h3, toks := tk', gens := gens' }) Tk (v := .type "ValueError") rfl rfl (by decide +kernel) er.kind ((kindOf_eq er _).trans sz_lookup) er.glob er.bi (by decide +kernel) ⟨rfl, ?_, ?_⟩
  · obtain ⟨oe, vs, T5, oT, ts, he, hcl, _⟩ := F3.ex
    exact ⟨oe, he, hcl⟩
  rw [if_pos rfl]
  refine flight_wp (s := { s with heap := h3, toks := tk', gens := gens' }) F3 fun h4 F4 => ?_
  refine wpAny_execs_cons (wpAny_Return_some ?_)
  refine wpAny_List_spliced (args_cons (wpAny_Constant_str (args_nil ⟨by show 1 ≤ sizeLine; decide +kernel, ?_⟩)) rfl)
  rw [hxs]
  refine hQ _ (h4.push _) _ gens' bb ⟨fun b o q ho => Heap.get?_push_of_some _ (kpS h4 F4 b o q ho), fun o ho => ?_⟩ ?_
  · obtain ⟨sl, y⟩ := F4.sl _ _ (inS _ mf) (kpE _ _ (kp1 _ _ ho))
    exact ⟨sl, Heap.get?_push_of_some _ y⟩
  · refine .list _ _ _ (fun q => ?_) ⟨_, Heap.get?_push_size _ rfl, rfl, _, rfl⟩ (.cons _ _ _ _ (.str _ _) .nil)
    obtain ⟨o, ho⟩ := lv _ q
    by_cases z : h4.objs.size = env.locals
    · obtain ⟨sl, y⟩ := F4.sl _ _ (inS _ mf) (kpE _ _ (kp1 _ _ hoL))
      rw [← z] at y; exact absurd (Heap.lt_size y) (Nat.lt_irrefl _)
    · exact absurd (Heap.lt_size (kpS h4 F4 _ _ z ho)) (Nat.lt_irrefl _)
end
end Mine
end
open PySem PySem.W PyProof.Rows PySem.Calls PySem.Spec
set_option linter.unusedVariables false
set_option maxRecDepth 100000
set_option maxHeartbeats 8000000
namespace Mine
theorem told4 [Inhabited Rho] {prog : Program} {w : World} : Told4 prog w := fun env s a x y t u v O Q E hb Tb kb nb T hk hf hns hg lv il hQ =>
  sizes_call4 (t := t) Tb kb nb T hk hf hns hg lv il rfl hQ
end Mine
theorem PySem.Challenge.cw_wj0042_01_holds : PySem.Challenge.rw_wj0042_01.Holds :=
  Mine.hd (by
    k_fill
    intro w s₀ s₁ mg mb G Y fa o pm cd doc dV kV ho hd hcd hD hmg hg args vals as hpre hlay hrd hwl hlo
    have KX := kIn_of Y
    refine Ground.open G ?_
    intro T B D TE TW
    wrow_args hpre hlay hrd hwl hlo
    x_fa T KX hmg
    have TK : Mine.TopK w s₁.heap := ⟨KX, T.nolimit, mb, T.b, T.builtins⟩
    have hI := ‹IntsAre _ _›
    have hL := ‹Heap.IsList _ _ _›
    refine Mine.law_call (fun {_} => Mine.told_ok Mine.told4) TK hL hI (by omega) hg fun h' tk g' hb k => ?_
    refine ⟨.inl ⟨_, _, [], rfl, (fun _ => rfl), ReadsW.bool true, ?_, fun _ => ⟨List.nodup_nil, fun _ hm => (nomatch hm)⟩⟩, OldK.of_keep k, rfl, hb⟩
    first | rfl | wrow_post)
