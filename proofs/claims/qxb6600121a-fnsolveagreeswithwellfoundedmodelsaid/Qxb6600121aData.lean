/-
  HOW THE DATA LIE IN MEMORY: integer arrays, the rules as they come in, and as plain numbers.
-/
import Derived.Test.Qxb6600121aTy
namespace Go.Proofs.Qxb6600121a
open Go

theorem Fr.step {X Y : Nat → Prop} {a b c : World} (h : Fr X a b) (k : Fr Y b c) (hY : ∀ i, i < a.heap.size → ¬ X i → ¬ Y i) : Fr X a c :=
  ⟨k.os.trans h.os, k.tape.trans h.tape, k.output.trans h.output, Nat.le_trans h.size k.size,
    fun i hi hx => (k.block i (Nat.lt_of_lt_of_le hi h.size) (hY i hi hx)).trans (h.block i hi hx)⟩
theorem Fr.newb {X : Nat → Prop} {a b c : World} {te : TypeId} {cs : List Value} (h : Fr X a b) (k : Newb b c te cs) : Fr X a c := h.step k.fr (fun _ _ _ h => h)
theorem Fr.upd {X : Nat → Prop} {a b c : World} {g te : Nat} {cs : List Value} (h : Fr X a b) (k : Upd b c g te cs) (hg : a.heap.size ≤ g) : Fr X a c := h.step k.fr (fun i hi _ e => by omega)
theorem all_succ {Q : Nat → Prop} {k : Nat} (h : ∀ i, i < k → Q i) (hk : Q k) : ∀ i, i < k + 1 → Q i := by
  intro i hi
  rcases Nat.lt_succ_iff_lt_or_eq.1 hi with h1 | h1
  · exact h i h1
  · subst h1; exact hk
theorem sint {k : IntKind} {a b : Int} (h : a = b) : some (Value.int k a) = some (Value.int k b) := by rw [h]
def ints (xs : List Int) : List Value := xs.map (Value.int .i64)
def nats (xs : List Nat) : List Value := xs.map (fun n : Nat => Value.int .i64 (n : Int))
def bools (xs : List Bool) : List Value := xs.map Value.bool
def i8s (xs : List Int) : List Value := xs.map (Value.int .i8)
theorem ints_get {xs : List Int} {k : Nat} (h : k < xs.length) : (ints xs)[k]? = some (.int .i64 (xs.getD k 0)) := by simp [ints, h]
theorem nats_get {xs : List Nat} {k : Nat} (h : k < xs.length) : (nats xs)[k]? = some (.int .i64 ((xs.getD k 0 : Nat) : Int)) := by simp [nats, h]
theorem bools_get {xs : List Bool} {k : Nat} (h : k < xs.length) : (bools xs)[k]? = some (.bool (xs.getD k false)) := by simp [bools, h]
theorem i8s_get {xs : List Int} {k : Nat} (h : k < xs.length) : (i8s xs)[k]? = some (.int .i8 (xs.getD k 0)) := by simp [i8s, h]
theorem ints_len (xs : List Int) : (ints xs).length = xs.length := by simp [ints]
theorem nats_len (xs : List Nat) : (nats xs).length = xs.length := by simp [nats]
theorem bools_len (xs : List Bool) : (bools xs).length = xs.length := by simp [bools]
theorem i8s_len (xs : List Int) : (i8s xs).length = xs.length := by simp [i8s]
theorem ints_set (xs : List Int) (k : Nat) (v : Int) : (ints xs).set k (.int .i64 v) = ints (xs.set k v) := by simp [ints, List.map_set]
theorem nats_set (xs : List Nat) (k : Nat) (v : Nat) : (nats xs).set k (.int .i64 (v : Int)) = nats (xs.set k v) := by simp [nats, List.map_set]
theorem bools_set (xs : List Bool) (k : Nat) (v : Bool) : (bools xs).set k (.bool v) = bools (xs.set k v) := by simp [bools, List.map_set]
theorem i8s_set (xs : List Int) (k : Nat) (v : Int) : (i8s xs).set k (.int .i8 v) = i8s (xs.set k v) := by simp [i8s, List.map_set]
theorem ints_rep (n : Nat) : List.replicate n (Value.int .i64 0) = ints (List.replicate n 0) := by simp [ints]
theorem nats_rep (n : Nat) : List.replicate n (Value.int .i64 0) = nats (List.replicate n 0) := by simp [nats]
theorem bools_rep (n : Nat) : List.replicate n (Value.bool false) = bools (List.replicate n false) := by simp [bools]
theorem i8s_rep (n : Nat) : List.replicate n (Value.int .i8 0) = i8s (List.replicate n 0) := by simp [i8s]
theorem Blk.cI {h : Array Obj} {b te : Nat} {xs : List Int} (hb : Blk h b te (ints xs)) {k : Nat} (hk : k < xs.length) : Qxb6600121a.cel h b k = some (.int .i64 (xs.getD k 0)) := by rw [hb.cel]; exact ints_get hk
theorem Blk.cN {h : Array Obj} {b te : Nat} {xs : List Nat} (hb : Blk h b te (nats xs)) {k : Nat} (hk : k < xs.length) : Qxb6600121a.cel h b k = some (.int .i64 ((xs.getD k 0 : Nat) : Int)) := by rw [hb.cel]; exact nats_get hk
theorem Blk.cB {h : Array Obj} {b te : Nat} {xs : List Bool} (hb : Blk h b te (bools xs)) {k : Nat} (hk : k < xs.length) : Qxb6600121a.cel h b k = some (.bool (xs.getD k false)) := by rw [hb.cel]; exact bools_get hk
theorem Blk.c8 {h : Array Obj} {b te : Nat} {xs : List Int} (hb : Blk h b te (i8s xs)) {k : Nat} (hk : k < xs.length) : Qxb6600121a.cel h b k = some (.int .i8 (xs.getD k 0)) := by rw [hb.cel]; exact i8s_get hk

/-- A slice of integers that is only read, in blocks of B. -/
def IntsAt (h : Array Obj) (B : Nat → Prop) (v : Value) (xs : List Int) : Prop :=
  ∃ a c, v = .slice a xs.length c ∧ xs.length ≤ c ∧ (a = none → xs.length = 0) ∧ (0 < xs.length → ∃ b o, a = some ⟨b, o, none⟩ ∧ B b ∧ ∀ j, j < xs.length → cel h b (o + j) = some (.int .i64 (xs.getD j 0)))
structure RD where
  head : Int
  all : List Int
  unl : List Int
def rd0 : RD := ⟨0, [], []⟩
/-- The rules, a slice of structs, in blocks of B. -/
def RulesAt (h : Array Obj) (B : Nat → Prop) (v : Value) (rs : List RD) : Prop :=
  ∃ a c, v = .slice a rs.length c ∧ rs.length ≤ c ∧ (a = none → rs.length = 0) ∧ (0 < rs.length → ∃ b o, a = some ⟨b, o, none⟩ ∧ B b ∧ ∀ i, i < rs.length →
    cel h b (o + i * 3) = some (.int .i64 (rs.getD i rd0).head) ∧ ∃ va vu, cel h b (o + i * 3 + 1) = some va ∧ cel h b (o + i * 3 + 2) = some vu ∧ IntsAt h B va (rs.getD i rd0).all ∧ IntsAt h B vu (rs.getD i rd0).unl)
theorem IntsAt.fr {X : Nat → Prop} {w w' : World} {B : Nat → Prop} {v : Value} {xs : List Int} (h : IntsAt w.heap B v xs) (hf : Fr X w w') (hX : ∀ k, B k → ¬ X k) : IntsAt w'.heap B v xs := by
  obtain ⟨a, c, h1, h2, h3, h4⟩ := h
  refine ⟨a, c, h1, h2, h3, fun hp => ?_⟩
  obtain ⟨b, o, h5, h6, h7⟩ := h4 hp
  exact ⟨b, o, h5, h6, fun j hj => cel_fr (h7 j hj) hf (hX b h6)⟩
theorem RulesAt.fr {X : Nat → Prop} {w w' : World} {B : Nat → Prop} {v : Value} {rs : List RD} (h : RulesAt w.heap B v rs) (hf : Fr X w w') (hX : ∀ k, B k → ¬ X k) : RulesAt w'.heap B v rs := by
  obtain ⟨a, c, h1, h2, h3, h4⟩ := h
  refine ⟨a, c, h1, h2, h3, fun hp => ?_⟩
  obtain ⟨b, o, h5, h6, h7⟩ := h4 hp
  refine ⟨b, o, h5, h6, fun i hi => ?_⟩
  obtain ⟨g1, va, vu, g2, g3, g4, g5⟩ := h7 i hi
  exact ⟨cel_fr g1 hf (hX b h6), va, vu, cel_fr g2 hf (hX b h6), cel_fr g3 hf (hX b h6), g4.fr hf hX, g5.fr hf hX⟩
theorem IntsAt.mono {h : Array Obj} {B B' : Nat → Prop} {v : Value} {xs : List Int} (hr : IntsAt h B v xs) (hB : ∀ b, B b → B' b) : IntsAt h B' v xs := by
  obtain ⟨a, c, h1, h2, h3, h4⟩ := hr
  refine ⟨a, c, h1, h2, h3, fun hp => ?_⟩
  obtain ⟨b, o, h5, h6, h7⟩ := h4 hp
  exact ⟨b, o, h5, hB b h6, h7⟩
/-- Total length of what the rules name. -/
def tot : List RD → Nat
  | [] => 0
  | r :: rs => r.all.length + r.unl.length + tot rs
theorem tot_take_le (rs : List RD) (k : Nat) : tot (rs.take k) ≤ tot rs := by
  induction rs generalizing k with
  | nil => simp [tot]
  | cons r rs ih =>
    cases k with
    | zero => simp [tot]
    | succ k => simp [tot]; exact ih k
theorem tot_take_succ (rs : List RD) (k : Nat) (h : k < rs.length) : tot (rs.take (k + 1)) = tot (rs.take k) + (rs.getD k rd0).all.length + (rs.getD k rd0).unl.length := by
  induction rs generalizing k with
  | nil => simp at h
  | cons r rs ih =>
    cases k with
    | zero => simp [tot]
    | succ k =>
      have := ih k (by simpa using h)
      simp only [List.take_succ_cons, tot, List.getD_cons_succ, this]
      omega
/-- A rule all of whose atoms are among 0 .. n-1. -/
structure InR (n : Nat) (r : RD) : Prop where
  h0 : 0 ≤ r.head
  h1 : r.head < n
  all : ∀ j, j < r.all.length → 0 ≤ r.all.getD j 0 ∧ r.all.getD j 0 < n
  unl : ∀ j, j < r.unl.length → 0 ≤ r.unl.getD j 0 ∧ r.unl.getD j 0 < n
end Go.Proofs.Qxb6600121a
