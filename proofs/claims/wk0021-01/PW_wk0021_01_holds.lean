import PyProof.Rows.All
import Wide.All
import OpenK.AllK
import Wide.FinOn
import PySem.Challenge.RW_wk0021_01
open PySem PySem.W PyProof.Rows
set_option Elab.async false
set_option maxRecDepth 100000
set_option maxHeartbeats 8000000
open PySem
namespace Mine
/-- the dimension's vectors -/
def V : Nat → Type
  | 0 => Unit
  | k + 1 => Bool × V k
def cnt : (k : Nat) → (V k → Bool) → Nat
  | 0, a => (a ()).toNat
  | k + 1, a => cnt k (fun v => a (false, v)) + cnt k (fun v => a (true, v))
def conv : (k : Nat) → (V k → Bool) → (V k → Bool) → V k → Bool
  | 0, a, b, _ => a () && b ()
  | k + 1, a, b, (false, v) => conv k (fun v => a (false, v)) (fun v => b (false, v)) v || conv k (fun v => a (true, v)) (fun v => b (true, v)) v
  | k + 1, a, b, (true, v) => conv k (fun v => a (false, v)) (fun v => b (true, v)) v || conv k (fun v => a (true, v)) (fun v => b (false, v)) v
/-- the number of Hopf and Stiefel for small sizes -/
def hs (r s : Nat) : Nat := if r = 0 ∨ s = 0 then 0 else
  min (r + s - 1) (min (2 * ((r + 1) / 2 + (s + 1) / 2 - 1)) (min (4 * ((r + 3) / 4 + (s + 3) / 4 - 1)) (8 * ((r + 7) / 8 + (s + 7) / 8 - 1))))
def tableOk : Bool := (List.range 7).all fun a0 => (List.range 7).all fun a1 => (List.range 7).all fun b0 => (List.range 7).all fun b1 =>
  decide (a0 + a1 ≤ 6 → b0 + b1 ≤ 6 → hs (a0 + a1) (b0 + b1) ≤ max (hs a0 b0) (hs a1 b1) + max (hs a0 b1) (hs a1 b0))
theorem tableOk_true : tableOk = true := by decide +kernel
theorem hsTable {a0 a1 b0 b1 : Nat} (ha : a0 + a1 ≤ 6) (hb : b0 + b1 ≤ 6) : hs (a0 + a1) (b0 + b1) ≤ max (hs a0 b0) (hs a1 b1) + max (hs a0 b1) (hs a1 b0) := by
  have h := tableOk_true
  simp only [tableOk, List.all_eq_true, List.mem_range, decide_eq_true_eq] at h
  exact h a0 (by omega) a1 (by omega) b0 (by omega) b1 (by omega) ha hb
theorem cnt_mono : ∀ (k : Nat) {a b : V k → Bool}, (∀ v, a v = true → b v = true) → cnt k a ≤ cnt k b
  | 0, a, b, h => by
    have := h ()
    simp only [cnt]
    cases ha : a () <;> cases hb : b () <;> simp_all
  | k + 1, a, b, h => Nat.add_le_add (cnt_mono k fun v => h (false, v)) (cnt_mono k fun v => h (true, v))
theorem cnt_or_left (k : Nat) (a b : V k → Bool) : cnt k a ≤ cnt k (fun v => a v || b v) := cnt_mono k fun v h => by simp [h]
theorem cnt_or_right (k : Nat) (a b : V k → Bool) : cnt k b ≤ cnt k (fun v => a v || b v) := cnt_mono k fun v h => by simp [h]
/-- Yuzvinsky, for sizes of six at most -/
theorem yuz : ∀ (k : Nat) (a b : V k → Bool), cnt k a ≤ 6 → cnt k b ≤ 6 → hs (cnt k a) (cnt k b) ≤ cnt k (conv k a b)
  | 0, a, b, _, _ => by
    simp only [cnt, conv]
    cases a () <;> cases b () <;> decide
  | k + 1, a, b, ha, hb => by
    have t := hsTable ha hb
    simp only [cnt] at ha hb
    have h00 := yuz k (fun v => a (false, v)) (fun v => b (false, v)) (by omega) (by omega)
    have h11 := yuz k (fun v => a (true, v)) (fun v => b (true, v)) (by omega) (by omega)
    have h01 := yuz k (fun v => a (false, v)) (fun v => b (true, v)) (by omega) (by omega)
    have h10 := yuz k (fun v => a (true, v)) (fun v => b (false, v)) (by omega) (by omega)
    have e0 : cnt k (fun v => conv (k + 1) a b (false, v)) = cnt k (fun v => conv k (fun v => a (false, v)) (fun v => b (false, v)) v || conv k (fun v => a (true, v)) (fun v => b (true, v)) v) := rfl
    have e1 : cnt k (fun v => conv (k + 1) a b (true, v)) = cnt k (fun v => conv k (fun v => a (false, v)) (fun v => b (true, v)) v || conv k (fun v => a (true, v)) (fun v => b (false, v)) v) := rfl
    have l0 := cnt_or_left k (conv k (fun v => a (false, v)) (fun v => b (false, v))) (conv k (fun v => a (true, v)) (fun v => b (true, v)))
    have l1 := cnt_or_right k (conv k (fun v => a (false, v)) (fun v => b (false, v))) (conv k (fun v => a (true, v)) (fun v => b (true, v)))
    have l2 := cnt_or_left k (conv k (fun v => a (false, v)) (fun v => b (true, v))) (conv k (fun v => a (true, v)) (fun v => b (false, v)))
    have l3 := cnt_or_right k (conv k (fun v => a (false, v)) (fun v => b (true, v))) (conv k (fun v => a (true, v)) (fun v => b (false, v)))
    show _ ≤ cnt k (fun v => conv (k + 1) a b (false, v)) + cnt k (fun v => conv (k + 1) a b (true, v))
    rw [e0, e1]
    simp only [cnt] at t ⊢
    omega

def xorV : (k : Nat) → V k → V k → V k
  | 0, _, _ => ()
  | k + 1, (x, v), (y, w) => (x ^^ y, xorV k v w)
theorem conv_ex : ∀ (k : Nat) (a b : V k → Bool) (v : V k), conv k a b v = true → ∃ x y, a x = true ∧ b y = true ∧ xorV k x y = v
  | 0, a, b, v, h => by
    simp only [conv, Bool.and_eq_true] at h
    exact ⟨(), (), h.1, h.2, rfl⟩
  | k + 1, a, b, (false, v), h => by
    simp only [conv, Bool.or_eq_true] at h
    rcases h with h | h
    · obtain ⟨x, y, h1, h2, h3⟩ := conv_ex k _ _ v h
      exact ⟨(false, x), (false, y), h1, h2, by simp only [xorV, h3]; rfl⟩
    · obtain ⟨x, y, h1, h2, h3⟩ := conv_ex k _ _ v h
      exact ⟨(true, x), (true, y), h1, h2, by simp only [xorV, h3]; rfl⟩
  | k + 1, a, b, (true, v), h => by
    simp only [conv, Bool.or_eq_true] at h
    rcases h with h | h
    · obtain ⟨x, y, h1, h2, h3⟩ := conv_ex k _ _ v h
      exact ⟨(false, x), (true, y), h1, h2, by simp only [xorV, h3]; rfl⟩
    · obtain ⟨x, y, h1, h2, h3⟩ := conv_ex k _ _ v h
      exact ⟨(true, x), (false, y), h1, h2, by simp only [xorV, h3]; rfl⟩
def num : V 4 → Nat
  | (a, b, c, d, ()) => 8 * a.toNat + 4 * b.toNat + 2 * c.toNat + d.toNat
theorem num_lt : ∀ v : V 4, num v < 16
  | (a, b, c, d, ()) => by cases a <;> cases b <;> cases c <;> cases d <;> decide
theorem num_xor' : ∀ a b c d a' b' c' d' : Bool, num (xorV 4 (a, b, c, d, ()) (a', b', c', d', ())) = num (a, b, c, d, ()) ^^^ num (a', b', c', d', ()) := by decide +kernel
theorem num_xor : ∀ v w : V 4, num (xorV 4 v w) = num v ^^^ num w
  | (a, b, c, d, ()), (a', b', c', d', ()) => num_xor' a b c d a' b' c' d'
def sum16 (f : Nat → Bool) : Nat :=
  (f 0).toNat + (f 1).toNat + (f 2).toNat + (f 3).toNat + (f 4).toNat + (f 5).toNat + (f 6).toNat + (f 7).toNat +
  (f 8).toNat + (f 9).toNat + (f 10).toNat + (f 11).toNat + (f 12).toNat + (f 13).toNat + (f 14).toNat + (f 15).toNat
theorem cnt_num (f : Nat → Bool) : cnt 4 (fun v => f (num v)) = sum16 f := by
  simp only [cnt, num, sum16, Bool.toNat_true, Bool.toNat_false, Nat.mul_zero, Nat.mul_one, Nat.add_zero, Nat.zero_add, Nat.reduceAdd, Nat.reduceMul]
  omega
def cntTo (f : Nat → Bool) : Nat → Nat
  | 0 => 0
  | n + 1 => cntTo f n + (f n).toNat
theorem sum16_to (f : Nat → Bool) : sum16 f = cntTo f 16 := by
  simp only [sum16, cntTo, Nat.zero_add]
theorem cntTo_filter (f : Nat → Bool) : ∀ n, ((List.range n).filter f).length = cntTo f n
  | 0 => rfl
  | n + 1 => by
    rw [List.range_succ, List.filter_append, List.length_append, cntTo_filter f n]
    show _ + (List.filter f [n]).length = _ + (f n).toNat
    cases h : f n <;> simp [h]
theorem filter16 (f : Nat → Bool) : ((List.range 16).filter f).length = sum16 f := by rw [sum16_to, cntTo_filter]
theorem cntTo_le {f g : Nat → Bool} : ∀ n, (∀ p, p < n → f p = true → g p = true) → cntTo f n ≤ cntTo g n
  | 0, _ => Nat.le_refl _
  | n + 1, h => by
    refine Nat.add_le_add (cntTo_le n fun p hp => h p (Nat.lt_succ_of_lt hp)) ?_
    have := h n (Nat.lt_succ_self n)
    cases hf : f n <;> cases hg : g n <;> simp_all
theorem cntTo_off (g : Nat → Bool) (a : Nat) : ∀ n, n ≤ a → cntTo (fun p => p == a || g p) n = cntTo g n
  | 0, _ => rfl
  | n + 1, h => by
    show _ + (n == a || g n).toNat = _ + (g n).toNat
    rw [cntTo_off g a n (by omega), show (n == a) = false from by simp; omega, Bool.false_or]
theorem cntTo_ins (g : Nat → Bool) (a : Nat) (hg : g a = false) : ∀ n, a < n → cntTo (fun p => p == a || g p) n = cntTo g n + 1
  | 0, h => absurd h (Nat.not_lt_zero _)
  | n + 1, h => by
    show _ + (n == a || g n).toNat = _ + (g n).toNat + 1
    by_cases q : n = a
    · subst q
      rw [cntTo_off g n n (Nat.le_refl _), hg]
      simp
    · rw [cntTo_ins g a hg n (by omega), show (n == a) = false from by simp [q], Bool.false_or]
      omega
def hit (A B : List Nat) (p : Nat) : Bool := A.any fun a => B.any fun b => (a ^^^ b) == p
theorem hit_iff {A B : List Nat} {p : Nat} : hit A B p = true ↔ ∃ a ∈ A, ∃ b ∈ B, a ^^^ b = p := by
  simp [hit, List.any_eq_true]
def places (A B : List Nat) : List Nat := (List.range 16).filter (hit A B)
theorem places_length (A B : List Nat) : (places A B).length = sum16 (hit A B) := filter16 _
def Low (A : List Nat) : Prop := ∀ a ∈ A, a < 16
theorem sum16_ins (g : Nat → Bool) (a : Nat) (ha : a < 16) (hg : g a = false) : sum16 (fun p => p == a || g p) = sum16 g + 1 := by
  rw [sum16_to, sum16_to, cntTo_ins g a hg 16 ha]
theorem sum16_mem : ∀ {A : List Nat}, Low A → A.Nodup → sum16 (fun p => A.contains p) = A.length
  | [], _, _ => by simp [sum16]
  | a :: A, hl, hn => by
    have ha : a < 16 := hl a (List.mem_cons_self ..)
    have hA : Low A := fun x hx => hl x (List.mem_cons_of_mem _ hx)
    obtain ⟨h1, h2⟩ := List.nodup_cons.mp hn
    have e : (fun p => (a :: A).contains p) = fun p => p == a || A.contains p := by
      funext p
      rw [List.contains_cons]
    rw [e, sum16_ins _ a ha (by simpa using h1), sum16_mem hA h2, List.length_cons]
/-- Yuzvinsky for lists -/
theorem yuz_list {A B : List Nat} (lA : Low A) (lB : Low B) (nA : A.Nodup) (nB : B.Nodup) (hA : A.length ≤ 6) (hB : B.length ≤ 6) : hs A.length B.length ≤ (places A B).length := by
  have y := yuz 4 (fun v => A.contains (num v)) (fun v => B.contains (num v))
  rw [cnt_num (fun p => A.contains p), cnt_num (fun p => B.contains p), sum16_mem lA nA, sum16_mem lB nB] at y
  refine Nat.le_trans (y hA hB) ?_
  rw [places_length, ← cnt_num]
  refine cnt_mono 4 fun v hv => ?_
  obtain ⟨x, y, h1, h2, h3⟩ := conv_ex 4 _ _ v hv
  exact hit_iff.mpr ⟨num x, by simpa using h1, num y, by simpa using h2, by rw [← num_xor, h3]⟩
/-- the push -/
def push1 (A : List Nat) (bit n : Nat) : Nat := if n &&& bit = 0 ∨ (n ^^^ bit) ∈ A then n else n ^^^ bit
def push (A : List Nat) (bit : Nat) : List Nat := A.map (push1 A bit)
def IsBit (bit : Nat) : Prop := bit = 1 ∨ bit = 2 ∨ bit = 4 ∨ bit = 8
theorem lowAll {P : Nat → Prop} (h : ∀ n : Fin 16, P n.1) : ∀ n, n < 16 → P n := fun n hn => h ⟨n, hn⟩
theorem xor_low {n bit : Nat} (hn : n < 16) (hb : IsBit bit) : n ^^^ bit < 16 := by
  have : n ^^^ bit < 2 ^ 4 := Nat.xor_lt_two_pow (by omega) (by rcases hb with rfl | rfl | rfl | rfl <;> decide)
  omega
theorem xor_xor (n bit : Nat) : (n ^^^ bit) ^^^ bit = n := by rw [Nat.xor_assoc, Nat.xor_self, Nat.xor_zero]
theorem push_low {A : List Nat} {bit : Nat} (hl : Low A) (hb : IsBit bit) : Low (push A bit) := by
  intro x hx
  obtain ⟨n, hn, rfl⟩ := List.mem_map.mp hx
  unfold push1
  split
  · exact hl n hn
  · exact xor_low (hl n hn) hb
theorem push_length (A : List Nat) (bit : Nat) : (push A bit).length = A.length := List.length_map ..
theorem push1_inj {A : List Nat} {bit n m : Nat} (hn : n ∈ A) (hm : m ∈ A) (e : push1 A bit n = push1 A bit m) : n = m := by
  unfold push1 at e
  split at e <;> split at e
  · exact e
  · rename_i _ h
    exact absurd (.inr (e ▸ hn)) h
  · rename_i h _
    exact absurd (.inr (e ▸ hm)) h
  · have := congrArg (· ^^^ bit) e
    simpa only [xor_xor] using this
theorem push_nodup {A : List Nat} {bit : Nat} (nA : A.Nodup) : (push A bit).Nodup := by
  have h : ∀ (l : List Nat), (∀ x ∈ l, x ∈ A) → l.Nodup → (l.map (push1 A bit)).Nodup := by
    intro l
    induction l with
    | nil => intro _ _; exact List.nodup_nil
    | cons x l ih =>
      intro hs hn
      obtain ⟨h1, h2⟩ := List.nodup_cons.mp hn
      refine List.nodup_cons.mpr ⟨fun hm => ?_, ih (fun y hy => hs y (List.mem_cons_of_mem _ hy)) h2⟩
      obtain ⟨y, hy, e⟩ := List.mem_map.mp hm
      exact h1 (push1_inj (hs y (List.mem_cons_of_mem _ hy)) (hs x (List.mem_cons_self ..)) e ▸ hy)
  exact h A (fun _ h => h) nA
/-- what stands in a pushed set -/
theorem mem_push {A : List Nat} {bit x : Nat} (hx : x ∈ push A bit) : x ∈ A ∨ (x ^^^ bit) ∈ A := by
  obtain ⟨n, hn, rfl⟩ := List.mem_map.mp hx
  unfold push1
  split
  · exact .inl hn
  · exact .inr (by rw [xor_xor]; exact hn)
theorem bit_flip {n bit : Nat} (hn : n < 16) (hb : IsBit bit) (h : n &&& bit ≠ 0) : (n ^^^ bit) &&& bit = 0 := by
  have : ∀ n : Fin 16, ∀ b ∈ [1, 2, 4, 8], n.1 &&& b ≠ 0 → (n.1 ^^^ b) &&& b = 0 := by decide +kernel
  exact this ⟨n, hn⟩ bit (by rcases hb with rfl | rfl | rfl | rfl <;> simp) h
theorem bit_up {n bit : Nat} (hn : n < 16) (hb : IsBit bit) (h : n &&& bit = 0) : (n ^^^ bit) &&& bit ≠ 0 := by
  have : ∀ n : Fin 16, ∀ b ∈ [1, 2, 4, 8], n.1 &&& b = 0 → (n.1 ^^^ b) &&& b ≠ 0 := by decide +kernel
  exact this ⟨n, hn⟩ bit (by rcases hb with rfl | rfl | rfl | rfl <;> simp) h
theorem bit_part {n m bit : Nat} (hn : n < 16) (hm : m < 16) (hb : IsBit bit) (h : (n ^^^ m) &&& bit ≠ 0) : n &&& bit ≠ 0 ∨ m &&& bit ≠ 0 := by
  have : ∀ n m : Fin 16, ∀ b ∈ [1, 2, 4, 8], (n.1 ^^^ m.1) &&& b ≠ 0 → n.1 &&& b ≠ 0 ∨ m.1 &&& b ≠ 0 := by decide +kernel
  exact this ⟨n, hn⟩ ⟨m, hm⟩ bit (by rcases hb with rfl | rfl | rfl | rfl <;> simp) h
theorem mem_push_high {A : List Nat} {bit x : Nat} (hl : Low A) (hb : IsBit bit) (hx : x ∈ push A bit) (hh : x &&& bit ≠ 0) : x ∈ A ∧ (x ^^^ bit) ∈ A := by
  obtain ⟨n, hn, rfl⟩ := List.mem_map.mp hx
  have hn16 := hl n hn
  unfold push1 at hh ⊢
  split
  · rename_i h
    rw [if_pos h] at hh
    exact ⟨hn, h.resolve_left hh⟩
  · rename_i h
    rw [if_neg h] at hh
    exfalso
    have h1 : n &&& bit ≠ 0 := fun q => h (.inl q)
    exact hh (bit_flip hn16 hb h1)
theorem hit_comm (A B : List Nat) (p : Nat) : hit A B p = hit B A p := by
  rw [Bool.eq_iff_iff, hit_iff, hit_iff]
  constructor
  · rintro ⟨a, ha, b, hb, e⟩; exact ⟨b, hb, a, ha, by rw [Nat.xor_comm, e]⟩
  · rintro ⟨a, ha, b, hb, e⟩; exact ⟨b, hb, a, ha, by rw [Nat.xor_comm, e]⟩
/-- either of a pair -/
theorem push_or {A B : List Nat} {bit p : Nat} (h : hit (push A bit) (push B bit) p = true) : hit A B p = true ∨ hit A B (p ^^^ bit) = true := by
  obtain ⟨a, ha, b, hb, e⟩ := hit_iff.mp h
  have x1 : ∀ a b : Nat, (a ^^^ bit) ^^^ (b ^^^ bit) = a ^^^ b := fun a b => by
    rw [Nat.xor_comm a bit, Nat.xor_assoc, ← Nat.xor_assoc a b bit, Nat.xor_comm (a ^^^ b) bit, ← Nat.xor_assoc, Nat.xor_self, Nat.zero_xor]
  have x2 : ∀ a b : Nat, (a ^^^ bit) ^^^ b = (a ^^^ b) ^^^ bit := fun a b => by rw [Nat.xor_assoc, Nat.xor_comm bit b, ← Nat.xor_assoc]
  have x3 : ∀ a b : Nat, a ^^^ (b ^^^ bit) = (a ^^^ b) ^^^ bit := fun a b => (Nat.xor_assoc ..).symm
  rcases mem_push ha with h1 | h1 <;> rcases mem_push hb with h2 | h2
  · exact .inl (hit_iff.mpr ⟨a, h1, b, h2, e⟩)
  · exact .inr (hit_iff.mpr ⟨a, h1, _, h2, by rw [x3, e]⟩)
  · exact .inr (hit_iff.mpr ⟨_, h1, b, h2, by rw [x2, e]⟩)
  · exact .inl (hit_iff.mpr ⟨_, h1, _, h2, by rw [x1, e]⟩)
/-- both of a pair, where the bit stands -/
theorem push_and {A B : List Nat} {bit p : Nat} (lA : Low A) (lB : Low B) (hbit : IsBit bit) (hp : p &&& bit ≠ 0) (h : hit (push A bit) (push B bit) p = true) :
    hit A B p = true ∧ hit A B (p ^^^ bit) = true := by
  have x2 : ∀ a b : Nat, (a ^^^ bit) ^^^ b = (a ^^^ b) ^^^ bit := fun a b => by rw [Nat.xor_assoc, Nat.xor_comm bit b, ← Nat.xor_assoc]
  have x3 : ∀ a b : Nat, a ^^^ (b ^^^ bit) = (a ^^^ b) ^^^ bit := fun a b => (Nat.xor_assoc ..).symm
  have key : ∀ {A B : List Nat} {a b : Nat}, Low A → Low B → a ∈ push A bit → b ∈ push B bit → a &&& bit ≠ 0 → hit A B (a ^^^ b) = true ∧ hit A B ((a ^^^ b) ^^^ bit) = true := by
    intro A B a b lA _ ha hb h1
    obtain ⟨m1, m2⟩ := mem_push_high lA hbit ha h1
    rcases mem_push hb with h2 | h2
    · exact ⟨hit_iff.mpr ⟨a, m1, b, h2, rfl⟩, hit_iff.mpr ⟨_, m2, b, h2, x2 a b⟩⟩
    · refine ⟨hit_iff.mpr ⟨_, m2, _, h2, ?_⟩, hit_iff.mpr ⟨a, m1, _, h2, x3 a b⟩⟩
      rw [x2, x3, xor_xor]
  obtain ⟨a, ha, b, hb, rfl⟩ := hit_iff.mp h
  rcases bit_part (push_low lA hbit a ha) (push_low lB hbit b hb) hbit hp with h1 | h1
  · exact key lA lB ha hb h1
  · have := key lB lA hb ha h1
    rw [hit_comm A B, hit_comm A B, Nat.xor_comm a b]
    exact this
theorem pair_le {A B : List Nat} {bit p q : Nat} (lA : Low A) (lB : Low B) (hbit : IsBit bit) (hq : q &&& bit ≠ 0) (e : q ^^^ bit = p) :
    (hit (push A bit) (push B bit) p).toNat + (hit (push A bit) (push B bit) q).toNat ≤ (hit A B p).toNat + (hit A B q).toNat := by
  have e' : p ^^^ bit = q := by rw [← e, xor_xor]
  have h1 := push_or (A := A) (B := B) (bit := bit) (p := p)
  have h2 := push_and (p := q) lA lB hbit hq
  rw [e'] at h1
  rw [e] at h2
  revert h1 h2
  generalize hit (push A bit) (push B bit) p = x
  generalize hit (push A bit) (push B bit) q = y
  generalize hit A B p = z
  generalize hit A B q = t
  cases x <;> cases y <;> cases z <;> cases t <;> simp
/-- sums of pairs -/
def sumTo (F : Nat → Nat) : Nat → Nat
  | 0 => 0
  | n + 1 => sumTo F n + F n
theorem sumTo_le {F G : Nat → Nat} : ∀ n, (∀ p, p < n → F p ≤ G p) → sumTo F n ≤ sumTo G n
  | 0, _ => Nat.le_refl _
  | n + 1, h => Nat.add_le_add (sumTo_le n fun p hp => h p (Nat.lt_succ_of_lt hp)) (h n (Nat.lt_succ_self n))
theorem sumTo_two (f g : Nat → Bool) : ∀ n, sumTo (fun p => (f p).toNat + (g p).toNat) n = cntTo f n + cntTo g n
  | 0 => rfl
  | n + 1 => by
    show sumTo _ n + ((f n).toNat + (g n).toNat) = cntTo f n + (f n).toNat + (cntTo g n + (g n).toNat)
    rw [sumTo_two f g n]
    omega
theorem sum16_flip (f : Nat → Bool) {bit : Nat} (h : IsBit bit) : cntTo (fun p => f (p ^^^ bit)) 16 = cntTo f 16 := by
  rw [← sum16_to, ← sum16_to]
  rcases h with rfl | rfl | rfl | rfl
  · show (f 1).toNat + (f 0).toNat + (f 3).toNat + (f 2).toNat + (f 5).toNat + (f 4).toNat + (f 7).toNat + (f 6).toNat + (f 9).toNat + (f 8).toNat + (f 11).toNat + (f 10).toNat + (f 13).toNat + (f 12).toNat + (f 15).toNat + (f 14).toNat = _
    unfold sum16; ac_rfl
  · show (f 2).toNat + (f 3).toNat + (f 0).toNat + (f 1).toNat + (f 6).toNat + (f 7).toNat + (f 4).toNat + (f 5).toNat + (f 10).toNat + (f 11).toNat + (f 8).toNat + (f 9).toNat + (f 14).toNat + (f 15).toNat + (f 12).toNat + (f 13).toNat = _
    unfold sum16; ac_rfl
  · show (f 4).toNat + (f 5).toNat + (f 6).toNat + (f 7).toNat + (f 0).toNat + (f 1).toNat + (f 2).toNat + (f 3).toNat + (f 12).toNat + (f 13).toNat + (f 14).toNat + (f 15).toNat + (f 8).toNat + (f 9).toNat + (f 10).toNat + (f 11).toNat = _
    unfold sum16; ac_rfl
  · show (f 8).toNat + (f 9).toNat + (f 10).toNat + (f 11).toNat + (f 12).toNat + (f 13).toNat + (f 14).toNat + (f 15).toNat + (f 0).toNat + (f 1).toNat + (f 2).toNat + (f 3).toNat + (f 4).toNat + (f 5).toNat + (f 6).toNat + (f 7).toNat = _
    unfold sum16; ac_rfl
/-- a push never makes more -/
theorem push_le {A B : List Nat} {bit : Nat} (lA : Low A) (lB : Low B) (hbit : IsBit bit) : (places (push A bit) (push B bit)).length ≤ (places A B).length := by
  rw [places_length, places_length, sum16_to, sum16_to]
  have k := sumTo_le (F := fun p => (hit (push A bit) (push B bit) p).toNat + (hit (push A bit) (push B bit) (p ^^^ bit)).toNat) (G := fun p => (hit A B p).toNat + (hit A B (p ^^^ bit)).toNat) 16 (fun p hp => by
    by_cases q : p &&& bit = 0
    · by_cases z : (p ^^^ bit) &&& bit = 0
      · exact absurd z (bit_up hp hbit q)
      · have := pair_le lA lB hbit z (xor_xor p bit)
        omega
    · have := pair_le lA lB hbit q rfl
      omega)
  rw [sumTo_two, sumTo_two, sum16_flip _ hbit, sum16_flip _ hbit] at k
  omega
/-- the first numbers -/
def firstsOk : Bool := (List.range 6).all fun r => (List.range 6).all fun s => decide (places (List.range (r + 1)) (List.range (s + 1)) = List.range (hs (r + 1) (s + 1)))
theorem firstsOk_true : firstsOk = true := by decide +kernel
theorem firsts_eq {r s : Nat} (h1 : 1 ≤ r) (h2 : r ≤ 6) (h3 : 1 ≤ s) (h4 : s ≤ 6) : places (List.range r) (List.range s) = List.range (hs r s) := by
  have h := firstsOk_true
  simp only [firstsOk, List.all_eq_true, List.mem_range, decide_eq_true_eq] at h
  have := h (r - 1) (by omega) (s - 1) (by omega)
  rwa [Nat.sub_add_cancel h1, Nat.sub_add_cancel h3] at this
/-- the whole law -/
theorem plain_law {A B : List Nat} {b c : Nat} (lA : Low A) (lB : Low B) (nA : A.Nodup) (nB : B.Nodup) (hA : 1 ≤ A.length) (hA' : A.length ≤ 6) (hB : 1 ≤ B.length) (hB' : B.length ≤ 6) (hb : IsBit b) (hc : IsBit c) :
    (places (push A b) (push B b)).length ≤ (places A B).length ∧
    (places (push (push A b) c) (push (push B b) c)).length ≤ (places (push A b) (push B b)).length ∧
    (places (List.range A.length) (List.range B.length)).length ≤ (places (push (push A b) c) (push (push B b) c)).length ∧
    places (List.range A.length) (List.range B.length) = List.range (hs A.length B.length) := by
  have f := firsts_eq hA hA' hB hB'
  refine ⟨push_le lA lB hb, push_le (push_low lA hb) (push_low lB hb) hc, ?_, f⟩
  rw [f, List.length_range]
  have y := yuz_list (push_low (push_low lA hb) hc) (push_low (push_low lB hb) hc) (push_nodup (push_nodup nA)) (push_nodup (push_nodup nB))
    (by rw [push_length, push_length]; exact hA') (by rw [push_length, push_length]; exact hB')
  rwa [push_length, push_length, push_length, push_length] at y
end Mine
namespace Mine
def Low16 (ns : List Int) : Prop := ∀ x ∈ ns, 0 ≤ x ∧ x < 16
def sgn (k : Nat) : Str := ⟨#[97 + k]⟩
def rowS (b : Bool) : Str := if b then Str.ofString ".ISO8859-15" else Str.ofString ""
def dueS (b : Bool) (k : Nat) : Str := if b then Str.ofString "..ISO8859-15@" ++ sgn k ++ Str.ofString ".\r\n" else Str.ofString "@" ++ sgn k ++ Str.ofString ".\r\n"
def rowsL (H : Int → Bool) : List Str := (List.range 16).map fun (k : Nat) => rowS (H (k : Int))
def dueL (H : Int → Bool) : List Str := (List.range 16).map fun (k : Nat) => dueS (H (k : Int)) k
def hitI (xs ys : List Int) (k : Int) : Bool := xs.any fun x => ys.any fun y => Builtin.bitXor x y == k
def hit2 (pre : List Int) (n : Int) (ys q : List Int) (k : Int) : Bool := hitI pre ys k || hitI [n] q k
def endI (v : Int) : Str := if v = 0 then Str.ofString "\n" else if v = 1 then Str.ofString "\r" else Str.ofString "\r\n"
def lineI (H : Int → Bool) (k : Int) : Str := rowS (H k) ++ Str.ofString "@" ++ (sgn k.toNat ++ Str.ofString ".") ++ endI (k.fmod 3)
def txtL (H : Int → Bool) : Nat → Str
  | 0 => Str.ofString ""
  | k + 1 => txtL H k ++ lineI H (k : Int)
theorem hitI_nil (ys : List Int) : hitI [] ys = fun _ => false := rfl
theorem hitI_snoc (xs ys : List Int) (n : Int) : hitI (xs ++ [n]) ys = hit2 xs n ys ys := by
  funext k
  simp [hitI, hit2]
theorem hit2_nil (xs ys : List Int) (n : Int) : hit2 xs n ys [] = hitI xs ys := by
  funext k
  simp [hitI, hit2]
theorem hit2_snoc (xs ys q : List Int) (n y : Int) (k : Int) : hit2 xs n ys (q ++ [y]) k = (hit2 xs n ys q k || (Builtin.bitXor n y == k)) := by
  simp [hitI, hit2, Bool.or_assoc]
theorem rows_start : rowsL (fun _ => false) = List.replicate 16 (Str.ofString "") := by decide +kernel
theorem due_start : dueL (fun _ => false) = (Str.ofString "abcdefghijklmnop").cps.toList.map (fun c => Str.ofString "@" ++ { cps := #[c] } ++ Str.ofString ".\x0d\n") := by decide +kernel
theorem sum_start {ms : List Int} {rows : List Str} (h : rows = List.replicate 16 (Str.ofString "")) : rows = rowsL (hitI [] ms) ∧ (Str.ofString "abcdefghijklmnop").cps.toList.map (fun c => Str.ofString "@" ++ { cps := #[c] } ++ Str.ofString ".\x0d\n") = dueL (hitI [] ms) := by
  rw [hitI_nil, rows_start, due_start]
  exact ⟨h, rfl⟩
theorem sum_open {pre ms : List Int} {n : Int} {rows due : List Str} (h1 : rows = rowsL (hitI pre ms)) (h2 : due = dueL (hitI pre ms)) : rows = rowsL (hit2 pre n ms []) ∧ due = dueL (hit2 pre n ms []) := by
  rw [hit2_nil]; exact ⟨h1, h2⟩
theorem sum_shut {pre ms : List Int} {n : Int} {rows due : List Str} (h1 : rows = rowsL (hit2 pre n ms ms)) (h2 : due = dueL (hit2 pre n ms ms)) : rows = rowsL (hitI (pre ++ [n]) ms) ∧ due = dueL (hitI (pre ++ [n]) ms) := by
  rw [hitI_snoc]; exact ⟨h1, h2⟩
theorem range_set {α : Type} (f g : Nat → α) (j : Nat) (x : α) (h1 : g j = x) (h2 : ∀ k, k ≠ j → g k = f k) : ((List.range 16).map f).set j x = (List.range 16).map g := by
  apply List.ext_getElem
  · simp
  · intro i hi hi'
    rw [List.getElem_set]
    simp only [List.getElem_map, List.getElem_range]
    split
    · subst_vars; rfl
    · exact (h2 i (by omega)).symm
theorem len_rows {ss : List Str} {H : Int → Bool} (e : ss = rowsL H) : ss.length = 16 := by rw [e]; simp [rowsL]
theorem len_due {ss : List Str} {H : Int → Bool} (e : ss = dueL H) : ss.length = 16 := by rw [e]; simp [dueL]
theorem sum_step {pre ms q : List Int} {n y : Int} {rows due : List Str} (h0 : 0 ≤ Builtin.bitXor n y) (h1 : rows = rowsL (hit2 pre n ms q)) (h2 : due = dueL (hit2 pre n ms q)) :
    rows.set (Builtin.bitXor n y).toNat (Str.ofString ".ISO8859-15") = rowsL (hit2 pre n ms (q ++ [y])) ∧
    due.set (Builtin.bitXor n y).toNat (Str.ofString "..ISO8859-15@" ++ sgn (Builtin.bitXor n y).toNat ++ Str.ofString ".\r\n") = dueL (hit2 pre n ms (q ++ [y])) := by
  generalize hp : (Builtin.bitXor n y).toNat = j
  have hj : Builtin.bitXor n y = (j : Int) := by omega
  rw [h1, h2]
  refine ⟨range_set _ _ _ _ ?_ ?_, range_set _ _ _ _ ?_ ?_⟩
  · simp [hit2_snoc, hj, rowS]
  · intro k hk
    simp only [hit2_snoc, hj]
    rw [show (((j : Nat) : Int) == (k : Int)) = false from by simp; omega, Bool.or_false]
  · simp [hit2_snoc, hj, dueS]
  · intro k hk
    simp only [hit2_snoc, hj]
    rw [show (((j : Nat) : Int) == (k : Int)) = false from by simp; omega, Bool.or_false]
theorem get_row {ss : List Str} {H : Int → Bool} {v : Int} (e : ss = rowsL H) (h0 : 0 ≤ v) (h1 : v < 16) : ss.getD v.toNat Str.empty = rowS (H v) := by
  rw [e]
  have : (v.toNat : Int) = v := Int.toNat_of_nonneg h0
  simp [rowsL, List.getD, show v.toNat < 16 by omega, this]
theorem txt_start {H : Int → Bool} : Str.ofString "" = txtL H ([] : List Int).length := rfl
theorem str_assoc (a b c : Str) : a ++ b ++ c = a ++ (b ++ c) := by
  refine PySem.Str.ext' ?_
  simp only [PySem.Str.cps_append, Array.append_assoc]
theorem txt_step {H : Int → Bool} {pre : List Int} {n : Int} {t : Str} (hn : n = 0 + (pre.length : Int)) (h : t = txtL H pre.length) :
    t ++ (rowS (H n) ++ Str.ofString "@" ++ (sgn n.toNat ++ Str.ofString ".")) ++ endI (n.fmod 3) = txtL H (pre ++ [n]).length := by
  rw [List.length_append, h, hn, Int.zero_add, str_assoc]; rfl
theorem len_app (a b : Str) : (a ++ b).length = a.length + b.length := by
  show (a ++ b).cps.size = a.cps.size + b.cps.size
  rw [PySem.Str.cps_append, Array.size_append]
theorem len_row (b : Bool) : (rowS b).length ≤ 11 := by cases b <;> decide +kernel
theorem len_sgn (j : Nat) : (sgn j).length = 1 := rfl
theorem len_end (v : Int) : (endI v).length ≤ 2 := by
  unfold endI
  split
  · decide +kernel
  · split <;> decide +kernel
theorem len_mid (b : Bool) (j : Nat) : (rowS b ++ Str.ofString "@" ++ (sgn j ++ Str.ofString ".")).length ≤ 14 := by
  rw [len_app, len_app, len_app, len_sgn]
  have h1 : (Str.ofString "@").length = 1 := by decide +kernel
  have h2 : (Str.ofString ".").length = 1 := by decide +kernel
  have := len_row b
  omega
theorem len_txt (H : Int → Bool) : ∀ n, (txtL H n).length ≤ 16 * n
  | 0 => by
    show (Str.ofString "").length ≤ 0
    decide +kernel
  | n + 1 => by
    have h1 := len_txt H n
    have h2 := len_mid (H n) (n : Int).toNat
    have h3 := len_end ((n : Int).fmod 3)
    show (txtL H n ++ lineI H n).length ≤ _
    rw [len_app]
    unfold lineI
    rw [len_app]
    omega
theorem fit1 {H : Int → Bool} {n : Nat} {x : Str} {b : Bool} {j : Nat} (h : x = txtL H n) (hn : n < 16) : x.length + (rowS b ++ Str.ofString "@" ++ (sgn j ++ Str.ofString ".")).length ≤ 16777216 := by
  have h1 := len_txt H n
  have h2 := len_mid b j
  rw [h]; omega
theorem fit2 {H : Int → Bool} {n : Nat} {x : Str} {b : Bool} {j : Nat} {v : Int} (h : x = txtL H n) (hn : n < 16) : (x ++ (rowS b ++ Str.ofString "@" ++ (sgn j ++ Str.ofString "."))).length + (endI v).length ≤ 16777216 := by
  have h1 := len_txt H n
  have h2 := len_mid b j
  have h3 := len_end v
  rw [len_app, h]; omega
end Mine
namespace Mine
open PySem.Sre
def stepN : Nat → Sre.M → Sre.M
  | 0, m => m
  | n + 1, m => stepN n m.step
theorem stepN_add (a b : Nat) (m : Sre.M) : stepN (a + b) m = stepN b (stepN a m) := by
  induction a generalizing m with
  | zero => rw [Nat.zero_add]; rfl
  | succ a ih => rw [Nat.succ_add]; exact ih m.step
theorem step_done {m : Sre.M} (h : m.outcome.isSome = true) : m.step = m := by
  unfold Sre.M.step
  rw [if_pos h]
theorem stepN_done {m : Sre.M} (h : m.outcome.isSome = true) (n : Nat) : stepN n m = m := by
  induction n with
  | zero => rfl
  | succ n ih => show stepN n m.step = m; rw [step_done h]; exact ih
theorem runFor_eq (n : Nat) (m : Sre.M) : m.runFor n = stepN n m := by
  induction n generalizing m with
  | zero => rfl
  | succ n ih =>
    unfold Sre.M.runFor
    split
    · rename_i h
      exact (stepN_done h (n + 1)).symm
    · exact ih m.step
theorem reDrive_wp {M : Model} {A : Around} {E : Value → Shared → Prop} {s : Shared} {Q : Sre.M → Shared → Prop} : ∀ (turns k : Nat) (m : Sre.M), (stepN k m).outcome.isSome = true → k ≤ 4 * turns → k ≠ 0 ∨ turns ≠ 0 →
    Q (stepN k m) s → wpAny M A (PySem.Builtin.Re.reDrive turns m) Q E s
  | 0, k, m, _, h2, h3, _ => by omega
  | t + 1, k, m, h, h2, _, hq => by
    unfold PySem.Builtin.Re.reDrive
    simp only [runFor_eq, PySem.Builtin.Re.reTurnSteps]
    refine wpAny_ite ?_
    split
    · rename_i h4
      refine wpAny_pure ?_
      have e : stepN k m = stepN 4 m := by
        rcases Nat.le_total k 4 with q | q
        · obtain ⟨j, e⟩ := Nat.exists_eq_add_of_le q
          rw [e, stepN_add, stepN_done h]
        · obtain ⟨j, rfl⟩ := Nat.exists_eq_add_of_le q
          rw [stepN_add, stepN_done h4]
      rw [← e]; exact hq
    · rename_i h4
      refine wpAny_bind (wpAny_rule ?_)
      have q : 4 < k := by
        rcases Nat.lt_or_ge 4 k with q | q
        · exact q
        · obtain ⟨j, e⟩ := Nat.exists_eq_add_of_le q
          exfalso
          refine h4 ?_
          rw [e, stepN_add, stepN_done h]
          exact h
      obtain ⟨j, rfl⟩ := Nat.exists_eq_add_of_le (Nat.le_of_lt q)
      rw [stepN_add] at h hq
      exact reDrive_wp t j _ h (by omega) (by omega) hq
theorem seenLoop_wp {M : Model} {A : Around} {E : Value → Shared → Prop} {s : Shared} {Q : PUnit → Shared → Prop} (l : List Nat) (p : Nat → Bool) (nm : Nat → String) (hq : Q ⟨⟩ s) :
    wpAny M A (forIn l PUnit.unit fun i __s => (if p i = true then do rule (nm i); pure (ForInStep.yield PUnit.unit) else pure (ForInStep.yield PUnit.unit) : Sem (ForInStep PUnit))) Q E s := by
  induction l with
  | nil => rw [List.forIn_nil]; exact wpAny_pure hq
  | cons i l ih =>
    rw [List.forIn_cons]
    refine wpAny_bind (wpAny_ite ?_)
    split
    · exact wpAny_bind (wpAny_rule (wpAny_pure ih))
    · exact wpAny_pure ih
theorem reRun_wp {M : Model} {A : Around} {E : Value → Shared → Prop} {s : Shared} {Q : Option Sre.M → Shared → Prop} {m : Sre.M} {k : Nat} (h : (stepN k m).outcome.isSome = true) (hk : k ≤ 2 ^ 60)
    (hm : ∀ o, (stepN k m).outcome = some o → match o with
      | .matched => Q (some (stepN k m)) s
      | .failed => Q none s
      | .stuck _ => False) : wpAny M A (PySem.Builtin.Re.reRunToEnd m) Q E s := by
  unfold PySem.Builtin.Re.reRunToEnd
  refine wpAny_bind (reDrive_wp (2 ^ 64) k m h (by omega) (by omega) ?_)
  refine wpAny_bind (seenLoop_wp _ _ _ ?_)
  obtain ⟨o, ho⟩ := Option.isSome_iff_exists.mp h
  have := hm o ho
  rw [ho]
  cases o with
  | matched => exact wpAny_pure this
  | failed => exact wpAny_pure this
  | stuck w => exact this.elim

/-- the machine of the first pattern, at work on an attempt at p -/
def code1 : Array Nat := #[14, 4, 0, 1, 1, 6, 1, 16, 46, 1]
def code2 : Array Nat := #[14, 9, 4, 1, 2, 16, 10, 16, 13, 0, 7, 7, 16, 13, 16, 10, 15, 18, 5, 16, 10, 15, 13, 11, 16, 13, 5, 5, 0, 16, 10, 1, 15, 2, 0, 1]
def att1 (t : Array Nat) (p : Nat) (first : Bool) (seen : Sre.Seen) : Sre.M :=
  { code := code1, text := t, lim := t.size, start := p, lastStart := t.size, pc := 5, pos := p, handed := p, outermost := first, marks := #[], seen := seen,
    frames := [{ wait := .nextStart, pc := 5, pos := p, outermost := first }], weight := 1 }
def dotAt (t : Array Nat) (p : Nat) : Bool := (p == 0 || t.getD (p - 1) 0 == 10) && (p < t.size && t.getD p 0 == 46)
/-- one step of a word that stands, written out -/
theorem step_exec {m : Sre.M} (h1 : m.outcome = none) (h2 : m.answer = none) (h3 : m.pc < m.code.size) : m.step = m.exec := by
  unfold Sre.M.step
  rw [h1, h2]
  simp [h3]
theorem exec_at {m : Sre.M} {b : Bool} (hw : ops[m.word 0]? = some .AT) (hb : ({ m with seen := m.seen.add (m.word 0) } : Sre.M).isAt (m.word 1) = .ok b) :
    m.exec = if b then { m with seen := (m.seen.add (m.word 0)).add (43 + m.word 1), pc := m.pc + 2 } else { m with seen := (m.seen.add (m.word 0)).add (43 + m.word 1), answer := some false } := by
  unfold Sre.M.exec
  rw [hw]
  dsimp only
  have hb' : ({ m with seen := m.seen.add (m.word 0) } : Sre.M).isAt (({ m with seen := m.seen.add (m.word 0) } : Sre.M).word 1) = .ok b := hb
  rw [hb']
  rfl
theorem exec_lit {m : Sre.M} {c : Nat} (hw : ops[m.word 0]? = some .LITERAL) (hc : m.word 1 = c) :
    m.exec = if m.pos < m.lim ∧ m.text.getD m.pos 0 = c then { m with seen := m.seen.add (m.word 0), pc := m.pc + 2, pos := m.pos + 1 } else { m with seen := m.seen.add (m.word 0), answer := some false } := by
  unfold Sre.M.exec
  rw [hw]
  dsimp only
  have hw' : ops[m.code.getD m.pc 0]? = some .LITERAL := hw
  by_cases h : m.pos < m.lim
  · rw [if_neg (Nat.not_le.mpr h)]
    unfold accepts
    rw [hw']
    dsimp only
    have hc' : m.code.getD (m.pc + 1) 0 = c := hc
    rw [hc']
    by_cases q : m.text.getD m.pos 0 = c
    · rw [if_pos ⟨h, q⟩, q]
      simp only [BEq.rfl, itemWidth]
      rw [hw']
    · rw [if_neg (fun x => q x.2)]
      have : (m.text.getD m.pos 0 == c) = false := beq_eq_false_iff_ne.mpr q
      rw [this]
      rfl
  · rw [if_pos (Nat.not_lt.mp h), if_neg (fun x => h x.1)]
    rfl
theorem exec_success {m : Sre.M} (hw : ops[m.word 0]? = some .SUCCESS) (h1 : m.wholeText = false) (h2 : m.mustAdvance = false) : m.exec = { m with seen := m.seen.add (m.word 0), handed := m.pos, answer := some true } := by
  unfold Sre.M.exec
  rw [hw]
  simp only [h1, h2, Bool.false_and, Bool.or_false, Bool.and_false, Bool.false_eq_true, if_false]
  rfl
theorem exec_jump {m : Sre.M} (hw : ops[m.word 0]? = some .JUMP) : m.exec = { m with seen := m.seen.add (m.word 0), pc := m.pc + 1 + m.word 1 } := by
  unfold Sre.M.exec
  rw [hw]
  rfl
/-- an answer meets the frame above it -/
theorem step_answer {m : Sre.M} {yes : Bool} {f : Sre.Frame} {rest : List Sre.Frame} (h1 : m.outcome = none) (h2 : m.answer = some yes) (h3 : m.frames = f :: rest) :
    m.step = Sre.M.resume { m with answer := none, frames := rest, weight := m.weight - (1 + f.kept.marks.size), pc := f.pc, pos := f.pos, outermost := f.outermost } f yes := by
  unfold Sre.M.step
  rw [h1, h2, h3]
  rfl
theorem step_last {m : Sre.M} {yes : Bool} (h1 : m.outcome = none) (h2 : m.answer = some yes) (h3 : m.frames = []) : m.step = { m with outcome := some (if yes then .matched else .failed) } := by
  unfold Sre.M.step
  rw [h1, h2, h3]
  rfl

theorem att1_at (t : Array Nat) (p : Nat) (first : Bool) (seen : Sre.Seen) : ∃ sn, (att1 t p first seen).step =
    if (p == 0 || t.getD (p - 1) 0 == 10) then { att1 t p first seen with seen := sn, pc := 7 } else { att1 t p first seen with seen := sn, answer := some false } := by
  refine ⟨(seen.add 6).add 44, ?_⟩
  rw [step_exec rfl rfl (by show 5 < 10; decide), exec_at (m := att1 t p first seen) (b := (p == 0 || t.getD (p - 1) 0 == 10)) rfl rfl]
  rfl
theorem att1_lit (t : Array Nat) (p : Nat) (first : Bool) (seen : Sre.Seen) : ∃ sn, ({ att1 t p first seen with pc := 7 } : Sre.M).step =
    if p < t.size ∧ t.getD p 0 = 46 then { att1 t p first seen with seen := sn, pc := 9, pos := p + 1 } else { att1 t p first seen with seen := sn, pc := 7, answer := some false } := by
  refine ⟨seen.add 16, ?_⟩
  rw [step_exec rfl rfl (by show 7 < 10; decide), exec_lit (m := { att1 t p first seen with pc := 7 }) (c := 46) rfl rfl]
  rfl
theorem att1_back (t : Array Nat) (p pc : Nat) (first : Bool) (seen : Sre.Seen) (hp : p < t.size) : ({ att1 t p first seen with pc := pc, answer := some false } : Sre.M).step = att1 t (p + 1) false seen := by
  rw [step_answer (f := { wait := .nextStart, pc := 5, pos := p, outermost := first }) (rest := []) rfl rfl rfl]
  show (if p < t.size then _ else _) = _
  rw [if_pos hp]
  rfl
theorem att1_end (t : Array Nat) (p pc : Nat) (first : Bool) (seen : Sre.Seen) (hp : ¬ p < t.size) : (stepN 2 ({ att1 t p first seen with pc := pc, answer := some false } : Sre.M)).outcome = some .failed := by
  show (Sre.M.step (Sre.M.step _)).outcome = _
  rw [step_answer (m := { att1 t p first seen with pc := pc, answer := some false }) (f := { wait := .nextStart, pc := 5, pos := p, outermost := first }) (rest := []) rfl rfl rfl]
  have e : Sre.M.resume { ({ att1 t p first seen with pc := pc, answer := some false } : Sre.M) with answer := none, frames := [], weight := 1 - (1 + 0), pc := 5, pos := p, outermost := first } { wait := .nextStart, pc := 5, pos := p, outermost := first } false =
    { att1 t p first seen with answer := some false, frames := [], weight := 0 } := by
    show (if p < t.size then _ else _) = _
    rw [if_neg hp]
    rfl
  show (Sre.M.step (Sre.M.resume _ _ _)).outcome = _
  erw [e]
  rfl
theorem att1_hit (t : Array Nat) (p : Nat) (first : Bool) (seen : Sre.Seen) : 
    (stepN 3 ({ att1 t p first seen with pc := 9, pos := p + 1 } : Sre.M)).outcome = some .matched ∧ (stepN 3 ({ att1 t p first seen with pc := 9, pos := p + 1 } : Sre.M)).start = p ∧ (stepN 3 ({ att1 t p first seen with pc := 9, pos := p + 1 } : Sre.M)).handed = p + 1 := by
  have e : (({ att1 t p first seen with pc := 9, pos := p + 1 } : Sre.M)).step = { att1 t p first seen with pc := 9, pos := p + 1, seen := seen.add 1, handed := p + 1, answer := some true } := by
    rw [step_exec rfl rfl (by show 9 < 10; decide), exec_success rfl rfl rfl]
    rfl
  show (stepN 2 (Sre.M.step _)).outcome = _ ∧ (stepN 2 (Sre.M.step _)).start = _ ∧ (stepN 2 (Sre.M.step _)).handed = _
  rw [e]
  exact ⟨rfl, rfl, rfl⟩
def Res1 (t : Array Nat) (p : Nat) (m : Sre.M) : Prop :=
  (∃ q, p ≤ q ∧ dotAt t q = true ∧ (∀ r, p ≤ r → r < q → dotAt t r = false) ∧ m.outcome = some .matched ∧ m.start = q ∧ m.handed = q + 1) ∨
  ((∀ r, p ≤ r → dotAt t r = false) ∧ m.outcome = some .failed)
theorem Res1.next {t : Array Nat} {p : Nat} {m : Sre.M} (h : dotAt t p = false) (r : Res1 t (p + 1) m) : Res1 t p m := by
  have one : ∀ r, p ≤ r → ¬ p + 1 ≤ r → dotAt t r = false := fun r h1 h2 => by
    have : r = p := by omega
    rw [this]; exact h
  rcases r with ⟨q, h1, h2, h3, h4⟩ | ⟨h1, h2⟩
  · exact .inl ⟨q, by omega, h2, fun r a b => if c : p + 1 ≤ r then h3 r c b else one r a c, h4⟩
  · exact .inr ⟨fun r a => if c : p + 1 ≤ r then h1 r c else one r a c, h2⟩
theorem search1 (t : Array Nat) : ∀ (n p : Nat), p + n = t.size → ∀ first seen, ∃ k, k ≤ 5 * n + 5 ∧ (stepN k (att1 t p first seen)).outcome.isSome = true ∧ Res1 t p (stepN k (att1 t p first seen)) := by
  intro n
  induction n with
  | zero =>
    intro p hp first seen
    have hno : ∀ r, p ≤ r → dotAt t r = false := by
      intro r hr
      have : ¬ r < t.size := by omega
      simp [dotAt, this]
    have fin : ∀ pc sn, (stepN 2 ({ att1 t p first sn with pc := pc, answer := some false } : Sre.M)).outcome = some .failed := fun pc sn => att1_end t p pc first sn (by omega)
    obtain ⟨sn, e⟩ := att1_at t p first seen
    by_cases hA : (p == 0 || t.getD (p - 1) 0 == 10) = true
    · rw [if_pos hA] at e
      obtain ⟨sn2, e2⟩ := att1_lit t p first sn
      rw [if_neg (by omega)] at e2
      have f := fin 7 sn2
      have z : (stepN 4 (att1 t p first seen)) = stepN 2 ({ att1 t p first sn2 with pc := 7, answer := some false } : Sre.M) := by
        show stepN 3 (Sre.M.step _) = _
        rw [e]
        show stepN 2 (Sre.M.step ({ att1 t p first sn with pc := 7 } : Sre.M)) = _
        rw [e2]
        rfl
      exact ⟨4, by omega, by rw [z, f]; rfl, by rw [z]; exact .inr ⟨hno, f⟩⟩
    · rw [if_neg hA] at e
      have f := fin 5 sn
      have z : (stepN 3 (att1 t p first seen)) = stepN 2 ({ att1 t p first sn with pc := 5, answer := some false } : Sre.M) := by
        show stepN 2 (Sre.M.step _) = _
        rw [e]
        rfl
      exact ⟨3, by omega, by rw [z, f]; rfl, by rw [z]; exact .inr ⟨hno, f⟩⟩
  | succ n ih =>
    intro p hp first seen
    obtain ⟨sn, e⟩ := att1_at t p first seen
    by_cases hA : (p == 0 || t.getD (p - 1) 0 == 10) = true
    · rw [if_pos hA] at e
      obtain ⟨sn2, e2⟩ := att1_lit t p first sn
      by_cases hL : p < t.size ∧ t.getD p 0 = 46
      · rw [if_pos hL] at e2
        obtain ⟨h1, h2, h3⟩ := att1_hit t p first sn2
        have z : (stepN 5 (att1 t p first seen)) = stepN 3 ({ att1 t p first sn2 with pc := 9, pos := p + 1 } : Sre.M) := by
          show stepN 4 (Sre.M.step _) = _
          rw [e]
          show stepN 3 (Sre.M.step ({ att1 t p first sn with pc := 7 } : Sre.M)) = _
          rw [e2]
          rfl
        have hd : dotAt t p = true := by
          unfold dotAt
          rw [hA, decide_eq_true hL.1, hL.2]
          rfl
        exact ⟨5, by omega, by rw [z, h1]; rfl, by rw [z]; exact .inl ⟨p, Nat.le_refl _, hd, fun r a b => by omega, h1, h2, h3⟩⟩
      · rw [if_neg hL] at e2
        have hd : dotAt t p = false := by
          rw [Bool.eq_false_iff]
          intro q
          simp only [dotAt, Bool.and_eq_true, decide_eq_true_eq, beq_iff_eq] at q
          exact hL q.2
        obtain ⟨k, k1, k2, k3⟩ := ih (p + 1) (by omega) false sn2
        have z : stepN (k + 3) (att1 t p first seen) = stepN k (att1 t (p + 1) false sn2) := by
          rw [Nat.add_comm, stepN_add]
          congr 1
          show stepN 2 (Sre.M.step _) = _
          rw [e]
          show stepN 1 (Sre.M.step ({ att1 t p first sn with pc := 7 } : Sre.M)) = _
          rw [e2]
          exact att1_back t p 7 first sn2 (by omega)
        exact ⟨k + 3, by omega, by rw [z]; exact k2, by rw [z]; exact k3.next hd⟩
    · rw [if_neg hA] at e
      have hd : dotAt t p = false := by
        rw [Bool.eq_false_iff]
        intro q
        unfold dotAt at q
        exact hA (Bool.and_eq_true_iff.mp q).1
      obtain ⟨k, k1, k2, k3⟩ := ih (p + 1) (by omega) false sn
      have z : stepN (k + 2) (att1 t p first seen) = stepN k (att1 t (p + 1) false sn) := by
        rw [Nat.add_comm, stepN_add]
        congr 1
        show stepN 1 (Sre.M.step _) = _
        rw [e]
        exact att1_back t p 5 first sn (by omega)
      exact ⟨k + 2, by omega, by rw [z]; exact k2, by rw [z]; exact k3.next hd⟩
theorem forSearch1 (t : Array Nat) (p : Nat) (hp : p ≤ t.size) : ∃ k, k ≤ 5 * t.size + 10 ∧ (stepN k (Sre.forSearch code1 t 0 p t.size false)).outcome.isSome = true ∧ Res1 t p (stepN k (Sre.forSearch code1 t 0 p t.size false)) := by
  by_cases h : p < t.size
  · have e : Sre.forSearch code1 t 0 p t.size false = att1 t p true ((({} : Sre.Seen)).add 14) := by
      unfold Sre.forSearch
      have q : ¬ ((p > t.size || t.size - p < (header code1).1) = true) := by
        have : (header code1).1 = 1 := rfl
        rw [this]
        simp only [Bool.or_eq_true, decide_eq_true_eq]
        omega
      dsimp only
      rw [if_neg (by simpa using q)]
      rfl
    obtain ⟨k, k1, k2, k3⟩ := search1 t (t.size - p) p (by omega) true ((({} : Sre.Seen)).add 14)
    rw [e]
    exact ⟨k, by omega, k2, k3⟩
  · have hno : ∀ r, p ≤ r → dotAt t r = false := by
      intro r hr
      have : ¬ r < t.size := by omega
      simp [dotAt, this]
    have hp' : p = t.size := by omega
    have e : (stepN 1 (Sre.forSearch code1 t 0 p t.size false)).outcome = some .failed := by
      unfold Sre.forSearch
      have q : (p > t.size || t.size - p < (header code1).1) = true := by
        have : (header code1).1 = 1 := rfl
        rw [this]
        simp only [Bool.or_eq_true, decide_eq_true_eq]
        omega
      dsimp only
      rw [if_pos (by simpa using q)]
      rfl
    exact ⟨1, by omega, by rw [e]; rfl, .inr ⟨hno, e⟩⟩
end Mine
namespace Mine
open PySem.Sre
def mk2 (t : Array Nat) (p pc pos handed : Nat) (out : Bool) (seen : Sre.Seen) (frames : List Sre.Frame) (weight : Nat) (answer : Option Bool) : Sre.M :=
  { code := code2, text := t, lim := t.size, start := p, lastStart := t.size, pc := pc, pos := pos, handed := handed, outermost := out, marks := #[], seen := seen, frames := frames, weight := weight, answer := answer }
def fS (p : Nat) (first : Bool) : Sre.Frame := { wait := .nextStart, pc := 10, pos := p, outermost := first }
def fB (pc p : Nat) (first : Bool) : Sre.Frame := { wait := .nextBranch, pc := pc, pos := p, outermost := first }
def fL (p : Nat) (first : Bool) : Sre.Frame := { wait := .lookNot, pc := 26, pos := p, outermost := first }
section
variable {t : Array Nat} {p pc pos hd wt : Nat} {out : Bool} {sn : Sre.Seen} {fr : List Sre.Frame}
theorem m2_lit_yes {c : Nat} (hpc : pc < 36) (hw : ops[code2.getD (pc + 0) 0]? = some .LITERAL) (hc : code2.getD (pc + 1) 0 = c) (h : pos < t.size) (ht : t.getD pos 0 = c) :
    (mk2 t p pc pos hd out sn fr wt none).step = mk2 t p (pc + 2) (pos + 1) hd out (sn.add (code2.getD (pc + 0) 0)) fr wt none := by
  rw [step_exec rfl rfl hpc, exec_lit (m := mk2 t p pc pos hd out sn fr wt none) (c := c) hw hc]
  exact if_pos ⟨h, ht⟩
theorem m2_lit_no {c : Nat} (hpc : pc < 36) (hw : ops[code2.getD (pc + 0) 0]? = some .LITERAL) (hc : code2.getD (pc + 1) 0 = c) (h : ¬ (pos < t.size ∧ t.getD pos 0 = c)) :
    (mk2 t p pc pos hd out sn fr wt none).step = mk2 t p pc pos hd out (sn.add (code2.getD (pc + 0) 0)) fr wt (some false) := by
  rw [step_exec rfl rfl hpc, exec_lit (m := mk2 t p pc pos hd out sn fr wt none) (c := c) hw hc]
  exact if_neg h
theorem m2_jump (hpc : pc < 36) (hw : ops[code2.getD (pc + 0) 0]? = some .JUMP) :
    (mk2 t p pc pos hd out sn fr wt none).step = mk2 t p (pc + 1 + code2.getD (pc + 1) 0) pos hd out (sn.add (code2.getD (pc + 0) 0)) fr wt none := by
  rw [step_exec rfl rfl hpc, exec_jump (m := mk2 t p pc pos hd out sn fr wt none) hw]
  rfl
theorem m2_success : (mk2 t p 35 pos hd out sn fr wt none).step = mk2 t p 35 pos pos out (sn.add 1) fr wt (some true) := by
  rw [step_exec rfl rfl (by show 35 < 36; decide), exec_success (m := mk2 t p 35 pos hd out sn fr wt none) rfl rfl rfl]
  rfl
theorem m2_branch (hw : wt < 1000) : (mk2 t p 10 pos hd out sn fr wt none).step = mk2 t p 12 pos pos out (sn.add 7) (fB 11 pos out :: fr) (wt + 1) none := by
  rw [step_exec rfl rfl (by show 10 < 36; decide)]
  show (if wt + 1 + 0 > 16777216 then _ else _) = _
  rw [if_neg (by omega)]
  rfl
theorem m2_alt {q : Nat} (hw : wt < 1000) (h0 : (code2.getD (pc + code2.getD pc 0) 0 == 0) = false) :
    (mk2 t p q pos hd out sn (fB pc pos out :: fr) (wt + 1) (some false)).step = mk2 t p (pc + code2.getD pc 0 + 1) pos pos out sn (fB (pc + code2.getD pc 0) pos out :: fr) (wt + 1) none := by
  rw [step_answer (m := mk2 t p q pos hd out sn (fB pc pos out :: fr) (wt + 1) (some false)) rfl rfl rfl]
  show (if (code2.getD (pc + code2.getD pc 0) 0 == 0) = true then _ else (if wt + 1 - (1 + 0) + 1 + 0 > 16777216 then _ else _)) = _
  rw [h0]
  show (if wt + 1 - (1 + 0) + 1 + 0 > 16777216 then _ else _) = _
  rw [if_neg (by omega)]
  rfl
theorem m2_alt' {q pos' : Nat} {out' : Bool} (hw : wt < 1000) (h0 : (code2.getD (pc + code2.getD pc 0) 0 == 0) = false) :
    (mk2 t p q pos' hd out' sn (fB pc pos out :: fr) (wt + 1) (some false)).step = mk2 t p (pc + code2.getD pc 0 + 1) pos pos out sn (fB (pc + code2.getD pc 0) pos out :: fr) (wt + 1) none := by
  rw [step_answer (m := mk2 t p q pos' hd out' sn (fB pc pos out :: fr) (wt + 1) (some false)) rfl rfl rfl]
  show (if (code2.getD (pc + code2.getD pc 0) 0 == 0) = true then _ else (if wt + 1 - (1 + 0) + 1 + 0 > 16777216 then _ else _)) = _
  rw [h0]
  show (if wt + 1 - (1 + 0) + 1 + 0 > 16777216 then _ else _) = _
  rw [if_neg (by omega)]
  rfl
theorem m2_not (hw : wt < 1000) : (mk2 t p 26 pos hd out sn fr wt none).step = mk2 t p 29 pos pos false (sn.add 5) (fL pos out :: fr) (wt + 1) none := by
  rw [step_exec rfl rfl (by show 26 < 36; decide)]
  show (if pos < 0 then ({ mk2 t p 26 pos hd out (sn.add 5) fr wt none with pc := 26 + 1 + 5 } : Sre.M) else (if wt + 1 + 0 > 16777216 then (mk2 t p 26 pos hd out (sn.add 5) fr wt none).stick "frames:memory" else mk2 t p 29 (pos - 0) (pos - 0) false (sn.add 5) (fL pos out :: fr) (wt + 1 + 0) none)) = _
  rw [if_neg (by omega), if_neg (by omega)]
  rfl
theorem m2_notback {q pos' : Nat} {out' : Bool} : (mk2 t p q pos' hd out' sn (fL pos out :: fr) (wt + 1) (some false)).step = mk2 t p 32 pos hd out sn fr wt none := by
  rw [step_answer (m := mk2 t p q pos' hd out' sn (fL pos out :: fr) (wt + 1) (some false)) rfl rfl rfl]
  rfl
theorem m2_won {first out' : Bool} {q pcB pB pS : Nat} {outB : Bool} : (stepN 3 (mk2 t p q pos hd out' sn [fB pcB pB outB, fS pS first] wt (some true))).outcome = some .matched ∧
    (stepN 3 (mk2 t p q pos hd out' sn [fB pcB pB outB, fS pS first] wt (some true))).start = p ∧ (stepN 3 (mk2 t p q pos hd out' sn [fB pcB pB outB, fS pS first] wt (some true))).handed = hd := ⟨rfl, rfl, rfl⟩
end
def crAt (t : Array Nat) (p : Nat) : Bool := p < t.size && (t.getD p 0 == 10 || t.getD p 0 == 13)
/-- how far the line's end reaches -/
def crEnd (t : Array Nat) (p : Nat) : Nat := if t.getD p 0 = 13 ∧ p + 1 < t.size ∧ t.getD (p + 1) 0 = 10 then p + 2 else p + 1
def Hit2 (t : Array Nat) (p : Nat) (m : Sre.M) : Prop := m.outcome = some .matched ∧ m.start = p ∧ m.handed = crEnd t p
theorem att2_hit (t : Array Nat) (p : Nat) (first : Bool) (sn : Sre.Seen) (h : crAt t p = true) : ∃ k, k ≤ 40 ∧ Hit2 t p (stepN k (mk2 t p 10 p p first sn [fS p first] 1 none)) := by
  unfold crAt at h
  simp only [Bool.and_eq_true, decide_eq_true_eq, Bool.or_eq_true, beq_iff_eq] at h
  obtain ⟨hp, h⟩ := h
  rcases h with h | h
  · have h13 : ¬ (p < t.size ∧ t.getD p 0 = 13) := fun q => by rw [h] at q; exact absurd q.2 (by decide)
    have e1 : stepN 6 (mk2 t p 10 p p first sn [fS p first] 1 none) = mk2 t p 35 (p + 1) (p + 1) first (((((sn.add 7).add 16).add 16).add 15).add 1) [fB 18 p first, fS p first] 2 (some true) := by
      show Sre.M.step (Sre.M.step (Sre.M.step (Sre.M.step (Sre.M.step (Sre.M.step _))))) = _
      rw [m2_branch (by decide), m2_lit_no (c := 13) (by decide) rfl rfl h13, m2_alt (by decide) rfl]
      rw [show 11 + code2.getD 11 0 = 18 from rfl, m2_lit_yes (c := 10) (by decide) rfl rfl hp h, m2_jump (by decide) rfl]
      exact m2_success
    have w := m2_won (t := t) (p := p) (pos := p + 1) (hd := p + 1) (wt := 2) (sn := ((((sn.add 7).add 16).add 16).add 15).add 1) (first := first) (out' := first) (q := 35) (pcB := 18) (pB := p) (pS := p) (outB := first)
    refine ⟨6 + 3, by decide, ?_⟩
    rw [stepN_add, e1]
    exact ⟨w.1, w.2.1, w.2.2.trans (if_neg (fun q => by rw [h] at q; exact absurd q.1 (by decide))).symm⟩
  · by_cases h2 : p + 1 < t.size ∧ t.getD (p + 1) 0 = 10
    · have e1 : stepN 5 (mk2 t p 10 p p first sn [fS p first] 1 none) = mk2 t p 35 (p + 2) (p + 2) first (((((sn.add 7).add 16).add 16).add 15).add 1) [fB 11 p first, fS p first] 2 (some true) := by
        show Sre.M.step (Sre.M.step (Sre.M.step (Sre.M.step (Sre.M.step _)))) = _
        rw [m2_branch (by decide), m2_lit_yes (c := 13) (by decide) rfl rfl hp h, m2_lit_yes (c := 10) (by decide) rfl rfl h2.1 h2.2, m2_jump (by decide) rfl]
        exact m2_success
      have w := m2_won (t := t) (p := p) (pos := p + 2) (hd := p + 2) (wt := 2) (sn := ((((sn.add 7).add 16).add 16).add 15).add 1) (first := first) (out' := first) (q := 35) (pcB := 11) (pB := p) (pS := p) (outB := first)
      refine ⟨5 + 3, by decide, ?_⟩
      rw [stepN_add, e1]
      exact ⟨w.1, w.2.1, w.2.2.trans (if_pos ⟨h, h2⟩).symm⟩
    · have h10 : ¬ (p < t.size ∧ t.getD p 0 = 10) := fun q => by rw [h] at q; exact absurd q.2 (by decide)
      have e1 : stepN 12 (mk2 t p 10 p p first sn [fS p first] 1 none) = mk2 t p 35 (p + 1) (p + 1) first (((((((((sn.add 7).add 16).add 16).add 16).add 16).add 5).add 16).add 15).add 1) [fB 23 p first, fS p first] 2 (some true) := by
        show Sre.M.step (Sre.M.step (Sre.M.step (Sre.M.step (Sre.M.step (Sre.M.step (Sre.M.step (Sre.M.step (Sre.M.step (Sre.M.step (Sre.M.step (Sre.M.step _))))))))))) = _
        rw [m2_branch (by decide), m2_lit_yes (c := 13) (by decide) rfl rfl hp h, m2_lit_no (c := 10) (by decide) rfl rfl h2, m2_alt' (by decide) rfl]
        rw [show 11 + code2.getD 11 0 = 18 from rfl, m2_lit_no (c := 10) (by decide) rfl rfl h10, m2_alt (by decide) rfl]
        rw [show 18 + code2.getD 18 0 = 23 from rfl, m2_lit_yes (c := 13) (by decide) rfl rfl hp h, m2_not (by decide), m2_lit_no (c := 10) (by decide) rfl rfl h2, m2_notback, m2_jump (by decide) rfl]
        exact m2_success
      have w := m2_won (t := t) (p := p) (pos := p + 1) (hd := p + 1) (wt := 2) (sn := ((((((((sn.add 7).add 16).add 16).add 16).add 16).add 5).add 16).add 15).add 1) (first := first) (out' := first) (q := 35) (pcB := 23) (pB := p) (pS := p) (outB := first)
      refine ⟨12 + 3, by decide, ?_⟩
      rw [stepN_add, e1]
      exact ⟨w.1, w.2.1, w.2.2.trans (if_neg (fun q => h2 q.2)).symm⟩
/-- the first set -/
theorem inSet2 (c : Nat) (sn : Sre.Seen) : ∃ sn', inSet code2 c code2.size 5 true sn = .ok (c == 10 || c == 13, sn') := by
  have e : inSet code2 c code2.size 5 true sn = if c == 10 then .ok (true, sn.add 16) else if c == 13 then .ok (true, (sn.add 16).add 16) else .ok (false, ((sn.add 16).add 16).add 0) := rfl
  rw [e]
  by_cases h1 : (c == 10) = true
  · rw [if_pos h1, h1]; exact ⟨_, rfl⟩
  · rw [if_neg h1, Bool.eq_false_iff.mpr h1]
    by_cases h2 : (c == 13) = true
    · rw [if_pos h2, h2]; exact ⟨_, rfl⟩
    · rw [if_neg h2, Bool.eq_false_iff.mpr h2]; exact ⟨_, rfl⟩
theorem admitted2 (m : Sre.M) (hc : m.code = code2) (hl : m.lim = m.text.size) : ∀ (f s : Nat) (sn : Sre.Seen), m.text.size < f + s →
    (∃ q sn', Sre.M.admitted m f s sn = .ok (some q, sn') ∧ s ≤ q ∧ crAt m.text q = true ∧ ∀ r, s ≤ r → r < q → crAt m.text r = false) ∨
    (∃ sn', Sre.M.admitted m f s sn = .ok (none, sn') ∧ ∀ r, s ≤ r → crAt m.text r = false) := by
  intro f
  induction f with
  | zero =>
    intro s sn h
    exact .inr ⟨sn, rfl, fun r hr => by unfold crAt; rw [decide_eq_false (by omega)]; rfl⟩
  | succ f ih =>
    intro s sn h
    unfold Sre.M.admitted
    rw [hl, hc]
    by_cases hs : s ≥ m.text.size
    · rw [if_pos hs]
      exact .inr ⟨sn, rfl, fun r hr => by unfold crAt; rw [decide_eq_false (by omega)]; rfl⟩
    · rw [if_neg hs]
      obtain ⟨sn', e⟩ := inSet2 (m.text.getD s 0) sn
      rw [e]
      have hcr : crAt m.text s = (m.text.getD s 0 == 10 || m.text.getD s 0 == 13) := by
        unfold crAt
        rw [decide_eq_true (Nat.not_le.mp hs)]
        rfl
      cases hb : (m.text.getD s 0 == 10 || m.text.getD s 0 == 13) with
      | true => exact .inl ⟨s, sn', rfl, Nat.le_refl _, hcr.trans hb, fun r a b => by omega⟩
      | false =>
        have one : ∀ r, s ≤ r → ¬ s + 1 ≤ r → crAt m.text r = false := fun r h1 h2 => by
          have : r = s := by omega
          rw [this, hcr, hb]
        rcases ih (s + 1) sn' (by omega) with ⟨q, s2, h1, h2, h3, h4⟩ | ⟨s2, h1, h2⟩
        · exact .inl ⟨q, s2, h1, by omega, h3, fun r a b => if c : s + 1 ≤ r then h4 r c b else one r a c⟩
        · exact .inr ⟨s2, h1, fun r a => if c : s + 1 ≤ r then h2 r c else one r a c⟩
def Res2 (t : Array Nat) (p : Nat) (m : Sre.M) : Prop :=
  (∃ q, p ≤ q ∧ crAt t q = true ∧ (∀ r, p ≤ r → r < q → crAt t r = false) ∧ Hit2 t q m) ∨ ((∀ r, p ≤ r → crAt t r = false) ∧ m.outcome = some .failed)
theorem forSearch2 (t : Array Nat) (p : Nat) (hp : p ≤ t.size) : ∃ k, k ≤ 40 ∧ (stepN k (Sre.forSearch code2 t 0 p t.size false)).outcome.isSome = true ∧ Res2 t p (stepN k (Sre.forSearch code2 t 0 p t.size false)) := by
  by_cases h : p < t.size
  · let m0 : Sre.M := { code := code2, text := t, lim := t.size, start := p, lastStart := t.size, pc := 10, pos := p, handed := p, marks := #[], seen := (({} : Sre.Seen)).add 14 }
    have e : Sre.forSearch code2 t 0 p t.size false = m0.attemptFrom p true := by
      unfold Sre.forSearch
      have q : ¬ ((p > t.size || t.size - p < (header code2).1) = true) := by
        have : (header code2).1 = 1 := rfl
        rw [this]
        simp only [Bool.or_eq_true, decide_eq_true_eq]
        omega
      dsimp only
      rw [if_neg (by simpa using q)]
      rfl
    have e2 : m0.attemptFrom p true = match Sre.M.admitted m0 (t.size + 1 - p) p m0.seen with
      | .ok (some s, seen) => ({ m0 with mustAdvance := false, seen } : Sre.M).attemptAt s true
      | .ok (none, seen) => ({ m0 with seen } : Sre.M).say false
      | .error why => m0.stick why := rfl
    rw [e, e2]
    rcases admitted2 m0 rfl rfl (t.size + 1 - p) p m0.seen (by show t.size < _; omega) with ⟨q, sn, h1, h2, h3, h4⟩ | ⟨sn, h1, h2⟩
    · rw [h1]
      have e3 : ({ m0 with mustAdvance := false, seen := sn } : Sre.M).attemptAt q true = mk2 t q 10 q q true sn [fS q true] 1 none := rfl
      obtain ⟨k, k1, k2⟩ := att2_hit t q true sn h3
      refine ⟨k, k1, ?_, ?_⟩
      · show (stepN k (({ m0 with mustAdvance := false, seen := sn } : Sre.M).attemptAt q true)).outcome.isSome = true
        rw [e3, k2.1]; rfl
      · show Res2 t p (stepN k (({ m0 with mustAdvance := false, seen := sn } : Sre.M).attemptAt q true))
        rw [e3]
        exact .inl ⟨q, h2, h3, h4, k2⟩
    · rw [h1]
      exact ⟨1, by decide, rfl, .inr ⟨h2, rfl⟩⟩
  · have hno : ∀ r, p ≤ r → crAt t r = false := by
      intro r hr
      unfold crAt
      rw [decide_eq_false (by omega)]
      rfl
    have e : (stepN 1 (Sre.forSearch code2 t 0 p t.size false)).outcome = some .failed := by
      unfold Sre.forSearch
      have q : (p > t.size || t.size - p < (header code2).1) = true := by
        have : (header code2).1 = 1 := rfl
        rw [this]
        simp only [Bool.or_eq_true, decide_eq_true_eq]
        omega
      dsimp only
      rw [if_pos (by simpa using q)]
      rfl
    exact ⟨1, by omega, by rw [e]; rfl, .inr ⟨hno, e⟩⟩
end Mine
namespace Mine
open PySem.Calls
theorem plainAttrs_pat : PlainAttrs "re.Pattern" :=
  ⟨⟨"object.__getattribute__", by rw [typeLookup_type, builtinLookup_eq_fast]; kernel_rfl, by decide +kernel⟩, by rw [typeLookup_type, builtinLookup_eq_fast]; kernel_rfl⟩
theorem slot_pat_sub : Slot "re.Pattern" "sub" "re.Pattern.sub" :=
  .of (owner := "re.Pattern") (n := "sub") (by rw [typeLookup_type, builtinLookup_eq_fast]; kernel_rfl) (by decide +kernel) (by decide +kernel) (by decide +kernel)
    (by first | exact .inl (by decide +kernel) | exact .inr (by decide +kernel)) (by rw [isSubtype_type]; kernel_rfl)
theorem type_pat_sub : typeOf (.builtin "re.Pattern.sub") = pure (.type "method_descriptor") := by show builtinType _ = _; rw [builtinType_eq_fast]; kernel_rfl
theorem entry_pat_sub : entryFor table "re.Pattern.sub" = some Builtin.«re.Pattern.sub» := entryFor_of_tree (by kernel_rfl)
theorem entry_pat_loop : entryFor table "re.Pattern.sub.loop" = some Builtin.«re.Pattern.sub.loop» := entryFor_of_tree (by kernel_rfl)
theorem plain_pat_loop : plainId "re.Pattern.sub.loop" = true := by decide +kernel
theorem args_pat_sub (a b c : Value) : argsOk "re.Pattern.sub" ⟨[a, b, c], []⟩ := by
  unfold argsOk; kernel_rfl
theorem str_no_call : typeLookup (.type "str") "__call__" = pure none := by rw [typeLookup_type, builtinLookup_eq_fast]; kernel_rfl
end Mine
namespace Mine
open PySem.Calls PySem.Builtin PySem.Builtin.Re
structure PatAt (h : Heap) (P C : Addr) (code : Array Nat) : Prop where
  obj : ∃ o vs, h.get? P = some o ∧ o.cls = .type "re.Pattern" ∧ o.dict = none ∧ o.data = .fields vs ∧ vs.getD 6 .none = .int 0 0 ∧ vs.getD 2 .none = .int 0 0 ∧ vs.getD 5 .none = .ref C
  tab : ∃ o cs n, h.get? C = some o ∧ o.data = .seq cs n ∧ (cs.map reRawOf).map (·.toNat) = code
theorem whole_wp {M : Model} {A : Around} {E : Value → Shared → Prop} {s : Shared} {P C : Addr} {code : Array Nat} {T : Str} {t : Tok} {Q : ReTarget → Shared → Prop} (H : PatAt s.heap P C code)
    (h : Q { pattern := .ref P, string := .str T t, code := code, text := T.cps, kind := 0, groups := 0, pos := 0, lim := T.cps.size } s) : wpAny M A (reWholeTarget (.ref P) (.str T t)) Q E s := by
  obtain ⟨⟨o, vs, ho, hc, hd, hv, h6, h2, h5⟩, oC, cs, n, hC, hcs, hcode⟩ := H
  unfold reWholeTarget
  refine wpAny_bind (wpAny_fieldsOf ho hv ?_)
  refine wpAny_bind (m := reTextOf (.str T t)) (wpAny_pure ?_)
  rw [h6, h2, h5]
  show wpAny M A (do
      reNoCollectionInside (Value.str T t) 0
      let l ← reRawItems (.ref C)
      pure ({ pattern := Value.ref P, string := Value.str T t, code := l.map (·.toNat), text := T.cps, kind := 0, groups := 0, pos := 0, lim := T.cps.size } : ReTarget)) Q E s
  refine wpAny_bind (m := reNoCollectionInside (.str T t) 0) (wpAny_pure ?_)
  unfold reRawItems
  refine wpAny_bind (wpAny_bind (wpAny_seqItems hC hcs (wpAny_pure (wpAny_pure ?_))))
  show Q { pattern := Value.ref P, string := Value.str T t, code := (cs.map reRawOf).map (·.toNat), text := T.cps, kind := 0, groups := 0, pos := 0, lim := T.cps.size } s
  rw [hcode]
  exact h
/-- what a search finds: from each start a place that is not empty, or none -/
structure Finds (code t : Array Nat) (F : Nat → Option (Nat × Nat)) : Prop where
  run : ∀ p, p ≤ t.size → ∃ k, k ≤ 2 ^ 60 ∧ match F p with
    | some (b, e) => (stepN k (Sre.forSearch code t 0 p t.size false)).outcome = some .matched ∧ (stepN k (Sre.forSearch code t 0 p t.size false)).start = b ∧ (stepN k (Sre.forSearch code t 0 p t.size false)).handed = e
    | none => (stepN k (Sre.forSearch code t 0 p t.size false)).outcome = some .failed
  room : ∀ p b e, p ≤ t.size → F p = some (b, e) → p ≤ b ∧ b < e ∧ e ≤ t.size
def subTxt (t r : Array Nat) (F : Nat → Option (Nat × Nat)) : Nat → Nat → List Nat
  | 0, _ => []
  | f + 1, p => match F p with
    | some (b, e) => (t.extract p b).toList ++ r.toList ++ subTxt t r F f e
    | none => (t.extract p t.size).toList
def catS (ys : List Str) : List Nat := (ys.map fun y => y.cps.toList).flatten
theorem join_nil_cat (ys : List Str) : Txt.join ⟨#[]⟩ ys = ⟨(catS ys).toArray⟩ := by
  unfold Txt.join Builtin.Str.glued catS
  cases ys with
  | nil => rfl
  | cons y r =>
    have h : ∀ (l : List Str) (a : Array Nat), l.foldl (fun acc (p : Str) => acc ++ (#[] : Array Nat) ++ p.cps) a = a ++ ((l.map fun y => y.cps.toList).flatten).toArray := by
      intro l
      induction l with
      | nil => intro a; simp
      | cons z l ih =>
        intro a
        rw [List.foldl_cons, ih]
        apply Array.toList_inj.mp
        simp
    simp only [List.drop_succ_cons, List.drop_zero, List.headD_cons, h, List.map_cons, List.flatten_cons]
    congr 1
    apply Array.toList_inj.mp
    simp
theorem find_wp {M : Model} {A : Around} {E : Value → Shared → Prop} {s : Shared} {T : ReTarget} {F : Nat → Option (Nat × Nat)} {p : Nat} {Q : Option Sre.M → Shared → Prop} (H : Finds T.code T.text F) (hg : T.groups = 0) (hl : T.lim = T.text.size) (hp : p ≤ T.text.size)
    (h : match F p with
      | some (b, e) => ∀ m : Sre.M, m.start = b → m.handed = e → Q (some m) s
      | none => Q none s) : wpAny M A (reNextFound T p false) Q E s := by
  unfold reNextFound
  rw [hg, hl]
  obtain ⟨k, hk, r⟩ := H.run p hp
  cases hF : F p with
  | none =>
    rw [hF] at r h
    exact reRun_wp (k := k) (by rw [r]; rfl) hk fun o ho => by
      rw [r] at ho
      cases ho
      exact h
  | some be =>
    obtain ⟨b, e⟩ := be
    rw [hF] at r h
    exact reRun_wp (k := k) (by rw [r.1]; rfl) hk fun o ho => by
      rw [r.1] at ho
      cases ho
      exact h _ r.2.1 r.2.2
theorem catS_append (a b : List Str) : catS (a ++ b) = catS a ++ catS b := by simp [catS]
theorem catS_one (y : Str) : catS [y] = y.cps.toList := by simp [catS]
theorem sumLen_cat (ys : List Str) : (ys.map (·.length)).sum = (catS ys).length := by
  induction ys with
  | nil => rfl
  | cons y r ih =>
    have e : catS (y :: r) = y.cps.toList ++ catS r := rfl
    rw [List.map_cons, List.sum_cons, ih, e, List.length_append]
    rfl
def ListAt (h : Heap) (D : Addr) (ys : List Str) : Prop := ∃ its n, h.get? D = some (listOf its n) ∧ StrsAre its.toList ys
theorem push_wp {M : Model} {A : Around} {E : Value → Shared → Prop} {s : Shared} {D : Addr} {ys : List Str} {y : Str} {t : Tok} {Q : Unit → Shared → Prop} (H : ListAt s.heap D ys) (hz : ys.length ≤ 100000)
    (h : ∀ h', (∀ b o, b ≠ D → s.heap.get? b = some o → h'.get? b = some o) → ListAt h' D (ys ++ [y]) → Q () { s with heap := h' }) : wpAny M A (updateSeq D (·.push (.str y t))) Q E s := by
  obtain ⟨its, n, ho, hs⟩ := H
  have hl := hs.length
  have hsz : its.size = ys.length := by rw [← hl, Array.length_toList]
  refine wpAny_updateSeq ho rfl (h _ (fun b o hb e => (Heap.SameBut.update ..).2 b hb |>.trans e) ?_) (by rw [hsz, sizeLine_eq]; omega) (by rw [Array.size_push, hsz, sizeLine_eq]; omega)
  refine ⟨its.push (.str y t), _, PySem.IsL.update ho (·.push (.str y t)), ?_⟩
  rw [Array.toList_push]
  exact hs.append' (.cons y t .nil)
theorem pat_ext {h h' : Heap} {P C D : Addr} {code : Array Nat} (hP : P ≠ D) (hC : C ≠ D) (e : ∀ b o, b ≠ D → h.get? b = some o → h'.get? b = some o) (H : PatAt h P C code) : PatAt h' P C code :=
  let ⟨⟨o, vs, a1, a2⟩, oC, cs, n, c1, c2⟩ := H
  ⟨⟨o, vs, e _ _ hP a1, a2⟩, oC, cs, n, e _ _ hC c1, c2⟩
theorem slice_wp {M : Model} {A : Around} {E : Value → Shared → Prop} {s : Shared} {t : Array Nat} {b e : Nat} {Q : Value → Shared → Prop} (hz : t.size ≤ 100000) (h : ∀ k, Q (.str ⟨t.extract b e⟩ s.toks) { s with toks := k }) : wpAny M A (reSlice t 0 b e) Q E s := by
  show wpAny M A (mkStr ⟨t.extract b e⟩) Q E s
  refine wpAny_mkStr (h _) ?_
  show (t.extract b e).size ≤ sizeLine
  rw [Array.size_extract, sizeLine_eq]
  omega
theorem quiet_loop (args : Args) : (Code.builtin "re.Pattern.sub.loop" args).quiet = true := plainId_quiet plain_pat_loop args
/-- the text between two places goes onto the list, where there is one -/
theorem piece_wp {α : Type} {M : Model} {A : Around} {E : Value → Shared → Prop} {s : Shared} {t : Array Nat} {p b : Nat} {D : Addr} {ys : List Str} {rest : Sem α} {Q : α → Shared → Prop} (HL : ListAt s.heap D ys) (hz : t.size ≤ 100000) (hy : ys.length ≤ 100000) (hpb : p ≤ b)
    (go : ∀ ys' h' k, (∀ a o, a ≠ D → s.heap.get? a = some o → h'.get? a = some o) → ListAt h' D ys' → ys'.length ≤ ys.length + 1 → catS ys' = catS ys ++ (t.extract p b).toList → wpAny M A rest Q E { s with heap := h', toks := k }) :
    wpAny M A (if p < b then reSlice t 0 p b >>= fun v => updateSeq D (·.push v) >>= fun _ => rest else rest) Q E s := by
  refine wpAny_ite ?_
  split
  · exact wpAny_bind (slice_wp hz fun k => wpAny_bind (push_wp HL hy fun h' x L' => go _ h' k x L' (by simp) (by rw [catS_append, catS_one])))
  · rename_i q
    obtain rfl : p = b := by omega
    exact go ys s.heap s.toks (fun _ _ _ e => e) HL (Nat.le_succ _) (by simp)
theorem sub_loop {prog : Program} {w : World} {A : Around} {P C D : Addr} {code : Array Nat} {T Rr : Str} {tt tr : Tok} {F : Nat → Option (Nat × Nat)} {R : Result → Shared → Prop} (H : Finds code T.cps F) (hP : P ≠ D) (hC : C ≠ D) (hT : T.cps.size ≤ 10000) (hr : Rr.cps.size ≤ 10) :
    ∀ (f p : Nat) (n : Int) (ys : List Str) (s : Shared), T.cps.size - p < f → p ≤ T.cps.size → PatAt s.heap P C code → ListAt s.heap D ys → ys.length ≤ 2 * p → (catS ys).length ≤ 11 * p →
      (∀ h' tk tok, (∀ b o, b ≠ D → s.heap.get? b = some o → h'.get? b = some o) → R (.ok (.ret (.str ⟨(catS ys ++ subTxt T.cps Rr.cps F f p).toArray⟩ tok))) { s with heap := h', toks := tk }) →
      codeAny (model prog w) A (.builtin "re.Pattern.sub.loop" ⟨[.ref P, .str T tt, .str Rr tr, .int 0 0, .int 0 0, .int n 0, .int (p : Nat) 0, .int (p : Nat) 0, .bool false, .ref D, .bool false], []⟩) R s := by
  intro f
  induction f with
  | zero => intro p n ys s h; omega
  | succ f ih =>
    intro p n ys s hf hp HP HL hy hc hR
    have step : subTxt T.cps Rr.cps F (f + 1) p = match F p with | some (b, e) => (T.cps.extract p b).toList ++ Rr.cps.toList ++ subTxt T.cps Rr.cps F f e | none => (T.cps.extract p T.cps.size).toList := rfl
    refine codeAny_builtin entry_pat_loop ?_
    rw [Around.under_plainId plain_pat_loop _]
    unfold «re.Pattern.sub.loop»
    refine wpAny_bind (whole_wp HP ?_)
    refine wpAny_bind (m := reLiteralCannotBeTurned (.str Rr tr)) (wpAny_pure ?_)
    refine wpAny_bind (m := reNextFound _ p false) (find_wp (F := F) H rfl rfl hp ?_)
    cases hF : F p with
    | some be =>
      obtain ⟨b, e⟩ := be
      rw [hF] at step
      obtain ⟨r1, r2, r3⟩ := H.room p b e hp hF
      intro m hm he
      dsimp only
      rw [hm, he]
      have size : (T.cps.extract p b).toList.length = b - p := by rw [Array.length_toList, Array.size_extract]; omega
      refine piece_wp (t := T.cps) (p := p) HL (by omega) (by omega) r1 fun ys' h₁ k x L₁ l₁ c₁ => ?_
      refine wpAny_bind (m := pure (Value.str Rr tr)) (wpAny_pure ?_)
      refine wpAny_bind (m := updateSeq D (·.push (.str Rr tr))) (push_wp L₁ (by omega) fun h₂ y L₂ => ?_)
      have out : ∀ a o, a ≠ D → s.heap.get? a = some o → h₂.get? a = some o := fun a o ne q => y a o ne (x a o ne q)
      have ne : (e == b) = false := beq_eq_false_iff_ne.mpr (by omega)
      refine wpAny_pure ⟨quiet_loop _, ?_⟩
      rw [ne]
      refine ih e (n + 1) (ys' ++ [Rr]) { s with heap := h₂, toks := k } (by omega) r3 (pat_ext hP hC out HP) L₂ (by rw [List.length_append, List.length_singleton]; omega) ?_ fun h' tk tok q => ?_
      · have : Rr.cps.toList.length ≤ 10 := by rw [Array.length_toList]; exact hr
        rw [catS_append, catS_one, c₁, List.length_append, List.length_append, size]; omega
      · have fine := hR h' tk tok fun a o ne g => q a o ne (out a o ne g)
        rw [step, ← List.append_assoc, ← List.append_assoc, ← c₁, ← catS_one Rr, ← catS_append] at fine
        exact fine
    | none =>
      rw [hF] at step
      dsimp only
      have size : (T.cps.extract p T.cps.size).toList.length = T.cps.size - p := by rw [Array.length_toList, Array.size_extract]; omega
      refine piece_wp (t := T.cps) (p := p) HL (by omega) (by omega) hp fun ys' h₁ k x L₁ l₁ c₁ => ?_
      rw [step, ← c₁] at hR
      have nil : T.cps.extract 0 0 = #[] := Array.toList_inj.mp (by simp)
      obtain ⟨its, nn, ho, hs⟩ := L₁
      refine wpAny_bind (m := reSlice T.cps 0 0 0) (slice_wp (by omega) fun k₂ => ?_)
      rw [nil]
      refine wpAny_bind (m := seqItems? (.ref D)) (wpAny_seqItems (o := listOf its nn) ho rfl ?_)
      refine wpAny_ite ?_
      split
      · rename_i emp
        obtain rfl : its = #[] := by simpa using emp
        cases hs
        exact wpAny_bind (wpAny_pure (wpAny_pure (hR _ _ _ x)))
      · refine wpAny_bind (m := call (.builtin "str.join") [.str ⟨#[]⟩ _, .ref D]) (join_list (items := its) ⟨_, ho, rfl, nn, rfl⟩ hs ?_ fun t' k' => ?_)
        · rw [sumLen_cat, c₁, List.length_append, size]
          show _ + _ * 0 ≤ _
          omega
        · rw [join_nil_cat]
          exact wpAny_pure (hR _ _ _ x)
end Mine
namespace Mine
open PySem.Calls PySem.Builtin PySem.Builtin.Re
theorem named3 (a b : Value) : reNamed "re.Pattern.sub" "sub" ["repl", "string", "count"] 2 [a, b] [] = pure [some a, some b, none] := by
  rfl
theorem sub_call {prog : Program} {w : World} {A : Around} {E : Value → Shared → Prop} {s : Shared} {P C : Addr} {code : Array Nat} {T Rr : Str} {tt tr : Tok} {F : Nat → Option (Nat × Nat)} {Q : Value → Shared → Prop}
    (H : Finds code T.cps F) (HP : PatAt s.heap P C code) (hT : T.cps.size ≤ 10000) (hr : Rr.cps.size ≤ 10) (hlit : Rr.cps.contains 92 = false)
    (h : ∀ h' tk tok, (∀ b o, s.heap.get? b = some o → h'.get? b = some o) → Q (.str ⟨(subTxt T.cps Rr.cps F (T.cps.size + 1) 0).toArray⟩ tok) { s with heap := h', toks := tk }) :
    wpAny (model prog w) A (call (.builtin "re.Pattern.sub") [.ref P, .str Rr tr, .str T tt]) Q E s := by
  have HP0 := HP
  obtain ⟨⟨oP, vs, hoP, hcP, _⟩, oC, cs, nC, hoC, _⟩ := HP0
  have hPT : s.TypeIs (.ref P) "re.Pattern" := ⟨oP, hoP, hcP⟩
  refine wpAny_call (codeAny_call_builtin slot_pat_sub.plain entry_pat_sub (slot_pat_sub.check _ _ _ _ _ _ _ _ hPT (args_pat_sub _ _ _) ?_))
  unfold «re.Pattern.sub» reSubstitute
  refine wpAny_bind (m := reNamed "re.Pattern.sub" "sub" ["repl", "string", "count"] 2 [.str Rr tr, .str T tt] []) ?_
  rw [named3]
  refine wpAny_pure (wpAny_bind (m := pure 0) (wpAny_pure ?_))
  refine wpAny_bind (m := specialOf (.str Rr tr) _) (wpAny_specialOf (typeIs_str _ _ _) str_no_call ?_)
  refine wpAny_bind (m := asStr? (.str Rr tr)) (wpAny_pure ?_)
  refine wpAny_bind (m := pure !Rr.cps.contains 92) (wpAny_pure ?_)
  rw [hlit]
  refine wpAny_bind (m := pure (Value.str Rr tr, 0)) (wpAny_pure ?_)
  refine wpAny_bind (m := holding [.str Rr tr] _) (wpAny_holding (whole_wp HP ?_))
  refine wpAny_bind (m := newList []) (wpAny_newList ?_)
  have hPD : P ≠ s.heap.objs.size := Nat.ne_of_lt (Heap.lt_size hoP)
  have hCD : C ≠ s.heap.objs.size := Nat.ne_of_lt (Heap.lt_size hoC)
  refine wpAny_pure ⟨quiet_loop _, ?_⟩
  have ext : ∀ b o, s.heap.get? b = some o → (s.heap.push { cls := .type "list", data := .seq ([] : List Value).toArray }).get? b = some o := fun b o e => Heap.get?_push_of_some _ e
  refine sub_loop (F := F) H hPD hCD hT hr (T.cps.size + 1) 0 0 [] _ (by omega) (Nat.zero_le _) ?_ ⟨#[], 0, Heap.get?_push_size _ rfl, .nil⟩ (Nat.zero_le _) (Nat.zero_le _) ?_
  · obtain ⟨⟨o, vs, a1, a2⟩, oC, cs, n, c1, c2⟩ := HP
    exact ⟨⟨o, vs, ext _ _ a1, a2⟩, oC, cs, n, ext _ _ c1, c2⟩
  · intro h' tk tok q
    exact h h' tk tok fun b o e => q b o (Nat.ne_of_lt (Heap.lt_size e)) (ext b o e)
end Mine
namespace Mine
def firstFrom (f : Nat → Bool) : Nat → Nat → Option Nat
  | 0, _ => none
  | n + 1, p => if f p then some p else firstFrom f n (p + 1)
theorem firstFrom_some {f : Nat → Bool} : ∀ {n p q : Nat}, firstFrom f n p = some q → p ≤ q ∧ q < p + n ∧ f q = true ∧ ∀ r, p ≤ r → r < q → f r = false
  | 0, _, _, h => by cases h
  | n + 1, p, q, h => by
    unfold firstFrom at h
    by_cases c : f p = true
    · rw [if_pos c] at h
      cases h
      exact ⟨Nat.le_refl _, by omega, c, fun r a b => by omega⟩
    · rw [if_neg c] at h
      obtain ⟨a, b, d, e⟩ := firstFrom_some h
      refine ⟨by omega, by omega, d, fun r x y => ?_⟩
      by_cases z : r = p
      · rw [z]; exact Bool.eq_false_iff.mpr c
      · exact e r (by omega) y
theorem firstFrom_none {f : Nat → Bool} : ∀ {n p : Nat}, firstFrom f n p = none → ∀ r, p ≤ r → r < p + n → f r = false
  | 0, _, _, r, a, b => by omega
  | n + 1, p, h, r, a, b => by
    unfold firstFrom at h
    by_cases c : f p = true
    · rw [if_pos c] at h; cases h
    · rw [if_neg c] at h
      by_cases z : r = p
      · rw [z]; exact Bool.eq_false_iff.mpr c
      · exact firstFrom_none h r (by omega) (by omega)
theorem firstFrom_eq {f : Nat → Bool} {n p q : Nat} (h1 : p ≤ q) (h2 : q < p + n) (h3 : f q = true) (h4 : ∀ r, p ≤ r → r < q → f r = false) : firstFrom f n p = some q := by
  cases h : firstFrom f n p with
  | none => exact absurd (firstFrom_none h q h1 h2) (by rw [h3]; simp)
  | some q' =>
    obtain ⟨a, b, c, d⟩ := firstFrom_some h
    rcases Nat.lt_trichotomy q q' with z | z | z
    · exact absurd (d q h1 z) (by rw [h3]; simp)
    · rw [z]
    · exact absurd (h4 q' a z) (by rw [c]; simp)
theorem firstFrom_no {f : Nat → Bool} {n p : Nat} (h4 : ∀ r, p ≤ r → f r = false) : firstFrom f n p = none := by
  cases h : firstFrom f n p with
  | none => rfl
  | some q' =>
    obtain ⟨a, b, c, d⟩ := firstFrom_some h
    exact absurd (h4 q' a) (by rw [c]; simp)
def F1 (t : Array Nat) (p : Nat) : Option (Nat × Nat) := (firstFrom (dotAt t) (t.size - p) p).map fun q => (q, q + 1)
def F2 (t : Array Nat) (p : Nat) : Option (Nat × Nat) := (firstFrom (crAt t) (t.size - p) p).map fun q => (q, crEnd t q)
theorem dotAt_lt {t : Array Nat} {q : Nat} (h : dotAt t q = true) : q < t.size := by
  simp only [dotAt, Bool.and_eq_true, decide_eq_true_eq] at h
  exact h.2.1
theorem crAt_lt {t : Array Nat} {q : Nat} (h : crAt t q = true) : q < t.size := by
  simp only [crAt, Bool.and_eq_true, decide_eq_true_eq] at h
  exact h.1
theorem finds1 (t : Array Nat) (hT : t.size ≤ 10000) : Finds code1 t (F1 t) where
  run p hp := by
    obtain ⟨k, k1, k2, k3⟩ := forSearch1 t p hp
    refine ⟨k, by omega, ?_⟩
    rcases k3 with ⟨q, a, b, c, d⟩ | ⟨a, b⟩
    · have := dotAt_lt b
      unfold F1
      rw [firstFrom_eq a (by omega) b c]
      exact d
    · unfold F1
      rw [firstFrom_no a]
      exact b
  room p b e hp h := by
    unfold F1 at h
    obtain ⟨q, h1, h2⟩ := Option.map_eq_some_iff.mp h
    cases h2
    obtain ⟨a, b, c, d⟩ := firstFrom_some h1
    exact ⟨a, by omega, by omega⟩
theorem finds2 (t : Array Nat) : Finds code2 t (F2 t) where
  run p hp := by
    obtain ⟨k, k1, k2, k3⟩ := forSearch2 t p hp
    refine ⟨k, by omega, ?_⟩
    rcases k3 with ⟨q, a, b, c, d⟩ | ⟨a, b⟩
    · have := crAt_lt b
      unfold F2
      rw [firstFrom_eq a (by omega) b c]
      exact d
    · unfold F2
      rw [firstFrom_no a]
      exact b
  room p b e hp h := by
    unfold F2 at h
    obtain ⟨q, h1, h2⟩ := Option.map_eq_some_iff.mp h
    obtain ⟨rfl, rfl⟩ := Prod.mk.inj h2
    obtain ⟨a, b, c, d⟩ := firstFrom_some h1
    unfold crEnd
    by_cases z : t.getD q 0 = 13 ∧ q + 1 < t.size ∧ t.getD (q + 1) 0 = 10
    · rw [if_pos z]; omega
    · rw [if_neg z]; omega
/-- what the patterns' subs make, on lists -/
def nl : List Nat → List Nat
  | [] => []
  | 13 :: 10 :: r => 13 :: 10 :: nl r
  | c :: r => if c = 10 ∨ c = 13 then 13 :: 10 :: nl r else c :: nl r
def dots : Bool → List Nat → List Nat
  | _, [] => []
  | b, c :: r => (if b && c == 46 then [46, 46] else [c]) ++ dots (c == 10) r
theorem nl_plain {c : Nat} {r : List Nat} (h1 : c ≠ 10) (h2 : c ≠ 13) : nl (c :: r) = c :: nl r := by
  conv => lhs; unfold nl
  split
  · rename_i e; cases e
  · rename_i e; cases e; exact absurd rfl h2
  · rename_i e; cases e; rw [if_neg (by omega)]
theorem nl_lf (r : List Nat) : nl (10 :: r) = 13 :: 10 :: nl r := by
  conv => lhs; unfold nl
  rfl
theorem nl_crlf (r : List Nat) : nl (13 :: 10 :: r) = 13 :: 10 :: nl r := by
  conv => lhs; unfold nl
  rfl
theorem nl_cr {r : List Nat} (h : r.head? ≠ some 10) : nl (13 :: r) = 13 :: 10 :: nl r := by
  cases r with
  | nil => rfl
  | cons a r =>
    have ha : a ≠ 10 := fun e => h (by rw [e]; rfl)
    conv => lhs; unfold nl
    split
    · rename_i e; cases e
    · rename_i e; cases e; exact absurd rfl ha
    · rename_i e; cases e; rw [if_pos (by omega)]
theorem drop_step {t : Array Nat} {p : Nat} (h : p < t.size) : t.toList.drop p = t.getD p 0 :: t.toList.drop (p + 1) := by
  rw [List.drop_eq_getElem_cons (by simpa using h)]
  simp [Array.getD, h]
theorem extract_step {t : Array Nat} {p q : Nat} (h : p < q) (hq : q ≤ t.size) : (t.extract p q).toList = t.getD p 0 :: (t.extract (p + 1) q).toList := by
  have hp : p < t.size := by omega
  simp only [Array.toList_extract, List.extract_eq_take_drop]
  rw [drop_step hp]
  obtain ⟨n, hn⟩ := Nat.exists_eq_add_of_lt h
  have : q - p = (q - (p + 1)) + 1 := by omega
  rw [this, List.take_succ_cons]
theorem nl_run {t : Array Nat} : ∀ (n p q : Nat), p + n = q → q ≤ t.size → (∀ r, p ≤ r → r < q → crAt t r = false) → nl (t.toList.drop p) = (t.extract p q).toList ++ nl (t.toList.drop q)
  | 0, p, q, h, _, _ => by
    have : p = q := by omega
    subst this
    simp
  | n + 1, p, q, h, hq, hn => by
    have hp : p < t.size := by omega
    have h0 := hn p (Nat.le_refl _) (by omega)
    simp only [crAt, decide_eq_true hp, Bool.true_and, Bool.or_eq_false_iff, beq_eq_false_iff_ne] at h0
    rw [drop_step hp, nl_plain h0.1 h0.2, extract_step (by omega) hq, nl_run n (p + 1) q (by omega) hq fun r a b => hn r (by omega) b]
    rfl
theorem sub2_nl (t : Array Nat) : ∀ (f p : Nat), t.size - p < f → p ≤ t.size → subTxt t #[13, 10] (F2 t) f p = nl (t.toList.drop p) := by
  intro f
  induction f with
  | zero => intro p h; omega
  | succ f ih =>
    intro p hf hp
    unfold subTxt
    cases hF : firstFrom (crAt t) (t.size - p) p with
    | none =>
      have e : F2 t p = none := by unfold F2; rw [hF]; rfl
      rw [e]
      have hn := firstFrom_none hF
      have := nl_run (t := t) (t.size - p) p t.size (by omega) (Nat.le_refl _) fun r a b => hn r a (by omega)
      rw [this, List.drop_eq_nil_of_le (by simp)]
      simp [nl]
    | some q =>
      have e : F2 t p = some (q, crEnd t q) := by unfold F2; rw [hF]; rfl
      rw [e]
      obtain ⟨a, b, c, d⟩ := firstFrom_some hF
      have hq : q < t.size := crAt_lt c
      have hr := nl_run (t := t) (q - p) p q (by omega) (by omega) d
      rw [hr]
      dsimp only
      have hce : q < crEnd t q ∧ crEnd t q ≤ t.size := by
        unfold crEnd
        by_cases z : t.getD q 0 = 13 ∧ q + 1 < t.size ∧ t.getD (q + 1) 0 = 10
        · rw [if_pos z]; omega
        · rw [if_neg z]; omega
      rw [ih (crEnd t q) (by omega) hce.2, List.append_assoc]
      congr 1
      have hc := c
      simp only [crAt, decide_eq_true hq, Bool.true_and, Bool.or_eq_true, beq_iff_eq] at hc
      rw [drop_step hq]
      unfold crEnd
      rcases hc with hc | hc
      · rw [hc, if_neg (by omega), nl_lf]
        rfl
      · rw [hc]
        by_cases z : q + 1 < t.size ∧ t.getD (q + 1) 0 = 10
        · rw [if_pos ⟨rfl, z⟩, drop_step z.1, z.2, nl_crlf]
          rfl
        · rw [if_neg (fun x => z x.2), nl_cr ?_]
          · rfl
          · by_cases y : q + 1 < t.size
            · rw [drop_step y]
              intro x
              exact z ⟨y, by simpa using x⟩
            · rw [List.drop_eq_nil_of_le (by simpa using y)]
              simp
theorem dots_run {t : Array Nat} : ∀ (n p q : Nat), p + n = q → q ≤ t.size → (∀ r, p ≤ r → r < q → dotAt t r = false) →
    dots (p == 0 || t.getD (p - 1) 0 == 10) (t.toList.drop p) = (t.extract p q).toList ++ dots (q == 0 || t.getD (q - 1) 0 == 10) (t.toList.drop q)
  | 0, p, q, h, _, _ => by
    have : p = q := by omega
    subst this
    simp
  | n + 1, p, q, h, hq, hn => by
    have hp : p < t.size := by omega
    have h0 := hn p (Nat.le_refl _) (by omega)
    simp only [dotAt, decide_eq_true hp, Bool.true_and] at h0
    have ih := dots_run n (p + 1) q (by omega) hq fun r a b => hn r (by omega) b
    rw [drop_step hp, extract_step (by omega) hq]
    conv => lhs; unfold dots
    rw [h0]
    have e1 : (p + 1 == 0 || t.getD (p + 1 - 1) 0 == 10) = (t.getD p 0 == 10) := by
      have : (p + 1 == 0) = false := by simp
      rw [this, Nat.add_sub_cancel, Bool.false_or]
    rw [e1] at ih
    rw [ih]
    rfl
theorem sub1_dots (t : Array Nat) : ∀ (f p : Nat), t.size - p < f → p ≤ t.size → subTxt t #[46, 46] (F1 t) f p = dots (p == 0 || t.getD (p - 1) 0 == 10) (t.toList.drop p) := by
  intro f
  induction f with
  | zero => intro p h; omega
  | succ f ih =>
    intro p hf hp
    unfold subTxt
    cases hF : firstFrom (dotAt t) (t.size - p) p with
    | none =>
      have e : F1 t p = none := by unfold F1; rw [hF]; rfl
      rw [e]
      have hn := firstFrom_none hF
      have := dots_run (t := t) (t.size - p) p t.size (by omega) (Nat.le_refl _) fun r a b => hn r a (by omega)
      rw [this, List.drop_eq_nil_of_le (by simp)]
      simp [dots]
    | some q =>
      have e : F1 t p = some (q, q + 1) := by unfold F1; rw [hF]; rfl
      rw [e]
      obtain ⟨a, b, c, d⟩ := firstFrom_some hF
      have hq : q < t.size := dotAt_lt c
      rw [dots_run (t := t) (q - p) p q (by omega) (by omega) d]
      dsimp only
      rw [ih (q + 1) (by omega) (by omega), List.append_assoc]
      congr 1
      have hc := c
      simp only [dotAt, decide_eq_true hq, Bool.true_and] at hc
      rw [drop_step hq]
      conv => rhs; unfold dots
      rw [hc]
      have h46 : t.getD q 0 = 46 := by
        have := (Bool.and_eq_true_iff.mp hc).2
        simpa using this
      have e1 : (q + 1 == 0 || t.getD (q + 1 - 1) 0 == 10) = (t.getD q 0 == 10) := by
        have : (q + 1 == 0) = false := by simp
        rw [this, Nat.add_sub_cancel, Bool.false_or]
      rw [e1]
      rfl
/-- lines -/
def Line (l : List Nat × List Nat) : Prop := l.1 ≠ [] ∧ (∀ c ∈ l.1, c ≠ 10 ∧ c ≠ 13) ∧ (l.2 = [10] ∨ l.2 = [13] ∨ l.2 = [13, 10])
def rawT (ls : List (List Nat × List Nat)) : List Nat := (ls.map fun l => l.1 ++ l.2).flatten
def dot1 (b : List Nat) : List Nat := if b.head? = some 46 then 46 :: b else b
def sentT (ls : List (List Nat × List Nat)) : List Nat := (ls.map fun l => dot1 l.1 ++ [13, 10]).flatten
theorem nl_body : ∀ (b r : List Nat), (∀ c ∈ b, c ≠ 10 ∧ c ≠ 13) → nl (b ++ r) = b ++ nl r
  | [], _, _ => rfl
  | c :: b, r, h => by
    have h0 := h c (List.mem_cons_self ..)
    rw [List.cons_append, nl_plain h0.1 h0.2, nl_body b r fun x hx => h x (List.mem_cons_of_mem _ hx), List.cons_append]
theorem head_raw {ls : List (List Nat × List Nat)} (h : ∀ l ∈ ls, Line l) : (rawT ls).head? ≠ some 10 := by
  cases ls with
  | nil => simp [rawT]
  | cons l ls =>
    obtain ⟨h1, h2, _⟩ := h l (List.mem_cons_self ..)
    unfold rawT
    rw [List.map_cons, List.flatten_cons]
    cases hb : l.1 with
    | nil => exact absurd hb h1
    | cons c b =>
      have := (h2 c (by rw [hb]; exact List.mem_cons_self ..)).1
      simpa using this
theorem nl_lines : ∀ {ls : List (List Nat × List Nat)}, (∀ l ∈ ls, Line l) → nl (rawT ls) = (ls.map fun l => l.1 ++ [13, 10]).flatten
  | [], _ => rfl
  | l :: ls, h => by
    obtain ⟨h1, h2, h3⟩ := h l (List.mem_cons_self ..)
    have hr : ∀ x ∈ ls, Line x := fun x hx => h x (List.mem_cons_of_mem _ hx)
    have e : rawT (l :: ls) = l.1 ++ (l.2 ++ rawT ls) := by
      unfold rawT
      rw [List.map_cons, List.flatten_cons, List.append_assoc]
    rw [e, nl_body _ _ h2, List.map_cons, List.flatten_cons, ← nl_lines hr, List.append_assoc]
    congr 1
    rcases h3 with h3 | h3 | h3 <;> rw [h3]
    · exact nl_lf _
    · exact nl_cr (head_raw hr)
    · exact nl_crlf _
theorem dots_body : ∀ (b r : List Nat), (∀ c ∈ b, c ≠ 10) → dots false (b ++ 13 :: 10 :: r) = b ++ 13 :: 10 :: dots true r
  | [], r, _ => by simp [dots]
  | c :: b, r, h => by
    have h0 := h c (List.mem_cons_self ..)
    rw [List.cons_append]
    conv => lhs; unfold dots
    rw [beq_eq_false_iff_ne.mpr h0, dots_body b r fun x hx => h x (List.mem_cons_of_mem _ hx)]
    simp
theorem dots_lines : ∀ {ls : List (List Nat × List Nat)}, (∀ l ∈ ls, Line l) → dots true ((ls.map fun l => l.1 ++ [13, 10]).flatten) = sentT ls
  | [], _ => rfl
  | l :: ls, h => by
    obtain ⟨h1, h2, h3⟩ := h l (List.mem_cons_self ..)
    have hr : ∀ x ∈ ls, Line x := fun x hx => h x (List.mem_cons_of_mem _ hx)
    have e : sentT (l :: ls) = dot1 l.1 ++ 13 :: 10 :: sentT ls := by
      unfold sentT
      rw [List.map_cons, List.flatten_cons, List.append_assoc]
      rfl
    rw [List.map_cons, List.flatten_cons, e, ← dots_lines hr, List.append_assoc]
    cases hb : l.1 with
    | nil => exact absurd hb h1
    | cons c b =>
      rw [hb] at h2
      have hc := (h2 c (List.mem_cons_self ..)).1
      have hbb : ∀ x ∈ b, x ≠ 10 := fun x hx => (h2 x (List.mem_cons_of_mem _ hx)).1
      rw [List.cons_append]
      conv => lhs; unfold dots
      rw [beq_eq_false_iff_ne.mpr hc]
      show _ ++ dots false (b ++ 13 :: 10 :: _) = _
      rw [dots_body b _ hbb]
      unfold dot1
      simp only [Bool.true_and, List.head?_cons, Option.some.injEq, beq_iff_eq]
      split
      · rename_i hc46; rw [hc46]; rfl
      · rfl
theorem quote_lines {ls : List (List Nat × List Nat)} (h : ∀ l ∈ ls, Line l) : dots true (nl (rawT ls)) = sentT ls := by
  rw [nl_lines h, dots_lines h]
end Mine
namespace Mine
section
local macro_rules | `(tactic| o_head $_h) => `(tactic| assumption)
theorem base (h : PySem.Challenge.rw_wk0021_01.row.Holds) : PySem.Challenge.rw_wk0021_01.row.Holds := by k_head
end
end Mine
namespace Mine
open PySem.Calls
/-- a plain subscript: nothing but its operator's own call -/
abbrev SubPlain (slice : PySem.Expr) (a k : Value) : Prop := subscripted slice false a k = operate [a, k] (getItem a k)
/-- the function that stands at f: its code, its kind -/
structure IsDef (K : Frag) (f : Addr) (name qual : Str) (params : Arguments) (body : List Stmt) (scope : Scope) (dV kV doc pm : Value) (an : Option Addr) (cdv ct oc : Value) (od : Option Addr) (osl : Array (Option Value)) : Prop where
  obj : K.lookup f = some ⟨oc, od, .func (fnOf name qual params body scope dV kV doc pm an cdv ct), osl⟩
  code : codeIn K cdv qual = true
  awaits : scope.isCoroutine = false
  yields : scope.isGenerator = false
  plain : scope.kind = .function
section
variable {prog : Program} {w : World} {A₀ A : Around} {s : Shared} {K : Frag} {base h₀ : Heap} {outer : List Env} {L : Addr} {m mg mb : Str → Option Value} {env : Env} {p : Program} {loose : List Str} {mean : ExcName → Option Value}
  {R : Result → Shared → Prop} {name qual : Str} {params : Arguments} {body : List Stmt} {scope : Scope} {dV kV doc pm cdv ct oc : Value} {an od : Option Addr} {osl : Array (Option Value)} {f : Addr} {args : Args} {binds : List (Str × Value)}
/-- one that calls: its frame, and what stands below it -/
structure Caller (K : Frag) (p : Program) (loose : List Str) (mean : ExcName → Option Value) (mg mb : Str → Option Value) (A₀ A : Around) (base h₀ : Heap) (outer : List Env) (env : Env) (L : Addr) (m : Str → Option Value) (h : Heap) : Prop where
  below : Below A₀ base outer h₀
  frame : Fr h₀ L h m
  part : K.In h₀
  top : Top p loose mean mg mb h₀
  frames : A.frames = some (env :: outer)
  own : env.frame = some L
  plain : env.scope.kind = .function
/-- what the called one may lean on: the caller's whole heap -/
theorem Caller.ground {h : Heap} (c : Caller K p loose mean mg mb A₀ A base h₀ outer env L m h) : Below A base (env :: outer) h ∧ K.In h ∧ Top p loose mean mg mb h :=
  ⟨⟨c.frames, fun b o e => c.frame.keep b o (c.below.stays b o e), (pushX c.below c.frame c.own c.plain).frames⟩, c.part.keeps c.frame.keep, c.top.keeps c.frame.keep⟩
/-- the body is run; what it gives back, what it raises -/
abbrev Runs (prog : Program) (w : World) (A : Around) (R : Result → Shared → Prop) (body : List Stmt) (env : Env) : Shared → Prop :=
  wpAny (model prog w) A (execs body env) (fun fl s' => R (.ok (.ret (match fl with | .ret v => v | _ => .none))) s')
    (fun e s' => wpAny (model prog w) A (leaving env e) (fun _ s'' => R (.error e) s'') (fun e' s'' => R (.error e') s'') s')
/-- a call whose frame stands over the whole heap of the caller's -/
theorem code_base (c : Caller K p loose mean mg mb A₀ A base h₀ outer env L m s.heap) (d : IsDef K f name qual params body scope dV kV doc pm an cdv ct oc od osl) (room : A.depth < recursionLimit)
    (takes : BindsTo s (fnOf name qual params body scope dV kV doc pm an cdv ct) args binds) (own : ∀ y ∈ binds, scope.names.lookup y.1 = some .local) (cells : ∀ x ∈ scope.names, x.2 ≠ .cell)
    (h : ∀ L' h₁, Fr s.heap L' h₁ (fun y => binds.reverse.lookup y) → News s.heap L' h₁ [] → Below A base (env :: outer) s.heap → K.In s.heap → Top p loose mean mg mb s.heap → Runs prog w (A.deeper (envOf qual scope L' f cdv)) R body (envOf qual scope L' f cdv) { s with heap := h₁, toks := s.toks + binds.length }) :
    codeAny (model prog w) A (.call (.ref f) args) R s := by
  obtain ⟨B, X, T⟩ := c.ground
  exact codeAny_call_def (body := body) (binds := binds) room (X _ _ d.obj) rfl T.nolimit (codeRec_of X d.code) rfl takes cells own (fun h₁ n k => h _ h₁ ⟨n, k, Nat.le_refl _⟩ .nil B X T) d.awaits d.yields d.plain
/-- the same for a function with cells -/
theorem code_baseC (c : Caller K p loose mean mg mb A₀ A base h₀ outer env L m s.heap) (d : IsDef K f name qual params body scope dV kV doc pm an cdv ct oc od osl) (room : A.depth < recursionLimit)
    (takes : BindsTo s (fnOf name qual params body scope dV kV doc pm an cdv ct) args binds) (own : (binds.all fun y => scope.names.lookup y.1 == some .local || scope.names.lookup y.1 == some .cell) = true) (once : ((cellsFrom 0 scope.names []).map (·.1)).Nodup)
    (h : ∀ L' h₁ tk cells, Fr s.heap L' h₁ (bindL (envOfC qual scope L' f cdv).kindOf binds fun _ => none) → News s.heap L' h₁ cells → CellsAre (bindC (envOfC qual scope L' f cdv).kindOf binds fun _ => none) (cellsFrom (L' + 1) scope.names []) cells →
      Below A base (env :: outer) s.heap → K.In s.heap → Top p loose mean mg mb s.heap → Runs prog w (A.deeper (envOfC qual scope L' f cdv)) R body (envOfC qual scope L' f cdv) { s with heap := h₁, toks := tk }) :
    codeAny (model prog w) A (.call (.ref f) args) R s := by
  obtain ⟨B, X, T⟩ := c.ground
  have names : ((cellsFrom (s.heap.objs.size + 1) scope.names []).map (·.1)).Nodup := cellsFrom_names scope.names 0 (s.heap.objs.size + 1) [] [] rfl ▸ once
  refine codeAny_call_function room (X _ _ d.obj) rfl d.awaits d.yields rfl (codeRec_of X d.code) (takes _ _ _ _ (wpAny_newFunctionEnv_cells d.plain (kindsX own _) ?_))
  rintro _ rfl _ x
  obtain ⟨h₁, tk, rfl, -⟩ := x.done
  obtain ⟨cells, N, Y⟩ := Cl.news (Nat.le_refl _) fun n a q => ⟨x.cell n a (lookup_of_mem_nodup names q), x.above n a q⟩
  exact ⟨T.nolimit.keeps x.toInCall.keep, codeAny_func (h _ h₁ tk cells ⟨x.toInCall.ns, x.toInCall.keep, Nat.le_refl _⟩ N Y B X T)⟩
end
end Mine
namespace Mine
open PySem.Calls PyProof.Rows.LCg PySem.Spec
/-- what a statement y = [.. for x in ..] wants of its scope -/
structure Fits (e : PySem.Expr) (env : Env) (L : Addr) (scope : Scope) (cl : List (Str × Addr)) (x y : Str) (py spos : Pos) : Prop where
  at_L : env.locals = L
  swaps : swapsWith e (some (.Name y py)) spos.line env = pure true
  closed : closureFor scope env = pure cl
  cells : ∀ z ∈ scope.names, z.2 ≠ .cell
  plain : scope.kind = .function
  names : ∀ z ∈ scope.names, z.2 = .local → scope.names.lookup z.1 = some .local
  var : scope.names.lookup x = some .local
  target : env.kindOf y = some .local
  flat : (env.scope.kind == .class || (env.scope.kind == .module && env.locals != env.globals)) = false
section
variable {prog : Program} {w : World} {A : Around} {E : Value → Shared → Prop} {R : Result → Shared → Prop} {s : Shared} {h₀ : Heap} {L : Addr} {m : Str → Option Value} {env : Env}
/-- a change at an object outside the ledger leaves the ledger -/
theorem news_other {h h' : Heap} {C : Addr} {l : List (Addr × Obj)} (N : News h₀ L h l) (sb : Heap.SameBut C h h') (off : ∀ p ∈ l, p.1 ≠ C) : News h₀ L h' l :=
  fun p hp => ⟨(sb.2 _ (off p hp)).trans (N p hp).1, (N p hp).2⟩
/-- where the parts of a comprehension stand: its iterator I, its frame C, its list D -/
structure Apart (h₀ : Heap) (L I C D : Addr) (news : List (Addr × Obj)) : Prop where
  li : L ≠ I
  i0 : h₀.get? I = none
  cl : C ≠ L
  c0 : h₀.get? C = none
  dl : D ≠ L
  d0 : h₀.get? D = none
  ic : I ≠ C
  id : I ≠ D
  cd : C ≠ D
  off : Off3 I C D news
theorem Apart.listed {I C D : Addr} {oD : Obj} {news : List (Addr × Obj)} (z : Apart h₀ L I C D news) {Z : Addr} (d : D ≠ Z) (o : ∀ p, p.1 ≠ I ∧ p.1 ≠ C ∧ p.1 ≠ D → p ∈ news → p.1 ≠ Z) : ∀ p ∈ (D, oD) :: news, p.1 ≠ Z
  | _, .head _ => d
  | p, .tail _ hp => o p (z.off.mem p hp) hp
theorem Apart.noC {I C D : Addr} {oD : Obj} {news : List (Addr × Obj)} (z : Apart h₀ L I C D news) : ∀ p ∈ (D, oD) :: news, p.1 ≠ C := z.listed (Ne.symm z.cd) fun _ q _ => q.2.1
/-- the iterator gave an item and the frame took it: what stands then -/
theorem Apart.enter {I C D : Addr} {oI oC oD : Obj} {h h₂ h₃ : Heap} {news : List (Addr × Obj)} (z : Apart h₀ L I C D news) (F : Fr h₀ L h m) (N : News h₀ L h ((D, oD) :: news)) (nx : ∀ b o, b ∉ [I] → h.get? b = some o → h₂.get? b = some o)
    (sb : Heap.SameBut C h₂ h₃) (hI : h₃.get? I = some oI) (hC : h₃.get? C = some oC) : Fr h₀ L h₃ m ∧ News h₀ L h₃ ((I, oI) :: (C, oC) :: (D, oD) :: news) := by
  have N₃ := news_other (news_but N nx (z.listed (Ne.symm z.id) fun _ q _ => q.1)) sb z.noC
  refine ⟨(fr_but F nx z.li z.i0).change sb z.cl z.c0, fun p hp => ?_⟩
  rcases hp with _ | ⟨_, _ | ⟨_, hp⟩⟩
  · exact ⟨hI, Ne.symm z.li, z.i0⟩
  · exact ⟨hC, z.cl, z.c0⟩
  · exact N₃ p hp
/-- the iterator has no more: what stands then -/
theorem Apart.leave {I C D : Addr} {oD : Obj} {h h₂ : Heap} {m' : Str → Option Value} {news : List (Addr × Obj)} (z : Apart h₀ L I C D news) (F : Fr h₀ L h m) (N : News h₀ L h ((D, oD) :: news)) (n : h.Ns C m') (nx : ∀ b o, b ∉ [I] → h.get? b = some o → h₂.get? b = some o) :
    Fr h₀ L h₂ m ∧ News h₀ L h₂ ((D, oD) :: news) ∧ h₂.Ns C m' :=
  ⟨fr_but F nx z.li z.i0, news_but N nx (z.listed (Ne.symm z.id) fun _ q _ => q.1), n.at' fun o e => nx C o (fun q => z.ic (List.mem_singleton.mp q).symm) e⟩
/-- the list of a comprehension goes under its name, its frame is let go -/
theorem comp_store {C D : Addr} {y : Str} {py : Pos} {h : Heap} {tk : Nat} {m' : Str → Option Value} {ys : List Value} {news : List (Addr × Obj)} {Q : Flow → Shared → Prop} (hy : env.kindOf y = some .local)
    (hp : (env.scope.kind == .class || (env.scope.kind == .module && env.locals != env.globals)) = false) (F : Fr h₀ env.locals h m) (N : News h₀ env.locals h ((D, lst ys) :: news)) (o1 : Off1 D news) (n : h.Ns C m') (cl : C ≠ env.locals) (c0 : h₀.get? C = none)
    (offC : ∀ p ∈ (D, lst ys) :: news, p.1 ≠ C) (fin : FinA h₀ env.locals m s y Q ys news) : compPost (model prog w) A E (some (assign (.Name y py) env)) (fun _ s' => Q .next s') (.ref D) C (.ok .next) { s with heap := h, toks := tk } :=
  wpAny_assign_Name (wpAny_storeName_local hy F.ns (fun _ n₂ sb => ⟨m', n.sameBut sb cl, fun _ sc => fin D _ _ ((F.set n₂ sb).change sc cl c0) (news_other (N.set sb) sc offC) o1⟩) hp)
/-- y = [.. for x in ..]: the first source is read, then the block is run -/
theorem comp_assign {elt iter : PySem.Expr} {x y : Str} {px py : Pos} {ifs : List PySem.Expr} {gs : List Comprehension} {scope : Scope} {cl : List (Str × Addr)} {pos spos : Pos} {Q : Flow → Shared → Prop}
    (f : Fits (.ListComp elt (⟨.Name x px, iter, ifs, 0⟩ :: gs) scope pos) env L scope cl x y py spos) (hs : ∀ x, foldedSetIterable iter env x = pure x)
    (h : wpAny (model prog w) A (eval iter env) (fun xv s₁ => wpAny (model prog w) A (pyIter xv) (fun it s₂ => wpAny (model prog w) A (newList []) (fun acc s₃ => wpAny (model prog w) A (newFunctionEnv scope env.globals cl [] env.qual none .none (some env)) (fun ce s₄ =>
      codeAny (model prog w) A (.compStart (.ListComp elt (⟨.Name x px, iter, ifs, 0⟩ :: gs) scope pos) 0 it acc { ce with scope := relabel scope env })
        (compPost (model prog w) A E (some (assign (.Name y py) env)) (fun _ s' => Q .next s') acc ce.locals) s₄) E s₃) E s₂) E s₁) E s) :
    wpAny (model prog w) A (exec (.Assign [.Name y py] (.ListComp elt (⟨.Name x px, iter, ifs, 0⟩ :: gs) scope pos) spos) env) Q E s := by
  rw [exec_Assign_Name_used _ _ _ _ f.swaps]
  have body := wpAny_comprehension_free (pos := firstIterPos (⟨.Name x px, iter, ifs, 0⟩ :: gs) pos) (use := some (assign (.Name y py) env)) (newAcc := newList []) (e := .ListComp elt (⟨.Name x px, iter, ifs, 0⟩ :: gs) scope pos) (Q := fun _ s' => Q .next s') rfl hs f.closed f.plain f.names h
  exact wpAny_bind (wpAny_standAt (wpAny_bind (wpAny_bind (wpAny_mono body (fun _ _ q => wpAny_pure (wpAny_pure q)) fun _ _ e => e))))
end
end Mine
namespace Mine
open PySem.Calls
/-- a pure function of two ints -/
inductive Op2R (P : Int → Int → Prop) (f : Int → Int → Int) : List (Addr × Obj) → List Value → Int → Prop
  | mk {news : List (Addr × Obj)} {x y : Int} {t u : Tok} (h : P x y) : Op2R P f news [.int x t, .int y u] (f x y)
inductive Op1R (f : Int → Int) : List (Addr × Obj) → List Value → Int → Prop
  | mk {news : List (Addr × Obj)} {x : Int} {t : Tok} : Op1R f news [.int x t] (f x)
abbrev cOp2 (P : Int → Int → Prop) (f : Int → Int → Int) : ToldN Int where
  Rel := Op2R P f
  Ok := fun _ => True
  size := fun _ => 2
  Tl := fun tl => tl = []
  Out := fun _ r d => ∃ t, r = .int d t
abbrev cOp1 (f : Int → Int) : ToldN Int where
  Rel := Op1R f
  Ok := fun _ => True
  size := fun _ => 2
  Tl := fun tl => tl = []
  Out := fun _ r d => ∃ t, r = .int d t
theorem op_neg {news : List (Addr × Obj)} {x : Int} {t : Tok} : Op1R (fun x => -x) news [.int x t] (-x) := .mk
theorem op_add {news : List (Addr × Obj)} {x y : Int} {t u : Tok} : Op2R (fun _ _ => True) (fun x y => x + y) news [.int x t, .int y u] (x + y) := .mk True.intro
theorem op_sub {news : List (Addr × Obj)} {x y : Int} {t u : Tok} : Op2R (fun _ _ => True) (fun x y => x - y) news [.int x t, .int y u] (x - y) := .mk True.intro
theorem op_mul {news : List (Addr × Obj)} {x y : Int} {t u : Tok} (h : -1000 ≤ x ∧ x ≤ 1000 ∧ -1000 ≤ y ∧ y ≤ 1000) : Op2R (fun x y => -1000 ≤ x ∧ x ≤ 1000 ∧ -1000 ≤ y ∧ y ≤ 1000) (fun x y => x * y) news [.int x t, .int y u] (x * y) := .mk h
theorem op_fdiv {news : List (Addr × Obj)} {x y : Int} {t u : Tok} (h : -1000 ≤ x ∧ x ≤ 1000 ∧ 1 ≤ y ∧ y ≤ 8) : Op2R (fun x y => -1000 ≤ x ∧ x ≤ 1000 ∧ 1 ≤ y ∧ y ≤ 8) (fun x y => x.fdiv y) news [.int x t, .int y u] (x.fdiv y) := .mk h
theorem T_neg (w : World) (p : Program) (loose : List Str) (mean : ExcName → Option Value) (mg mb : Str → Option Value) (d : Int) : TellsN PySem.Challenge.rw_wk0021_01.row.prog w (Mine.base.heap_1 w.params) p loose mean mg mb 277 (cOp1 fun x => -x) d := by
  k_fill
  unfold TellsN
  intro dp un gd cn cs a ccd cl outer A₀ base h₀ L m news s vs Q E B F X N T' hk hR hok hd hu hret
  cases hR
  refine wpAny_call ?_
  k_dflt ktr_enter
  k_steps
  all_goals ktn_end hret
theorem T_add (w : World) (p : Program) (loose : List Str) (mean : ExcName → Option Value) (mg mb : Str → Option Value) (d : Int) : TellsN PySem.Challenge.rw_wk0021_01.row.prog w (Mine.base.heap_1 w.params) p loose mean mg mb 249 (cOp2 (fun _ _ => True) fun x y => x + y) d := by
  k_fill
  unfold TellsN
  intro dp un gd cn cs a ccd cl outer A₀ base h₀ L m news s vs Q E B F X N T' hk hR hok hd hu hret
  cases hR
  refine wpAny_call ?_
  k_dflt ktr_enter
  k_steps
  all_goals ktn_end hret
theorem T_sub (w : World) (p : Program) (loose : List Str) (mean : ExcName → Option Value) (mg mb : Str → Option Value) (d : Int) : TellsN PySem.Challenge.rw_wk0021_01.row.prog w (Mine.base.heap_1 w.params) p loose mean mg mb 284 (cOp2 (fun _ _ => True) fun x y => x - y) d := by
  k_fill
  unfold TellsN
  intro dp un gd cn cs a ccd cl outer A₀ base h₀ L m news s vs Q E B F X N T' hk hR hok hd hu hret
  cases hR
  refine wpAny_call ?_
  k_dflt ktr_enter
  k_steps
  all_goals ktn_end hret
theorem T_mul (w : World) (p : Program) (loose : List Str) (mean : ExcName → Option Value) (mg mb : Str → Option Value) (d : Int) : TellsN PySem.Challenge.rw_wk0021_01.row.prog w (Mine.base.heap_1 w.params) p loose mean mg mb 270 (cOp2 (fun x y => -1000 ≤ x ∧ x ≤ 1000 ∧ -1000 ≤ y ∧ y ≤ 1000) fun x y => x * y) d := by
  k_fill
  unfold TellsN
  intro dp un gd cn cs a ccd cl outer A₀ base h₀ L m news s vs Q E B F X N T' hk hR hok hd hu hret
  cases hR
  rename_i hP
  obtain ⟨h1, h2, h3, h4⟩ := hP
  refine wpAny_call ?_
  k_dflt ktr_enter
  k_steps
  all_goals ktn_end hret
theorem T_floordiv (w : World) (p : Program) (loose : List Str) (mean : ExcName → Option Value) (mg mb : Str → Option Value) (d : Int) : TellsN PySem.Challenge.rw_wk0021_01.row.prog w (Mine.base.heap_1 w.params) p loose mean mg mb 263 (cOp2 (fun x y => -1000 ≤ x ∧ x ≤ 1000 ∧ 1 ≤ y ∧ y ≤ 8) fun x y => x.fdiv y) d := by
  k_fill
  unfold TellsN
  intro dp un gd cn cs a ccd cl outer A₀ base h₀ L m news s vs Q E B F X N T' hk hR hok hd hu hret
  cases hR
  rename_i y t u hP
  obtain ⟨h1, h2, h3, h4⟩ := hP
  have h5 : y ≠ 0 := by omega
  refine wpAny_call ?_
  k_dflt ktr_enter
  k_steps
  all_goals ktn_end hret
end Mine
namespace Mine
open PySem.Calls PyProof.Rows.LCg PySem.Spec
section
variable {prog : Program} {w : World} {A : Around} {E : Value → Shared → Prop} {R : Result → Shared → Prop} {s : Shared} {h₀ : Heap} {L : Addr} {m : Str → Option Value} {env : Env}
/-- a comprehension of two clauses, the second with a test -/
abbrev lc2 (elt ct iter iter2 : PySem.Expr) (x x2 : Str) (px px2 : Pos) (scope : Scope) (pos : Pos) : PySem.Expr := .ListComp elt [⟨.Name x px, iter, [], 0⟩, ⟨.Name x2 px2, iter2, [ct], 0⟩] scope pos
/-- what an iterator's next is asked: its end, or what is done with the item -/
abbrev took (no : Shared → Prop) (yes : Value → Shared → Prop) : Option Value → Shared → Prop
  | none => no
  | some v => yes v
abbrev wpM (prog : Program) (w : World) (A : Around) (E : Value → Shared → Prop) {α : Type} (t : Sem α) (Q : α → Shared → Prop) : Shared → Prop := wpAny (model prog w) A t Q E
theorem lc2_loop1 {elt ct iter iter2 : PySem.Expr} {x x2 : Str} {px px2 : Pos} {scope : Scope} {pos : Pos} {it acc : Value} {Er : Value → Shared → Prop} (er : Er = notedBy (model prog w) A env fun e s' => R (.error e) s') (I : Nat → Shared → Prop)
    (turn : ∀ n s, I n s → wpM prog w A Er (pyNext it) (took (R (.ok .next)) fun v => wpM prog w A Er (assign (.Name x2 px2) env v) fun _ => wpM prog w A Er (isTrue ct env (eval ct env)) fun ok s₃ =>
      if ok = true then wpM prog w A Er (eval elt env) (fun y => wpM prog w A Er (call (.builtin "list.append") [acc, y]) fun _ s₅ => ∃ j, j < n ∧ I j s₅) s₃ else ∃ j, j < n ∧ I j s₃) s)
    (n : Nat) (h : I n s) : codeAny (model prog w) A (.compLoop (lc2 elt ct iter iter2 x x2 px px2 scope pos) 1 it acc env) R s := by
  subst er
  refine codeAny_loop rfl I (fun n s hI => ?_) n h
  refine wpAny_noted (m := compTurn (lc2 elt ct iter iter2 x x2 px px2 scope pos) 1 it acc env) ?_
  refine wpAny_bind (m := standAt iter2.pos) (wpAny_standAt ?_)
  refine wpAny_bind (m := pyNext it) (wpAny_mono (turn n s hI) (fun r s₁ h₁ => ?_) fun _ _ e => e)
  cases r with
  | none => exact wpAny_pure h₁
  | some v =>
    refine wpAny_bind (m := letOwnedTupleGo (.Name x2 px2) it v) (wpAny_of_eq rfl ?_)
    refine wpAny_bind (wpAny_mono h₁ (fun _ s₂ h₂ => ?_) fun _ _ e => e)
    refine wpAny_bind (wpAny_mono (wpAny_tests_one h₂) (fun ok s₃ h₃ => ?_) fun _ _ e => e)
    cases ok
    · exact wpAny_pure ⟨rfl, h₃⟩
    · refine wpAny_bind (wpAny_bind (wpAny_mono h₃ (fun y s₄ h₄ => wpAny_bind (wpAny_mono h₄ (fun _ s₅ h₅ => ?_) fun _ _ e => e)) fun _ _ e => e))
      exact wpAny_pure (wpAny_pure ⟨rfl, h₅⟩)
theorem lc2_loop0 {elt ct iter iter2 : PySem.Expr} {x x2 : Str} {px px2 : Pos} {scope : Scope} {pos : Pos} {it acc : Value} {Er : Value → Shared → Prop} (er : Er = notedBy (model prog w) A env fun e s' => R (.error e) s') (I : Nat → Shared → Prop)
    (turn : ∀ n s, I n s → wpM prog w A Er (pyNext it) (took (R (.ok .next)) fun v => wpM prog w A Er (assign (.Name x px) env v) fun _ => wpM prog w A Er (eval iter2 env) fun xs => wpM prog w A Er (pyIter xs) fun it2 =>
      codeAny (model prog w) A (.compStart (lc2 elt ct iter iter2 x x2 px px2 scope pos) 1 it2 acc env) fun r s₅ => match r with | .ok _ => ∃ j, j < n ∧ I j s₅ | .error e => cameBackBy (model prog w) A env Er e s₅) s)
    (hs : ∀ xs, foldedSetIterable iter2 env xs = pure xs) (n : Nat) (h : I n s) : codeAny (model prog w) A (.compLoop (lc2 elt ct iter iter2 x x2 px px2 scope pos) 0 it acc env) R s := by
  subst er
  refine codeAny_loop rfl I (fun n s hI => ?_) n h
  refine wpAny_noted (m := compTurn (lc2 elt ct iter iter2 x x2 px px2 scope pos) 0 it acc env) ?_
  refine wpAny_bind (m := standAt iter.pos) (wpAny_standAt ?_)
  refine wpAny_bind (m := pyNext it) (wpAny_mono (turn n s hI) (fun r s₁ h₁ => ?_) fun _ _ e => e)
  cases r with
  | none => exact wpAny_pure h₁
  | some v =>
    refine wpAny_bind (m := letOwnedTupleGo (.Name x px) it v) (wpAny_of_eq rfl ?_)
    refine wpAny_bind (wpAny_mono h₁ (fun _ s₂ h₂ => ?_) fun _ _ e => e)
    refine wpAny_bind (wpAny_tests_nil ?_)
    refine wpAny_bind (m := eval iter2 env) (wpAny_mono h₂ (fun xs s₃ h₃ => ?_) fun _ _ e => e)
    refine wpAny_bind (m := standAt iter2.pos) (wpAny_standAt ?_)
    refine wpAny_bind (m := foldedSetIterable iter2 env xs) (wpAny_of_eq (hs xs) ?_)
    refine wpAny_bind (m := holding [xs] (pyIter xs)) (wpAny_holding (wpAny_mono h₃ (fun it2 s₄ h₄ => ?_) fun _ _ e => e))
    refine wpAny_bind (wpAny_runOwn (codeAny_mono h₄ fun r s₅ h₅ => ?_))
    cases r
    · exact h₅
    · exact wpAny_pure ⟨rfl, h₅⟩
/-- the inner clause begins with an iterator that gives itself -/
theorem lc2_start1 {elt ct iter iter2 : PySem.Expr} {x x2 : Str} {px px2 : Pos} {scope : Scope} {pos : Pos} {it acc : Value} (self : ∀ (Q E' : Value → Shared → Prop), Q it s → wpAny (model prog w) A (pyIter it) Q E' s)
    (go : codeAny (model prog w) A (.compLoop (lc2 elt ct iter iter2 x x2 px px2 scope pos) 1 it acc env) R s) : codeAny (model prog w) A (.compStart (lc2 elt ct iter iter2 x x2 px px2 scope pos) 1 it acc env) R s := by
  refine codeAny_of_tree (wpAny_notedAt (pos := theWindowsPlace) (m := compStart (lc2 elt ct iter iter2 x x2 px px2 scope pos) 1 it acc env) ?_)
  refine wpAny_bind (m := ask) (wpAny_askSetting (wpAny_ite ?_))
  split
  · exact wpAny_bind (wpAny_pure (wpAny_pure ⟨rfl, go⟩))
  · refine wpAny_bind (wpAny_rule ?_)
    refine wpAny_bind (m := standAt iter2.pos) (wpAny_standAt ?_)
    exact wpAny_bind (m := pyIter it) (self _ _ (wpAny_pure ⟨rfl, go⟩))
/-- a range's iterator at its i-th turn -/
abbrev RI (h : Heap) (I : Addr) (n i : Nat) : Prop := IsRangeIter h I (0 + (i : Int) * 1) ((n : Int) - (i : Int)) 1
/-- between two turns of a clause over range(n) -/
structure Mid (h₀ : Heap) (L : Addr) (m : Str → Option Value) (I C D : Addr) (news : List (Addr × Obj)) (n : Nat) (pm : (Str → Option Value) → Prop) (h : Heap) (i : Nat) (ys : List Value) : Prop where
  it : RI h I n i
  F : Fr h₀ L h m
  N : News h₀ L h ((D, lst ys) :: news)
  ns : ∃ m', h.Ns C m' ∧ pm m'
section
variable {I C D : Addr} {news : List (Addr × Obj)} {n i : Nat} {pm : (Str → Option Value) → Prop} {h : Heap} {tk : Nat} {ys : List Value} {scope : Scope} {cl : List (Str × Addr)} {x : Str} {px : Pos}
theorem Mid.next {K : Shared → Prop} {Q : Unit → Shared → Prop} (hh : A.handled = none) (z : Apart h₀ L I C D news) (hk : scope.kind = .function) (hx : scope.names.lookup x = some .local) (a : Mid h₀ L m I C D news n pm h i ys) (lt : i < n)
    (go : ∀ t oI oC m₀ m₂ h' tk', pm m₀ → (∀ g : Heap, g.get? I = some oI → RI g I n (i + 1)) → NsObj oC m₂ → m₂ x = some (.int (0 + (i : Int)) t) → (∀ y, y ≠ x → m₂ y = m₀ y) → Fr h₀ L h' m → News h₀ L h' ((I, oI) :: (C, oC) :: (D, lst ys) :: news) → Q () { s with heap := h', toks := tk' }) :
    wpM prog w A E (pyNext (.ref I)) (took K fun v => wpM prog w A E (assign (.Name x px) (compEnvC scope cl C env) v) Q) { s with heap := h, toks := tk } := by
  obtain ⟨m₀, n₀, p₀⟩ := a.ns
  refine (range_walks hh 0 n).item i _ _ _ lt a.it fun v h₂ tk₂ ⟨t, ev⟩ it₂ nx => ?_
  cases ev
  refine wpAny_assign_Name (wpAny_storeName_local (lookup_relabel_local hx) (n₀.at' fun o e => nx C o (by simpa using Ne.symm z.ic) e) (fun h₃ n₃ sb => ?_) (by simp [compEnvC, relabel, hk]))
  have it₃ : RI h₃ I n (i + 1) := (sb.2 I z.ic).trans it₂
  obtain ⟨oC, eC, nC⟩ := ns_obj n₃
  obtain ⟨F₃, N₃⟩ := z.enter a.F a.N nx sb it₃ eC
  exact go t _ oC m₀ _ h₃ _ p₀ (fun _ e => e) nC (if_pos rfl) (fun _ ne => if_neg ne) F₃ N₃
theorem Mid.done {Y : Value → Shared → Prop} {K : Shared → Prop} (hh : A.handled = none) (z : Apart h₀ L I C D news) (a : Mid h₀ L m I C D news n pm h n ys)
    (go : ∀ h' tk' m', Fr h₀ L h' m → News h₀ L h' ((D, lst ys) :: news) → h'.Ns C m' → K { s with heap := h', toks := tk' }) : wpM prog w A E (pyNext (.ref I)) (took K Y) { s with heap := h, toks := tk } := by
  obtain ⟨m₀, n₀, _⟩ := a.ns
  refine (range_walks hh 0 n).done _ _ _ a.it fun h₂ tk₂ nx => ?_
  obtain ⟨F₂, N₂, n₂⟩ := z.leave a.F a.N n₀ nx
  exact go h₂ tk₂ m₀ F₂ N₂ n₂
theorem Mid.of {oI oC : Obj} {m₂ : Str → Option Value} (F : Fr h₀ L h m) (N : News h₀ L h ((I, oI) :: (C, oC) :: (D, lst ys) :: news)) (r : ∀ g : Heap, g.get? I = some oI → RI g I n i) (nC : NsObj oC m₂) (p : pm m₂) : Mid h₀ L m I C D news n pm h i ys :=
  ⟨r h (N _ (.head _)).1, F, fun q hq => N q (.tail _ (.tail _ hq)), m₂, nC.ns (N _ (.tail _ (.head _))).1, p⟩
theorem Mid.add {oI oC : Obj} {m₂ : Str → Option Value} {v : Value} {Q : Value → Shared → Prop} (z : Apart h₀ L I C D news) (F : Fr h₀ L h m) (N : News h₀ L h ((I, oI) :: (C, oC) :: (D, lst ys) :: news)) (r : ∀ g : Heap, g.get? I = some oI → RI g I n i) (nC : NsObj oC m₂) (p : pm m₂)
    (sz : ys.length ≤ sizeLine) (go : ∀ h', Mid h₀ L m I C D news n pm h' i (ys ++ [v]) → Q .none { s with heap := h', toks := tk }) : wpAny (model prog w) A (call (.builtin "list.append") [.ref D, v]) Q E { s with heap := h, toks := tk } := by
  have a := Mid.of F N r nC p
  refine append_at (hsz := by rw [List.size_toArray]; exact sz) (N _ (.tail _ (.tail _ (.head _)))).1 fun h' sb e => go h' ⟨(sb.2 I z.id).trans a.it, F.change sb z.dl z.d0, ?_, m₂, (nC.ns (N _ (.tail _ (.head _))).1).sameBut sb z.cd, p⟩
  exact a.N.setHead (fun q hq => (z.off.mem q hq).2.2) sb (e.trans (congrArg some (lst_snoc ys v)))
end
theorem ks_take {n i : Nat} (h : i < n) (G : List Int → Int → List Int) (l : List Int) : ((rangeKs 0 n).take (i + 1)).foldl G l = G (((rangeKs 0 n).take i).foldl G l) (0 + (i : Int)) := by
  have hk : (rangeKs 0 n)[i]? = some (0 + (i : Int)) := by simp [rangeKs, h]
  rw [List.take_add_one, hk]
  simp
theorem ks_all (n : Nat) : (rangeKs 0 n).take n = rangeKs 0 n := List.take_of_length_le (Nat.le_of_eq (rangeKs_length _ _))
/-- the inner clause, run over range(n) from a list that bears l0 -/
theorem lc2_inner {elt ct iter iter2 : PySem.Expr} {x x2 : Str} {px px2 : Pos} {scope : Scope} {cl : List (Str × Addr)} {pos : Pos} {I C D : Addr} {n : Nat} {v0 : Value} {news : List (Addr × Obj)} {y0 : List Value} {l0 : List Int} (G : List Int → Int → List Int)
    (hh : A.handled = none) (hk : scope.kind = .function) (hx2 : scope.names.lookup x2 = some .local) (hne : x ≠ x2) (hsz : y0.length + n ≤ sizeLine) (z : Apart h₀ L I C D news)
    (turn : ∀ j t oI oC m₂ ys l h tk (E' : Value → Shared → Prop), 0 ≤ j → j < 0 + (n : Int) → IntsAre ys l → NsObj oC m₂ → m₂ x = some v0 → m₂ x2 = some (.int j t) → Fr h₀ L h m → News h₀ L h ((I, oI) :: (C, oC) :: (D, lst ys) :: news) →
      wpAny (model prog w) A (isTrue ct (compEnvC scope cl C env) (eval ct (compEnvC scope cl C env))) (fun b s' => if b = true then wpAny (model prog w) A (eval elt (compEnvC scope cl C env)) (CompEnd h₀ L m { s with heap := h, toks := tk } I oI C oC D (lst ys) (fun _ => True) (fun y news' => KCiEl news l (G l j) y news')) E' s'
        else CompEnd h₀ L m { s with heap := h, toks := tk } I oI C oC D (lst ys) (fun _ => True) (fun _ news' => KCiNo news l (G l j) news') Value.none s') E' { s with heap := h, toks := tk })
    (done : ∀ h tk m' ys, Fr h₀ L h m → h.Ns C m' → News h₀ L h ((D, lst ys) :: news) → IntsAre ys ((rangeKs 0 n).foldl G l0) → ys.length ≤ y0.length + n → R (.ok .next) { s with heap := h, toks := tk })
    {h₁ : Heap} {tk₁ : Nat} (a : Mid h₀ L m I C D news n (fun m' => m' x = some v0) h₁ 0 y0) (hi : IntsAre y0 l0) :
    codeAny (model prog w) A (.compLoop (lc2 elt ct iter iter2 x x2 px px2 scope pos) 1 (.ref I) (.ref D) (compEnvC scope cl C env)) R { s with heap := h₁, toks := tk₁ } := by
  refine lc2_loop1 rfl (fun k s' => ∃ h tk i ys, s' = { s with heap := h, toks := tk } ∧ i + k = n ∧ Mid h₀ L m I C D news n (fun m' => m' x = some v0) h i ys ∧ IntsAre ys (((rangeKs 0 n).take i).foldl G l0) ∧ ys.length ≤ y0.length + i) ?_ n
    ⟨h₁, tk₁, 0, y0, rfl, Nat.zero_add n, a, hi, Nat.le_refl _⟩
  rintro k _ ⟨h, tk, i, ys, rfl, ik, a, hI, le⟩
  cases k with
  | zero =>
    obtain rfl : i = n := ik
    refine a.done hh z fun h' tk' m' F' N' n' => done h' tk' m' ys F' n' N' ?_ le
    rwa [ks_all] at hI
  | succ k =>
    have lt : i < n := by omega
    refine a.next hh z hk hx2 lt fun t oI oC m₀ m₂ h' tk' p₀ r nC e₂ eo F' N' => ?_
    have p₂ : m₂ x = some v0 := (eo x hne).trans p₀
    refine wpAny_mono (turn _ t oI oC m₂ ys _ h' tk' _ (by omega) (by omega) hI nC p₂ e₂ F' N') (fun ok s₄ q => ?_) fun _ _ e => e
    rw [← ks_take lt G] at q
    cases ok
    · obtain ⟨h₅, tk₅, _, rfl, F₅, N₅, _, _, rfl, eG⟩ := q
      exact ⟨k, Nat.lt_succ_self k, h₅, tk₅, i + 1, ys, rfl, by omega, .of F₅ N₅ r nC p₂, eG ▸ hI, by omega⟩
    · refine wpAny_mono q (fun y s₅ q => ?_) fun _ _ e => e
      obtain ⟨h₅, tk₅, _, rfl, F₅, N₅, _, _, rfl, b, u, rfl, eG⟩ := q
      refine Mid.add z F₅ N₅ r nC p₂ (by omega) fun h₆ a₆ => ⟨k, Nat.lt_succ_self k, h₆, tk₅, i + 1, _, rfl, by omega, a₆, eG ▸ hI.append (.cons _ _ .nil), ?_⟩
      rw [List.length_append, List.length_singleton]; omega
/-- the iterator of range(n) -/
theorem range_made {r : Addr} {t u v : Tok} {n : Nat} {Q : Value → Shared → Prop} (hr : IsRange s.heap r 0 (n : Nat) 1 t u v) (hn : n ≤ 1000)
    (go : ∀ J h', J = s.heap.objs.size → h'.objs.size = J + 1 → (∀ b o, s.heap.get? b = some o → h'.get? b = some o) → RI h' J n 0 → Q (.ref J) { s with heap := h' }) : wpAny (model prog w) A (pyIter (.ref r)) Q E s := by
  refine wpAny_pyIter_range hr (small_one (by decide) (by decide) (by omega) (by omega)) (go _ _ rfl (Heap.size_push ..) (fun _ _ e => Heap.get?_push_of_some _ e) ?_)
  have sz : Builtin.Range.rangeSize 0 (n : Int) 1 = (n : Int) := by rw [rangeSize_nat]; omega
  show Heap.get? _ _ = _
  rw [Heap.get?_push_size _ rfl, sz]
  simp
/-- the list and the frame of a comprehension -/
theorem block_made {it : Value} {e : PySem.Expr} {scope : Scope} {cl : List (Str × Addr)} {RR : Value → Addr → Result → Shared → Prop} (hcell : ∀ z ∈ scope.names, z.2 ≠ .cell) (hk : scope.kind = .function)
    (go : ∀ h' tk' m', h'.get? s.heap.objs.size = some (lst []) → h'.Ns (s.heap.objs.size + 1) m' → (∀ b o, s.heap.get? b = some o → h'.get? b = some o) →
      codeAny (model prog w) A (.compStart e 0 it (.ref s.heap.objs.size) (compEnvC scope cl (s.heap.objs.size + 1) env)) (RR (.ref s.heap.objs.size) (s.heap.objs.size + 1)) { s with heap := h', toks := tk' }) :
    wpAny (model prog w) A (newList []) (fun acc s₃ => wpAny (model prog w) A (newFunctionEnv scope env.globals cl [] env.qual none .none (some env)) (fun ce s₄ =>
      codeAny (model prog w) A (.compStart e 0 it acc { ce with scope := relabel scope env }) (RR acc ce.locals) s₄) E s₃) E s := by
  refine wpAny_newObj_type (wpAny_newFunctionEnv hcell (fun _ hy => nomatch hy) (fun h₁ n₁ sb => ?_) hk)
  have top : ∀ o : Obj, (s.heap.push o).objs.size = s.heap.objs.size + 1 := fun o => Heap.size_push ..
  have kept : ∀ b o, b < s.heap.objs.size + 1 → (s.heap.push (lst [])).get? b = some o → h₁.get? b = some o := fun b o lt e => sb.extBut b o (Nat.ne_of_lt (top _ ▸ lt)) (Heap.get?_push_of_some _ e)
  have k := go h₁ (s.toks + ([] : List (Str × Value)).length) _ (kept _ _ (Nat.lt_succ_self _) (Heap.get?_push_size _ rfl)) (top (lst []) ▸ n₁) (fun b o e => kept b o (Nat.lt_succ_of_lt (Heap.lt_size e)) (Heap.get?_push_of_some _ e))
  rw [← top (lst [])] at k
  exact k
theorem skip2 {α : Type} {a b q : α} {l : List α} : q ∈ a :: l → q ∈ a :: b :: l
  | .head _ => .head _
  | .tail _ h => .tail _ (.tail _ h)
theorem turn3 {α : Type} {a b c q : α} {l : List α} : q ∈ c :: a :: l → q ∈ a :: b :: c :: l
  | .head _ => .tail _ (.tail _ (.head _))
  | .tail _ (.head _) => .head _
  | .tail _ (.tail _ h) => .tail _ (.tail _ (.tail _ h))
/-- the inner range made -/
def Src3 (h₀ : Heap) (L : Addr) (m : Str → Option Value) (s : Shared) (n2 : Nat) (I : Addr) (oI : Obj) (C : Addr) (oC : Obj) (D : Addr) (oD : Obj) (news : List (Addr × Obj)) (xv : Value) (s' : Shared) : Prop :=
  ∃ r t u v h' tk', xv = .ref r ∧ s' = { s with heap := h', toks := tk' } ∧ Fr h₀ L h' m ∧ News h₀ L h' ((I, oI) :: (C, oC) :: (D, oD) :: news) ∧ IsRange h' r 0 (n2 : Nat) 1 t u v
def Src2 (prog : Program) (w : World) (A : Around) (h₀ : Heap) (L : Addr) (m : Str → Option Value) (env : Env) (elt ct iter2 : PySem.Expr) (x x2 : Str) (scope : Scope) (cl : List (Str × Addr)) (y : Str) (Q : Flow → Shared → Prop) (xv : Value) (s₁ : Shared) : Prop :=
  ∃ r t u v n n2 news, ∃ G : Int → List Int → Int → List Int, xv = .ref r ∧ A.handled = none ∧ Fr h₀ L s₁.heap m ∧ News h₀ L s₁.heap news ∧ IsRange s₁.heap r 0 (n : Nat) 1 t u v ∧ n ≤ 1000 ∧ n2 ≤ 1000 ∧
    (∀ i t I oI C oC D m₂ ys h tk (E' : Value → Shared → Prop), 0 ≤ i → i < 0 + (n : Int) → NsObj oC m₂ → m₂ x = some (.int i t) → Fr h₀ L h m → News h₀ L h ((I, oI) :: (C, oC) :: (D, lst ys) :: news) → Off3 I C D news → ((@Ne Nat I C) ∧ (@Ne Nat I D) ∧ (@Ne Nat C D)) →
      wpAny (model prog w) A (eval iter2 (compEnvC scope cl C env)) (Src3 h₀ L m s₁ n2 I oI C oC D (lst ys) news) E' { s₁ with heap := h, toks := tk }) ∧
    (∀ i t j tj I oI I0 oI0 C oC D m₂ ys l h tk (E' : Value → Shared → Prop), 0 ≤ i → i < 0 + (n : Int) → 0 ≤ j → j < 0 + (n2 : Int) → IntsAre ys l → NsObj oC m₂ → m₂ x = some (.int i t) → m₂ x2 = some (.int j tj) → Fr h₀ L h m → News h₀ L h ((I, oI) :: (C, oC) :: (D, lst ys) :: (I0, oI0) :: news) →
      Off3 I C D ((I0, oI0) :: news) → ((@Ne Nat I C) ∧ (@Ne Nat I D) ∧ (@Ne Nat C D)) →
      wpAny (model prog w) A (isTrue ct (compEnvC scope cl C env) (eval ct (compEnvC scope cl C env))) (fun b s' => if b = true then wpAny (model prog w) A (eval elt (compEnvC scope cl C env)) (CompEnd h₀ L m { s₁ with heap := h, toks := tk } I oI C oC D (lst ys) (fun _ => True) (fun y news' => KCiEl ((I0, oI0) :: news) l (G i l j) y news')) E' s'
        else CompEnd h₀ L m { s₁ with heap := h, toks := tk } I oI C oC D (lst ys) (fun _ => True) (fun _ news' => KCiNo ((I0, oI0) :: news) l (G i l j) news') Value.none s') E' { s₁ with heap := h, toks := tk }) ∧
    (∀ ys, IntsAre ys ((rangeKs 0 n).foldl (fun a k => (rangeKs 0 n2).foldl (G k) a) []) → FinA h₀ L m s₁ y Q ys news)
theorem Assign_lc2 {elt ct iter iter2 : PySem.Expr} {x x2 y : Str} {px px2 py : Pos} {scope : Scope} {cl : List (Str × Addr)} {pos spos : Pos} {Q : Flow → Shared → Prop}
    (F₀ : Fr h₀ L s.heap m) (f : Fits (lc2 elt ct iter iter2 x x2 px px2 scope pos) env L scope cl x y py spos) (hx2 : scope.names.lookup x2 = some .local) (hne : x ≠ x2)
    (h : wpAny (model prog w) A (eval iter env) (Src2 prog w A h₀ L m env elt ct iter2 x x2 scope cl y Q) E s)
    (hs : ∀ x, foldedSetIterable iter env x = pure x := by intro _; rfl) (hs2 : ∀ e y, foldedSetIterable iter2 e y = pure y := by intro _ _; rfl) :
    wpAny (model prog w) A (exec (.Assign [.Name y py] (lc2 elt ct iter iter2 x x2 px px2 scope pos) spos) env) Q E s := by
  cases f.at_L
  refine comp_assign f hs (wpAny_mono h ?_ fun _ _ e => e)
  rintro _ s₁ ⟨r, t, u, v, n, n2, news, G, rfl, hh, F, N, hr, hn1, hn2, src, turn, fin⟩
  refine range_made hr hn1 fun I H1 eI sI up1 it1 => block_made f.cells f.plain fun h₁ tk₁ m₁ eD n₁ up2 => ?_
  dsimp only at eD n₁ up2 ⊢
  rw [sI] at eD n₁ ⊢
  have F1 := (F.keeps up1).keeps up2
  have N1 := (N.grown up1).grown up2
  have lt : ∀ {b o}, s₁.heap.get? b = some o → @LT.lt Nat _ b I := fun e => eI ▸ Heap.lt_size e
  have lL : @LT.lt Nat _ env.locals I := eI ▸ F.ns.lt
  have none : ∀ a, I ≤ a → h₀.get? a = none := fun a le => Heap.get?_none_of_le (Nat.le_trans F.above (Nat.le_of_lt (Nat.lt_of_lt_of_le lL le)))
  have z : Apart h₀ env.locals I (I + 1 + 1) (I + 1) news :=
    { li := Nat.ne_of_lt lL, i0 := none _ (Nat.le_refl _), cl := Nat.ne_of_gt (by omega), c0 := none _ (by omega), dl := Nat.ne_of_gt (by omega), d0 := none _ (by omega), ic := Nat.ne_of_lt (by omega), id := Nat.ne_of_lt (by omega), cd := Nat.ne_of_gt (by omega)
      off := Off3.of fun q hq => by have l := lt (N q hq).1; exact ⟨Nat.ne_of_lt l, Nat.ne_of_lt (by omega), Nat.ne_of_lt (by omega)⟩ }
  have start : Mid h₀ env.locals m I (I + 1 + 1) (I + 1) news n (fun _ => True) h₁ 0 [] := ⟨up2 _ _ it1, F1, fun q hq => by
    cases hq with
    | head => exact ⟨eD, z.dl, z.d0⟩
    | tail _ hq => exact N1 q hq, m₁, n₁, trivial⟩
  generalize I + 1 + 1 = C at *
  generalize I + 1 = D at *
  refine (fun loop => codeAny_compStart_list loop ((range_walks hh 0 n).self 0 _ _ _ start.it loop)) ?_
  refine lc2_loop0 rfl (fun k s' => ∃ h tk i ys, s' = { s₁ with heap := h, toks := tk } ∧ i + k = n ∧ Mid h₀ env.locals m I C D news n (fun _ => True) h i ys ∧ IntsAre ys (((rangeKs 0 n).take i).foldl (fun a k => (rangeKs 0 n2).foldl (G k) a) []) ∧ ys.length ≤ i * n2) ?_ (hs2 _) n
    ⟨h₁, tk₁, 0, [], rfl, Nat.zero_add n, start, .nil, Nat.zero_le _⟩
  rintro k _ ⟨h, tk, i, ys, rfl, ik, a, hI, le⟩
  cases k with
  | zero =>
    obtain rfl : i = n := ik
    rw [ks_all] at hI
    exact a.done hh z fun h' tk' m' F' N' n' => comp_store f.target f.flat F' N' z.off.one n' z.cl z.c0 z.noC (fin ys hI)
  | succ k =>
    refine a.next hh z f.plain f.var (by omega) fun t oI oC m₀ m₂ h' tk' _ r nC e₁ _ F' N' => ?_
    refine wpAny_mono (src _ t I oI C oC D m₂ ys h' tk' _ (by omega) (by omega) nC e₁ F' N' z.off ⟨z.ic, z.id, z.cd⟩) ?_ fun _ _ e => e
    rintro _ _ ⟨r2, t2, u2, v2, h6, tk6, rfl, rfl, F6, N6, hr2⟩
    refine range_made hr2 hn2 fun J H7 eJ _ up7 itJ => lc2_start1 (fun _ _ q => (range_walks hh 0 n2).self 0 _ _ _ itJ q) ?_
    have N7 := N6.grown up7
    have off : ∀ q ∈ (I, oI) :: (C, oC) :: (D, lst ys) :: news, @LT.lt Nat _ q.1 J := fun q hq => eJ ▸ Heap.lt_size (N6 q hq).1
    have zJ : Apart h₀ env.locals J C D ((I, oI) :: news) :=
      { li := Nat.ne_of_lt (eJ ▸ F6.ns.lt), i0 := Heap.get?_none_of_le (Nat.le_trans F6.above (Nat.le_of_lt (eJ ▸ F6.ns.lt))), cl := z.cl, c0 := z.c0, dl := z.dl, d0 := z.d0, ic := Nat.ne_of_gt (off _ (.tail _ (.head _))), id := Nat.ne_of_gt (off _ (.tail _ (.tail _ (.head _)))), cd := z.cd
        off := Off3.of fun q hq => by
          cases hq with
          | head => exact ⟨Nat.ne_of_lt (off _ (.head _)), z.ic, z.id⟩
          | tail _ hq => exact ⟨Nat.ne_of_lt (off _ (.tail _ (.tail _ (.tail _ hq)))), (z.off.mem q hq).2⟩ }
    have big : i * n2 ≤ 1000 * 1000 := Nat.mul_le_mul (by omega) hn2
    refine lc2_inner (v0 := .int (0 + (i : Int)) t) (G (0 + (i : Int))) hh f.plain hx2 hne (by rw [sizeLine_eq]; omega) zJ (fun j tj oJ oC' m₃ ys' l' h tk E' j0 j1 hIy nC' e₁' e₂' F N => turn _ t j tj J oJ I oI C oC' D m₃ ys' l' h tk E' (by omega) (by omega) j0 j1 hIy nC' e₁' e₂' F N zJ.off ⟨zJ.ic, zJ.id, zJ.cd⟩)
      (fun h8 tk8 m8 ys8 F8 n8 N8 hI8 le8 => ⟨k, Nat.lt_succ_self k, h8, tk8, i + 1, ys8, rfl, by omega, ⟨r _ (N8 _ (.tail _ (.head _))).1, F8, fun q hq => N8 q (skip2 hq), m8, n8, trivial⟩, by rw [ks_take (by omega) fun a k => (rangeKs 0 n2).foldl (G k) a]; exact hI8, by rw [Nat.succ_mul]; omega⟩)
      ⟨itJ, F6.keeps up7, fun q hq => N7 q (turn3 hq), m₂, nC.ns (N7 _ (.tail _ (.head _))).1, e₁⟩ hI
end
end Mine
namespace Mine
open PySem.Calls
section
variable {prog : Program} {w : World} {A : Around} {E : Value → Shared → Prop} {s : Shared} {h₀ : Heap} {env : Env} {x : Str} {body : List Stmt} {Q : Flow → Shared → Prop}
/-- a loop over a written tuple of ints that grows one list of ints -/
theorem tup_loop {D l : Addr} {vs : List Value} {ns : List Int} {m₀ : Str → Option Value} {k0 : Nat} (stored : List Str) (P : List Int → List Int → Prop)
    (hh : A.handled = none) (ht : IsTup s.heap l vs.toArray) (hi : IntsAre vs ns) (F : Fr h₀ env.locals s.heap m₀) (N : News h₀ env.locals s.heap [(D, listOf ([] : List Value).toArray k0)]) (hDl : (@Ne Nat D l)) (hLl : (@Ne Nat env.locals l)) (hp : P [] [])
    (turn : ∀ (c : List Value × List Int × Nat) (pre : List Int) (n : Int) t (u : Str → Option Value) h tk own, n ∈ ns → pre.length < ns.length → OwnOff own [D] → IntsAre c.1 c.2.1 → P pre c.2.1 →
      Fr h₀ env.locals h (fun y => if y = x then some (.int n t) else if stored.contains y then u y else m₀ y) → News h₀ env.locals h ((D, listOf c.1.toArray c.2.2) :: own) →
      wpAny (model prog w) A (execs body env) (InvPostN h₀ env.locals (KstS (fun c : List Value × List Int × Nat => [(D, listOf c.1.toArray c.2.2)]) (fun _ => []) (fun c => IntsAre c.1 c.2.1) x stored m₀ (fun pre c => P pre c.2.1) (pre ++ [n])) own [D] { s with heap := h, toks := tk } Q) E { s with heap := h, toks := tk })
    (done : ∀ (c : List Value × List Int × Nat) (u : Str → Option Value) h tk, IntsAre c.1 c.2.1 → P ns c.2.1 → Fr h₀ env.locals h (fun y => if y = x then u y else if stored.contains y then u y else m₀ y) → News h₀ env.locals h [(D, listOf c.1.toArray c.2.2)] → Q .next { s with heap := h, toks := tk }) :
    wpAny (model prog w) A (pyIter (.ref l)) (fun it s₂ => LoopAtV prog w A h₀ env x body Q E it s₂) E s := by
  have hlt : @LT.lt Nat _ l s.heap.objs.size := let ⟨_, e, _⟩ := ht; Heap.lt_size e
  have dlt : @LT.lt Nat _ D s.heap.objs.size := Heap.lt_size (N _ (.head _)).1
  have up : ∀ (o : Obj) b o', s.heap.get? b = some o' → (s.heap.push o).get? b = some o' := fun _ _ _ e => Heap.get?_push_of_some _ e
  refine wpAny_pyIter_tuple ht (loop_invN (fun i m nx => KstS (fun c : List Value × List Int × Nat => [(D, listOf c.1.toArray c.2.2)]) (fun _ => []) (fun c => IntsAre c.1 c.2.1) x stored m₀ (fun pre c => P pre c.2.1) (ns.take i) m nx)
    (Walks.tuple (prog := prog) (w := w) hh s.heap.objs.size l (Nat.ne_of_lt hlt) vs.toArray).bound ?_ ?_ ?_ ?_ ⟨⟨_, Heap.get?_push_size _ rfl, rfl, rfl⟩, ?_⟩ (F.keeps (up _)) (N.grown (up _)) ⟨([], [], k0), rfl, .nil, fun _ h => (nomatch h), fun _ _ _ _ => rfl, hp⟩ ?_ ?_)
  · exact fun hm => (List.mem_cons.mp hm).elim (Nat.ne_of_lt F.ns.lt) fun hm => hLl (List.mem_singleton.mp hm)
  · exact fun b hb => List.mem_singleton.mp hb ▸ next_is_new F
  · exact fun p hp hb => by cases hp with | head => exact Nat.ne_of_lt dlt (List.mem_singleton.mp hb) | tail _ hp => cases hp
  · exact fun p hp hb => by cases hp with | head => exact (List.mem_cons.mp hb).elim (Nat.ne_of_lt dlt) fun hb => hDl (List.mem_singleton.mp hb) | tail _ hp => cases hp
  · exact let ⟨o, e, r⟩ := ht; ⟨o, up _ _ _ e, r⟩
  · rintro i v m₁ nx h tk own - ⟨-, at_i⟩ - off ⟨c, rfl, ok, h1, h2, pc⟩ F₁ N₁
    obtain ⟨n, t, rfl, e⟩ := IntsAre.at hi i v (by simpa using at_i)
    have lt : i < ns.length := (List.getElem?_eq_some_iff.mp e).1
    rw [List.take_add_one, e]
    exact turn c _ n t m₁ h tk own (List.mem_of_getElem? e) (by rw [List.length_take]; omega) off ok pc (kst_fr h1 h2 F₁) N₁
  · rintro m₁ nx h tk ⟨c, rfl, ok, h1, h2, pc⟩ F₁ N₁
    refine done c m₁ h tk ok ?_ (kst_frOut h1 h2 F₁) N₁
    rwa [List.size_toArray, hi.length, List.take_length] at pc
end
end Mine
namespace Mine
open PySem.Calls PySem.Builtin PySem.Builtin.Re
section
variable {prog : Program} {w : World} {A : Around} {E : Value → Shared → Prop} {s : Shared} {K : Frag} {P C L : Addr} {h₀ : Heap} {m : Str → Option Value} {news : List (Addr × Obj)}
theorem pat_getM {pl : Sem Bool} {Q : Value × List Value → Shared → Prop} {d : Data} {sl : Array (Option Value)} (F : Fr h₀ L s.heap m) (X : K.In h₀) (e : K.lookup P = some ⟨.type "re.Pattern", none, d, sl⟩) (h : Q (.builtin "re.Pattern.sub", [.ref P]) s) :
    wpAny (model prog w) A (getMethod (.ref P) (Str.ofString "sub") pl) Q E s :=
  getMethod_builtin ⟨_, F.keep _ _ (X _ _ e), rfl⟩ plainAttrs_pat slot_pat_sub type_pat_sub (fun a ea => by cases ea; exact ⟨_, F.keep _ _ (X _ _ e), rfl⟩) h
theorem pat_at {code : Array Nat} {vs cs : Array Value} {n : Nat} {sl sl' : Array (Option Value)} {dd : Option Addr} {ct : Value} (F : Fr h₀ L s.heap m) (X : K.In h₀) (e : K.lookup P = some ⟨.type "re.Pattern", none, .fields vs, sl⟩) (e2 : K.lookup C = some ⟨ct, dd, .seq cs n, sl'⟩)
    (h6 : vs.getD 6 .none = .int 0 0) (h2 : vs.getD 2 .none = .int 0 0) (h5 : vs.getD 5 .none = .ref C) (hc : (cs.map reRawOf).map (·.toNat) = code) : PatAt s.heap P C code :=
  ⟨⟨_, vs, F.keep _ _ (X _ _ e), rfl, rfl, rfl, h6, h2, h5⟩, _, cs, n, F.keep _ _ (X _ _ e2), rfl, hc⟩
theorem nl_length : ∀ l : List Nat, (nl l).length ≤ 2 * l.length
  | [] => Nat.zero_le _
  | c :: r => by
    unfold nl
    split
    · simp
    · rename_i r' e
      cases e
      have := nl_length r'
      simp only [List.length_cons]
      omega
    · rename_i c' r' _ e
      cases e
      have := nl_length r
      split <;> simp only [List.length_cons] <;> omega
theorem pat_sub2 {T : Str} {tt tr : Tok} {Q : Value → Shared → Prop} {vs cs : Array Value} {n : Nat} {sl sl' : Array (Option Value)} {dd : Option Addr} {ct : Value} (F : Fr h₀ L s.heap m) (N : News h₀ L s.heap news) (X : K.In h₀)
    (e : K.lookup P = some ⟨.type "re.Pattern", none, .fields vs, sl⟩) (e2 : K.lookup C = some ⟨ct, dd, .seq cs n, sl'⟩)
    (h6 : vs.getD 6 .none = .int 0 0) (h2 : vs.getD 2 .none = .int 0 0) (h5 : vs.getD 5 .none = .ref C) (hc : (cs.map reRawOf).map (·.toNat) = code2) (hT : T.cps.size ≤ 10000)
    (h : ∀ h' tk tok, Fr h₀ L h' m → News h₀ L h' news → Q (.str ⟨(nl T.cps.toList).toArray⟩ tok) { s with heap := h', toks := tk }) :
    wpAny (model prog w) A (call (.builtin "re.Pattern.sub") [.ref P, .str (Str.ofString "\r\n") tr, .str T tt]) Q E s := by
  have er : (Str.ofString "\r\n").cps = #[13, 10] := by decide +kernel
  refine sub_call (finds2 T.cps) (pat_at F X e e2 h6 h2 h5 hc) hT (by rw [er]; decide) (by rw [er]; decide +kernel) fun h' tk tok x => ?_
  have z := sub2_nl T.cps (T.cps.size + 1) 0 (by omega) (Nat.zero_le _)
  rw [er, z]
  exact h h' tk tok (F.keeps x) (N.grown x)
theorem pat_sub1 {T : Str} {tt tr : Tok} {Q : Value → Shared → Prop} {vs cs : Array Value} {n : Nat} {sl sl' : Array (Option Value)} {dd : Option Addr} {ct : Value} (F : Fr h₀ L s.heap m) (N : News h₀ L s.heap news) (X : K.In h₀)
    (e : K.lookup P = some ⟨.type "re.Pattern", none, .fields vs, sl⟩) (e2 : K.lookup C = some ⟨ct, dd, .seq cs n, sl'⟩)
    (h6 : vs.getD 6 .none = .int 0 0) (h2 : vs.getD 2 .none = .int 0 0) (h5 : vs.getD 5 .none = .ref C) (hc : (cs.map reRawOf).map (·.toNat) = code1) (hT : T.cps.size ≤ 10000)
    (h : ∀ h' tk tok, Fr h₀ L h' m → News h₀ L h' news → Q (.str ⟨(dots true T.cps.toList).toArray⟩ tok) { s with heap := h', toks := tk }) :
    wpAny (model prog w) A (call (.builtin "re.Pattern.sub") [.ref P, .str (Str.ofString "..") tr, .str T tt]) Q E s := by
  have er : (Str.ofString "..").cps = #[46, 46] := by decide +kernel
  refine sub_call (finds1 T.cps hT) (pat_at F X e e2 h6 h2 h5 hc) hT (by rw [er]; decide) (by rw [er]; decide +kernel) fun h' tk tok x => ?_
  have z := sub1_dots T.cps (T.cps.size + 1) 0 (by omega) (Nat.zero_le _)
  rw [er, z]
  exact h h' tk tok (F.keeps x) (N.grown x)
end
local macro_rules | `(tactic| walk_at "getMethod ref") => `(tactic| (k_here; k_dflt (refine' pat_getM ?k1 ?k2 ?k3 ?_; (case k1 => k_asm); (case k2 => k_asm); (case k3 => k_is); k_whole)))
local macro_rules | `(tactic| walk_at "call builtin:re.Pattern.sub") => `(tactic| (k_here; k_dflt (first
  | (refine' pat_sub2 (C := 321) ?k1 ?k2 ?k3 ?k4 ?k5 ?k6 ?k7 ?k8 ?k9 ?kz ?_; (case k1 => k_asm); (case k2 => k_asm); (case k3 => k_asm); (case k4 => k_is); (case k5 => k_is); (case k6 => rfl); (case k7 => rfl); (case k8 => rfl); (case k9 => decide +kernel); (case kz => first | assumption | omega); k_whole)
  | (refine' pat_sub1 (C := 316) ?k1 ?k2 ?k3 ?k4 ?k5 ?k6 ?k7 ?k8 ?k9 ?kz ?_; (case k1 => k_asm); (case k2 => k_asm); (case k3 => k_asm); (case k4 => k_is); (case k5 => k_is); (case k6 => rfl); (case k7 => rfl); (case k8 => rfl); (case k9 => decide +kernel); (case kz => first | assumption | omega); k_whole)); intro h' tk' tok' F' N'))
inductive QuoteR : List (Addr × Obj) → List Value → Str → Prop
  | mk {news : List (Addr × Obj)} {T : Str} {t : Tok} (h : T.cps.size ≤ 4000) : QuoteR news [.str T t] T
def quoteS (T : Str) : Str := ⟨(dots true (nl T.cps.toList)).toArray⟩
abbrev cQuote : ToldN Str where
  Rel := QuoteR
  Ok := fun _ => True
  size := fun _ => 2
  Tl := fun tl => tl = []
  Out := fun _ r T => ∃ t, r = .str (quoteS T) t
theorem T_quote (w : World) (p : Program) (loose : List Str) (mean : ExcName → Option Value) (mg mb : Str → Option Value) (T : Str) : TellsN PySem.Challenge.rw_wk0021_01.row.prog w (Mine.base.heap_1 w.params) p loose mean mg mb 329 cQuote T := by
  k_fill
  unfold TellsN
  intro dp un gd cn cs a ccd cl outer A₀ base h₀ L m news s vs Q E B F X N T' hk hR hok hd hu hret
  cases hR
  rename_i hT
  have hT2 : (nl T.cps.toList).toArray.size ≤ 10000 := by
    have := nl_length T.cps.toList
    have e1 : T.cps.toList.length = T.cps.size := Array.length_toList
    rw [List.size_toArray]
    omega
  refine wpAny_call ?_
  k_dflt ktr_enter
  k_steps
  all_goals ktn_end hret
end Mine
namespace Mine
open PySem.Calls
def euro : Str := Str.ofString "euro"
def iso : Str := Str.ofString ".ISO8859-15"
inductive AppR : List (Addr × Obj) → List Value → Str → Prop
  | first {news : List (Addr × Obj)} {t t' : Tok} : AppR news [.str (Str.ofString "") t, .str (Str.ofString "euro") t'] (Str.ofString ".ISO8859-15")
  | more {news : List (Addr × Obj)} {t t' : Tok} : AppR news [.str (Str.ofString ".ISO8859-15") t, .str (Str.ofString "euro") t'] (Str.ofString ".ISO8859-15")
  | other {news : List (Addr × Obj)} {t t' : Tok} {c m : Str} (h : m ≠ Str.ofString "euro") (h1 : c.length ≤ 1000) (h2 : m.length ≤ 1000) : AppR news [.str c t, .str m t'] (c ++ Str.ofString "@" ++ m)
abbrev cApp : ToldN Str where
  Rel := AppR
  Ok := fun _ => True
  size := fun _ => 2
  Tl := fun tl => tl = []
  Out := fun _ r d => ∃ t, r = .str d t
theorem T_app (w : World) (p : Program) (loose : List Str) (mean : ExcName → Option Value) (mg mb : Str → Option Value) (d : Str) : TellsN PySem.Challenge.rw_wk0021_01.row.prog w (Mine.base.heap_1 w.params) p loose mean mg mb 52 cApp d := by
  k_fill
  unfold TellsN
  intro dp un gd cn cs a ccd cl outer A₀ base h₀ L m news s vs Q E B F X N T' hk hR hok hd hu hret
  cases hR
  all_goals (
    refine wpAny_call ?_
    k_dflt ktr_enter
    k_steps)
  all_goals first
    | (exfalso; (rename (_ == Str.ofString "euro") = true => he9); (rename _ ≠ Str.ofString "euro" => hn9); exact hn9 (eq_of_beq he9))
    | (exfalso; (rename List.isEmpty _ = false => he9); (revert he9; decide +kernel))
    | (exfalso; (rename List.isEmpty _ = true => he9); (revert he9; decide +kernel))
    | (refine hret _ [] _ _ (by k_asm) (ktn_tl0 (cb_drop (by assumption) (by first | exact fun _ h9 => h9 | exact fun _ h9 => .tail _ h9 | exact fun _ h9 => .tail _ (.tail _ h9) | exact fun _ h9 => .tail _ (.tail _ (.tail _ h9)) | exact fun _ h9 => .tail _ (.tail _ (.tail _ (.tail _ h9)))))) ktn_ord0 rfl ?_; first | exact ⟨_, rfl⟩ | exact ⟨_, by decide +kernel⟩ | (refine ⟨_, congrArg (Value.str · _) ?_⟩; decide +kernel))
end Mine
local macro_rules | `(tactic| walk_at $s:str) => `(tactic| k_extra $s)
local macro_rules | `(tactic| k_ne) => `(tactic| k_extra "ne")
local macro_rules | `(tactic| kst_facts1) => `(tactic| k_extra "facts")
namespace Mine
open PySem.Calls
def pushI (A : List Int) (bit n : Int) : Int := if Builtin.bitAnd n bit = 0 ∨ Builtin.bitXor n bit ∈ A then n else Builtin.bitXor n bit
theorem push_same {ns pre fst : List Int} {bit n : Int} (h1 : fst.length = pre.length) (h2 : fst = pre.map (pushI ns bit)) (h : Builtin.bitAnd n bit = 0) : (fst ++ [n]).length = (pre ++ [n]).length ∧ fst ++ [n] = (pre ++ [n]).map (pushI ns bit) := by
  refine ⟨by simp [h1], ?_⟩
  rw [List.map_append, ← h2, List.map_singleton]
  unfold pushI
  rw [if_pos (.inl h)]
theorem push_in {ns pre fst : List Int} {bit n : Int} (h1 : fst.length = pre.length) (h2 : fst = pre.map (pushI ns bit)) (h : (ns.any fun x => x == Builtin.bitXor n bit) = true) : (fst ++ [n]).length = (pre ++ [n]).length ∧ fst ++ [n] = (pre ++ [n]).map (pushI ns bit) := by
  refine ⟨by simp [h1], ?_⟩
  rw [List.map_append, ← h2, List.map_singleton]
  unfold pushI
  rw [if_pos (.inr (by simpa using h))]
theorem push_down {ns pre fst : List Int} {bit n : Int} (h1 : fst.length = pre.length) (h2 : fst = pre.map (pushI ns bit)) (h0 : Builtin.bitAnd n bit ≠ 0) (h : (ns.any fun x => x == Builtin.bitXor n bit) = false) : (fst ++ [Builtin.bitXor n bit]).length = (pre ++ [n]).length ∧ fst ++ [Builtin.bitXor n bit] = (pre ++ [n]).map (pushI ns bit) := by
  refine ⟨by simp [h1], ?_⟩
  rw [List.map_append, ← h2, List.map_singleton]
  unfold pushI
  rw [if_neg]
  rintro (q | q)
  · exact h0 q
  · rw [← Bool.not_eq_true] at h
    exact h (by simpa using q)
theorem C_pushed {w : World} {dp un : Nat} {gd : Option (List Code)} {cn : Str} {cs : Scope} {ac : Addr} {ccd : Value} {cl : List (Str × Addr)} {outer : List Env} {A₀ : Around} {base h₀ : Heap} {L : Addr} {m mg mb : Str → Option Value} {s : Shared} {Q E : Value → Shared → Prop}
    {p : Program} {loose : List Str} {mean : ExcName → Option Value} {a : Addr} {vs : List Value} {ns : List Int} {bit : Int} {t : Tok}
    (B : Below A₀ base outer h₀) (F : Fr h₀ L s.heap m) (X : (Mine.base.heap_1 w.params).In h₀) (T : Top p loose mean mg mb h₀) (hk : cs.kind = .function) (hd : dp + 3 < recursionLimit) (hu : un + 24 < cLine)
    (hl : s.heap.IsList a vs.toArray) (hi : IntsAre vs ns) (hn : ns.length ≤ 100)
    (h : ∀ D vs' n h' tk', (∀ b o, s.heap.get? b = some o → h'.get? b = some o) → s.heap.get? D = none → h'.get? D = some (listOf vs' n) → IntsAre vs'.toList (ns.map (pushI ns bit)) → Q (.ref D) { s with heap := h', toks := tk' }) :
    wpAny (model PySem.Challenge.rw_wk0021_01.row.prog w) (ktrTop dp un gd cn cs L ac ccd cl outer) (call (.ref 348) [.ref a, .int bit t]) Q E s := by
  revert B F X
  k_fill
  intro B F X
  k_with_none
  k_with "ne" => (refine neN ?_; (try dsimp only); first | (with_reducible first | assumption | exact Ne.symm (by assumption) | exact Nat.ne_of_lt (by assumption) | exact Nat.ne_of_gt (by assumption) | ((rename (_ ≠ _ ∧ _) => h9); (first | exact h9.1 | exact h9.2.1 | exact h9.2 | exact h9.2.2.1 | exact h9.2.2 | exact h9.2.2.2.1 | exact h9.2.2.2 | exact h9.2.2.2.2.1 | exact h9.2.2.2.2 | exact h9.2.2.2.2.2.1 | exact h9.2.2.2.2.2 | exact Ne.symm h9.1 | exact Ne.symm h9.2.1 | exact Ne.symm h9.2 | exact Ne.symm h9.2.2.1 | exact Ne.symm h9.2.2 | exact Ne.symm h9.2.2.2.1 | exact Ne.symm h9.2.2.2 | exact Ne.symm h9.2.2.2.2.1 | exact Ne.symm h9.2.2.2.2 | exact Ne.symm h9.2.2.2.2.2.1 | exact Ne.symm h9.2.2.2.2.2)) | ((rename (_ ≠ _ ∧ _) => h9); clear h9; (rename (_ ≠ _ ∧ _) => h9); (first | exact h9.1 | exact h9.2.1 | exact h9.2 | exact h9.2.2.1 | exact h9.2.2 | exact h9.2.2.2.1 | exact h9.2.2.2 | exact h9.2.2.2.2.1 | exact h9.2.2.2.2 | exact h9.2.2.2.2.2.1 | exact h9.2.2.2.2.2 | exact Ne.symm h9.1 | exact Ne.symm h9.2.1 | exact Ne.symm h9.2 | exact Ne.symm h9.2.2.1 | exact Ne.symm h9.2.2 | exact Ne.symm h9.2.2.2.1 | exact Ne.symm h9.2.2.2 | exact Ne.symm h9.2.2.2.2.1 | exact Ne.symm h9.2.2.2.2 | exact Ne.symm h9.2.2.2.2.2.1 | exact Ne.symm h9.2.2.2.2.2)) | ((rename (_ ≠ _ ∧ _) => h9); clear h9; (rename (_ ≠ _ ∧ _) => h9); clear h9; (rename (_ ≠ _ ∧ _) => h9); (first | exact h9.1 | exact h9.2.1 | exact h9.2 | exact h9.2.2.1 | exact h9.2.2 | exact h9.2.2.2.1 | exact h9.2.2.2 | exact h9.2.2.2.2.1 | exact h9.2.2.2.2 | exact h9.2.2.2.2.2.1 | exact h9.2.2.2.2.2 | exact Ne.symm h9.1 | exact Ne.symm h9.2.1 | exact Ne.symm h9.2 | exact Ne.symm h9.2.2.1 | exact Ne.symm h9.2.2 | exact Ne.symm h9.2.2.2.1 | exact Ne.symm h9.2.2.2 | exact Ne.symm h9.2.2.2.2.1 | exact Ne.symm h9.2.2.2.2 | exact Ne.symm h9.2.2.2.2.2.1 | exact Ne.symm h9.2.2.2.2.2)) | ((rename ((_ ∧ _) ∧ _) => h9); (first | exact h9.1.1 | exact h9.1 | exact h9.1.2.1 | exact h9.2.1 | exact h9.1.2.2 | exact h9.2.2 | exact h9.2.1.1 | exact h9.2.1 | exact h9.2.1.2.1 | exact h9.2.2.1 | exact h9.2.1.2.2 | exact h9.2.2.2 | exact h9.2.2.1.1 | exact h9.2.2.1 | exact h9.2.2.1.2.1 | exact h9.2.2.2.1 | exact h9.2.2.1.2.2 | exact h9.2.2.2.2 | exact h9.2.2.2.1.1 | exact h9.2.2.2.1 | exact h9.2.2.2.1.2.1 | exact h9.2.2.2.2.1 | exact h9.2.2.2.1.2.2 | exact h9.2.2.2.2.2 | exact h9.2.2.2.2.1.1 | exact h9.2.2.2.2.1 | exact h9.2.2.2.2.1.2.1 | exact h9.2.2.2.2.2.1 | exact h9.2.2.2.2.1.2.2 | exact h9.2.2.2.2.2.2 | exact h9.2.2.2.2.2.1.1 | exact h9.2.2.2.2.2.1 | exact h9.2.2.2.2.2.1.2.1 | exact h9.2.2.2.2.2.2.1 | exact h9.2.2.2.2.2.1.2.2 | exact h9.2.2.2.2.2.2.2 | exact h9.2.2.2.2.2.2.1.1 | exact h9.2.2.2.2.2.2.1 | exact h9.2.2.2.2.2.2.1.2.1 | exact h9.2.2.2.2.2.2.2.1 | exact h9.2.2.2.2.2.2.1.2.2 | exact h9.2.2.2.2.2.2.2.2 | exact h9.2.2.2.2.2.2.2.1.1 | exact h9.2.2.2.2.2.2.2.1 | exact h9.2.2.2.2.2.2.2.1.2.1 | exact h9.2.2.2.2.2.2.2.2.1 | exact h9.2.2.2.2.2.2.2.1.2.2 | exact h9.2.2.2.2.2.2.2.2.2 | exact h9.2.2.2.2.2.2.2.2.1.1 | exact h9.2.2.2.2.2.2.2.2.1 | exact h9.2.2.2.2.2.2.2.2.1.2.1 | exact h9.2.2.2.2.2.2.2.2.2.1 | exact h9.2.2.2.2.2.2.2.2.1.2.2 | exact h9.2.2.2.2.2.2.2.2.2.2 | exact Ne.symm h9.1.1 | exact Ne.symm h9.1 | exact Ne.symm h9.1.2.1 | exact Ne.symm h9.2.1 | exact Ne.symm h9.1.2.2 | exact Ne.symm h9.2.2 | exact Ne.symm h9.2.1.1 | exact Ne.symm h9.2.1 | exact Ne.symm h9.2.1.2.1 | exact Ne.symm h9.2.2.1 | exact Ne.symm h9.2.1.2.2 | exact Ne.symm h9.2.2.2 | exact Ne.symm h9.2.2.1.1 | exact Ne.symm h9.2.2.1 | exact Ne.symm h9.2.2.1.2.1 | exact Ne.symm h9.2.2.2.1 | exact Ne.symm h9.2.2.1.2.2 | exact Ne.symm h9.2.2.2.2 | exact Ne.symm h9.2.2.2.1.1 | exact Ne.symm h9.2.2.2.1 | exact Ne.symm h9.2.2.2.1.2.1 | exact Ne.symm h9.2.2.2.2.1 | exact Ne.symm h9.2.2.2.1.2.2 | exact Ne.symm h9.2.2.2.2.2 | exact Ne.symm h9.2.2.2.2.1.1 | exact Ne.symm h9.2.2.2.2.1 | exact Ne.symm h9.2.2.2.2.1.2.1 | exact Ne.symm h9.2.2.2.2.2.1 | exact Ne.symm h9.2.2.2.2.1.2.2 | exact Ne.symm h9.2.2.2.2.2.2 | exact Ne.symm h9.2.2.2.2.2.1.1 | exact Ne.symm h9.2.2.2.2.2.1 | exact Ne.symm h9.2.2.2.2.2.1.2.1 | exact Ne.symm h9.2.2.2.2.2.2.1 | exact Ne.symm h9.2.2.2.2.2.1.2.2 | exact Ne.symm h9.2.2.2.2.2.2.2 | exact Ne.symm h9.2.2.2.2.2.2.1.1 | exact Ne.symm h9.2.2.2.2.2.2.1 | exact Ne.symm h9.2.2.2.2.2.2.1.2.1 | exact Ne.symm h9.2.2.2.2.2.2.2.1 | exact Ne.symm h9.2.2.2.2.2.2.1.2.2 | exact Ne.symm h9.2.2.2.2.2.2.2.2 | exact Ne.symm h9.2.2.2.2.2.2.2.1.1 | exact Ne.symm h9.2.2.2.2.2.2.2.1 | exact Ne.symm h9.2.2.2.2.2.2.2.1.2.1 | exact Ne.symm h9.2.2.2.2.2.2.2.2.1 | exact Ne.symm h9.2.2.2.2.2.2.2.1.2.2 | exact Ne.symm h9.2.2.2.2.2.2.2.2.2 | exact Ne.symm h9.2.2.2.2.2.2.2.2.1.1 | exact Ne.symm h9.2.2.2.2.2.2.2.2.1 | exact Ne.symm h9.2.2.2.2.2.2.2.2.1.2.1 | exact Ne.symm h9.2.2.2.2.2.2.2.2.2.1 | exact Ne.symm h9.2.2.2.2.2.2.2.2.1.2.2 | exact Ne.symm h9.2.2.2.2.2.2.2.2.2.2)) | ((rename ((_ ∧ _) ∧ _) => h9); clear h9; (rename ((_ ∧ _) ∧ _) => h9); (first | exact h9.1.1 | exact h9.1 | exact h9.1.2.1 | exact h9.2.1 | exact h9.1.2.2 | exact h9.2.2 | exact h9.2.1.1 | exact h9.2.1 | exact h9.2.1.2.1 | exact h9.2.2.1 | exact h9.2.1.2.2 | exact h9.2.2.2 | exact h9.2.2.1.1 | exact h9.2.2.1 | exact h9.2.2.1.2.1 | exact h9.2.2.2.1 | exact h9.2.2.1.2.2 | exact h9.2.2.2.2 | exact h9.2.2.2.1.1 | exact h9.2.2.2.1 | exact h9.2.2.2.1.2.1 | exact h9.2.2.2.2.1 | exact h9.2.2.2.1.2.2 | exact h9.2.2.2.2.2 | exact h9.2.2.2.2.1.1 | exact h9.2.2.2.2.1 | exact h9.2.2.2.2.1.2.1 | exact h9.2.2.2.2.2.1 | exact h9.2.2.2.2.1.2.2 | exact h9.2.2.2.2.2.2 | exact h9.2.2.2.2.2.1.1 | exact h9.2.2.2.2.2.1 | exact h9.2.2.2.2.2.1.2.1 | exact h9.2.2.2.2.2.2.1 | exact h9.2.2.2.2.2.1.2.2 | exact h9.2.2.2.2.2.2.2 | exact h9.2.2.2.2.2.2.1.1 | exact h9.2.2.2.2.2.2.1 | exact h9.2.2.2.2.2.2.1.2.1 | exact h9.2.2.2.2.2.2.2.1 | exact h9.2.2.2.2.2.2.1.2.2 | exact h9.2.2.2.2.2.2.2.2 | exact h9.2.2.2.2.2.2.2.1.1 | exact h9.2.2.2.2.2.2.2.1 | exact h9.2.2.2.2.2.2.2.1.2.1 | exact h9.2.2.2.2.2.2.2.2.1 | exact h9.2.2.2.2.2.2.2.1.2.2 | exact h9.2.2.2.2.2.2.2.2.2 | exact h9.2.2.2.2.2.2.2.2.1.1 | exact h9.2.2.2.2.2.2.2.2.1 | exact h9.2.2.2.2.2.2.2.2.1.2.1 | exact h9.2.2.2.2.2.2.2.2.2.1 | exact h9.2.2.2.2.2.2.2.2.1.2.2 | exact h9.2.2.2.2.2.2.2.2.2.2 | exact Ne.symm h9.1.1 | exact Ne.symm h9.1 | exact Ne.symm h9.1.2.1 | exact Ne.symm h9.2.1 | exact Ne.symm h9.1.2.2 | exact Ne.symm h9.2.2 | exact Ne.symm h9.2.1.1 | exact Ne.symm h9.2.1 | exact Ne.symm h9.2.1.2.1 | exact Ne.symm h9.2.2.1 | exact Ne.symm h9.2.1.2.2 | exact Ne.symm h9.2.2.2 | exact Ne.symm h9.2.2.1.1 | exact Ne.symm h9.2.2.1 | exact Ne.symm h9.2.2.1.2.1 | exact Ne.symm h9.2.2.2.1 | exact Ne.symm h9.2.2.1.2.2 | exact Ne.symm h9.2.2.2.2 | exact Ne.symm h9.2.2.2.1.1 | exact Ne.symm h9.2.2.2.1 | exact Ne.symm h9.2.2.2.1.2.1 | exact Ne.symm h9.2.2.2.2.1 | exact Ne.symm h9.2.2.2.1.2.2 | exact Ne.symm h9.2.2.2.2.2 | exact Ne.symm h9.2.2.2.2.1.1 | exact Ne.symm h9.2.2.2.2.1 | exact Ne.symm h9.2.2.2.2.1.2.1 | exact Ne.symm h9.2.2.2.2.2.1 | exact Ne.symm h9.2.2.2.2.1.2.2 | exact Ne.symm h9.2.2.2.2.2.2 | exact Ne.symm h9.2.2.2.2.2.1.1 | exact Ne.symm h9.2.2.2.2.2.1 | exact Ne.symm h9.2.2.2.2.2.1.2.1 | exact Ne.symm h9.2.2.2.2.2.2.1 | exact Ne.symm h9.2.2.2.2.2.1.2.2 | exact Ne.symm h9.2.2.2.2.2.2.2 | exact Ne.symm h9.2.2.2.2.2.2.1.1 | exact Ne.symm h9.2.2.2.2.2.2.1 | exact Ne.symm h9.2.2.2.2.2.2.1.2.1 | exact Ne.symm h9.2.2.2.2.2.2.2.1 | exact Ne.symm h9.2.2.2.2.2.2.1.2.2 | exact Ne.symm h9.2.2.2.2.2.2.2.2 | exact Ne.symm h9.2.2.2.2.2.2.2.1.1 | exact Ne.symm h9.2.2.2.2.2.2.2.1 | exact Ne.symm h9.2.2.2.2.2.2.2.1.2.1 | exact Ne.symm h9.2.2.2.2.2.2.2.2.1 | exact Ne.symm h9.2.2.2.2.2.2.2.1.2.2 | exact Ne.symm h9.2.2.2.2.2.2.2.2.2 | exact Ne.symm h9.2.2.2.2.2.2.2.2.1.1 | exact Ne.symm h9.2.2.2.2.2.2.2.2.1 | exact Ne.symm h9.2.2.2.2.2.2.2.2.1.2.1 | exact Ne.symm h9.2.2.2.2.2.2.2.2.2.1 | exact Ne.symm h9.2.2.2.2.2.2.2.2.1.2.2 | exact Ne.symm h9.2.2.2.2.2.2.2.2.2.2)) | ((rename (_ < _ ∧ _) => h9); (first | exact Nat.ne_of_lt h9.1 | exact Nat.ne_of_lt h9.2.1 | exact Nat.ne_of_lt h9.2 | exact Nat.ne_of_lt h9.2.2.1 | exact Nat.ne_of_lt h9.2.2 | exact Nat.ne_of_lt h9.2.2.2.1 | exact Nat.ne_of_lt h9.2.2.2 | exact Nat.ne_of_lt h9.2.2.2.2.1 | exact Nat.ne_of_lt h9.2.2.2.2 | exact Nat.ne_of_lt h9.2.2.2.2.2.1 | exact Nat.ne_of_lt h9.2.2.2.2.2 | exact Nat.ne_of_gt h9.1 | exact Nat.ne_of_gt h9.2.1 | exact Nat.ne_of_gt h9.2 | exact Nat.ne_of_gt h9.2.2.1 | exact Nat.ne_of_gt h9.2.2 | exact Nat.ne_of_gt h9.2.2.2.1 | exact Nat.ne_of_gt h9.2.2.2 | exact Nat.ne_of_gt h9.2.2.2.2.1 | exact Nat.ne_of_gt h9.2.2.2.2 | exact Nat.ne_of_gt h9.2.2.2.2.2.1 | exact Nat.ne_of_gt h9.2.2.2.2.2)) | ((rename (_ < _ ∧ _) => h9); clear h9; (rename (_ < _ ∧ _) => h9); (first | exact Nat.ne_of_lt h9.1 | exact Nat.ne_of_lt h9.2.1 | exact Nat.ne_of_lt h9.2 | exact Nat.ne_of_lt h9.2.2.1 | exact Nat.ne_of_lt h9.2.2 | exact Nat.ne_of_lt h9.2.2.2.1 | exact Nat.ne_of_lt h9.2.2.2 | exact Nat.ne_of_lt h9.2.2.2.2.1 | exact Nat.ne_of_lt h9.2.2.2.2 | exact Nat.ne_of_lt h9.2.2.2.2.2.1 | exact Nat.ne_of_lt h9.2.2.2.2.2 | exact Nat.ne_of_gt h9.1 | exact Nat.ne_of_gt h9.2.1 | exact Nat.ne_of_gt h9.2 | exact Nat.ne_of_gt h9.2.2.1 | exact Nat.ne_of_gt h9.2.2 | exact Nat.ne_of_gt h9.2.2.2.1 | exact Nat.ne_of_gt h9.2.2.2 | exact Nat.ne_of_gt h9.2.2.2.2.1 | exact Nat.ne_of_gt h9.2.2.2.2 | exact Nat.ne_of_gt h9.2.2.2.2.2.1 | exact Nat.ne_of_gt h9.2.2.2.2.2)) | ((rename (_ < _ ∧ _) => h9); clear h9; (rename (_ < _ ∧ _) => h9); clear h9; (rename (_ < _ ∧ _) => h9); (first | exact Nat.ne_of_lt h9.1 | exact Nat.ne_of_lt h9.2.1 | exact Nat.ne_of_lt h9.2 | exact Nat.ne_of_lt h9.2.2.1 | exact Nat.ne_of_lt h9.2.2 | exact Nat.ne_of_lt h9.2.2.2.1 | exact Nat.ne_of_lt h9.2.2.2 | exact Nat.ne_of_lt h9.2.2.2.2.1 | exact Nat.ne_of_lt h9.2.2.2.2 | exact Nat.ne_of_lt h9.2.2.2.2.2.1 | exact Nat.ne_of_lt h9.2.2.2.2.2 | exact Nat.ne_of_gt h9.1 | exact Nat.ne_of_gt h9.2.1 | exact Nat.ne_of_gt h9.2 | exact Nat.ne_of_gt h9.2.2.1 | exact Nat.ne_of_gt h9.2.2 | exact Nat.ne_of_gt h9.2.2.2.1 | exact Nat.ne_of_gt h9.2.2.2 | exact Nat.ne_of_gt h9.2.2.2.2.1 | exact Nat.ne_of_gt h9.2.2.2.2 | exact Nat.ne_of_gt h9.2.2.2.2.2.1 | exact Nat.ne_of_gt h9.2.2.2.2.2)) | ((rename (_ < _ ∧ _) => h9); clear h9; (rename (_ < _ ∧ _) => h9); clear h9; (rename (_ < _ ∧ _) => h9); clear h9; (rename (_ < _ ∧ _) => h9); (first | exact Nat.ne_of_lt h9.1 | exact Nat.ne_of_lt h9.2.1 | exact Nat.ne_of_lt h9.2 | exact Nat.ne_of_lt h9.2.2.1 | exact Nat.ne_of_lt h9.2.2 | exact Nat.ne_of_lt h9.2.2.2.1 | exact Nat.ne_of_lt h9.2.2.2 | exact Nat.ne_of_lt h9.2.2.2.2.1 | exact Nat.ne_of_lt h9.2.2.2.2 | exact Nat.ne_of_lt h9.2.2.2.2.2.1 | exact Nat.ne_of_lt h9.2.2.2.2.2 | exact Nat.ne_of_gt h9.1 | exact Nat.ne_of_gt h9.2.1 | exact Nat.ne_of_gt h9.2 | exact Nat.ne_of_gt h9.2.2.1 | exact Nat.ne_of_gt h9.2.2 | exact Nat.ne_of_gt h9.2.2.2.1 | exact Nat.ne_of_gt h9.2.2.2 | exact Nat.ne_of_gt h9.2.2.2.2.1 | exact Nat.ne_of_gt h9.2.2.2.2 | exact Nat.ne_of_gt h9.2.2.2.2.2.1 | exact Nat.ne_of_gt h9.2.2.2.2.2))) | ((repeat ((rename (_ ≠ _ ∧ _) => h9); clear h9)); (repeat ((rename ((_ ∧ _) ∧ _) => h9); clear h9)); (repeat ((rename (_ ≠ _) => h9); clear h9)); omega) | omega)
  k_with "call ref" => (k_here; refine wpAny_call ?_; k_dflt ((have kf9 : ScopeKind.function = ScopeKind.function := rfl); ktr_enter; (rename_i g' L' h' FG' F' N' B' X' T'); (try (have hl9' := stays_list (Fr.keep FG') (by with_reducible assumption)))))
  k_with "enter base" => (refine' code_base ⟨?b, ?f, ?x, ?t, ?fs, ?fo, ?fk⟩ ⟨?o, ?cd, ?c1, ?c2, ?c3⟩ ?rm ?bi ?lo ?ce ?_; (case fs => exact rfl); (case fo => exact rfl); (case fk => assumption); (case b => k_asm); (case f => k_asm); (case x => k_asm); (case t => k_asm); (case o => k_is); (case cd => k_is); (case rm => ktr_room); (case bi => exact BindsTo.of_eq rfl); (case ce => decide); (case lo => exact locs rfl); (case c1 => exact rfl); (case c2 => exact rfl); (case c3 => exact rfl); k_whole; intro L' h' F' N' B' X' T'; dsimp only [Runs]; (try k_fold))
  k_with "InvEndN" => (k_dflt kst_close)
  k_with "pyIter ref" => (k_dflt (k_state (fun pre lower => lower.length = pre.length ∧ lower = pre.map (pushI ns bit)) "lower"))
  k_with "state" => first | exact ⟨rfl, rfl⟩ | exact push_same (by assumption) (by assumption) (by assumption) | exact push_in (by assumption) (by assumption) (by assumption) | exact push_down (by assumption) (by assumption) (by assumption) (by assumption)
  refine wpAny_call ?_
  k_dflt (k_extra "enter base")
  k_steps
  (try dsimp only); (try k_unfold); (try dsimp only)
  rename Fr _ _ _ _ => F9
  rename News _ _ _ _ => N9
  have n9 := N9 _ (List.Mem.head _)
  refine h _ _ _ _ _ F9.keep n9.2.2 n9.1 ?_
  rename IntsAre _ _ => i9
  simp_all
end Mine
namespace Mine
open PySem.Calls
def numAt (ns : List Int) (first : Int) (ms : List Int) (place : Int) : Int := if first + place < (ns.length : Int) then (ns.getD (first + place).toNat 0).fmod 16 else ms.getD place.toNat 0
def addNew (found : List Int) (x : Int) : List Int := if x ∈ found then found else found ++ [x]
def setI (ns : List Int) (first : Int) (ms pre : List Int) : List Int := (pre.map (numAt ns first ms)).foldl addNew []
theorem setI_snoc (ns : List Int) (first : Int) (ms pre : List Int) (n : Int) : setI ns first ms (pre ++ [n]) = addNew (setI ns first ms pre) (numAt ns first ms n) := by
  simp [setI, List.foldl_append]
theorem set_keep {ns ms pre fst : List Int} {first n v : Int} (h1 : fst.length ≤ pre.length) (h2 : fst = setI ns first ms pre) (hv : numAt ns first ms n = v) (h : (fst.any fun x => x == v) = true) :
    fst.length ≤ (pre ++ [n]).length ∧ fst = setI ns first ms (pre ++ [n]) := by
  refine ⟨by rw [List.length_append]; exact Nat.le_trans h1 (Nat.le_add_right _ _), ?_⟩
  rw [setI_snoc, ← h2, hv]
  unfold addNew
  rw [if_pos (by simpa using h)]
theorem set_add {ns ms pre fst : List Int} {first n v : Int} (h1 : fst.length ≤ pre.length) (h2 : fst = setI ns first ms pre) (hv : numAt ns first ms n = v) (h : (fst.any fun x => x == v) = false) :
    (fst ++ [v]).length ≤ (pre ++ [n]).length ∧ fst ++ [v] = setI ns first ms (pre ++ [n]) := by
  refine ⟨by rw [List.length_append, List.length_append]; exact Nat.add_le_add_right h1 _, ?_⟩
  rw [setI_snoc, ← h2, hv]
  unfold addNew
  rw [if_neg]
  intro q
  rw [← Bool.not_eq_true] at h
  exact h (by simpa using q)
theorem C_set {w : World} {dp un : Nat} {gd : Option (List Code)} {cn : Str} {cs : Scope} {ac : Addr} {ccd : Value} {cl : List (Str × Addr)} {outer : List Env} {A₀ : Around} {base h₀ : Heap} {L : Addr} {m mg mb : Str → Option Value} {s : Shared} {Q E : Value → Shared → Prop}
    {p : Program} {loose : List Str} {mean : ExcName → Option Value} {a b : Addr} {vs ws : List Value} {ns ms : List Int} {first : Int} {t : Tok}
    (B : Below A₀ base outer h₀) (F : Fr h₀ L s.heap m) (X : (Mine.base.heap_1 w.params).In h₀) (T : Top p loose mean mg mb h₀) (hk : cs.kind = .function) (hd : dp + 3 < recursionLimit) (hu : un + 24 < cLine)
    (hl : s.heap.IsList a vs.toArray) (hi : IntsAre vs ns) (hn : ns.length ≤ 100) (ht : IsTup s.heap b ws.toArray) (hj : IntsAre ws ms) (hm : ms.length ≤ 100) (hf : 0 ≤ first) (hf' : first ≤ 100)
    (h : ∀ D vs' n h' tk', (∀ b o, s.heap.get? b = some o → h'.get? b = some o) → s.heap.get? D = none → h'.get? D = some (listOf vs' n) → IntsAre vs'.toList (setI ns first ms ((List.range ms.length).map fun (i : Nat) => (i : Int))) → Q (.ref D) { s with heap := h', toks := tk' }) :
    wpAny (model PySem.Challenge.rw_wk0021_01.row.prog w) (ktrTop dp un gd cn cs L ac ccd cl outer) (call (.ref 336) [.ref a, .int first t, .ref b]) Q E s := by
  revert B F X
  k_fill
  intro B F X
  k_with_none
  k_with "ne" => (refine neN ?_; (try dsimp only); first | (with_reducible first | assumption | exact Ne.symm (by assumption) | exact Nat.ne_of_lt (by assumption) | exact Nat.ne_of_gt (by assumption) | ((rename (_ ≠ _ ∧ _) => h9); (first | exact h9.1 | exact h9.2.1 | exact h9.2 | exact h9.2.2.1 | exact h9.2.2 | exact h9.2.2.2.1 | exact h9.2.2.2 | exact h9.2.2.2.2.1 | exact h9.2.2.2.2 | exact h9.2.2.2.2.2.1 | exact h9.2.2.2.2.2 | exact Ne.symm h9.1 | exact Ne.symm h9.2.1 | exact Ne.symm h9.2 | exact Ne.symm h9.2.2.1 | exact Ne.symm h9.2.2 | exact Ne.symm h9.2.2.2.1 | exact Ne.symm h9.2.2.2 | exact Ne.symm h9.2.2.2.2.1 | exact Ne.symm h9.2.2.2.2 | exact Ne.symm h9.2.2.2.2.2.1 | exact Ne.symm h9.2.2.2.2.2)) | ((rename (_ ≠ _ ∧ _) => h9); clear h9; (rename (_ ≠ _ ∧ _) => h9); (first | exact h9.1 | exact h9.2.1 | exact h9.2 | exact h9.2.2.1 | exact h9.2.2 | exact h9.2.2.2.1 | exact h9.2.2.2 | exact h9.2.2.2.2.1 | exact h9.2.2.2.2 | exact h9.2.2.2.2.2.1 | exact h9.2.2.2.2.2 | exact Ne.symm h9.1 | exact Ne.symm h9.2.1 | exact Ne.symm h9.2 | exact Ne.symm h9.2.2.1 | exact Ne.symm h9.2.2 | exact Ne.symm h9.2.2.2.1 | exact Ne.symm h9.2.2.2 | exact Ne.symm h9.2.2.2.2.1 | exact Ne.symm h9.2.2.2.2 | exact Ne.symm h9.2.2.2.2.2.1 | exact Ne.symm h9.2.2.2.2.2)) | ((rename (_ ≠ _ ∧ _) => h9); clear h9; (rename (_ ≠ _ ∧ _) => h9); clear h9; (rename (_ ≠ _ ∧ _) => h9); (first | exact h9.1 | exact h9.2.1 | exact h9.2 | exact h9.2.2.1 | exact h9.2.2 | exact h9.2.2.2.1 | exact h9.2.2.2 | exact h9.2.2.2.2.1 | exact h9.2.2.2.2 | exact h9.2.2.2.2.2.1 | exact h9.2.2.2.2.2 | exact Ne.symm h9.1 | exact Ne.symm h9.2.1 | exact Ne.symm h9.2 | exact Ne.symm h9.2.2.1 | exact Ne.symm h9.2.2 | exact Ne.symm h9.2.2.2.1 | exact Ne.symm h9.2.2.2 | exact Ne.symm h9.2.2.2.2.1 | exact Ne.symm h9.2.2.2.2 | exact Ne.symm h9.2.2.2.2.2.1 | exact Ne.symm h9.2.2.2.2.2)) | ((rename ((_ ∧ _) ∧ _) => h9); (first | exact h9.1.1 | exact h9.1 | exact h9.1.2.1 | exact h9.2.1 | exact h9.1.2.2 | exact h9.2.2 | exact h9.2.1.1 | exact h9.2.1 | exact h9.2.1.2.1 | exact h9.2.2.1 | exact h9.2.1.2.2 | exact h9.2.2.2 | exact h9.2.2.1.1 | exact h9.2.2.1 | exact h9.2.2.1.2.1 | exact h9.2.2.2.1 | exact h9.2.2.1.2.2 | exact h9.2.2.2.2 | exact h9.2.2.2.1.1 | exact h9.2.2.2.1 | exact h9.2.2.2.1.2.1 | exact h9.2.2.2.2.1 | exact h9.2.2.2.1.2.2 | exact h9.2.2.2.2.2 | exact h9.2.2.2.2.1.1 | exact h9.2.2.2.2.1 | exact h9.2.2.2.2.1.2.1 | exact h9.2.2.2.2.2.1 | exact h9.2.2.2.2.1.2.2 | exact h9.2.2.2.2.2.2 | exact h9.2.2.2.2.2.1.1 | exact h9.2.2.2.2.2.1 | exact h9.2.2.2.2.2.1.2.1 | exact h9.2.2.2.2.2.2.1 | exact h9.2.2.2.2.2.1.2.2 | exact h9.2.2.2.2.2.2.2 | exact h9.2.2.2.2.2.2.1.1 | exact h9.2.2.2.2.2.2.1 | exact h9.2.2.2.2.2.2.1.2.1 | exact h9.2.2.2.2.2.2.2.1 | exact h9.2.2.2.2.2.2.1.2.2 | exact h9.2.2.2.2.2.2.2.2 | exact h9.2.2.2.2.2.2.2.1.1 | exact h9.2.2.2.2.2.2.2.1 | exact h9.2.2.2.2.2.2.2.1.2.1 | exact h9.2.2.2.2.2.2.2.2.1 | exact h9.2.2.2.2.2.2.2.1.2.2 | exact h9.2.2.2.2.2.2.2.2.2 | exact h9.2.2.2.2.2.2.2.2.1.1 | exact h9.2.2.2.2.2.2.2.2.1 | exact h9.2.2.2.2.2.2.2.2.1.2.1 | exact h9.2.2.2.2.2.2.2.2.2.1 | exact h9.2.2.2.2.2.2.2.2.1.2.2 | exact h9.2.2.2.2.2.2.2.2.2.2 | exact Ne.symm h9.1.1 | exact Ne.symm h9.1 | exact Ne.symm h9.1.2.1 | exact Ne.symm h9.2.1 | exact Ne.symm h9.1.2.2 | exact Ne.symm h9.2.2 | exact Ne.symm h9.2.1.1 | exact Ne.symm h9.2.1 | exact Ne.symm h9.2.1.2.1 | exact Ne.symm h9.2.2.1 | exact Ne.symm h9.2.1.2.2 | exact Ne.symm h9.2.2.2 | exact Ne.symm h9.2.2.1.1 | exact Ne.symm h9.2.2.1 | exact Ne.symm h9.2.2.1.2.1 | exact Ne.symm h9.2.2.2.1 | exact Ne.symm h9.2.2.1.2.2 | exact Ne.symm h9.2.2.2.2 | exact Ne.symm h9.2.2.2.1.1 | exact Ne.symm h9.2.2.2.1 | exact Ne.symm h9.2.2.2.1.2.1 | exact Ne.symm h9.2.2.2.2.1 | exact Ne.symm h9.2.2.2.1.2.2 | exact Ne.symm h9.2.2.2.2.2 | exact Ne.symm h9.2.2.2.2.1.1 | exact Ne.symm h9.2.2.2.2.1 | exact Ne.symm h9.2.2.2.2.1.2.1 | exact Ne.symm h9.2.2.2.2.2.1 | exact Ne.symm h9.2.2.2.2.1.2.2 | exact Ne.symm h9.2.2.2.2.2.2 | exact Ne.symm h9.2.2.2.2.2.1.1 | exact Ne.symm h9.2.2.2.2.2.1 | exact Ne.symm h9.2.2.2.2.2.1.2.1 | exact Ne.symm h9.2.2.2.2.2.2.1 | exact Ne.symm h9.2.2.2.2.2.1.2.2 | exact Ne.symm h9.2.2.2.2.2.2.2 | exact Ne.symm h9.2.2.2.2.2.2.1.1 | exact Ne.symm h9.2.2.2.2.2.2.1 | exact Ne.symm h9.2.2.2.2.2.2.1.2.1 | exact Ne.symm h9.2.2.2.2.2.2.2.1 | exact Ne.symm h9.2.2.2.2.2.2.1.2.2 | exact Ne.symm h9.2.2.2.2.2.2.2.2 | exact Ne.symm h9.2.2.2.2.2.2.2.1.1 | exact Ne.symm h9.2.2.2.2.2.2.2.1 | exact Ne.symm h9.2.2.2.2.2.2.2.1.2.1 | exact Ne.symm h9.2.2.2.2.2.2.2.2.1 | exact Ne.symm h9.2.2.2.2.2.2.2.1.2.2 | exact Ne.symm h9.2.2.2.2.2.2.2.2.2 | exact Ne.symm h9.2.2.2.2.2.2.2.2.1.1 | exact Ne.symm h9.2.2.2.2.2.2.2.2.1 | exact Ne.symm h9.2.2.2.2.2.2.2.2.1.2.1 | exact Ne.symm h9.2.2.2.2.2.2.2.2.2.1 | exact Ne.symm h9.2.2.2.2.2.2.2.2.1.2.2 | exact Ne.symm h9.2.2.2.2.2.2.2.2.2.2)) | ((rename ((_ ∧ _) ∧ _) => h9); clear h9; (rename ((_ ∧ _) ∧ _) => h9); (first | exact h9.1.1 | exact h9.1 | exact h9.1.2.1 | exact h9.2.1 | exact h9.1.2.2 | exact h9.2.2 | exact h9.2.1.1 | exact h9.2.1 | exact h9.2.1.2.1 | exact h9.2.2.1 | exact h9.2.1.2.2 | exact h9.2.2.2 | exact h9.2.2.1.1 | exact h9.2.2.1 | exact h9.2.2.1.2.1 | exact h9.2.2.2.1 | exact h9.2.2.1.2.2 | exact h9.2.2.2.2 | exact h9.2.2.2.1.1 | exact h9.2.2.2.1 | exact h9.2.2.2.1.2.1 | exact h9.2.2.2.2.1 | exact h9.2.2.2.1.2.2 | exact h9.2.2.2.2.2 | exact h9.2.2.2.2.1.1 | exact h9.2.2.2.2.1 | exact h9.2.2.2.2.1.2.1 | exact h9.2.2.2.2.2.1 | exact h9.2.2.2.2.1.2.2 | exact h9.2.2.2.2.2.2 | exact h9.2.2.2.2.2.1.1 | exact h9.2.2.2.2.2.1 | exact h9.2.2.2.2.2.1.2.1 | exact h9.2.2.2.2.2.2.1 | exact h9.2.2.2.2.2.1.2.2 | exact h9.2.2.2.2.2.2.2 | exact h9.2.2.2.2.2.2.1.1 | exact h9.2.2.2.2.2.2.1 | exact h9.2.2.2.2.2.2.1.2.1 | exact h9.2.2.2.2.2.2.2.1 | exact h9.2.2.2.2.2.2.1.2.2 | exact h9.2.2.2.2.2.2.2.2 | exact h9.2.2.2.2.2.2.2.1.1 | exact h9.2.2.2.2.2.2.2.1 | exact h9.2.2.2.2.2.2.2.1.2.1 | exact h9.2.2.2.2.2.2.2.2.1 | exact h9.2.2.2.2.2.2.2.1.2.2 | exact h9.2.2.2.2.2.2.2.2.2 | exact h9.2.2.2.2.2.2.2.2.1.1 | exact h9.2.2.2.2.2.2.2.2.1 | exact h9.2.2.2.2.2.2.2.2.1.2.1 | exact h9.2.2.2.2.2.2.2.2.2.1 | exact h9.2.2.2.2.2.2.2.2.1.2.2 | exact h9.2.2.2.2.2.2.2.2.2.2 | exact Ne.symm h9.1.1 | exact Ne.symm h9.1 | exact Ne.symm h9.1.2.1 | exact Ne.symm h9.2.1 | exact Ne.symm h9.1.2.2 | exact Ne.symm h9.2.2 | exact Ne.symm h9.2.1.1 | exact Ne.symm h9.2.1 | exact Ne.symm h9.2.1.2.1 | exact Ne.symm h9.2.2.1 | exact Ne.symm h9.2.1.2.2 | exact Ne.symm h9.2.2.2 | exact Ne.symm h9.2.2.1.1 | exact Ne.symm h9.2.2.1 | exact Ne.symm h9.2.2.1.2.1 | exact Ne.symm h9.2.2.2.1 | exact Ne.symm h9.2.2.1.2.2 | exact Ne.symm h9.2.2.2.2 | exact Ne.symm h9.2.2.2.1.1 | exact Ne.symm h9.2.2.2.1 | exact Ne.symm h9.2.2.2.1.2.1 | exact Ne.symm h9.2.2.2.2.1 | exact Ne.symm h9.2.2.2.1.2.2 | exact Ne.symm h9.2.2.2.2.2 | exact Ne.symm h9.2.2.2.2.1.1 | exact Ne.symm h9.2.2.2.2.1 | exact Ne.symm h9.2.2.2.2.1.2.1 | exact Ne.symm h9.2.2.2.2.2.1 | exact Ne.symm h9.2.2.2.2.1.2.2 | exact Ne.symm h9.2.2.2.2.2.2 | exact Ne.symm h9.2.2.2.2.2.1.1 | exact Ne.symm h9.2.2.2.2.2.1 | exact Ne.symm h9.2.2.2.2.2.1.2.1 | exact Ne.symm h9.2.2.2.2.2.2.1 | exact Ne.symm h9.2.2.2.2.2.1.2.2 | exact Ne.symm h9.2.2.2.2.2.2.2 | exact Ne.symm h9.2.2.2.2.2.2.1.1 | exact Ne.symm h9.2.2.2.2.2.2.1 | exact Ne.symm h9.2.2.2.2.2.2.1.2.1 | exact Ne.symm h9.2.2.2.2.2.2.2.1 | exact Ne.symm h9.2.2.2.2.2.2.1.2.2 | exact Ne.symm h9.2.2.2.2.2.2.2.2 | exact Ne.symm h9.2.2.2.2.2.2.2.1.1 | exact Ne.symm h9.2.2.2.2.2.2.2.1 | exact Ne.symm h9.2.2.2.2.2.2.2.1.2.1 | exact Ne.symm h9.2.2.2.2.2.2.2.2.1 | exact Ne.symm h9.2.2.2.2.2.2.2.1.2.2 | exact Ne.symm h9.2.2.2.2.2.2.2.2.2 | exact Ne.symm h9.2.2.2.2.2.2.2.2.1.1 | exact Ne.symm h9.2.2.2.2.2.2.2.2.1 | exact Ne.symm h9.2.2.2.2.2.2.2.2.1.2.1 | exact Ne.symm h9.2.2.2.2.2.2.2.2.2.1 | exact Ne.symm h9.2.2.2.2.2.2.2.2.1.2.2 | exact Ne.symm h9.2.2.2.2.2.2.2.2.2.2)) | ((rename (_ < _ ∧ _) => h9); (first | exact Nat.ne_of_lt h9.1 | exact Nat.ne_of_lt h9.2.1 | exact Nat.ne_of_lt h9.2 | exact Nat.ne_of_lt h9.2.2.1 | exact Nat.ne_of_lt h9.2.2 | exact Nat.ne_of_lt h9.2.2.2.1 | exact Nat.ne_of_lt h9.2.2.2 | exact Nat.ne_of_lt h9.2.2.2.2.1 | exact Nat.ne_of_lt h9.2.2.2.2 | exact Nat.ne_of_lt h9.2.2.2.2.2.1 | exact Nat.ne_of_lt h9.2.2.2.2.2 | exact Nat.ne_of_gt h9.1 | exact Nat.ne_of_gt h9.2.1 | exact Nat.ne_of_gt h9.2 | exact Nat.ne_of_gt h9.2.2.1 | exact Nat.ne_of_gt h9.2.2 | exact Nat.ne_of_gt h9.2.2.2.1 | exact Nat.ne_of_gt h9.2.2.2 | exact Nat.ne_of_gt h9.2.2.2.2.1 | exact Nat.ne_of_gt h9.2.2.2.2 | exact Nat.ne_of_gt h9.2.2.2.2.2.1 | exact Nat.ne_of_gt h9.2.2.2.2.2)) | ((rename (_ < _ ∧ _) => h9); clear h9; (rename (_ < _ ∧ _) => h9); (first | exact Nat.ne_of_lt h9.1 | exact Nat.ne_of_lt h9.2.1 | exact Nat.ne_of_lt h9.2 | exact Nat.ne_of_lt h9.2.2.1 | exact Nat.ne_of_lt h9.2.2 | exact Nat.ne_of_lt h9.2.2.2.1 | exact Nat.ne_of_lt h9.2.2.2 | exact Nat.ne_of_lt h9.2.2.2.2.1 | exact Nat.ne_of_lt h9.2.2.2.2 | exact Nat.ne_of_lt h9.2.2.2.2.2.1 | exact Nat.ne_of_lt h9.2.2.2.2.2 | exact Nat.ne_of_gt h9.1 | exact Nat.ne_of_gt h9.2.1 | exact Nat.ne_of_gt h9.2 | exact Nat.ne_of_gt h9.2.2.1 | exact Nat.ne_of_gt h9.2.2 | exact Nat.ne_of_gt h9.2.2.2.1 | exact Nat.ne_of_gt h9.2.2.2 | exact Nat.ne_of_gt h9.2.2.2.2.1 | exact Nat.ne_of_gt h9.2.2.2.2 | exact Nat.ne_of_gt h9.2.2.2.2.2.1 | exact Nat.ne_of_gt h9.2.2.2.2.2)) | ((rename (_ < _ ∧ _) => h9); clear h9; (rename (_ < _ ∧ _) => h9); clear h9; (rename (_ < _ ∧ _) => h9); (first | exact Nat.ne_of_lt h9.1 | exact Nat.ne_of_lt h9.2.1 | exact Nat.ne_of_lt h9.2 | exact Nat.ne_of_lt h9.2.2.1 | exact Nat.ne_of_lt h9.2.2 | exact Nat.ne_of_lt h9.2.2.2.1 | exact Nat.ne_of_lt h9.2.2.2 | exact Nat.ne_of_lt h9.2.2.2.2.1 | exact Nat.ne_of_lt h9.2.2.2.2 | exact Nat.ne_of_lt h9.2.2.2.2.2.1 | exact Nat.ne_of_lt h9.2.2.2.2.2 | exact Nat.ne_of_gt h9.1 | exact Nat.ne_of_gt h9.2.1 | exact Nat.ne_of_gt h9.2 | exact Nat.ne_of_gt h9.2.2.1 | exact Nat.ne_of_gt h9.2.2 | exact Nat.ne_of_gt h9.2.2.2.1 | exact Nat.ne_of_gt h9.2.2.2 | exact Nat.ne_of_gt h9.2.2.2.2.1 | exact Nat.ne_of_gt h9.2.2.2.2 | exact Nat.ne_of_gt h9.2.2.2.2.2.1 | exact Nat.ne_of_gt h9.2.2.2.2.2)) | ((rename (_ < _ ∧ _) => h9); clear h9; (rename (_ < _ ∧ _) => h9); clear h9; (rename (_ < _ ∧ _) => h9); clear h9; (rename (_ < _ ∧ _) => h9); (first | exact Nat.ne_of_lt h9.1 | exact Nat.ne_of_lt h9.2.1 | exact Nat.ne_of_lt h9.2 | exact Nat.ne_of_lt h9.2.2.1 | exact Nat.ne_of_lt h9.2.2 | exact Nat.ne_of_lt h9.2.2.2.1 | exact Nat.ne_of_lt h9.2.2.2 | exact Nat.ne_of_lt h9.2.2.2.2.1 | exact Nat.ne_of_lt h9.2.2.2.2 | exact Nat.ne_of_lt h9.2.2.2.2.2.1 | exact Nat.ne_of_lt h9.2.2.2.2.2 | exact Nat.ne_of_gt h9.1 | exact Nat.ne_of_gt h9.2.1 | exact Nat.ne_of_gt h9.2 | exact Nat.ne_of_gt h9.2.2.1 | exact Nat.ne_of_gt h9.2.2 | exact Nat.ne_of_gt h9.2.2.2.1 | exact Nat.ne_of_gt h9.2.2.2 | exact Nat.ne_of_gt h9.2.2.2.2.1 | exact Nat.ne_of_gt h9.2.2.2.2 | exact Nat.ne_of_gt h9.2.2.2.2.2.1 | exact Nat.ne_of_gt h9.2.2.2.2.2))) | ((repeat ((rename (_ ≠ _ ∧ _) => h9); clear h9)); (repeat ((rename ((_ ∧ _) ∧ _) => h9); clear h9)); (repeat ((rename (_ ≠ _) => h9); clear h9)); omega) | omega)
  k_with "call ref" => (k_here; refine wpAny_call ?_; k_dflt ((have kf9 : ScopeKind.function = ScopeKind.function := rfl); ktr_enter; (rename_i g' L' h' FG' F' N' B' X' T'); (try (have hl9' := stays_list (Fr.keep FG') (by with_reducible assumption)))))
  k_with "enter base" => (refine' code_base ⟨?b, ?f, ?x, ?t, ?fs, ?fo, ?fk⟩ ⟨?o, ?cd, ?c1, ?c2, ?c3⟩ ?rm ?bi ?lo ?ce ?_; (case fs => exact rfl); (case fo => exact rfl); (case fk => assumption); (case b => k_asm); (case f => k_asm); (case x => k_asm); (case t => k_asm); (case o => k_is); (case cd => k_is); (case rm => ktr_room); (case bi => exact BindsTo.of_eq rfl); (case ce => decide); (case lo => exact locs rfl); (case c1 => exact rfl); (case c2 => exact rfl); (case c3 => exact rfl); k_whole; intro L' h' F' N' B' X' T'; dsimp only [Runs]; (try k_fold))
  k_with "InvEndN" => (k_dflt kst_close)
  k_with "call builtin:len" => (k_here; k_dflt (refine' PyProof.Rows.len_tuple ?k1 ?k2 ?_; (case k1 => exact stays_tup (Fr.keep (by with_reducible assumption)) (by with_reducible assumption)); (case k2 => (have hj9 := IntsAre.length (by assumption); simp only [List.size_toArray]; omega)); k_whole))
  k_with "pyIter ref" => (k_dflt (k_state (fun pre found => found.length ≤ pre.length ∧ found = setI ns first ms pre) "found"))
  k_with "state" => first | exact ⟨Nat.le_refl 0, rfl⟩ | exact set_keep (by assumption) (by assumption) (if_pos (by assumption)) (by assumption) | exact set_keep (by assumption) (by assumption) (if_neg (by assumption)) (by assumption) | exact set_add (by assumption) (by assumption) (if_pos (by assumption)) (by assumption) | exact set_add (by assumption) (by assumption) (if_neg (by assumption)) (by assumption)
  refine wpAny_call ?_
  k_dflt (k_extra "enter base")
  k_steps
  (try dsimp only); (try k_unfold); (try dsimp only)
  rename Fr _ _ _ _ => F9
  rename News _ _ _ _ => N9
  have n9 := N9 _ (List.Mem.head _)
  refine h _ _ _ _ _ F9.keep n9.2.2 n9.1 ?_
  have e9 : rangeKs 0 (((ms.length : Nat) : Int) - 0).toNat = (List.range ms.length).map fun (i : Nat) => (i : Int) := by
    rw [show (((ms.length : Nat) : Int) - 0).toNat = ms.length by omega]
    unfold rangeKs
    exact List.map_congr_left fun i _ => Int.zero_add _
  rw [← e9]
  rename IntsAre _ _ => i9
  (rename _ = setI _ _ _ _ => e8)
  rw [← e8]
  exact i9
end Mine
namespace Mine
open PySem.Calls

theorem bits_cut (ns : List Int) : (List.take (min 14 ns.length - 12) (List.drop 12 ns)).map (fun k => k.fmod 4) = [] ∨ (∃ x : Int, 0 ≤ x ∧ x < 4 ∧ (List.take (min 14 ns.length - 12) (List.drop 12 ns)).map (fun k => k.fmod 4) = [x]) ∨
    ∃ x y : Int, 0 ≤ x ∧ x < 4 ∧ 0 ≤ y ∧ y < 4 ∧ (List.take (min 14 ns.length - 12) (List.drop 12 ns)).map (fun k => k.fmod 4) = [x, y] := by
  have hl : (List.take (min 14 ns.length - 12) (List.drop 12 ns)).length ≤ 2 := by rw [List.length_take]; omega
  have m0 : ∀ x : Int, 0 ≤ x.fmod 4 := fun x => Int.fmod_nonneg_of_pos _ (by decide)
  have m4 : ∀ x : Int, x.fmod 4 < 4 := fun x => Int.fmod_lt_of_pos _ (by decide)
  cases h : List.take (min 14 ns.length - 12) (List.drop 12 ns) with
  | nil => exact .inl rfl
  | cons x r =>
    rw [h] at hl
    cases r with
    | nil => exact .inr (.inl ⟨_, m0 x, m4 x, rfl⟩)
    | cons y r =>
      cases r with
      | nil => exact .inr (.inr ⟨_, _, m0 x, m4 x, m0 y, m4 y, rfl⟩)
      | cons z r => simp at hl
def BitI (b : Int) : Prop := b = 1 ∨ b = 2 ∨ b = 4 ∨ b = 8
theorem item_bits {prog : Program} {w : World} {A : Around} {E : Value → Shared → Prop} {s : Shared} {h₀ : Heap} {L D : Addr} {news : List (Addr × Obj)} {value slice : PySem.Expr} {t1 t2 t3 t4 u : Tok} {n : Nat} {v : Int} {Q : Value → Shared → Prop}
    (N : News h₀ L s.heap news) (hm : (D, ({ cls := .type "tuple", data := .seq #[.int 1 t1, .int 2 t2, .int 4 t3, .int 8 t4] n } : Obj)) ∈ news) (h0 : 0 ≤ v) (h4 : v < 4)
    (h : ∀ b tk, BitI b → Q (.int b tk) s)
    (hs : SubPlain slice (.ref D) (.int v u) := by with_unfolding_all rfl) :
    wpAny (model prog w) A (subscriptTail value slice (.ref D) (.int v u)) Q E s := by
  have ht : IsTup s.heap D #[.int 1 t1, .int 2 t2, .int 4 t3, .int 8 t4] := ⟨_, (N _ hm).1, rfl, n, rfl⟩
  have hv : v = 0 ∨ v = 1 ∨ v = 2 ∨ v = 3 := by omega
  rcases hv with rfl | rfl | rfl | rfl
  · exact tail_any ht.typeIs PyProof.Rows.slot_tuple_getitem.lookup (getItem_tuple (j := 0) ht (by decide) (by decide) rfl rfl (h _ _ (.inl rfl))) hs
  · exact tail_any ht.typeIs PyProof.Rows.slot_tuple_getitem.lookup (getItem_tuple (j := 1) ht (by decide) (by decide) rfl rfl (h _ _ (.inr (.inl rfl)))) hs
  · exact tail_any ht.typeIs PyProof.Rows.slot_tuple_getitem.lookup (getItem_tuple (j := 2) ht (by decide) (by decide) rfl rfl (h _ _ (.inr (.inr (.inl rfl))))) hs
  · exact tail_any ht.typeIs PyProof.Rows.slot_tuple_getitem.lookup (getItem_tuple (j := 3) ht (by decide) (by decide) rfl rfl (h _ _ (.inr (.inr (.inr rfl))))) hs
theorem C_bits {w : World} {dp un : Nat} {gd : Option (List Code)} {cn : Str} {cs : Scope} {ac : Addr} {ccd : Value} {cl : List (Str × Addr)} {outer : List Env} {A₀ : Around} {base h₀ : Heap} {L : Addr} {m mg mb : Str → Option Value} {s : Shared} {Q E : Value → Shared → Prop}
    {p : Program} {loose : List Str} {mean : ExcName → Option Value} {a : Addr} {vs : List Value} {ns : List Int}
    (B : Below A₀ base outer h₀) (F : Fr h₀ L s.heap m) (X : (Mine.base.heap_1 w.params).In h₀) (T : Top p loose mean mg mb h₀) (hk : cs.kind = .function) (hd : dp + 3 < recursionLimit) (hu : un + 24 < cLine)
    (hl : s.heap.IsList a vs.toArray) (hi : IntsAre vs ns) (hn : ns.length ≤ 100)
    (h : ∀ D b0 b1 t0 t1 n h' tk', (∀ b o, s.heap.get? b = some o → h'.get? b = some o) → s.heap.get? D = none → h'.get? D = some (listOf #[.int b0 t0, .int b1 t1] n) → BitI b0 → BitI b1 → Q (.ref D) { s with heap := h', toks := tk' }) :
    wpAny (model PySem.Challenge.rw_wk0021_01.row.prog w) (ktrTop dp un gd cn cs L ac ccd cl outer) (call (.ref 341) [.ref a]) Q E s := by
  revert B F X
  k_fill
  intro B F X
  k_with_none
  k_with "ne" => (refine neN ?_; (try dsimp only); first | (with_reducible first | assumption | exact Ne.symm (by assumption) | exact Nat.ne_of_lt (by assumption) | exact Nat.ne_of_gt (by assumption) | ((rename (_ ≠ _ ∧ _) => h9); (first | exact h9.1 | exact h9.2.1 | exact h9.2 | exact h9.2.2.1 | exact h9.2.2 | exact h9.2.2.2.1 | exact h9.2.2.2 | exact h9.2.2.2.2.1 | exact h9.2.2.2.2 | exact h9.2.2.2.2.2.1 | exact h9.2.2.2.2.2 | exact Ne.symm h9.1 | exact Ne.symm h9.2.1 | exact Ne.symm h9.2 | exact Ne.symm h9.2.2.1 | exact Ne.symm h9.2.2 | exact Ne.symm h9.2.2.2.1 | exact Ne.symm h9.2.2.2 | exact Ne.symm h9.2.2.2.2.1 | exact Ne.symm h9.2.2.2.2 | exact Ne.symm h9.2.2.2.2.2.1 | exact Ne.symm h9.2.2.2.2.2)) | ((rename (_ ≠ _ ∧ _) => h9); clear h9; (rename (_ ≠ _ ∧ _) => h9); (first | exact h9.1 | exact h9.2.1 | exact h9.2 | exact h9.2.2.1 | exact h9.2.2 | exact h9.2.2.2.1 | exact h9.2.2.2 | exact h9.2.2.2.2.1 | exact h9.2.2.2.2 | exact h9.2.2.2.2.2.1 | exact h9.2.2.2.2.2 | exact Ne.symm h9.1 | exact Ne.symm h9.2.1 | exact Ne.symm h9.2 | exact Ne.symm h9.2.2.1 | exact Ne.symm h9.2.2 | exact Ne.symm h9.2.2.2.1 | exact Ne.symm h9.2.2.2 | exact Ne.symm h9.2.2.2.2.1 | exact Ne.symm h9.2.2.2.2 | exact Ne.symm h9.2.2.2.2.2.1 | exact Ne.symm h9.2.2.2.2.2)) | ((rename (_ ≠ _ ∧ _) => h9); clear h9; (rename (_ ≠ _ ∧ _) => h9); clear h9; (rename (_ ≠ _ ∧ _) => h9); (first | exact h9.1 | exact h9.2.1 | exact h9.2 | exact h9.2.2.1 | exact h9.2.2 | exact h9.2.2.2.1 | exact h9.2.2.2 | exact h9.2.2.2.2.1 | exact h9.2.2.2.2 | exact h9.2.2.2.2.2.1 | exact h9.2.2.2.2.2 | exact Ne.symm h9.1 | exact Ne.symm h9.2.1 | exact Ne.symm h9.2 | exact Ne.symm h9.2.2.1 | exact Ne.symm h9.2.2 | exact Ne.symm h9.2.2.2.1 | exact Ne.symm h9.2.2.2 | exact Ne.symm h9.2.2.2.2.1 | exact Ne.symm h9.2.2.2.2 | exact Ne.symm h9.2.2.2.2.2.1 | exact Ne.symm h9.2.2.2.2.2)) | ((rename ((_ ∧ _) ∧ _) => h9); (first | exact h9.1.1 | exact h9.1 | exact h9.1.2.1 | exact h9.2.1 | exact h9.1.2.2 | exact h9.2.2 | exact h9.2.1.1 | exact h9.2.1 | exact h9.2.1.2.1 | exact h9.2.2.1 | exact h9.2.1.2.2 | exact h9.2.2.2 | exact h9.2.2.1.1 | exact h9.2.2.1 | exact h9.2.2.1.2.1 | exact h9.2.2.2.1 | exact h9.2.2.1.2.2 | exact h9.2.2.2.2 | exact h9.2.2.2.1.1 | exact h9.2.2.2.1 | exact h9.2.2.2.1.2.1 | exact h9.2.2.2.2.1 | exact h9.2.2.2.1.2.2 | exact h9.2.2.2.2.2 | exact h9.2.2.2.2.1.1 | exact h9.2.2.2.2.1 | exact h9.2.2.2.2.1.2.1 | exact h9.2.2.2.2.2.1 | exact h9.2.2.2.2.1.2.2 | exact h9.2.2.2.2.2.2 | exact h9.2.2.2.2.2.1.1 | exact h9.2.2.2.2.2.1 | exact h9.2.2.2.2.2.1.2.1 | exact h9.2.2.2.2.2.2.1 | exact h9.2.2.2.2.2.1.2.2 | exact h9.2.2.2.2.2.2.2 | exact h9.2.2.2.2.2.2.1.1 | exact h9.2.2.2.2.2.2.1 | exact h9.2.2.2.2.2.2.1.2.1 | exact h9.2.2.2.2.2.2.2.1 | exact h9.2.2.2.2.2.2.1.2.2 | exact h9.2.2.2.2.2.2.2.2 | exact h9.2.2.2.2.2.2.2.1.1 | exact h9.2.2.2.2.2.2.2.1 | exact h9.2.2.2.2.2.2.2.1.2.1 | exact h9.2.2.2.2.2.2.2.2.1 | exact h9.2.2.2.2.2.2.2.1.2.2 | exact h9.2.2.2.2.2.2.2.2.2 | exact h9.2.2.2.2.2.2.2.2.1.1 | exact h9.2.2.2.2.2.2.2.2.1 | exact h9.2.2.2.2.2.2.2.2.1.2.1 | exact h9.2.2.2.2.2.2.2.2.2.1 | exact h9.2.2.2.2.2.2.2.2.1.2.2 | exact h9.2.2.2.2.2.2.2.2.2.2 | exact Ne.symm h9.1.1 | exact Ne.symm h9.1 | exact Ne.symm h9.1.2.1 | exact Ne.symm h9.2.1 | exact Ne.symm h9.1.2.2 | exact Ne.symm h9.2.2 | exact Ne.symm h9.2.1.1 | exact Ne.symm h9.2.1 | exact Ne.symm h9.2.1.2.1 | exact Ne.symm h9.2.2.1 | exact Ne.symm h9.2.1.2.2 | exact Ne.symm h9.2.2.2 | exact Ne.symm h9.2.2.1.1 | exact Ne.symm h9.2.2.1 | exact Ne.symm h9.2.2.1.2.1 | exact Ne.symm h9.2.2.2.1 | exact Ne.symm h9.2.2.1.2.2 | exact Ne.symm h9.2.2.2.2 | exact Ne.symm h9.2.2.2.1.1 | exact Ne.symm h9.2.2.2.1 | exact Ne.symm h9.2.2.2.1.2.1 | exact Ne.symm h9.2.2.2.2.1 | exact Ne.symm h9.2.2.2.1.2.2 | exact Ne.symm h9.2.2.2.2.2 | exact Ne.symm h9.2.2.2.2.1.1 | exact Ne.symm h9.2.2.2.2.1 | exact Ne.symm h9.2.2.2.2.1.2.1 | exact Ne.symm h9.2.2.2.2.2.1 | exact Ne.symm h9.2.2.2.2.1.2.2 | exact Ne.symm h9.2.2.2.2.2.2 | exact Ne.symm h9.2.2.2.2.2.1.1 | exact Ne.symm h9.2.2.2.2.2.1 | exact Ne.symm h9.2.2.2.2.2.1.2.1 | exact Ne.symm h9.2.2.2.2.2.2.1 | exact Ne.symm h9.2.2.2.2.2.1.2.2 | exact Ne.symm h9.2.2.2.2.2.2.2 | exact Ne.symm h9.2.2.2.2.2.2.1.1 | exact Ne.symm h9.2.2.2.2.2.2.1 | exact Ne.symm h9.2.2.2.2.2.2.1.2.1 | exact Ne.symm h9.2.2.2.2.2.2.2.1 | exact Ne.symm h9.2.2.2.2.2.2.1.2.2 | exact Ne.symm h9.2.2.2.2.2.2.2.2 | exact Ne.symm h9.2.2.2.2.2.2.2.1.1 | exact Ne.symm h9.2.2.2.2.2.2.2.1 | exact Ne.symm h9.2.2.2.2.2.2.2.1.2.1 | exact Ne.symm h9.2.2.2.2.2.2.2.2.1 | exact Ne.symm h9.2.2.2.2.2.2.2.1.2.2 | exact Ne.symm h9.2.2.2.2.2.2.2.2.2 | exact Ne.symm h9.2.2.2.2.2.2.2.2.1.1 | exact Ne.symm h9.2.2.2.2.2.2.2.2.1 | exact Ne.symm h9.2.2.2.2.2.2.2.2.1.2.1 | exact Ne.symm h9.2.2.2.2.2.2.2.2.2.1 | exact Ne.symm h9.2.2.2.2.2.2.2.2.1.2.2 | exact Ne.symm h9.2.2.2.2.2.2.2.2.2.2)) | ((rename ((_ ∧ _) ∧ _) => h9); clear h9; (rename ((_ ∧ _) ∧ _) => h9); (first | exact h9.1.1 | exact h9.1 | exact h9.1.2.1 | exact h9.2.1 | exact h9.1.2.2 | exact h9.2.2 | exact h9.2.1.1 | exact h9.2.1 | exact h9.2.1.2.1 | exact h9.2.2.1 | exact h9.2.1.2.2 | exact h9.2.2.2 | exact h9.2.2.1.1 | exact h9.2.2.1 | exact h9.2.2.1.2.1 | exact h9.2.2.2.1 | exact h9.2.2.1.2.2 | exact h9.2.2.2.2 | exact h9.2.2.2.1.1 | exact h9.2.2.2.1 | exact h9.2.2.2.1.2.1 | exact h9.2.2.2.2.1 | exact h9.2.2.2.1.2.2 | exact h9.2.2.2.2.2 | exact h9.2.2.2.2.1.1 | exact h9.2.2.2.2.1 | exact h9.2.2.2.2.1.2.1 | exact h9.2.2.2.2.2.1 | exact h9.2.2.2.2.1.2.2 | exact h9.2.2.2.2.2.2 | exact h9.2.2.2.2.2.1.1 | exact h9.2.2.2.2.2.1 | exact h9.2.2.2.2.2.1.2.1 | exact h9.2.2.2.2.2.2.1 | exact h9.2.2.2.2.2.1.2.2 | exact h9.2.2.2.2.2.2.2 | exact h9.2.2.2.2.2.2.1.1 | exact h9.2.2.2.2.2.2.1 | exact h9.2.2.2.2.2.2.1.2.1 | exact h9.2.2.2.2.2.2.2.1 | exact h9.2.2.2.2.2.2.1.2.2 | exact h9.2.2.2.2.2.2.2.2 | exact h9.2.2.2.2.2.2.2.1.1 | exact h9.2.2.2.2.2.2.2.1 | exact h9.2.2.2.2.2.2.2.1.2.1 | exact h9.2.2.2.2.2.2.2.2.1 | exact h9.2.2.2.2.2.2.2.1.2.2 | exact h9.2.2.2.2.2.2.2.2.2 | exact h9.2.2.2.2.2.2.2.2.1.1 | exact h9.2.2.2.2.2.2.2.2.1 | exact h9.2.2.2.2.2.2.2.2.1.2.1 | exact h9.2.2.2.2.2.2.2.2.2.1 | exact h9.2.2.2.2.2.2.2.2.1.2.2 | exact h9.2.2.2.2.2.2.2.2.2.2 | exact Ne.symm h9.1.1 | exact Ne.symm h9.1 | exact Ne.symm h9.1.2.1 | exact Ne.symm h9.2.1 | exact Ne.symm h9.1.2.2 | exact Ne.symm h9.2.2 | exact Ne.symm h9.2.1.1 | exact Ne.symm h9.2.1 | exact Ne.symm h9.2.1.2.1 | exact Ne.symm h9.2.2.1 | exact Ne.symm h9.2.1.2.2 | exact Ne.symm h9.2.2.2 | exact Ne.symm h9.2.2.1.1 | exact Ne.symm h9.2.2.1 | exact Ne.symm h9.2.2.1.2.1 | exact Ne.symm h9.2.2.2.1 | exact Ne.symm h9.2.2.1.2.2 | exact Ne.symm h9.2.2.2.2 | exact Ne.symm h9.2.2.2.1.1 | exact Ne.symm h9.2.2.2.1 | exact Ne.symm h9.2.2.2.1.2.1 | exact Ne.symm h9.2.2.2.2.1 | exact Ne.symm h9.2.2.2.1.2.2 | exact Ne.symm h9.2.2.2.2.2 | exact Ne.symm h9.2.2.2.2.1.1 | exact Ne.symm h9.2.2.2.2.1 | exact Ne.symm h9.2.2.2.2.1.2.1 | exact Ne.symm h9.2.2.2.2.2.1 | exact Ne.symm h9.2.2.2.2.1.2.2 | exact Ne.symm h9.2.2.2.2.2.2 | exact Ne.symm h9.2.2.2.2.2.1.1 | exact Ne.symm h9.2.2.2.2.2.1 | exact Ne.symm h9.2.2.2.2.2.1.2.1 | exact Ne.symm h9.2.2.2.2.2.2.1 | exact Ne.symm h9.2.2.2.2.2.1.2.2 | exact Ne.symm h9.2.2.2.2.2.2.2 | exact Ne.symm h9.2.2.2.2.2.2.1.1 | exact Ne.symm h9.2.2.2.2.2.2.1 | exact Ne.symm h9.2.2.2.2.2.2.1.2.1 | exact Ne.symm h9.2.2.2.2.2.2.2.1 | exact Ne.symm h9.2.2.2.2.2.2.1.2.2 | exact Ne.symm h9.2.2.2.2.2.2.2.2 | exact Ne.symm h9.2.2.2.2.2.2.2.1.1 | exact Ne.symm h9.2.2.2.2.2.2.2.1 | exact Ne.symm h9.2.2.2.2.2.2.2.1.2.1 | exact Ne.symm h9.2.2.2.2.2.2.2.2.1 | exact Ne.symm h9.2.2.2.2.2.2.2.1.2.2 | exact Ne.symm h9.2.2.2.2.2.2.2.2.2 | exact Ne.symm h9.2.2.2.2.2.2.2.2.1.1 | exact Ne.symm h9.2.2.2.2.2.2.2.2.1 | exact Ne.symm h9.2.2.2.2.2.2.2.2.1.2.1 | exact Ne.symm h9.2.2.2.2.2.2.2.2.2.1 | exact Ne.symm h9.2.2.2.2.2.2.2.2.1.2.2 | exact Ne.symm h9.2.2.2.2.2.2.2.2.2.2)) | ((rename (_ < _ ∧ _) => h9); (first | exact Nat.ne_of_lt h9.1 | exact Nat.ne_of_lt h9.2.1 | exact Nat.ne_of_lt h9.2 | exact Nat.ne_of_lt h9.2.2.1 | exact Nat.ne_of_lt h9.2.2 | exact Nat.ne_of_lt h9.2.2.2.1 | exact Nat.ne_of_lt h9.2.2.2 | exact Nat.ne_of_lt h9.2.2.2.2.1 | exact Nat.ne_of_lt h9.2.2.2.2 | exact Nat.ne_of_lt h9.2.2.2.2.2.1 | exact Nat.ne_of_lt h9.2.2.2.2.2 | exact Nat.ne_of_gt h9.1 | exact Nat.ne_of_gt h9.2.1 | exact Nat.ne_of_gt h9.2 | exact Nat.ne_of_gt h9.2.2.1 | exact Nat.ne_of_gt h9.2.2 | exact Nat.ne_of_gt h9.2.2.2.1 | exact Nat.ne_of_gt h9.2.2.2 | exact Nat.ne_of_gt h9.2.2.2.2.1 | exact Nat.ne_of_gt h9.2.2.2.2 | exact Nat.ne_of_gt h9.2.2.2.2.2.1 | exact Nat.ne_of_gt h9.2.2.2.2.2)) | ((rename (_ < _ ∧ _) => h9); clear h9; (rename (_ < _ ∧ _) => h9); (first | exact Nat.ne_of_lt h9.1 | exact Nat.ne_of_lt h9.2.1 | exact Nat.ne_of_lt h9.2 | exact Nat.ne_of_lt h9.2.2.1 | exact Nat.ne_of_lt h9.2.2 | exact Nat.ne_of_lt h9.2.2.2.1 | exact Nat.ne_of_lt h9.2.2.2 | exact Nat.ne_of_lt h9.2.2.2.2.1 | exact Nat.ne_of_lt h9.2.2.2.2 | exact Nat.ne_of_lt h9.2.2.2.2.2.1 | exact Nat.ne_of_lt h9.2.2.2.2.2 | exact Nat.ne_of_gt h9.1 | exact Nat.ne_of_gt h9.2.1 | exact Nat.ne_of_gt h9.2 | exact Nat.ne_of_gt h9.2.2.1 | exact Nat.ne_of_gt h9.2.2 | exact Nat.ne_of_gt h9.2.2.2.1 | exact Nat.ne_of_gt h9.2.2.2 | exact Nat.ne_of_gt h9.2.2.2.2.1 | exact Nat.ne_of_gt h9.2.2.2.2 | exact Nat.ne_of_gt h9.2.2.2.2.2.1 | exact Nat.ne_of_gt h9.2.2.2.2.2)) | ((rename (_ < _ ∧ _) => h9); clear h9; (rename (_ < _ ∧ _) => h9); clear h9; (rename (_ < _ ∧ _) => h9); (first | exact Nat.ne_of_lt h9.1 | exact Nat.ne_of_lt h9.2.1 | exact Nat.ne_of_lt h9.2 | exact Nat.ne_of_lt h9.2.2.1 | exact Nat.ne_of_lt h9.2.2 | exact Nat.ne_of_lt h9.2.2.2.1 | exact Nat.ne_of_lt h9.2.2.2 | exact Nat.ne_of_lt h9.2.2.2.2.1 | exact Nat.ne_of_lt h9.2.2.2.2 | exact Nat.ne_of_lt h9.2.2.2.2.2.1 | exact Nat.ne_of_lt h9.2.2.2.2.2 | exact Nat.ne_of_gt h9.1 | exact Nat.ne_of_gt h9.2.1 | exact Nat.ne_of_gt h9.2 | exact Nat.ne_of_gt h9.2.2.1 | exact Nat.ne_of_gt h9.2.2 | exact Nat.ne_of_gt h9.2.2.2.1 | exact Nat.ne_of_gt h9.2.2.2 | exact Nat.ne_of_gt h9.2.2.2.2.1 | exact Nat.ne_of_gt h9.2.2.2.2 | exact Nat.ne_of_gt h9.2.2.2.2.2.1 | exact Nat.ne_of_gt h9.2.2.2.2.2)) | ((rename (_ < _ ∧ _) => h9); clear h9; (rename (_ < _ ∧ _) => h9); clear h9; (rename (_ < _ ∧ _) => h9); clear h9; (rename (_ < _ ∧ _) => h9); (first | exact Nat.ne_of_lt h9.1 | exact Nat.ne_of_lt h9.2.1 | exact Nat.ne_of_lt h9.2 | exact Nat.ne_of_lt h9.2.2.1 | exact Nat.ne_of_lt h9.2.2 | exact Nat.ne_of_lt h9.2.2.2.1 | exact Nat.ne_of_lt h9.2.2.2 | exact Nat.ne_of_lt h9.2.2.2.2.1 | exact Nat.ne_of_lt h9.2.2.2.2 | exact Nat.ne_of_lt h9.2.2.2.2.2.1 | exact Nat.ne_of_lt h9.2.2.2.2.2 | exact Nat.ne_of_gt h9.1 | exact Nat.ne_of_gt h9.2.1 | exact Nat.ne_of_gt h9.2 | exact Nat.ne_of_gt h9.2.2.1 | exact Nat.ne_of_gt h9.2.2 | exact Nat.ne_of_gt h9.2.2.2.1 | exact Nat.ne_of_gt h9.2.2.2 | exact Nat.ne_of_gt h9.2.2.2.2.1 | exact Nat.ne_of_gt h9.2.2.2.2 | exact Nat.ne_of_gt h9.2.2.2.2.2.1 | exact Nat.ne_of_gt h9.2.2.2.2.2))) | ((repeat ((rename (_ ≠ _ ∧ _) => h9); clear h9)); (repeat ((rename ((_ ∧ _) ∧ _) => h9); clear h9)); (repeat ((rename (_ ≠ _) => h9); clear h9)); omega) | omega)
  k_with "call ref" => (k_here; refine wpAny_call ?_; k_dflt ((have kf9 : ScopeKind.function = ScopeKind.function := rfl); ktr_enter; (rename_i g' L' h' FG' F' N' B' X' T'); (try (have hl9' := stays_list (Fr.keep FG') (by with_reducible assumption)))))
  k_with "enter base" => (refine' code_base ⟨?b, ?f, ?x, ?t, ?fs, ?fo, ?fk⟩ ⟨?o, ?cd, ?c1, ?c2, ?c3⟩ ?rm ?bi ?lo ?ce ?_; (case fs => exact rfl); (case fo => exact rfl); (case fk => assumption); (case b => k_asm); (case f => k_asm); (case x => k_asm); (case t => k_asm); (case o => k_is); (case cd => k_is); (case rm => ktr_room); (case bi => exact BindsTo.of_eq rfl); (case ce => decide); (case lo => exact locs rfl); (case c1 => exact rfl); (case c2 => exact rfl); (case c3 => exact rfl); k_whole; intro L' h' F' N' B' X' T'; dsimp only [Runs]; (try k_fold))
  k_with "subscriptTail" => (k_here; (with_reducible show wpAny _ _ (subscriptTail (PySem.Expr.Tuple _ _ _) _ _ (Value.int _ _)) _ _ _); k_dflt (refine' item_bits ?k1 ?k2 ?k3 ?k4 ?_ ?k6; (case k1 => k_asm); (case k2 => k_mem); (case k3 => first | decide | assumption); (case k4 => first | decide | assumption); (case k6 => with_unfolding_all rfl); k_whole); intro b' tk' hb')
  refine wpAny_call ?_
  k_dflt (k_extra "enter base")
  iterate 14 (first | (k_unfold; (try dsimp only)) | (k_end; wrow_close) | walk1 | (dsimp only; walk1) | (leave1; try dsimp only))
  rename IntsAre _ (List.map _ _) => hI8
  rcases bits_cut ns with e | ⟨x, x0, x4, e⟩ | ⟨x, y, x0, x4, y0, y4, e⟩
  · rw [e] at hI8
    cases hI8
    k_steps
    all_goals (
      rename Fr _ _ _ _ => F9
      rename News _ _ _ _ => N9
      have n9 := N9 _ (List.Mem.head _)
      exact h _ _ _ _ _ _ _ _ F9.keep n9.2.2 n9.1 (by assumption) (by assumption))
  · rw [e] at hI8
    cases hI8
    rename IntsAre _ [] => hI8
    cases hI8
    k_steps
    all_goals (
      rename Fr _ _ _ _ => F9
      rename News _ _ _ _ => N9
      have n9 := N9 _ (List.Mem.head _)
      exact h _ _ _ _ _ _ _ _ F9.keep n9.2.2 n9.1 (by assumption) (by assumption))
  · rw [e] at hI8
    cases hI8
    rename IntsAre _ [_] => hI8
    cases hI8
    rename IntsAre _ [] => hI8
    cases hI8
    k_steps
    all_goals (
      rename Fr _ _ _ _ => F9
      rename News _ _ _ _ => N9
      have n9 := N9 _ (List.Mem.head _)
      exact h _ _ _ _ _ _ _ _ F9.keep n9.2.2 n9.1 (by assumption) (by assumption))
end Mine
namespace Mine
open PySem.Calls PyProof.Rows.LCg
section
variable {prog : Program} {w : World} {A : Around} {E : Value → Shared → Prop} {s : Shared} {h₀ : Heap} {L : Addr} {m : Str → Option Value} {env : Env}
/-- a short text of ascii signs as the source of a comprehension -/
def plainTxt (tx : Str) : Bool := decide (tx.cps.size ≤ 1000) && tx.cps.toList.all (· < 128)
def SrcS (prog : Program) (w : World) (A : Around) (h₀ : Heap) (L : Addr) (m : Str → Option Value) (env : Env) (elt : Expr) (x : Str) (scope : Scope) (cl : List (Str × Addr)) (Fin : Shared → List Value → List (Addr × Obj) → Prop) (xv : Value) (s₁ : Shared) : Prop :=
  ∃ tx t news, xv = .str tx t ∧ A.handled = none ∧ (Fr h₀ L s₁.heap m ∧ News h₀ L s₁.heap news) ∧ plainTxt tx = true ∧
    ∀ g : Heap, CompRest prog w A h₀ L m env elt x scope cl { s₁ with heap := g } (fun _ => True) (SignAt tx) (Fin { s₁ with heap := g }) tx.cps.size 0 [] news
theorem SrcS.intro {elt : Expr} {x : Str} {scope : Scope} {cl : List (Str × Addr)} {Fin : Shared → List Value → List (Addr × Obj) → Prop} {tx : Str} {t : Tok} {news : List (Addr × Obj)} {s₁ : Shared}
    (hh : A.handled = none) (F : Fr h₀ L s₁.heap m) (N : News h₀ L s₁.heap news) (hp : plainTxt tx = true)
    (h : ∀ g, CompRest prog w A h₀ L m env elt x scope cl { s₁ with heap := g } (fun _ => True) (SignAt tx) (Fin { s₁ with heap := g }) tx.cps.size 0 [] news) :
    SrcS prog w A h₀ L m env elt x scope cl Fin (.str tx t) s₁ := ⟨tx, t, news, rfl, hh, ⟨F, N⟩, hp, h⟩
theorem Assign_ListComp_S {elt iter : Expr} {x y : Str} {px py : Pos} {scope : Scope} {cl : List (Str × Addr)} {pos spos : Pos} {Q : Flow → Shared → Prop}
    (F₀ : Fr h₀ L s.heap m) (f : Fits (.ListComp elt [⟨.Name x px, iter, [], 0⟩] scope pos) env L scope cl x y py spos)
    (h : wpAny (model prog w) A (eval iter env) (SrcS prog w A h₀ L m env elt x scope cl (fun s₂ => FinA h₀ L m s₂ y Q)) E s)
    (hs : ∀ x, foldedSetIterable iter env x = pure x := by intro _; rfl) :
    wpAny (model prog w) A (exec (.Assign [.Name y py] (.ListComp elt [⟨.Name x px, iter, [], 0⟩] scope pos) spos) env) Q E s := by
  cases f.at_L
  refine comp_assign f hs (wpAny_mono h ?_ fun _ _ e => e)
  rintro _ s₁ ⟨tx, t, news, rfl, hh, ⟨F, N⟩, pt, rest⟩
  obtain ⟨sz, asc⟩ := Bool.and_eq_true_iff.mp pt
  have sz := of_decide_eq_true sz
  refine wpAny_pyIter_ascii (by rw [← Array.all_toList]; exact asc) ?_
  generalize hg : s₁.heap.push _ = g
  have up : ∀ b o, s₁.heap.get? b = some o → g.get? b = some o := fun b o e => hg ▸ Heap.get?_push_of_some _ e
  have top : g.objs.size = s₁.heap.objs.size + 1 := by rw [← hg, Heap.size_push]
  refine block_U (Walks.strAscii hh s₁.heap.objs.size tx t) (by rw [sizeLine_eq]; omega) (fun _ _ ⟨o, e, _⟩ => ⟨o, e⟩) (fun _ _ _ o _ st e e' _ _ _ => ?_) f.cells f.plain f.var ⟨_, hg ▸ Heap.get?_push_size _ rfl, rfl, rfl⟩ (fun b hb => ?_)
    (F.keeps up) (N.grown up) (Nat.ne_of_lt F.ns.lt) (next_is_new F) (fun _ hq => Nat.ne_of_lt (Heap.lt_size (N _ hq).1)) trivial (rest g) fun D C _ _ _ _ _ F' N' o1 n c0 _ cl _ cd off fin => ?_
  · obtain ⟨o₁, q, r⟩ := st
    exact ⟨o, e', (Option.some.inj (e.symm.trans q)) ▸ r⟩
  · rw [List.mem_singleton.mp hb]
    exact top ▸ Nat.lt_succ_self _
  · exact comp_store f.target f.flat F' N' o1 n cl c0 (fun p hq => by cases hq with | head => exact Ne.symm cd | tail _ hq => exact off p hq) fin
/-- the turns of a comprehension, by what holds of the list so far -/
theorem rest_run {elt : Expr} {x : Str} {scope : Scope} {cl : List (Str × Addr)} {S : List (Addr × Obj) → Prop} {P : Nat → Value → Prop} {Fin : List Value → List (Addr × Obj) → Prop} {news : List (Addr × Obj)} {n : Nat} (ok : Nat → List Value → Prop)
    (step : ∀ i ys v I oI C oC D m₂ h tk (E' : Value → Shared → Prop), ok i ys → P i v → NsObj oC m₂ → m₂ x = some v → Fr h₀ L h m → News h₀ L h ((I, oI) :: (C, oC) :: (D, lst ys) :: news) → Off3 I C D news → ((@Ne Nat I C) ∧ (@Ne Nat I D) ∧ (@Ne Nat C D)) →
      wpAny (model prog w) A (eval elt (compEnvC scope cl C env)) (CompEnd h₀ L m { s with heap := h, toks := tk } I oI C oC D (lst ys) S (fun y news' => news' = news ∧ ok (i + 1) (ys ++ [y]))) E' { s with heap := h, toks := tk })
    (fin : ∀ ys, ok n ys → Fin ys news) : ∀ k i ys, i + k = n → ok i ys → CompRest prog w A h₀ L m env elt x scope cl s S P Fin k i ys news
  | 0, _, _, e, q => .zero (fin _ (e ▸ q))
  | k + 1, i, _, e, q => .succ fun _ _ _ _ _ _ _ _ _ E' hv hC hx F N o ne => wpAny_mono (step i _ _ _ _ _ _ _ _ _ _ E' q hv hC hx F N o ne)
      (fun _ _ ⟨h', tk', _, e₁, F', N', o', hS, en, q'⟩ => ⟨h', tk', news, e₁, F', en ▸ N', en ▸ o', en ▸ hS, rest_run ok step fin k (i + 1) _ (by omega) q'⟩) fun _ _ e => e
theorem sct_rest {tx : Str} {elt : Expr} {x : Str} {scope : Scope} {cl : List (Str × Addr)} {Fin : List Value → List (Addr × Obj) → Prop} {news : List (Addr × Obj)} {S : List (Addr × Obj) → Prop} (g : Nat → PySem.Str)
    (turn : ∀ c t I oI C oC D m₂ ys h tk (E' : Value → Shared → Prop), NsObj oC m₂ → m₂ x = some (.str ⟨#[c]⟩ t) → Fr h₀ L h m → News h₀ L h ((I, oI) :: (C, oC) :: (D, lst ys) :: news) → Off3 I C D news → ((@Ne Nat I C) ∧ (@Ne Nat I D) ∧ (@Ne Nat C D)) →
      wpAny (model prog w) A (eval elt (compEnvC scope cl C env)) (CompEnd h₀ L m { s with heap := h, toks := tk } I oI C oC D (lst ys) S (fun y news' => KCtEl news (g c) y news')) E' { s with heap := h, toks := tk })
    (fin : ∀ ys, StrsAre ys (tx.cps.toList.map g) → Fin ys news) : CompRest prog w A h₀ L m env elt x scope cl s S (SignAt tx) Fin tx.cps.size 0 [] news := by
  refine rest_run (fun i ys => StrsAre ys ((tx.cps.toList.take i).map g)) (fun i ys v I oI C oC D m₂ h tk E' q hv hC hx F N o ne => ?_) (fun ys q => fin ys ?_) tx.cps.size 0 [] (Nat.zero_add _) .nil
  · obtain ⟨c, t, at_i, rfl⟩ := hv
    refine wpAny_mono (turn c t I oI C oC D m₂ ys h tk E' hC hx F N o ne) (fun y _ ⟨h', tk', nw, e, F', N', o', hS, en, u, ey⟩ => ⟨h', tk', nw, e, F', N', o', hS, en, ?_⟩) fun _ _ e => e
    rw [ey, List.take_add_one, Array.getElem?_toList, at_i, Option.toList_some, List.map_append]
    exact kct_snoc q
  · rwa [← Array.length_toList, List.take_length] at q
end
end Mine
namespace Mine
open PySem.Calls
theorem bx_all : ((List.range 16).all fun a => (List.range 16).all fun b => decide (0 ≤ Builtin.bitXor (a : Int) (b : Int)) && decide (Builtin.bitXor (a : Int) (b : Int) < 16) && decide ((a : Int) + (b : Int) - 2 * Builtin.bitAnd (a : Int) (b : Int) = Builtin.bitXor (a : Int) (b : Int))) = true := by decide +kernel
theorem bx {n y : Int} (h0 : 0 ≤ n) (h1 : n < 16) (g0 : 0 ≤ y) (g1 : y < 16) : 0 ≤ Builtin.bitXor n y ∧ Builtin.bitXor n y < 16 ∧ n + y - 2 * Builtin.bitAnd n y = Builtin.bitXor n y := by
  have h := bx_all
  simp only [List.all_eq_true, List.mem_range, Bool.and_eq_true, decide_eq_true_eq] at h
  have := h n.toNat (by omega) y.toNat (by omega)
  rw [Int.toNat_of_nonneg h0, Int.toNat_of_nonneg g0] at this
  exact ⟨this.1.1, this.1.2, this.2⟩
theorem strs_set {x : Str} {u : Tok} {vs : List Value} {ns : List Str} (h : StrsAre vs ns) : ∀ j : Nat, StrsAre (vs.set j (.str x u)) (ns.set j x) := by
  induction h with
  | nil => exact fun _ => .nil
  | cons y v r ih =>
    intro j
    cases j with
    | zero => exact .cons x u r
    | succ j => exact .cons y v (ih j)
section
variable {prog : Program} {w : World} {A : Around} {E : Value → Shared → Prop} {s : Shared} {h₀ : Heap} {L D : Addr} {m : Str → Option Value} {news news' : List (Addr × Obj)} {vs : List Value} {ns : List Str} {n : Nat} {k k' : Int} {x : Str} {t u : Tok}
theorem row_set {Q : Unit → Shared → Prop} (F : Fr h₀ L s.heap m) (N : News h₀ L s.heap news) (hi : StrsAre vs ns) (hl : ns.length = 16) (e : k = k') (h0 : 0 ≤ k') (h1 : k' < 16) (U : Upd D (listOf vs.toArray n) (listOf (vs.set k'.toNat (.str x u)).toArray n) news news')
    (h : ∀ h', Fr h₀ L h' m → News h₀ L h' news' → StrsAre (vs.set k'.toNat (.str x u)) (ns.set k'.toNat x) → Q () { s with heap := h' }) :
    wpAny (model prog w) A (setItem (.ref D) (.int k t) (.str x u)) Q E s := by
  cases e
  obtain ⟨pre, post, rfl, rfl, a, b⟩ := U.split
  obtain ⟨atD, dL, d₀⟩ := N _ (List.mem_append_right pre (.head post))
  have size : vs.toArray.size = 16 := (List.size_toArray ..).trans (hi.length.trans hl)
  have same : vs.toArray.setIfInBounds k.toNat (.str x u) = (vs.set k.toNat (.str x u)).toArray := by simp
  exact ki_setAt atD h0 (by omega) (by omega) (h _ (F.change (Heap.SameBut.update ..) dL d₀) (ki_turn _ N a b same (by simp)) (strs_set hi _))
theorem row_sub {value slice : PySem.Expr} {Q : Value → Shared → Prop} (N : News h₀ L s.heap news) (hm : (D, listOf vs.toArray n) ∈ news) (hi : StrsAre vs ns) (hl : ns.length = 16) (h0 : 0 ≤ k) (h1 : k < 16) (h : ∀ t, Q (.str (ns.getD k.toNat PySem.Str.empty) t) s)
    (hs : SubPlain slice (.ref D) (.int k u) := by with_unfolding_all rfl) :
    wpAny (model prog w) A (subscriptTail value slice (.ref D) (.int k u)) Q E s :=
  KTb.item_list (PySem.IsL.isList (n := n) (N _ hm).1) hi h0 (by omega) (by omega) (fun t _ => h t) hs
theorem let_sub {value slice : PySem.Expr} {Q : Value → Shared → Prop} (e : k = k') (h0 : 0 ≤ k') (h1 : k' < 16) (h : ∀ t tk, Q (.str (sgn k'.toNat) t) { s with toks := tk })
    (hs : SubPlain slice (.str (Str.ofString "abcdefghijklmnop") t) (.int k u) := by with_unfolding_all rfl) (ht : ∀ r, letTemporaryGo value (.str (Str.ofString "abcdefghijklmnop") t) r = pure () := by intro _; with_unfolding_all rfl) :
    wpAny (model prog w) A (subscriptTail value slice (.str (Str.ofString "abcdefghijklmnop") t) (.int k u)) Q E s := by
  subst e
  have hl : (Str.ofString "abcdefghijklmnop").length = 16 := by decide +kernel
  have hj : ∀ j : Nat, j < 16 → Txt.item (Str.ofString "abcdefghijklmnop") (j : Int) = sgn j := by decide +kernel
  have h9 := hj k.toNat (by omega)
  rw [Int.toNat_of_nonneg h0] at h9
  exact KXi.item hl (by omega) (by omega) (by omega) (fun _ => by rw [h9]; exact h _ _) hs ht
theorem rowH_sub {H : Int → Bool} {value slice : PySem.Expr} {Q : Value → Shared → Prop} (N : News h₀ L s.heap news) (hm : (D, listOf vs.toArray n) ∈ news) (hi : StrsAre vs ns) (e : ns = rowsL H) (h0 : 0 ≤ k) (h1 : k < 16) (h : ∀ t, Q (.str (rowS (H k)) t) s)
    (hs : SubPlain slice (.ref D) (.int k u) := by with_unfolding_all rfl) :
    wpAny (model prog w) A (subscriptTail value slice (.ref D) (.int k u)) Q E s :=
  row_sub N hm hi (len_rows e) h0 h1 (fun t => by rw [get_row e h0 h1]; exact h t) hs
theorem end_sub {value slice : PySem.Expr} {Q : Value → Shared → Prop} {t1 t2 t3 : Tok} (N : News h₀ L s.heap news) (hm : (D, ({ cls := .type "tuple", data := .seq #[.str (Str.ofString "\n") t1, .str (Str.ofString "\r") t2, .str (Str.ofString "\r\n") t3] n } : Obj)) ∈ news) (h0 : 0 ≤ k) (h1 : k < 3) (h : ∀ t, Q (.str (endI k) t) s)
    (hs : SubPlain slice (.ref D) (.int k u) := by with_unfolding_all rfl) :
    wpAny (model prog w) A (subscriptTail value slice (.ref D) (.int k u)) Q E s := by
  have ht : IsTup s.heap D #[.str (Str.ofString "\n") t1, .str (Str.ofString "\r") t2, .str (Str.ofString "\r\n") t3] := ⟨_, (N _ hm).1, rfl, n, rfl⟩
  have hv : k = 0 ∨ k = 1 ∨ k = 2 := by omega
  rcases hv with rfl | rfl | rfl
  · exact tail_any ht.typeIs PyProof.Rows.slot_tuple_getitem.lookup (getItem_tuple (j := 0) ht (by decide) (by decide) rfl rfl (h _)) hs
  · exact tail_any ht.typeIs PyProof.Rows.slot_tuple_getitem.lookup (getItem_tuple (j := 1) ht (by decide) (by decide) rfl rfl (h _)) hs
  · exact tail_any ht.typeIs PyProof.Rows.slot_tuple_getitem.lookup (getItem_tuple (j := 2) ht (by decide) (by decide) rfl rfl (h _)) hs
end
theorem appR_row {news : List (Addr × Obj)} {b : Bool} {t t' : Tok} : AppR news [.str (rowS b) t, .str (Str.ofString "euro") t'] (Str.ofString ".ISO8859-15") := by
  cases b
  · exact .first
  · exact .more
theorem sgn_ne (j : Nat) : sgn j ++ Str.ofString "." ≠ Str.ofString "euro" := by
  intro e
  have := congrArg (fun x : Str => x.cps.size) e
  revert this
  show ¬ ((sgn j ++ Str.ofString ".").cps.size = (Str.ofString "euro").cps.size)
  rw [PySem.Str.cps_append, Array.size_append]
  show ¬ (1 + (Str.ofString ".").cps.size = _)
  decide +kernel
theorem sgn_len (j : Nat) : (sgn j ++ Str.ofString ".").length ≤ 1000 := by
  show (sgn j ++ Str.ofString ".").cps.size ≤ 1000
  rw [PySem.Str.cps_append, Array.size_append]
  show 1 + (Str.ofString ".").cps.size ≤ 1000
  decide +kernel
theorem row_len (b : Bool) : (rowS b).length ≤ 1000 := by cases b <;> decide +kernel
theorem appR_let {news : List (Addr × Obj)} {b : Bool} {j : Nat} {t t' : Tok} : AppR news [.str (rowS b) t, .str (sgn j ++ Str.ofString ".") t'] (rowS b ++ Str.ofString "@" ++ (sgn j ++ Str.ofString ".")) :=
  .other (sgn_ne j) (row_len b) (sgn_len j)
theorem bxL {ns ms : List Int} {n y : Int} (hn : n ∈ ns) (h : Low16 ns) (hy : y ∈ ms) (g : Low16 ms) : 0 ≤ Builtin.bitXor n y ∧ Builtin.bitXor n y < 16 ∧ n + y - 2 * Builtin.bitAnd n y = Builtin.bitXor n y :=
  bx (h _ hn).1 (h _ hn).2 (g _ hy).1 (g _ hy).2
theorem len_due1 (b : Bool) (k : Nat) : (dueS b k).length ≤ 20 := by
  cases b
  · show (Str.ofString "@" ++ sgn k ++ Str.ofString ".\r\n").length ≤ 20
    rw [len_app, len_app, len_sgn]
    decide +kernel
  · show (Str.ofString "..ISO8859-15@" ++ sgn k ++ Str.ofString ".\r\n").length ≤ 20
    rw [len_app, len_app, len_sgn]
    decide +kernel
theorem sum_le {l : List Str} {B : Nat} (h : ∀ a ∈ l, a.length ≤ B) : (l.map (·.length)).sum ≤ l.length * B := by
  induction l with
  | nil => simp
  | cons a r ih =>
    have h1 := h a (.head _)
    have h2 := ih fun b hb => h b (.tail _ hb)
    simp only [List.map_cons, List.sum_cons, List.length_cons, Nat.add_mul]
    omega
theorem sum_due (H : Int → Bool) : ((dueL H).map (·.length)).sum ≤ 320 := by
  have h := sum_le (l := dueL H) (B := 20) fun a ha => by
    obtain ⟨k, _, e⟩ := List.mem_map.mp ha
    rw [← e]; exact len_due1 _ _
  rw [len_due (H := H) rfl] at h
  omega
theorem join_due {prog : Program} {w : World} {A : Around} {E : Value → Shared → Prop} {s : Shared} {h₀ : Heap} {L D : Addr} {news : List (Addr × Obj)} {vs : List Value} {ns : List Str} {n : Nat} {t : Tok} {H : Int → Bool} {Q : Value → Shared → Prop}
    (N : News h₀ L s.heap news) (hm : (D, listOf vs.toArray n) ∈ news) (hi : StrsAre vs ns) (e : ns = dueL H) (h : ∀ t' k, Q (.str (Txt.join (Str.ofString "") (dueL H)) t') { s with toks := k }) :
    wpAny (model prog w) A (call (.builtin "str.join") [.str (Str.ofString "") t, .ref D]) Q E s := by
  subst e
  refine join_listW (PySem.IsL.isList (n := n) (N _ hm).1) (by simpa using hi) (by decide +kernel) ?_ h
  have := sum_due H
  rw [len_due (H := H) rfl]
  omega
end Mine
namespace Mine
open PySem.Calls
def bodyS (H : Int → Bool) (k : Nat) : Str := rowS (H (k : Int)) ++ Str.ofString "@" ++ (sgn k ++ Str.ofString ".")
def lineN (H : Int → Bool) (k : Nat) : List Nat × List Nat := ((bodyS H k).cps.toList, (endI ((k : Int).fmod 3)).cps.toList)
theorem app_list (a b : Str) : (a ++ b).cps.toList = a.cps.toList ++ b.cps.toList := by
  rw [PySem.Str.cps_append, Array.toList_append]
theorem txt_raw (H : Int → Bool) : ∀ n, (txtL H n).cps.toList = rawT ((List.range n).map (lineN H))
  | 0 => by
    show (Str.ofString "").cps.toList = []
    decide +kernel
  | n + 1 => by
    have ih := txt_raw H n
    show (txtL H n ++ lineI H n).cps.toList = _
    rw [app_list, ih, List.range_succ, List.map_append]
    unfold rawT
    rw [List.map_append, List.flatten_append]
    congr 1
    show (lineI H n).cps.toList = _
    unfold lineI
    rw [app_list]
    simp [lineN, bodyS]
theorem row_true : (rowS true).cps.toList = [46, 73, 83, 79, 56, 56, 53, 57, 45, 49, 53] := by decide +kernel
theorem row_false : (rowS false).cps.toList = [] := by decide +kernel
theorem at_list : (Str.ofString "@").cps.toList = [64] := by decide +kernel
theorem dot_list : (Str.ofString ".").cps.toList = [46] := by decide +kernel
theorem sgn_list (k : Nat) : (sgn k).cps.toList = [97 + k] := rfl
theorem body_list (H : Int → Bool) (k : Nat) : (bodyS H k).cps.toList = (rowS (H k)).cps.toList ++ [64, 97 + k, 46] := by
  unfold bodyS
  rw [app_list, app_list, app_list, at_list, dot_list, sgn_list]
  simp
theorem end_list (v : Int) : (endI v).cps.toList = [10] ∨ (endI v).cps.toList = [13] ∨ (endI v).cps.toList = [13, 10] := by
  unfold endI
  split
  · left; decide +kernel
  · split
    · right; left; decide +kernel
    · right; right; decide +kernel
theorem line_ok (H : Int → Bool) (k : Nat) : Line (lineN H k) := by
  refine ⟨?_, ?_, end_list _⟩
  · show (bodyS H k).cps.toList ≠ []
    rw [body_list]
    simp
  · show ∀ c ∈ (bodyS H k).cps.toList, c ≠ 10 ∧ c ≠ 13
    rw [body_list]
    intro c hc
    rcases List.mem_append.mp hc with hc | hc
    · cases h : H k with
      | true =>
        rw [h, row_true] at hc
        simp at hc
        omega
      | false =>
        rw [h, row_false] at hc
        cases hc
    · simp at hc
      omega
def dueN (H : Int → Bool) (k : Nat) : List Nat := dot1 (bodyS H k).cps.toList
theorem due_list (H : Int → Bool) (k : Nat) : (dueS (H k) k).cps.toList = dueN H k ++ [13, 10] := by
  unfold dueN
  rw [body_list]
  have e1 : (Str.ofString ".\r\n").cps.toList = [46, 13, 10] := by decide +kernel
  have e2 : (Str.ofString "..ISO8859-15@").cps.toList = [46, 46, 73, 83, 79, 56, 56, 53, 57, 45, 49, 53, 64] := by decide +kernel
  cases h : H k with
  | true =>
    show (Str.ofString "..ISO8859-15@" ++ sgn k ++ Str.ofString ".\r\n").cps.toList = _
    rw [app_list, app_list, sgn_list, e1, e2, row_true]
    rfl
  | false =>
    show (Str.ofString "@" ++ sgn k ++ Str.ofString ".\r\n").cps.toList = _
    rw [app_list, app_list, sgn_list, e1, at_list, row_false]
    rfl
theorem join_flat : ∀ l : List Str, (Txt.join (Str.ofString "") l).cps.toList = (l.map fun x => x.cps.toList).flatten := by
  intro l
  show (Builtin.Str.glued (Str.ofString "") l).cps.toList = _
  have e : (Str.ofString "") = (⟨#[]⟩ : Str) := by decide +kernel
  rw [StrLaws.glued_eq_join, e]
  induction l with
  | nil => rfl
  | cons a r ih =>
    rw [join_nil_cons, app_list, ih]
    rfl
theorem sent_eq (H : Int → Bool) : quoteS (txtL H 16) = Txt.join (Str.ofString "") (dueL H) := by
  refine PySem.Str.ext' (Array.toList_inj.mp ?_)
  rw [join_flat]
  unfold quoteS
  show dots true (nl (txtL H 16).cps.toList) = _
  rw [txt_raw, quote_lines fun l hl => by
    obtain ⟨k, _, e⟩ := List.mem_map.mp hl
    rw [← e]; exact line_ok H k]
  unfold sentT dueL
  rw [List.map_map, List.map_map]
  congr 1
  refine List.map_congr_left fun k _ => ?_
  show dot1 (bodyS H k).cps.toList ++ [13, 10] = (dueS (H k) k).cps.toList
  rw [due_list]
  rfl
theorem cmp_sent {prog : Program} {w : World} {A : Around} {E : Value → Shared → Prop} {s : Shared} {t u : Tok} {x : Str} {n : Nat} {H : Int → Bool} {Q : Value → Shared → Prop} (e : x = txtL H n) (hn : n = 16) (h : Q (.bool false) s) :
    wpAny (model prog w) A (compareOp .NotEq (.str (quoteS x) t) (.str (Txt.join (Str.ofString "") (dueL H)) u)) Q E s := by
  subst hn
  rw [e, sent_eq]
  refine ne_str ?_
  rw [show ∀ l : Str, (l != l) = false from fun l => by simp]
  exact h
end Mine
namespace Mine
open PySem.Calls
theorem crlf_list : (Str.ofString "\r\n").cps.toList = [13, 10] := by decide +kernel
theorem crlf_len : (Str.ofString "\r\n").length = 2 := by decide +kernel
theorem at_crlf {x : Str} {k : Nat} : StrLaws.At x (Str.ofString "\r\n") x.length k ↔ k + 2 ≤ x.length ∧ (x.cps.toList.drop k).take 2 = [13, 10] := by
  unfold StrLaws.At
  rw [StrLaws.subAt_eq, crlf_len, crlf_list]
  simp
theorem len_list (x : Str) : x.cps.toList.length = x.length := by simp [Str.length]
theorem parts_lines {x : Str} : ∀ (bs : List (List Nat)) (a : Nat) (cuts : List Nat) (f : Nat), x.cps.toList.drop a = (bs.map (· ++ [13, 10])).flatten → (∀ b ∈ bs, 13 ∉ b) →
    StrLaws.ChainG x (Str.ofString "\r\n") x.length a cuts f → (∀ k, f ≤ k → ¬ StrLaws.At x (Str.ofString "\r\n") x.length k) → StrLaws.partsFrom x (Str.ofString "\r\n").length a cuts = bs.map (fun b => (⟨b.toArray⟩ : Str)) ++ [⟨#[]⟩]
  | [], a, cuts, f, e, _, h, _ => by
    have hl : x.length ≤ a := by
      have := congrArg List.length e
      rw [List.length_drop, len_list] at this
      simp at this
      omega
    cases cuts with
    | nil =>
      show [Builtin.Str.strSub x a x.length] = _
      have : Builtin.Str.strSub x a x.length = ⟨#[]⟩ := by
        apply Str.ext'
        apply Array.toList_inj.mp
        rw [StrLaws.strSub_toList, e]
        simp
      rw [this]
      rfl
    | cons c r =>
      exfalso
      have h1 := h.1
      have h2 := (at_crlf.mp h.2.1).1
      omega
  | b :: bs, a, cuts, f, e, hb, h, hn => by
    have hb1 := hb b (.head _)
    have e' : x.cps.toList.drop a = b ++ (13 :: 10 :: (bs.map (· ++ [13, 10])).flatten) := by
      rw [e]; simp
    have hlen : a + b.length + 2 ≤ x.length := by
      have := congrArg List.length e'
      rw [List.length_drop, len_list] at this
      simp at this
      omega
    have dr : ∀ j, x.cps.toList.drop (a + j) = (x.cps.toList.drop a).drop j := fun j => by rw [List.drop_drop]
    have hA : StrLaws.At x (Str.ofString "\r\n") x.length (a + b.length) := by
      refine at_crlf.mpr ⟨by omega, ?_⟩
      rw [dr, e', List.drop_left]
      rfl
    have hfree : ∀ k, a ≤ k → k < a + b.length → ¬ StrLaws.At x (Str.ofString "\r\n") x.length k := by
      intro k h1 h2 q
      have q2 := (at_crlf.mp q).2
      obtain ⟨j, rfl⟩ := Nat.exists_eq_add_of_le h1
      rw [dr, e', List.drop_append_of_le_length (by omega)] at q2
      have hj : j < b.length := by omega
      rw [List.drop_eq_getElem_cons hj] at q2
      simp only [List.cons_append, List.take_succ_cons] at q2
      have : b[j] = 13 := (List.cons.inj q2).1
      exact hb1 (this ▸ List.getElem_mem hj)
    cases cuts with
    | nil =>
      exfalso
      have hf : f = a := h
      exact hn _ (by omega) hA
    | cons c r =>
      have hc : c = a + b.length := by
        rcases Nat.lt_trichotomy c (a + b.length) with z | z | z
        · exact absurd h.2.1 (hfree c h.1 z)
        · exact z
        · exact absurd hA (h.2.2.1 _ (by omega) z)
      subst hc
      have e2 : x.cps.toList.drop (a + b.length + (Str.ofString "\r\n").length) = (bs.map (· ++ [13, 10])).flatten := by
        rw [crlf_len, Nat.add_assoc, dr, e', ← List.drop_drop, List.drop_left]
        rfl
      have ih := parts_lines bs (a + b.length + (Str.ofString "\r\n").length) r f e2 (fun b' h' => hb b' (.tail _ h')) h.2.2.2 hn
      show Builtin.Str.strSub x a (a + b.length) :: StrLaws.partsFrom x (Str.ofString "\r\n").length (a + b.length + (Str.ofString "\r\n").length) r = _
      rw [ih]
      have : Builtin.Str.strSub x a (a + b.length) = ⟨b.toArray⟩ := by
        apply Str.ext'
        apply Array.toList_inj.mp
        rw [StrLaws.strSub_toList, e', show a + b.length - a = b.length by omega, List.take_left]
      rw [this]
      rfl
theorem kind_crlf (x : Str) : ¬ Builtin.Str.strKind x < Builtin.Str.strKind (Str.ofString "\r\n") := by
  have h : Builtin.Str.strKind (Str.ofString "\r\n") = 1 := by decide +kernel
  rw [h]
  unfold Builtin.Str.strKind
  split
  · omega
  · split <;> omega
theorem split_lines {x : Str} {b : List Nat} {bs : List (List Nat)} (e : x.cps.toList = ((b :: bs).map (· ++ [13, 10])).flatten) (hb : ∀ c ∈ b :: bs, 13 ∉ c) :
    Txt.split x (Str.ofString "\r\n") = (b :: bs).map (fun b => (⟨b.toArray⟩ : Str)) ++ [⟨#[]⟩] := by
  obtain ⟨f, hG, hn⟩ := StrLaws.occ_tight x (Str.ofString "\r\n") (by rw [crlf_len]; omega)
  have key := parts_lines (x := x) (b :: bs) 0 _ f (by rw [List.drop_zero]; exact e) hb hG hn
  have hlen : b.length + 2 ≤ x.length := by
    have := congrArg List.length e
    rw [len_list] at this
    simp at this
    omega
  unfold Txt.split
  rw [if_neg, if_neg, StrLaws.partsBetween_eq, key]
  · intro q
    rw [List.isEmpty_iff] at q
    rw [q] at key
    have h1 := congrArg List.length key
    simp [StrLaws.partsFrom] at h1
  · have := kind_crlf x
    rw [crlf_len]
    simp
    omega
def pieceS (H : Int → Bool) (k : Nat) : Str := ⟨(dueN H k).toArray⟩
def headS (b : Bool) : Str := if b then Str.ofString "." else Str.ofString "@"
def heardL (H : Int → Bool) : List Str := (List.range 16).map (pieceS H) ++ [⟨#[]⟩]
theorem due_true : dot1 [46, 73, 83, 79, 56, 56, 53, 57, 45, 49, 53] = [46, 46, 73, 83, 79, 56, 56, 53, 57, 45, 49, 53] := by decide
theorem dueN_eq (H : Int → Bool) (k : Nat) : dueN H k = if H k then [46, 46, 73, 83, 79, 56, 56, 53, 57, 45, 49, 53, 64, 97 + k, 46] else [64, 97 + k, 46] := by
  unfold dueN
  rw [body_list]
  cases h : H k with
  | true => rw [row_true]; rfl
  | false => rw [row_false]; rfl
theorem dueN_free (H : Int → Bool) (k : Nat) : 13 ∉ dueN H k := by
  rw [dueN_eq]
  split
  · simp; omega
  · simp; omega
theorem join_list (H : Int → Bool) : (Txt.join (Str.ofString "") (dueL H)).cps.toList = (((List.range 16).map (dueN H)).map (· ++ [13, 10])).flatten := by
  rw [join_flat]
  unfold dueL
  rw [List.map_map, List.map_map]
  congr 1
  refine List.map_congr_left fun k _ => ?_
  exact due_list H k
theorem range16 : List.range 16 = 0 :: (List.range 15).map (· + 1) := by decide
theorem heard_eq (H : Int → Bool) : Txt.split (Txt.join (Str.ofString "") (dueL H)) (Str.ofString "\r\n") = heardL H := by
  have e := join_list H
  have hb : ∀ c ∈ (List.range 16).map (dueN H), 13 ∉ c := by
    intro c hc
    obtain ⟨k, _, rfl⟩ := List.mem_map.mp hc
    exact dueN_free H k
  unfold heardL
  have e2 : (List.range 16).map (pieceS H) = ((List.range 16).map (dueN H)).map fun b => (⟨b.toArray⟩ : Str) := by
    rw [List.map_map]; rfl
  rw [e2]
  obtain ⟨b, bs, hL⟩ : ∃ b bs, (List.range 16).map (dueN H) = b :: bs := ⟨_, _, by rw [range16]; rfl⟩
  rw [hL] at e hb ⊢
  exact split_lines e hb
theorem getD_heard {H : Int → Bool} {v : Int} (h0 : 0 ≤ v) (h1 : v < 16) : (heardL H).getD v.toNat Str.empty = pieceS H v.toNat := by
  have h : v.toNat < ((List.range 16).map (pieceS H)).length := by simp; omega
  unfold heardL
  rw [List.getD_eq_getElem?_getD, List.getElem?_append_left h, List.getElem?_eq_getElem h]
  simp
theorem len_heard (H : Int → Bool) : (heardL H).length = 17 := by simp [heardL]
section
variable {prog : Program} {w : World} {A : Around} {E : Value → Shared → Prop} {s : Shared} {h₀ : Heap} {L D : Addr} {m : Str → Option Value} {news : List (Addr × Obj)} {vs : List Value} {ns : List Str} {n : Nat} {k : Int} {x : Str} {t u : Tok} {H : Int → Bool} {Q : Value → Shared → Prop}
theorem join_small (H : Int → Bool) : (Txt.join (Str.ofString "") (dueL H)).length + 2 ≤ sizeLine := by
  have h1 := StrLaws.join_length_le (Str.ofString "") (dueL H)
  have h2 := sum_due H
  have h3 : (Str.ofString "").length = 0 := by decide +kernel
  rw [h3, Nat.mul_zero] at h1
  show (Builtin.Str.glued (Str.ofString "") (dueL H)).length + 2 ≤ sizeLine
  rw [StrLaws.glued_eq_join, sizeLine_eq]
  omega
theorem split_sent (hF : Fr h₀ L s.heap m) (hN : News h₀ L s.heap news) (e : x = txtL H n) (hn : n = 16)
    (h : ∀ D vs h' k, StrsAre vs (heardL H) → Fr h₀ L h' m → News h₀ L h' ((D, listOf vs.toArray 0) :: news) → (∀ p ∈ news, p.1 < D) → Q (.ref D) { s with heap := h', toks := k }) :
    wpAny (model prog w) A (call (.builtin "str.split") [.str (quoteS x) t, .str (Str.ofString "\r\n") u]) Q E s := by
  subst hn
  rw [e, sent_eq]
  refine KSpl.split1 hF hN (by decide +kernel) (fun D l h' k e' a F N o => ?_) (join_small H)
  rw [heard_eq] at e'
  rw [e'] at a
  exact h D _ h' k a F N o
theorem heard_sub {value slice : PySem.Expr} (N : News h₀ L s.heap news) (hm : (D, listOf vs.toArray n) ∈ news) (hi : StrsAre vs (heardL H)) (h0 : 0 ≤ k) (h1 : k < 16) (h : ∀ t, Q (.str (pieceS H k.toNat) t) s)
    (hs : SubPlain slice (.ref D) (.int k u) := by with_unfolding_all rfl) :
    wpAny (model prog w) A (subscriptTail value slice (.ref D) (.int k u)) Q E s := by
  refine KTb.item_list (PySem.IsL.isList (n := n) (N _ hm).1) hi h0 (by have := len_heard H; omega) (by have := len_heard H; omega) (fun t _ => ?_) hs
  rw [getD_heard h0 h1]
  exact h t
def sumI (H : Int → Bool) : List Int := ((List.range 16).filter fun (k : Nat) => H (k : Int)).map fun (k : Nat) => (k : Int)
theorem fold_app (H : Int → Bool) : ∀ (l a : List Int), List.foldl (fun l' k' => if H k' = true then l' ++ [k'] else l') a l = a ++ l.filter H
  | [], a => by simp
  | k :: r, a => by
    rw [List.foldl_cons, fold_app H r, List.filter_cons]
    split <;> simp
theorem fold_sum (H : Int → Bool) : List.foldl (fun l' k' => if H k' = true then l' ++ [k'] else l') [] (rangeKs 0 (16 - 0 : Int).toNat) = sumI H := by
  rw [fold_app, List.nil_append]
  have e : rangeKs 0 (16 - 0 : Int).toNat = (List.range 16).map fun (k : Nat) => (k : Int) := by
    unfold rangeKs
    exact List.map_congr_left fun i _ => Int.zero_add _
  rw [e, List.filter_map]
  rfl
theorem head_list (H : Int → Bool) (k : Nat) : Txt.item (pieceS H k) 0 = headS (H k) := by
  unfold pieceS
  rw [dueN_eq]
  cases h : H k with
  | true =>
    show _ = Str.ofString "."
    rw [show Str.ofString "." = ⟨#[46]⟩ from by decide +kernel]
    rfl
  | false =>
    show _ = Str.ofString "@"
    rw [show Str.ofString "@" = ⟨#[64]⟩ from by decide +kernel]
    rfl
theorem len_piece (H : Int → Bool) (k : Nat) : (pieceS H k).length = if H k then 15 else 3 := by
  show (dueN H k).toArray.size = _
  rw [List.size_toArray, dueN_eq]
  split <;> rfl
theorem head_sub {value slice : PySem.Expr} (h0 : 0 ≤ k) (h : ∀ t tk, Q (.str (headS (H k)) t) { s with toks := tk })
    (hs : SubPlain slice (.str (pieceS H k.toNat) t) (.int 0 u) := by with_unfolding_all rfl) (ht : ∀ r, letTemporaryGo value (.str (pieceS H k.toNat) t) r = pure () := by intro _; with_unfolding_all rfl) :
    wpAny (model prog w) A (subscriptTail value slice (.str (pieceS H k.toNat) t) (.int 0 u)) Q E s := by
  have e : ((k.toNat : Nat) : Int) = k := Int.toNat_of_nonneg h0
  have h1 := head_list H k.toNat
  rw [e] at h1
  have h2 := len_piece H k.toNat
  have h3 : 3 ≤ (pieceS H k.toNat).length ∧ (pieceS H k.toNat).length ≤ 15 := by
    rw [h2]; split <;> omega
  exact KXi.item (n := (pieceS H k.toNat).length) rfl (by omega) (by omega) (by omega) (fun _ => by rw [h1]; exact h _ _) hs ht
theorem head_cmp {b : Bool} {t u : Tok} (h : Q (.bool b) s) : wpAny (model prog w) A (compareOp .Eq (.str (headS b) t) (.str (Str.ofString ".") u)) Q E s := by
  refine eq_str ?_
  have : (headS b == Str.ofString ".") = b := by cases b <;> decide +kernel
  rw [this]
  exact h
end
end Mine
namespace Mine
open PySem.Calls
def blk (h a b : Int) : Int := h * (-(-a).fdiv h + -(-b).fdiv h - 1)
def blkOk : Bool := (List.range 6).all fun r => (List.range 6).all fun s => decide (((hs (r + 1) (s + 1) : Nat) : Int) = min (blk 1 ((r + 1 : Nat) : Int) ((s + 1 : Nat) : Int)) (min (blk 2 ((r + 1 : Nat) : Int) ((s + 1 : Nat) : Int)) (min (blk 4 ((r + 1 : Nat) : Int) ((s + 1 : Nat) : Int)) (blk 8 ((r + 1 : Nat) : Int) ((s + 1 : Nat) : Int)))))
theorem blkOk_true : blkOk = true := by decide +kernel
theorem blk_hs {r s : Nat} (h1 : 1 ≤ r) (h2 : r ≤ 6) (h3 : 1 ≤ s) (h4 : s ≤ 6) {M : Int}
    (ha : M = 1 * (-(-(r : Int)).fdiv 1 + -(-(s : Int)).fdiv 1 - 1) ∨ M = 2 * (-(-(r : Int)).fdiv 2 + -(-(s : Int)).fdiv 2 - 1) ∨ M = 4 * (-(-(r : Int)).fdiv 4 + -(-(s : Int)).fdiv 4 - 1) ∨ M = 8 * (-(-(r : Int)).fdiv 8 + -(-(s : Int)).fdiv 8 - 1))
    (hb : M ≤ 1 * (-(-(r : Int)).fdiv 1 + -(-(s : Int)).fdiv 1 - 1) ∧ M ≤ 2 * (-(-(r : Int)).fdiv 2 + -(-(s : Int)).fdiv 2 - 1) ∧ M ≤ 4 * (-(-(r : Int)).fdiv 4 + -(-(s : Int)).fdiv 4 - 1) ∧ M ≤ 8 * (-(-(r : Int)).fdiv 8 + -(-(s : Int)).fdiv 8 - 1)) : M = (hs r s : Nat) := by
  have h := blkOk_true
  simp only [blkOk, List.all_eq_true, List.mem_range, decide_eq_true_eq] at h
  have := h (r - 1) (by omega) (s - 1) (by omega)
  rw [Nat.sub_add_cancel h1, Nat.sub_add_cancel h3] at this
  rw [this]
  have e : ∀ k, blk k r s = k * (-(-(r : Int)).fdiv k + -(-(s : Int)).fdiv k - 1) := fun _ => rfl
  rw [← e, ← e, ← e, ← e] at ha hb
  omega
theorem fd_bd {r : Nat} {k : Int} (h : r ≤ 6) (h1 : 1 ≤ k) (h8 : k ≤ 8) : -6 ≤ (-(r : Int)).fdiv k ∧ (-(r : Int)).fdiv k ≤ 0 := by
  have t : ((List.range 7).all fun r => (List.range 9).all fun k => decide (1 ≤ k → -6 ≤ (-(r : Int)).fdiv k ∧ (-(r : Int)).fdiv k ≤ 0)) = true := by decide +kernel
  simp only [List.all_eq_true, List.mem_range, decide_eq_true_eq] at t
  have := t r (by omega) k.toNat (by omega) (by omega)
  rwa [Int.toNat_of_nonneg (by omega)] at this
theorem mul_ok {r q : Nat} {k : Int} (h : r ≤ 6) (g : q ≤ 6) (h1 : 1 ≤ k) (h8 : k ≤ 8) : -1000 ≤ k ∧ k ≤ 1000 ∧ -1000 ≤ -(-(r : Int)).fdiv k + -(-(q : Int)).fdiv k - 1 ∧ -(-(r : Int)).fdiv k + -(-(q : Int)).fdiv k - 1 ≤ 1000 := by
  have := fd_bd h h1 h8
  have := fd_bd g h1 h8
  omega
theorem blk_step {r q : Nat} {pre out : List Int} {n : Int} (h : out = pre.map fun k => blk k r q) : out ++ [n * (-(-(r : Int)).fdiv n + -(-(q : Int)).fdiv n - 1)] = (pre ++ [n]).map fun k => blk k r q := by
  rw [List.map_append, ← h]
  rfl
theorem blk_mem {n : Int} (h : n ∈ [1, 2, 4, 8]) : 1 ≤ n ∧ n ≤ 8 := by
  simp at h
  omega
theorem C_blocks {w : World} {dp un : Nat} {gd : Option (List Code)} {cn : Str} {cs : Scope} {ac : Addr} {ccd : Value} {cl : List (Str × Addr)} {outer : List Env} {A₀ : Around} {base h₀ : Heap} {L : Addr} {m mg mb : Str → Option Value} {s : Shared} {Q E : Value → Shared → Prop}
    {p : Program} {loose : List Str} {mean : ExcName → Option Value} {r q : Nat} {t u : Tok}
    (B : Below A₀ base outer h₀) (F : Fr h₀ L s.heap m) (X : (Mine.base.heap_1 w.params).In h₀) (T : Top p loose mean mg mb h₀) (hk : cs.kind = .function) (hd : dp + 3 < recursionLimit) (hu : un + 24 < cLine)
    (ha : 1 ≤ r) (ha' : r ≤ 6) (hb : 1 ≤ q) (hb' : q ≤ 6) 
    (h : ∀ k h' tk', (∀ b o, s.heap.get? b = some o → h'.get? b = some o) → Q (.int (hs r q : Nat) k) { s with heap := h', toks := tk' }) :
    wpAny (model PySem.Challenge.rw_wk0021_01.row.prog w) (ktrTop dp un gd cn cs L ac ccd cl outer) (call (.ref 365) [.int (r : Nat) t, .int (q : Nat) u]) Q E s := by
  revert B F X
  k_fill
  intro B F X
  k_with_none
  k_with "ne" => (refine neN ?_; (try dsimp only); first | (with_reducible first | assumption | exact Ne.symm (by assumption) | exact Nat.ne_of_lt (by assumption) | exact Nat.ne_of_gt (by assumption) | ((rename (_ ≠ _ ∧ _) => h9); (first | exact h9.1 | exact h9.2.1 | exact h9.2 | exact h9.2.2.1 | exact h9.2.2 | exact h9.2.2.2.1 | exact h9.2.2.2 | exact h9.2.2.2.2.1 | exact h9.2.2.2.2 | exact h9.2.2.2.2.2.1 | exact h9.2.2.2.2.2 | exact Ne.symm h9.1 | exact Ne.symm h9.2.1 | exact Ne.symm h9.2 | exact Ne.symm h9.2.2.1 | exact Ne.symm h9.2.2 | exact Ne.symm h9.2.2.2.1 | exact Ne.symm h9.2.2.2 | exact Ne.symm h9.2.2.2.2.1 | exact Ne.symm h9.2.2.2.2 | exact Ne.symm h9.2.2.2.2.2.1 | exact Ne.symm h9.2.2.2.2.2)) | ((rename (_ ≠ _ ∧ _) => h9); clear h9; (rename (_ ≠ _ ∧ _) => h9); (first | exact h9.1 | exact h9.2.1 | exact h9.2 | exact h9.2.2.1 | exact h9.2.2 | exact h9.2.2.2.1 | exact h9.2.2.2 | exact h9.2.2.2.2.1 | exact h9.2.2.2.2 | exact h9.2.2.2.2.2.1 | exact h9.2.2.2.2.2 | exact Ne.symm h9.1 | exact Ne.symm h9.2.1 | exact Ne.symm h9.2 | exact Ne.symm h9.2.2.1 | exact Ne.symm h9.2.2 | exact Ne.symm h9.2.2.2.1 | exact Ne.symm h9.2.2.2 | exact Ne.symm h9.2.2.2.2.1 | exact Ne.symm h9.2.2.2.2 | exact Ne.symm h9.2.2.2.2.2.1 | exact Ne.symm h9.2.2.2.2.2)) | ((rename (_ ≠ _ ∧ _) => h9); clear h9; (rename (_ ≠ _ ∧ _) => h9); clear h9; (rename (_ ≠ _ ∧ _) => h9); (first | exact h9.1 | exact h9.2.1 | exact h9.2 | exact h9.2.2.1 | exact h9.2.2 | exact h9.2.2.2.1 | exact h9.2.2.2 | exact h9.2.2.2.2.1 | exact h9.2.2.2.2 | exact h9.2.2.2.2.2.1 | exact h9.2.2.2.2.2 | exact Ne.symm h9.1 | exact Ne.symm h9.2.1 | exact Ne.symm h9.2 | exact Ne.symm h9.2.2.1 | exact Ne.symm h9.2.2 | exact Ne.symm h9.2.2.2.1 | exact Ne.symm h9.2.2.2 | exact Ne.symm h9.2.2.2.2.1 | exact Ne.symm h9.2.2.2.2 | exact Ne.symm h9.2.2.2.2.2.1 | exact Ne.symm h9.2.2.2.2.2)) | ((rename ((_ ∧ _) ∧ _) => h9); (first | exact h9.1.1 | exact h9.1 | exact h9.1.2.1 | exact h9.2.1 | exact h9.1.2.2 | exact h9.2.2 | exact h9.2.1.1 | exact h9.2.1 | exact h9.2.1.2.1 | exact h9.2.2.1 | exact h9.2.1.2.2 | exact h9.2.2.2 | exact h9.2.2.1.1 | exact h9.2.2.1 | exact h9.2.2.1.2.1 | exact h9.2.2.2.1 | exact h9.2.2.1.2.2 | exact h9.2.2.2.2 | exact h9.2.2.2.1.1 | exact h9.2.2.2.1 | exact h9.2.2.2.1.2.1 | exact h9.2.2.2.2.1 | exact h9.2.2.2.1.2.2 | exact h9.2.2.2.2.2 | exact h9.2.2.2.2.1.1 | exact h9.2.2.2.2.1 | exact h9.2.2.2.2.1.2.1 | exact h9.2.2.2.2.2.1 | exact h9.2.2.2.2.1.2.2 | exact h9.2.2.2.2.2.2 | exact h9.2.2.2.2.2.1.1 | exact h9.2.2.2.2.2.1 | exact h9.2.2.2.2.2.1.2.1 | exact h9.2.2.2.2.2.2.1 | exact h9.2.2.2.2.2.1.2.2 | exact h9.2.2.2.2.2.2.2 | exact h9.2.2.2.2.2.2.1.1 | exact h9.2.2.2.2.2.2.1 | exact h9.2.2.2.2.2.2.1.2.1 | exact h9.2.2.2.2.2.2.2.1 | exact h9.2.2.2.2.2.2.1.2.2 | exact h9.2.2.2.2.2.2.2.2 | exact h9.2.2.2.2.2.2.2.1.1 | exact h9.2.2.2.2.2.2.2.1 | exact h9.2.2.2.2.2.2.2.1.2.1 | exact h9.2.2.2.2.2.2.2.2.1 | exact h9.2.2.2.2.2.2.2.1.2.2 | exact h9.2.2.2.2.2.2.2.2.2 | exact h9.2.2.2.2.2.2.2.2.1.1 | exact h9.2.2.2.2.2.2.2.2.1 | exact h9.2.2.2.2.2.2.2.2.1.2.1 | exact h9.2.2.2.2.2.2.2.2.2.1 | exact h9.2.2.2.2.2.2.2.2.1.2.2 | exact h9.2.2.2.2.2.2.2.2.2.2 | exact Ne.symm h9.1.1 | exact Ne.symm h9.1 | exact Ne.symm h9.1.2.1 | exact Ne.symm h9.2.1 | exact Ne.symm h9.1.2.2 | exact Ne.symm h9.2.2 | exact Ne.symm h9.2.1.1 | exact Ne.symm h9.2.1 | exact Ne.symm h9.2.1.2.1 | exact Ne.symm h9.2.2.1 | exact Ne.symm h9.2.1.2.2 | exact Ne.symm h9.2.2.2 | exact Ne.symm h9.2.2.1.1 | exact Ne.symm h9.2.2.1 | exact Ne.symm h9.2.2.1.2.1 | exact Ne.symm h9.2.2.2.1 | exact Ne.symm h9.2.2.1.2.2 | exact Ne.symm h9.2.2.2.2 | exact Ne.symm h9.2.2.2.1.1 | exact Ne.symm h9.2.2.2.1 | exact Ne.symm h9.2.2.2.1.2.1 | exact Ne.symm h9.2.2.2.2.1 | exact Ne.symm h9.2.2.2.1.2.2 | exact Ne.symm h9.2.2.2.2.2 | exact Ne.symm h9.2.2.2.2.1.1 | exact Ne.symm h9.2.2.2.2.1 | exact Ne.symm h9.2.2.2.2.1.2.1 | exact Ne.symm h9.2.2.2.2.2.1 | exact Ne.symm h9.2.2.2.2.1.2.2 | exact Ne.symm h9.2.2.2.2.2.2 | exact Ne.symm h9.2.2.2.2.2.1.1 | exact Ne.symm h9.2.2.2.2.2.1 | exact Ne.symm h9.2.2.2.2.2.1.2.1 | exact Ne.symm h9.2.2.2.2.2.2.1 | exact Ne.symm h9.2.2.2.2.2.1.2.2 | exact Ne.symm h9.2.2.2.2.2.2.2 | exact Ne.symm h9.2.2.2.2.2.2.1.1 | exact Ne.symm h9.2.2.2.2.2.2.1 | exact Ne.symm h9.2.2.2.2.2.2.1.2.1 | exact Ne.symm h9.2.2.2.2.2.2.2.1 | exact Ne.symm h9.2.2.2.2.2.2.1.2.2 | exact Ne.symm h9.2.2.2.2.2.2.2.2 | exact Ne.symm h9.2.2.2.2.2.2.2.1.1 | exact Ne.symm h9.2.2.2.2.2.2.2.1 | exact Ne.symm h9.2.2.2.2.2.2.2.1.2.1 | exact Ne.symm h9.2.2.2.2.2.2.2.2.1 | exact Ne.symm h9.2.2.2.2.2.2.2.1.2.2 | exact Ne.symm h9.2.2.2.2.2.2.2.2.2 | exact Ne.symm h9.2.2.2.2.2.2.2.2.1.1 | exact Ne.symm h9.2.2.2.2.2.2.2.2.1 | exact Ne.symm h9.2.2.2.2.2.2.2.2.1.2.1 | exact Ne.symm h9.2.2.2.2.2.2.2.2.2.1 | exact Ne.symm h9.2.2.2.2.2.2.2.2.1.2.2 | exact Ne.symm h9.2.2.2.2.2.2.2.2.2.2)) | ((rename ((_ ∧ _) ∧ _) => h9); clear h9; (rename ((_ ∧ _) ∧ _) => h9); (first | exact h9.1.1 | exact h9.1 | exact h9.1.2.1 | exact h9.2.1 | exact h9.1.2.2 | exact h9.2.2 | exact h9.2.1.1 | exact h9.2.1 | exact h9.2.1.2.1 | exact h9.2.2.1 | exact h9.2.1.2.2 | exact h9.2.2.2 | exact h9.2.2.1.1 | exact h9.2.2.1 | exact h9.2.2.1.2.1 | exact h9.2.2.2.1 | exact h9.2.2.1.2.2 | exact h9.2.2.2.2 | exact h9.2.2.2.1.1 | exact h9.2.2.2.1 | exact h9.2.2.2.1.2.1 | exact h9.2.2.2.2.1 | exact h9.2.2.2.1.2.2 | exact h9.2.2.2.2.2 | exact h9.2.2.2.2.1.1 | exact h9.2.2.2.2.1 | exact h9.2.2.2.2.1.2.1 | exact h9.2.2.2.2.2.1 | exact h9.2.2.2.2.1.2.2 | exact h9.2.2.2.2.2.2 | exact h9.2.2.2.2.2.1.1 | exact h9.2.2.2.2.2.1 | exact h9.2.2.2.2.2.1.2.1 | exact h9.2.2.2.2.2.2.1 | exact h9.2.2.2.2.2.1.2.2 | exact h9.2.2.2.2.2.2.2 | exact h9.2.2.2.2.2.2.1.1 | exact h9.2.2.2.2.2.2.1 | exact h9.2.2.2.2.2.2.1.2.1 | exact h9.2.2.2.2.2.2.2.1 | exact h9.2.2.2.2.2.2.1.2.2 | exact h9.2.2.2.2.2.2.2.2 | exact h9.2.2.2.2.2.2.2.1.1 | exact h9.2.2.2.2.2.2.2.1 | exact h9.2.2.2.2.2.2.2.1.2.1 | exact h9.2.2.2.2.2.2.2.2.1 | exact h9.2.2.2.2.2.2.2.1.2.2 | exact h9.2.2.2.2.2.2.2.2.2 | exact h9.2.2.2.2.2.2.2.2.1.1 | exact h9.2.2.2.2.2.2.2.2.1 | exact h9.2.2.2.2.2.2.2.2.1.2.1 | exact h9.2.2.2.2.2.2.2.2.2.1 | exact h9.2.2.2.2.2.2.2.2.1.2.2 | exact h9.2.2.2.2.2.2.2.2.2.2 | exact Ne.symm h9.1.1 | exact Ne.symm h9.1 | exact Ne.symm h9.1.2.1 | exact Ne.symm h9.2.1 | exact Ne.symm h9.1.2.2 | exact Ne.symm h9.2.2 | exact Ne.symm h9.2.1.1 | exact Ne.symm h9.2.1 | exact Ne.symm h9.2.1.2.1 | exact Ne.symm h9.2.2.1 | exact Ne.symm h9.2.1.2.2 | exact Ne.symm h9.2.2.2 | exact Ne.symm h9.2.2.1.1 | exact Ne.symm h9.2.2.1 | exact Ne.symm h9.2.2.1.2.1 | exact Ne.symm h9.2.2.2.1 | exact Ne.symm h9.2.2.1.2.2 | exact Ne.symm h9.2.2.2.2 | exact Ne.symm h9.2.2.2.1.1 | exact Ne.symm h9.2.2.2.1 | exact Ne.symm h9.2.2.2.1.2.1 | exact Ne.symm h9.2.2.2.2.1 | exact Ne.symm h9.2.2.2.1.2.2 | exact Ne.symm h9.2.2.2.2.2 | exact Ne.symm h9.2.2.2.2.1.1 | exact Ne.symm h9.2.2.2.2.1 | exact Ne.symm h9.2.2.2.2.1.2.1 | exact Ne.symm h9.2.2.2.2.2.1 | exact Ne.symm h9.2.2.2.2.1.2.2 | exact Ne.symm h9.2.2.2.2.2.2 | exact Ne.symm h9.2.2.2.2.2.1.1 | exact Ne.symm h9.2.2.2.2.2.1 | exact Ne.symm h9.2.2.2.2.2.1.2.1 | exact Ne.symm h9.2.2.2.2.2.2.1 | exact Ne.symm h9.2.2.2.2.2.1.2.2 | exact Ne.symm h9.2.2.2.2.2.2.2 | exact Ne.symm h9.2.2.2.2.2.2.1.1 | exact Ne.symm h9.2.2.2.2.2.2.1 | exact Ne.symm h9.2.2.2.2.2.2.1.2.1 | exact Ne.symm h9.2.2.2.2.2.2.2.1 | exact Ne.symm h9.2.2.2.2.2.2.1.2.2 | exact Ne.symm h9.2.2.2.2.2.2.2.2 | exact Ne.symm h9.2.2.2.2.2.2.2.1.1 | exact Ne.symm h9.2.2.2.2.2.2.2.1 | exact Ne.symm h9.2.2.2.2.2.2.2.1.2.1 | exact Ne.symm h9.2.2.2.2.2.2.2.2.1 | exact Ne.symm h9.2.2.2.2.2.2.2.1.2.2 | exact Ne.symm h9.2.2.2.2.2.2.2.2.2 | exact Ne.symm h9.2.2.2.2.2.2.2.2.1.1 | exact Ne.symm h9.2.2.2.2.2.2.2.2.1 | exact Ne.symm h9.2.2.2.2.2.2.2.2.1.2.1 | exact Ne.symm h9.2.2.2.2.2.2.2.2.2.1 | exact Ne.symm h9.2.2.2.2.2.2.2.2.1.2.2 | exact Ne.symm h9.2.2.2.2.2.2.2.2.2.2)) | ((rename (_ < _ ∧ _) => h9); (first | exact Nat.ne_of_lt h9.1 | exact Nat.ne_of_lt h9.2.1 | exact Nat.ne_of_lt h9.2 | exact Nat.ne_of_lt h9.2.2.1 | exact Nat.ne_of_lt h9.2.2 | exact Nat.ne_of_lt h9.2.2.2.1 | exact Nat.ne_of_lt h9.2.2.2 | exact Nat.ne_of_lt h9.2.2.2.2.1 | exact Nat.ne_of_lt h9.2.2.2.2 | exact Nat.ne_of_lt h9.2.2.2.2.2.1 | exact Nat.ne_of_lt h9.2.2.2.2.2 | exact Nat.ne_of_gt h9.1 | exact Nat.ne_of_gt h9.2.1 | exact Nat.ne_of_gt h9.2 | exact Nat.ne_of_gt h9.2.2.1 | exact Nat.ne_of_gt h9.2.2 | exact Nat.ne_of_gt h9.2.2.2.1 | exact Nat.ne_of_gt h9.2.2.2 | exact Nat.ne_of_gt h9.2.2.2.2.1 | exact Nat.ne_of_gt h9.2.2.2.2 | exact Nat.ne_of_gt h9.2.2.2.2.2.1 | exact Nat.ne_of_gt h9.2.2.2.2.2)) | ((rename (_ < _ ∧ _) => h9); clear h9; (rename (_ < _ ∧ _) => h9); (first | exact Nat.ne_of_lt h9.1 | exact Nat.ne_of_lt h9.2.1 | exact Nat.ne_of_lt h9.2 | exact Nat.ne_of_lt h9.2.2.1 | exact Nat.ne_of_lt h9.2.2 | exact Nat.ne_of_lt h9.2.2.2.1 | exact Nat.ne_of_lt h9.2.2.2 | exact Nat.ne_of_lt h9.2.2.2.2.1 | exact Nat.ne_of_lt h9.2.2.2.2 | exact Nat.ne_of_lt h9.2.2.2.2.2.1 | exact Nat.ne_of_lt h9.2.2.2.2.2 | exact Nat.ne_of_gt h9.1 | exact Nat.ne_of_gt h9.2.1 | exact Nat.ne_of_gt h9.2 | exact Nat.ne_of_gt h9.2.2.1 | exact Nat.ne_of_gt h9.2.2 | exact Nat.ne_of_gt h9.2.2.2.1 | exact Nat.ne_of_gt h9.2.2.2 | exact Nat.ne_of_gt h9.2.2.2.2.1 | exact Nat.ne_of_gt h9.2.2.2.2 | exact Nat.ne_of_gt h9.2.2.2.2.2.1 | exact Nat.ne_of_gt h9.2.2.2.2.2)) | ((rename (_ < _ ∧ _) => h9); clear h9; (rename (_ < _ ∧ _) => h9); clear h9; (rename (_ < _ ∧ _) => h9); (first | exact Nat.ne_of_lt h9.1 | exact Nat.ne_of_lt h9.2.1 | exact Nat.ne_of_lt h9.2 | exact Nat.ne_of_lt h9.2.2.1 | exact Nat.ne_of_lt h9.2.2 | exact Nat.ne_of_lt h9.2.2.2.1 | exact Nat.ne_of_lt h9.2.2.2 | exact Nat.ne_of_lt h9.2.2.2.2.1 | exact Nat.ne_of_lt h9.2.2.2.2 | exact Nat.ne_of_lt h9.2.2.2.2.2.1 | exact Nat.ne_of_lt h9.2.2.2.2.2 | exact Nat.ne_of_gt h9.1 | exact Nat.ne_of_gt h9.2.1 | exact Nat.ne_of_gt h9.2 | exact Nat.ne_of_gt h9.2.2.1 | exact Nat.ne_of_gt h9.2.2 | exact Nat.ne_of_gt h9.2.2.2.1 | exact Nat.ne_of_gt h9.2.2.2 | exact Nat.ne_of_gt h9.2.2.2.2.1 | exact Nat.ne_of_gt h9.2.2.2.2 | exact Nat.ne_of_gt h9.2.2.2.2.2.1 | exact Nat.ne_of_gt h9.2.2.2.2.2)) | ((rename (_ < _ ∧ _) => h9); clear h9; (rename (_ < _ ∧ _) => h9); clear h9; (rename (_ < _ ∧ _) => h9); clear h9; (rename (_ < _ ∧ _) => h9); (first | exact Nat.ne_of_lt h9.1 | exact Nat.ne_of_lt h9.2.1 | exact Nat.ne_of_lt h9.2 | exact Nat.ne_of_lt h9.2.2.1 | exact Nat.ne_of_lt h9.2.2 | exact Nat.ne_of_lt h9.2.2.2.1 | exact Nat.ne_of_lt h9.2.2.2 | exact Nat.ne_of_lt h9.2.2.2.2.1 | exact Nat.ne_of_lt h9.2.2.2.2 | exact Nat.ne_of_lt h9.2.2.2.2.2.1 | exact Nat.ne_of_lt h9.2.2.2.2.2 | exact Nat.ne_of_gt h9.1 | exact Nat.ne_of_gt h9.2.1 | exact Nat.ne_of_gt h9.2 | exact Nat.ne_of_gt h9.2.2.1 | exact Nat.ne_of_gt h9.2.2 | exact Nat.ne_of_gt h9.2.2.2.1 | exact Nat.ne_of_gt h9.2.2.2 | exact Nat.ne_of_gt h9.2.2.2.2.1 | exact Nat.ne_of_gt h9.2.2.2.2 | exact Nat.ne_of_gt h9.2.2.2.2.2.1 | exact Nat.ne_of_gt h9.2.2.2.2.2))) | ((repeat ((rename (_ ≠ _ ∧ _) => h9); clear h9)); (repeat ((rename ((_ ∧ _) ∧ _) => h9); clear h9)); (repeat ((rename (_ ≠ _) => h9); clear h9)); omega) | omega)
  k_with "facts" => first | assumption | exact IntsAre.append (by assumption) (.cons _ _ .nil)
  k_with "call ref" => (k_here; refine wpAny_call ?_; k_dflt ((have kf9 : ScopeKind.function = ScopeKind.function := rfl); ktr_enter; (rename_i g' L' h' FG' F' N' B' X' T'); (try (have hl9' := stays_list (Fr.keep FG') (by with_reducible assumption)))))
  k_with "enter base" => (refine' code_base ⟨?b, ?f, ?x, ?t, ?fs, ?fo, ?fk⟩ ⟨?o, ?cd, ?c1, ?c2, ?c3⟩ ?rm ?bi ?lo ?ce ?_; (case fs => exact rfl); (case fo => exact rfl); (case fk => assumption); (case b => k_asm); (case f => k_asm); (case x => k_asm); (case t => k_asm); (case o => k_is); (case cd => k_is); (case rm => ktr_room); (case bi => exact BindsTo.of_eq rfl); (case ce => decide); (case lo => exact locs rfl); (case c1 => exact rfl); (case c2 => exact rfl); (case c3 => exact rfl); k_whole; intro L' h' F' N' B' X' T'; dsimp only [Runs]; (try k_fold))
  k_with "InvEndN" => (k_dflt kst_close)
  k_with "call ref" => (k_here; (with_reducible show wpAny _ _ (call (Value.ref 277) _) _ _ _); k_dflt (refine' tellsN_use ?k1 ?k2 ?k3 ?k4 ?k5 ?kK ?kR (T_neg _ _ _ _ _ _ _) trivial ?kd ?ku ?_; (case k1 => k_asm); (case k2 => k_asm); (case k3 => k_asm); (case k4 => k_asm); (case k5 => k_asm); (case kK => first | exact rfl | assumption); (case kR => exact op_neg); (case kd => ktr_room); (case ku => ktr_units); intro r9 tl9 h9 tk9 F9 N9 hl9 ht9 ho9; (subst ht9; clear hl9); (try simp only [List.nil_append, List.cons_append, List.append_nil, List.append_assoc] at N9); (refine Exists.elim ho9 ?_; clear ho9; intro t9 e9; subst e9); (try dsimp only); (try k_fold)))
  k_with "call ref" => (k_here; (with_reducible show wpAny _ _ (call (Value.ref 249) _) _ _ _); k_dflt (refine' tellsN_use ?k1 ?k2 ?k3 ?k4 ?k5 ?kK ?kR (T_add _ _ _ _ _ _ _) trivial ?kd ?ku ?_; (case k1 => k_asm); (case k2 => k_asm); (case k3 => k_asm); (case k4 => k_asm); (case k5 => k_asm); (case kK => first | exact rfl | assumption); (case kR => exact op_add); (case kd => ktr_room); (case ku => ktr_units); intro r9 tl9 h9 tk9 F9 N9 hl9 ht9 ho9; (subst ht9; clear hl9); (try simp only [List.nil_append, List.cons_append, List.append_nil, List.append_assoc] at N9); (refine Exists.elim ho9 ?_; clear ho9; intro t9 e9; subst e9); (try dsimp only); (try k_fold)))
  k_with "call ref" => (k_here; (with_reducible show wpAny _ _ (call (Value.ref 284) _) _ _ _); k_dflt (refine' tellsN_use ?k1 ?k2 ?k3 ?k4 ?k5 ?kK ?kR (T_sub _ _ _ _ _ _ _) trivial ?kd ?ku ?_; (case k1 => k_asm); (case k2 => k_asm); (case k3 => k_asm); (case k4 => k_asm); (case k5 => k_asm); (case kK => first | exact rfl | assumption); (case kR => exact op_sub); (case kd => ktr_room); (case ku => ktr_units); intro r9 tl9 h9 tk9 F9 N9 hl9 ht9 ho9; (subst ht9; clear hl9); (try simp only [List.nil_append, List.cons_append, List.append_nil, List.append_assoc] at N9); (refine Exists.elim ho9 ?_; clear ho9; intro t9 e9; subst e9); (try dsimp only); (try k_fold)))
  k_with "call ref" => (k_here; (with_reducible show wpAny _ _ (call (Value.ref 270) _) _ _ _); k_dflt (refine' tellsN_use ?k1 ?k2 ?k3 ?k4 ?k5 ?kK ?kR (T_mul _ _ _ _ _ _ _) trivial ?kd ?ku ?_; (case k1 => k_asm); (case k2 => k_asm); (case k3 => k_asm); (case k4 => k_asm); (case k5 => k_asm); (case kK => first | exact rfl | assumption); (case kR => exact op_mul (mul_ok (by assumption) (by assumption) hb'.1 hb'.2)); (case kd => ktr_room); (case ku => ktr_units); intro r9 tl9 h9 tk9 F9 N9 hl9 ht9 ho9; (subst ht9; clear hl9); (try simp only [List.nil_append, List.cons_append, List.append_nil, List.append_assoc] at N9); (refine Exists.elim ho9 ?_; clear ho9; intro t9 e9; subst e9); (try dsimp only); (try k_fold)))
  k_with "call ref" => (k_here; (with_reducible show wpAny _ _ (call (Value.ref 263) _) _ _ _); k_dflt (refine' tellsN_use ?k1 ?k2 ?k3 ?k4 ?k5 ?kK ?kR (T_floordiv _ _ _ _ _ _ _) trivial ?kd ?ku ?_; (case k1 => k_asm); (case k2 => k_asm); (case k3 => k_asm); (case k4 => k_asm); (case k5 => k_asm); (case kK => first | exact rfl | assumption); (case kR => exact op_fdiv ⟨by omega, by omega, hb'.1, hb'.2⟩); (case kd => ktr_room); (case ku => ktr_units); intro r9 tl9 h9 tk9 F9 N9 hl9 ht9 ho9; (subst ht9; clear hl9); (try simp only [List.nil_append, List.cons_append, List.append_nil, List.append_assoc] at N9); (refine Exists.elim ho9 ?_; clear ho9; intro t9 e9; subst e9); (try dsimp only); (try k_fold)))
  k_with "pyIter ref" => (k_here; k_dflt ((rename Fr _ _ _ _ => lF'); (rename News _ _ _ _ => lN'); (refine' tup_loop [Str.ofString "here", Str.ofString "there"] (fun pre out => out = pre.map fun k => blk k r q) (by rfl) ?kt ?ki lF' ?kn ?kd ?kl ?kp (fun c' pre' n' t' u' h' tk' own' hmem' hlt' hoff' hfa' hP' F' N' => ?_) (fun c' u' h' tk' hfa' hP' F' N' => ?_)); (case kt => exact ⟨_, (lN' _ (by k_mem)).1, rfl, _, rfl⟩); (case ki => exact .cons 1 _ (.cons 2 _ (.cons 4 _ (.cons 8 _ .nil)))); (case kn => exact kst_newsOf lN' (fun p hp => by rw [List.mem_singleton.mp hp]; k_mem)); (case kd => k_ne); (case kl => exact Ne.symm (lN' _ (by k_mem)).2.1); (case kp => rfl); clear lF' lN'; (all_goals (rcases c' with ⟨ys', out', k9'⟩; (try dsimp only at F' N' hfa' hP'))); rotate_left; (subst hP'; (have hz' : IntsAre ys' [blk 1 r q, blk 2 r q, blk 4 r q, blk 8 r q] := hfa'); clear hfa'; cases hz'; (rename IntsAre _ [_, _, _] => hz'; cases hz'); (rename IntsAre _ [_, _] => hz'; cases hz'); (rename IntsAre _ [_] => hz'; cases hz'); (rename IntsAre _ [] => hz'; cases hz')); rotate_left; (have hb' := blk_mem hmem'); (have kMark : KstMark := kstMark); (have kLen := IntsAre.length hfa'); (have kLen2 : out'.length ≤ 4 := by rw [hP', List.length_map]; exact Nat.le_of_lt hlt')))
  k_with "exec For Name Tuple cons nil" => (k_here; (rename Fr _ _ _ _ => lF'); (with_unfolding_all refine' For_invVF lF' ?k1 ?k2 ?_; (case k1 => exact rfl); (case k2 => exact rfl); k_whole))
  k_with "state" => exact blk_step (by assumption)
  refine wpAny_call ?_
  k_dflt (k_extra "enter base")
  k_steps
  all_goals (
    rename Fr _ _ _ _ => F9
    (rename _ ∨ _ => a9)
    (rename _ ≤ _ ∧ _ => b9)
    rw [blk_hs ha ha' hb hb' a9 b9]
    exact h _ _ _ F9.keep)
end Mine
namespace Mine
open PySem.Calls
def leastG (i : Int) (l : List Int) (j : Int) : List Int := if Builtin.bitAnd i j = 0 then l ++ [i + j] else l
def leastS (r q : Nat) : List Int := (rangeKs 0 r).foldl (fun a k => (rangeKs 0 q).foldl (leastG k) a) []
def leastOk : Bool := (List.range 6).all fun r => (List.range 6).all fun q => !(leastS (r + 1) (q + 1)).contains ((hs (r + 1) (q + 1) : Nat) : Int) && (List.range (hs (r + 1) (q + 1))).all (fun v => (leastS (r + 1) (q + 1)).contains (v : Int)) && decide ((leastS (r + 1) (q + 1)).length ≤ 36) && decide (hs (r + 1) (q + 1) ≤ (leastS (r + 1) (q + 1)).length)
theorem leastOk_true : leastOk = true := by decide +kernel
theorem least_facts {r q : Nat} (h1 : 1 ≤ r) (h2 : r ≤ 6) (h3 : 1 ≤ q) (h4 : q ≤ 6) : ((hs r q : Nat) : Int) ∉ leastS r q ∧ (∀ v : Nat, v < hs r q → (v : Int) ∈ leastS r q) ∧ (leastS r q).length ≤ 36 ∧ hs r q ≤ (leastS r q).length := by
  have h := leastOk_true
  simp only [leastOk, List.all_eq_true, List.mem_range, Bool.and_eq_true, decide_eq_true_eq, Bool.not_eq_true', List.contains_iff_mem] at h
  have := h (r - 1) (by omega) (q - 1) (by omega)
  rw [Nat.sub_add_cancel h1, Nat.sub_add_cancel h3] at this
  exact ⟨fun q => by rw [List.contains_iff_mem.mpr q] at this; exact absurd this.1.1.1 (by simp), this.1.1.2, this.1.2, this.2⟩
/-- a number that isn't there, with all below it there, is the least -/
theorem least_ret {r q : Nat} (h1 : 1 ≤ r) (h2 : r ≤ 6) (h3 : 1 ≤ q) (h4 : q ≤ 6) {pre S : List Int} {n : Int} (hS : S = leastS r q) (hn : n = 0 + (pre.length : Int)) (hp : pre = rangeKs 0 pre.length) (hpre : ∀ v ∈ pre, v ∈ S) (ho : (S.any fun x => x == n) = false) : n = ((hs r q : Nat) : Int) := by
  obtain ⟨a, b, _, _⟩ := least_facts h1 h2 h3 h4
  subst hS
  have hno : n ∉ leastS r q := fun hm => by
    rw [← Bool.not_eq_true] at ho
    exact ho (List.any_eq_true.mpr ⟨n, hm, by simp⟩)
  have h5 : ¬ pre.length < hs r q := fun hlt => hno (by rw [hn, Int.zero_add]; exact b _ hlt)
  have h6 : ¬ hs r q < pre.length := fun hlt => a (hpre _ (by
    rw [hp]
    unfold rangeKs
    exact List.mem_map.mpr ⟨hs r q, List.mem_range.mpr hlt, Int.zero_add _⟩))
  omega
theorem least_step {pre S : List Int} {n : Int} {P : Prop} (hn : n = 0 + (pre.length : Int)) (h : P ∧ pre = rangeKs 0 pre.length ∧ ∀ v ∈ pre, v ∈ S) (ho : (S.any fun x => x == n) = true) : P ∧ pre ++ [n] = rangeKs 0 (pre ++ [n]).length ∧ ∀ v ∈ pre ++ [n], v ∈ S := by
  refine ⟨h.1, ?_, fun v hv => ?_⟩
  · rw [List.length_append, List.length_singleton]
    unfold rangeKs
    rw [List.range_succ, List.map_append, List.map_singleton, hn]
    congr 1
    exact h.2.1
  · rcases List.mem_append.mp hv with hv | hv
    · exact h.2.2 v hv
    · obtain ⟨x, hx, e⟩ := List.any_eq_true.mp ho
      rw [List.mem_singleton.mp hv, ← eq_of_beq e]
      exact hx
theorem least_step' {pre S : List Int} {n : Int} {P : Prop} (h1 : P) (h2 : pre = rangeKs 0 pre.length) (h3 : ∀ v ∈ pre, v ∈ S) (hn : n = 0 + (pre.length : Int)) (ho : (S.any fun x => x == n) = true) : P ∧ pre ++ [n] = rangeKs 0 (pre ++ [n]).length ∧ ∀ v ∈ pre ++ [n], v ∈ S := least_step hn ⟨h1, h2, h3⟩ ho
theorem leastG_pos {i j : Int} {l : List Int} (h : Builtin.bitAnd i j = 0) : leastG i l j = l ++ [i + j] := if_pos h
theorem leastG_neg {i j : Int} {l : List Int} (h : Builtin.bitAnd i j ≠ 0) : leastG i l j = l := if_neg h
theorem least_start {S : List Int} {P : Prop} (h : P) : P ∧ ([] : List Int) = rangeKs 0 ([] : List Int).length ∧ ∀ v ∈ ([] : List Int), v ∈ S := ⟨h, rfl, fun _ h => nomatch h⟩
theorem least_end {r q n : Nat} (h1 : 1 ≤ r) (h2 : r ≤ 6) (h3 : 1 ≤ q) (h4 : q ≤ 6) {S : List Int} (h : ∀ v ∈ rangeKs 0 n, v ∈ S) (hS : S = leastS r q) (hn : n = S.length + 1) : False := by
  obtain ⟨a, b, _, d⟩ := least_facts h1 h2 h3 h4
  subst hS
  refine a (h _ ?_)
  unfold rangeKs
  exact List.mem_map.mpr ⟨hs r q, List.mem_range.mpr (by omega), Int.zero_add _⟩
theorem C_least {w : World} {dp un : Nat} {gd : Option (List Code)} {cn : Str} {cs : Scope} {ac : Addr} {ccd : Value} {cl : List (Str × Addr)} {outer : List Env} {A₀ : Around} {base h₀ : Heap} {L : Addr} {m mg mb : Str → Option Value} {s : Shared} {Q E : Value → Shared → Prop}
    {p : Program} {loose : List Str} {mean : ExcName → Option Value} {r q : Nat} {t u : Tok}
    (B : Below A₀ base outer h₀) (F : Fr h₀ L s.heap m) (X : (Mine.base.heap_1 w.params).In h₀) (T : Top p loose mean mg mb h₀) (hk : cs.kind = .function) (hd : dp + 6 < recursionLimit) (hu : un + 60 < cLine)
    (ha : 1 ≤ r) (ha' : r ≤ 6) (hb : 1 ≤ q) (hb' : q ≤ 6)
    (h : ∀ k h' tk', (∀ b o, s.heap.get? b = some o → h'.get? b = some o) → Q (.int (hs r q : Nat) k) { s with heap := h', toks := tk' }) :
    wpAny (model PySem.Challenge.rw_wk0021_01.row.prog w) (ktrTop dp un gd cn cs L ac ccd cl outer) (call (.ref 358) [.int (r : Nat) t, .int (q : Nat) u]) Q E s := by
  revert B F X
  k_fill
  intro B F X
  have dI9 : IntsAre [] [] := .nil
  k_with_none
  k_with "ne" => (refine neN ?_; (try dsimp only); first | (with_reducible first | assumption | exact Ne.symm (by assumption) | exact Nat.ne_of_lt (by assumption) | exact Nat.ne_of_gt (by assumption) | ((rename (_ ≠ _ ∧ _) => h9); (first | exact h9.1 | exact h9.2.1 | exact h9.2 | exact h9.2.2.1 | exact h9.2.2 | exact h9.2.2.2.1 | exact h9.2.2.2 | exact h9.2.2.2.2.1 | exact h9.2.2.2.2 | exact h9.2.2.2.2.2.1 | exact h9.2.2.2.2.2 | exact Ne.symm h9.1 | exact Ne.symm h9.2.1 | exact Ne.symm h9.2 | exact Ne.symm h9.2.2.1 | exact Ne.symm h9.2.2 | exact Ne.symm h9.2.2.2.1 | exact Ne.symm h9.2.2.2 | exact Ne.symm h9.2.2.2.2.1 | exact Ne.symm h9.2.2.2.2 | exact Ne.symm h9.2.2.2.2.2.1 | exact Ne.symm h9.2.2.2.2.2)) | ((rename (_ ≠ _ ∧ _) => h9); clear h9; (rename (_ ≠ _ ∧ _) => h9); (first | exact h9.1 | exact h9.2.1 | exact h9.2 | exact h9.2.2.1 | exact h9.2.2 | exact h9.2.2.2.1 | exact h9.2.2.2 | exact h9.2.2.2.2.1 | exact h9.2.2.2.2 | exact h9.2.2.2.2.2.1 | exact h9.2.2.2.2.2 | exact Ne.symm h9.1 | exact Ne.symm h9.2.1 | exact Ne.symm h9.2 | exact Ne.symm h9.2.2.1 | exact Ne.symm h9.2.2 | exact Ne.symm h9.2.2.2.1 | exact Ne.symm h9.2.2.2 | exact Ne.symm h9.2.2.2.2.1 | exact Ne.symm h9.2.2.2.2 | exact Ne.symm h9.2.2.2.2.2.1 | exact Ne.symm h9.2.2.2.2.2)) | ((rename (_ ≠ _ ∧ _) => h9); clear h9; (rename (_ ≠ _ ∧ _) => h9); clear h9; (rename (_ ≠ _ ∧ _) => h9); (first | exact h9.1 | exact h9.2.1 | exact h9.2 | exact h9.2.2.1 | exact h9.2.2 | exact h9.2.2.2.1 | exact h9.2.2.2 | exact h9.2.2.2.2.1 | exact h9.2.2.2.2 | exact h9.2.2.2.2.2.1 | exact h9.2.2.2.2.2 | exact Ne.symm h9.1 | exact Ne.symm h9.2.1 | exact Ne.symm h9.2 | exact Ne.symm h9.2.2.1 | exact Ne.symm h9.2.2 | exact Ne.symm h9.2.2.2.1 | exact Ne.symm h9.2.2.2 | exact Ne.symm h9.2.2.2.2.1 | exact Ne.symm h9.2.2.2.2 | exact Ne.symm h9.2.2.2.2.2.1 | exact Ne.symm h9.2.2.2.2.2)) | ((rename ((_ ∧ _) ∧ _) => h9); (first | exact h9.1.1 | exact h9.1 | exact h9.1.2.1 | exact h9.2.1 | exact h9.1.2.2 | exact h9.2.2 | exact h9.2.1.1 | exact h9.2.1 | exact h9.2.1.2.1 | exact h9.2.2.1 | exact h9.2.1.2.2 | exact h9.2.2.2 | exact h9.2.2.1.1 | exact h9.2.2.1 | exact h9.2.2.1.2.1 | exact h9.2.2.2.1 | exact h9.2.2.1.2.2 | exact h9.2.2.2.2 | exact h9.2.2.2.1.1 | exact h9.2.2.2.1 | exact h9.2.2.2.1.2.1 | exact h9.2.2.2.2.1 | exact h9.2.2.2.1.2.2 | exact h9.2.2.2.2.2 | exact h9.2.2.2.2.1.1 | exact h9.2.2.2.2.1 | exact h9.2.2.2.2.1.2.1 | exact h9.2.2.2.2.2.1 | exact h9.2.2.2.2.1.2.2 | exact h9.2.2.2.2.2.2 | exact h9.2.2.2.2.2.1.1 | exact h9.2.2.2.2.2.1 | exact h9.2.2.2.2.2.1.2.1 | exact h9.2.2.2.2.2.2.1 | exact h9.2.2.2.2.2.1.2.2 | exact h9.2.2.2.2.2.2.2 | exact h9.2.2.2.2.2.2.1.1 | exact h9.2.2.2.2.2.2.1 | exact h9.2.2.2.2.2.2.1.2.1 | exact h9.2.2.2.2.2.2.2.1 | exact h9.2.2.2.2.2.2.1.2.2 | exact h9.2.2.2.2.2.2.2.2 | exact h9.2.2.2.2.2.2.2.1.1 | exact h9.2.2.2.2.2.2.2.1 | exact h9.2.2.2.2.2.2.2.1.2.1 | exact h9.2.2.2.2.2.2.2.2.1 | exact h9.2.2.2.2.2.2.2.1.2.2 | exact h9.2.2.2.2.2.2.2.2.2 | exact h9.2.2.2.2.2.2.2.2.1.1 | exact h9.2.2.2.2.2.2.2.2.1 | exact h9.2.2.2.2.2.2.2.2.1.2.1 | exact h9.2.2.2.2.2.2.2.2.2.1 | exact h9.2.2.2.2.2.2.2.2.1.2.2 | exact h9.2.2.2.2.2.2.2.2.2.2 | exact Ne.symm h9.1.1 | exact Ne.symm h9.1 | exact Ne.symm h9.1.2.1 | exact Ne.symm h9.2.1 | exact Ne.symm h9.1.2.2 | exact Ne.symm h9.2.2 | exact Ne.symm h9.2.1.1 | exact Ne.symm h9.2.1 | exact Ne.symm h9.2.1.2.1 | exact Ne.symm h9.2.2.1 | exact Ne.symm h9.2.1.2.2 | exact Ne.symm h9.2.2.2 | exact Ne.symm h9.2.2.1.1 | exact Ne.symm h9.2.2.1 | exact Ne.symm h9.2.2.1.2.1 | exact Ne.symm h9.2.2.2.1 | exact Ne.symm h9.2.2.1.2.2 | exact Ne.symm h9.2.2.2.2 | exact Ne.symm h9.2.2.2.1.1 | exact Ne.symm h9.2.2.2.1 | exact Ne.symm h9.2.2.2.1.2.1 | exact Ne.symm h9.2.2.2.2.1 | exact Ne.symm h9.2.2.2.1.2.2 | exact Ne.symm h9.2.2.2.2.2 | exact Ne.symm h9.2.2.2.2.1.1 | exact Ne.symm h9.2.2.2.2.1 | exact Ne.symm h9.2.2.2.2.1.2.1 | exact Ne.symm h9.2.2.2.2.2.1 | exact Ne.symm h9.2.2.2.2.1.2.2 | exact Ne.symm h9.2.2.2.2.2.2 | exact Ne.symm h9.2.2.2.2.2.1.1 | exact Ne.symm h9.2.2.2.2.2.1 | exact Ne.symm h9.2.2.2.2.2.1.2.1 | exact Ne.symm h9.2.2.2.2.2.2.1 | exact Ne.symm h9.2.2.2.2.2.1.2.2 | exact Ne.symm h9.2.2.2.2.2.2.2 | exact Ne.symm h9.2.2.2.2.2.2.1.1 | exact Ne.symm h9.2.2.2.2.2.2.1 | exact Ne.symm h9.2.2.2.2.2.2.1.2.1 | exact Ne.symm h9.2.2.2.2.2.2.2.1 | exact Ne.symm h9.2.2.2.2.2.2.1.2.2 | exact Ne.symm h9.2.2.2.2.2.2.2.2 | exact Ne.symm h9.2.2.2.2.2.2.2.1.1 | exact Ne.symm h9.2.2.2.2.2.2.2.1 | exact Ne.symm h9.2.2.2.2.2.2.2.1.2.1 | exact Ne.symm h9.2.2.2.2.2.2.2.2.1 | exact Ne.symm h9.2.2.2.2.2.2.2.1.2.2 | exact Ne.symm h9.2.2.2.2.2.2.2.2.2 | exact Ne.symm h9.2.2.2.2.2.2.2.2.1.1 | exact Ne.symm h9.2.2.2.2.2.2.2.2.1 | exact Ne.symm h9.2.2.2.2.2.2.2.2.1.2.1 | exact Ne.symm h9.2.2.2.2.2.2.2.2.2.1 | exact Ne.symm h9.2.2.2.2.2.2.2.2.1.2.2 | exact Ne.symm h9.2.2.2.2.2.2.2.2.2.2)) | ((rename ((_ ∧ _) ∧ _) => h9); clear h9; (rename ((_ ∧ _) ∧ _) => h9); (first | exact h9.1.1 | exact h9.1 | exact h9.1.2.1 | exact h9.2.1 | exact h9.1.2.2 | exact h9.2.2 | exact h9.2.1.1 | exact h9.2.1 | exact h9.2.1.2.1 | exact h9.2.2.1 | exact h9.2.1.2.2 | exact h9.2.2.2 | exact h9.2.2.1.1 | exact h9.2.2.1 | exact h9.2.2.1.2.1 | exact h9.2.2.2.1 | exact h9.2.2.1.2.2 | exact h9.2.2.2.2 | exact h9.2.2.2.1.1 | exact h9.2.2.2.1 | exact h9.2.2.2.1.2.1 | exact h9.2.2.2.2.1 | exact h9.2.2.2.1.2.2 | exact h9.2.2.2.2.2 | exact h9.2.2.2.2.1.1 | exact h9.2.2.2.2.1 | exact h9.2.2.2.2.1.2.1 | exact h9.2.2.2.2.2.1 | exact h9.2.2.2.2.1.2.2 | exact h9.2.2.2.2.2.2 | exact h9.2.2.2.2.2.1.1 | exact h9.2.2.2.2.2.1 | exact h9.2.2.2.2.2.1.2.1 | exact h9.2.2.2.2.2.2.1 | exact h9.2.2.2.2.2.1.2.2 | exact h9.2.2.2.2.2.2.2 | exact h9.2.2.2.2.2.2.1.1 | exact h9.2.2.2.2.2.2.1 | exact h9.2.2.2.2.2.2.1.2.1 | exact h9.2.2.2.2.2.2.2.1 | exact h9.2.2.2.2.2.2.1.2.2 | exact h9.2.2.2.2.2.2.2.2 | exact h9.2.2.2.2.2.2.2.1.1 | exact h9.2.2.2.2.2.2.2.1 | exact h9.2.2.2.2.2.2.2.1.2.1 | exact h9.2.2.2.2.2.2.2.2.1 | exact h9.2.2.2.2.2.2.2.1.2.2 | exact h9.2.2.2.2.2.2.2.2.2 | exact h9.2.2.2.2.2.2.2.2.1.1 | exact h9.2.2.2.2.2.2.2.2.1 | exact h9.2.2.2.2.2.2.2.2.1.2.1 | exact h9.2.2.2.2.2.2.2.2.2.1 | exact h9.2.2.2.2.2.2.2.2.1.2.2 | exact h9.2.2.2.2.2.2.2.2.2.2 | exact Ne.symm h9.1.1 | exact Ne.symm h9.1 | exact Ne.symm h9.1.2.1 | exact Ne.symm h9.2.1 | exact Ne.symm h9.1.2.2 | exact Ne.symm h9.2.2 | exact Ne.symm h9.2.1.1 | exact Ne.symm h9.2.1 | exact Ne.symm h9.2.1.2.1 | exact Ne.symm h9.2.2.1 | exact Ne.symm h9.2.1.2.2 | exact Ne.symm h9.2.2.2 | exact Ne.symm h9.2.2.1.1 | exact Ne.symm h9.2.2.1 | exact Ne.symm h9.2.2.1.2.1 | exact Ne.symm h9.2.2.2.1 | exact Ne.symm h9.2.2.1.2.2 | exact Ne.symm h9.2.2.2.2 | exact Ne.symm h9.2.2.2.1.1 | exact Ne.symm h9.2.2.2.1 | exact Ne.symm h9.2.2.2.1.2.1 | exact Ne.symm h9.2.2.2.2.1 | exact Ne.symm h9.2.2.2.1.2.2 | exact Ne.symm h9.2.2.2.2.2 | exact Ne.symm h9.2.2.2.2.1.1 | exact Ne.symm h9.2.2.2.2.1 | exact Ne.symm h9.2.2.2.2.1.2.1 | exact Ne.symm h9.2.2.2.2.2.1 | exact Ne.symm h9.2.2.2.2.1.2.2 | exact Ne.symm h9.2.2.2.2.2.2 | exact Ne.symm h9.2.2.2.2.2.1.1 | exact Ne.symm h9.2.2.2.2.2.1 | exact Ne.symm h9.2.2.2.2.2.1.2.1 | exact Ne.symm h9.2.2.2.2.2.2.1 | exact Ne.symm h9.2.2.2.2.2.1.2.2 | exact Ne.symm h9.2.2.2.2.2.2.2 | exact Ne.symm h9.2.2.2.2.2.2.1.1 | exact Ne.symm h9.2.2.2.2.2.2.1 | exact Ne.symm h9.2.2.2.2.2.2.1.2.1 | exact Ne.symm h9.2.2.2.2.2.2.2.1 | exact Ne.symm h9.2.2.2.2.2.2.1.2.2 | exact Ne.symm h9.2.2.2.2.2.2.2.2 | exact Ne.symm h9.2.2.2.2.2.2.2.1.1 | exact Ne.symm h9.2.2.2.2.2.2.2.1 | exact Ne.symm h9.2.2.2.2.2.2.2.1.2.1 | exact Ne.symm h9.2.2.2.2.2.2.2.2.1 | exact Ne.symm h9.2.2.2.2.2.2.2.1.2.2 | exact Ne.symm h9.2.2.2.2.2.2.2.2.2 | exact Ne.symm h9.2.2.2.2.2.2.2.2.1.1 | exact Ne.symm h9.2.2.2.2.2.2.2.2.1 | exact Ne.symm h9.2.2.2.2.2.2.2.2.1.2.1 | exact Ne.symm h9.2.2.2.2.2.2.2.2.2.1 | exact Ne.symm h9.2.2.2.2.2.2.2.2.1.2.2 | exact Ne.symm h9.2.2.2.2.2.2.2.2.2.2)) | ((rename (_ < _ ∧ _) => h9); (first | exact Nat.ne_of_lt h9.1 | exact Nat.ne_of_lt h9.2.1 | exact Nat.ne_of_lt h9.2 | exact Nat.ne_of_lt h9.2.2.1 | exact Nat.ne_of_lt h9.2.2 | exact Nat.ne_of_lt h9.2.2.2.1 | exact Nat.ne_of_lt h9.2.2.2 | exact Nat.ne_of_lt h9.2.2.2.2.1 | exact Nat.ne_of_lt h9.2.2.2.2 | exact Nat.ne_of_lt h9.2.2.2.2.2.1 | exact Nat.ne_of_lt h9.2.2.2.2.2 | exact Nat.ne_of_gt h9.1 | exact Nat.ne_of_gt h9.2.1 | exact Nat.ne_of_gt h9.2 | exact Nat.ne_of_gt h9.2.2.1 | exact Nat.ne_of_gt h9.2.2 | exact Nat.ne_of_gt h9.2.2.2.1 | exact Nat.ne_of_gt h9.2.2.2 | exact Nat.ne_of_gt h9.2.2.2.2.1 | exact Nat.ne_of_gt h9.2.2.2.2 | exact Nat.ne_of_gt h9.2.2.2.2.2.1 | exact Nat.ne_of_gt h9.2.2.2.2.2)) | ((rename (_ < _ ∧ _) => h9); clear h9; (rename (_ < _ ∧ _) => h9); (first | exact Nat.ne_of_lt h9.1 | exact Nat.ne_of_lt h9.2.1 | exact Nat.ne_of_lt h9.2 | exact Nat.ne_of_lt h9.2.2.1 | exact Nat.ne_of_lt h9.2.2 | exact Nat.ne_of_lt h9.2.2.2.1 | exact Nat.ne_of_lt h9.2.2.2 | exact Nat.ne_of_lt h9.2.2.2.2.1 | exact Nat.ne_of_lt h9.2.2.2.2 | exact Nat.ne_of_lt h9.2.2.2.2.2.1 | exact Nat.ne_of_lt h9.2.2.2.2.2 | exact Nat.ne_of_gt h9.1 | exact Nat.ne_of_gt h9.2.1 | exact Nat.ne_of_gt h9.2 | exact Nat.ne_of_gt h9.2.2.1 | exact Nat.ne_of_gt h9.2.2 | exact Nat.ne_of_gt h9.2.2.2.1 | exact Nat.ne_of_gt h9.2.2.2 | exact Nat.ne_of_gt h9.2.2.2.2.1 | exact Nat.ne_of_gt h9.2.2.2.2 | exact Nat.ne_of_gt h9.2.2.2.2.2.1 | exact Nat.ne_of_gt h9.2.2.2.2.2)) | ((rename (_ < _ ∧ _) => h9); clear h9; (rename (_ < _ ∧ _) => h9); clear h9; (rename (_ < _ ∧ _) => h9); (first | exact Nat.ne_of_lt h9.1 | exact Nat.ne_of_lt h9.2.1 | exact Nat.ne_of_lt h9.2 | exact Nat.ne_of_lt h9.2.2.1 | exact Nat.ne_of_lt h9.2.2 | exact Nat.ne_of_lt h9.2.2.2.1 | exact Nat.ne_of_lt h9.2.2.2 | exact Nat.ne_of_lt h9.2.2.2.2.1 | exact Nat.ne_of_lt h9.2.2.2.2 | exact Nat.ne_of_lt h9.2.2.2.2.2.1 | exact Nat.ne_of_lt h9.2.2.2.2.2 | exact Nat.ne_of_gt h9.1 | exact Nat.ne_of_gt h9.2.1 | exact Nat.ne_of_gt h9.2 | exact Nat.ne_of_gt h9.2.2.1 | exact Nat.ne_of_gt h9.2.2 | exact Nat.ne_of_gt h9.2.2.2.1 | exact Nat.ne_of_gt h9.2.2.2 | exact Nat.ne_of_gt h9.2.2.2.2.1 | exact Nat.ne_of_gt h9.2.2.2.2 | exact Nat.ne_of_gt h9.2.2.2.2.2.1 | exact Nat.ne_of_gt h9.2.2.2.2.2)) | ((rename (_ < _ ∧ _) => h9); clear h9; (rename (_ < _ ∧ _) => h9); clear h9; (rename (_ < _ ∧ _) => h9); clear h9; (rename (_ < _ ∧ _) => h9); (first | exact Nat.ne_of_lt h9.1 | exact Nat.ne_of_lt h9.2.1 | exact Nat.ne_of_lt h9.2 | exact Nat.ne_of_lt h9.2.2.1 | exact Nat.ne_of_lt h9.2.2 | exact Nat.ne_of_lt h9.2.2.2.1 | exact Nat.ne_of_lt h9.2.2.2 | exact Nat.ne_of_lt h9.2.2.2.2.1 | exact Nat.ne_of_lt h9.2.2.2.2 | exact Nat.ne_of_lt h9.2.2.2.2.2.1 | exact Nat.ne_of_lt h9.2.2.2.2.2 | exact Nat.ne_of_gt h9.1 | exact Nat.ne_of_gt h9.2.1 | exact Nat.ne_of_gt h9.2 | exact Nat.ne_of_gt h9.2.2.1 | exact Nat.ne_of_gt h9.2.2 | exact Nat.ne_of_gt h9.2.2.2.1 | exact Nat.ne_of_gt h9.2.2.2 | exact Nat.ne_of_gt h9.2.2.2.2.1 | exact Nat.ne_of_gt h9.2.2.2.2 | exact Nat.ne_of_gt h9.2.2.2.2.2.1 | exact Nat.ne_of_gt h9.2.2.2.2.2))) | ((repeat ((rename (_ ≠ _ ∧ _) => h9); clear h9)); (repeat ((rename ((_ ∧ _) ∧ _) => h9); clear h9)); (repeat ((rename (_ ≠ _) => h9); clear h9)); omega) | omega)
  k_with "facts" => exact ⟨by assumption, by assumption⟩
  k_with "call ref" => (k_here; refine wpAny_call ?_; k_dflt ((have kf9 : ScopeKind.function = ScopeKind.function := rfl); ktr_enter; (rename_i g' L' h' FG' F' N' B' X' T'); (try (have hl9' := stays_list (Fr.keep FG') (by with_reducible assumption)))))
  k_with "enter base" => (refine' code_baseC ⟨?b, ?f, ?x, ?t, ?fs, ?fo, ?fk⟩ ⟨?o, ?cd, ?c1, ?c2, ?c3⟩ ?rm ?bi ?lo ?nd ?_; (case fs => exact rfl); (case fo => exact rfl); (case fk => assumption); (case b => k_asm); (case f => k_asm); (case x => k_asm); (case t => k_asm); (case o => k_is); (case cd => k_is); (case rm => ktr_room); (case bi => exact BindsTo.of_eq rfl); (case nd => decide +kernel); (case lo => exact rfl); (case c1 => exact rfl); (case c2 => exact rfl); (case c3 => exact rfl); k_whole; intro L' h' tk' cells' F' N' Y' B' X' T'; k_cells Y'; (try simp only [List.cons_append, List.nil_append] at N'); dsimp only [Runs]; (try k_fold))
  k_with "InvEndN" => (k_dflt kst_close)
  k_with "call ref" => (k_here; (with_reducible show wpAny _ _ (call (Value.ref 249) _) _ _ _); k_dflt (refine' tellsN_use ?k1 ?k2 ?k3 ?k4 ?k5 ?kK ?kR (T_add _ _ _ _ _ _ _) trivial ?kd ?ku ?_; (case k1 => k_asm); (case k2 => k_asm); (case k3 => k_asm); (case k4 => k_asm); (case k5 => k_asm); (case kK => first | exact rfl | assumption); (case kR => exact op_add); (case kd => ktr_room); (case ku => ktr_units); intro r9 tl9 h9 tk9 F9 N9 hl9 ht9 ho9; (subst ht9; clear hl9); (try simp only [List.nil_append, List.cons_append, List.append_nil, List.append_assoc] at N9); (refine Exists.elim ho9 ?_; clear ho9; intro t9 e9; subst e9); (try dsimp only); (try k_fold)))
  k_with "exec Assign cons ListComp" => (k_here; k_dflt (refine Assign_lc2 (F₀ := by k_asm) ⟨by rfl, by with_unfolding_all rfl, by with_unfolding_all rfl, by decide, by rfl, by decide, by rfl, by rfl, by rfl⟩ (by rfl) (by decide) ?_))
  k_with "Src2" => (k_here; k_dflt (refine' ⟨_, _, _, _, r, q, _, leastG, rfl, by rfl, by k_asm, by k_asm, by assumption, by omega, by omega, fun i' t' I' oI' C' oC' D' m' ys' h' tk' E' hlo' hhi' hC' hx' F' N' off' ne' => ?_, fun i' t' j' tj' I' oI' I0' oI0' C' oC' D' m' ys' l' h' tk' E' hlo' hhi' hlo2' hhi2' hI' hC' hx' hx2' F' N' off' ne' => ?_, fun ys' hI' => ?_⟩; (all_goals (try simp only [LCg.Off3, and_true] at off')); rotate_left 2; (obtain ⟨S9, hS9⟩ : ∃ S, S = leastS r q := ⟨_, rfl⟩); (replace hI' : IntsAre ys' S9 := hS9 ▸ hI'); (have hlen9 : ys'.length = S9.length := IntsAre.length hI'); (have hb9 : S9.length ≤ 36 := hS9 ▸ (least_facts ha ha' hb hb').2.2.1); rotate_right 2))
  k_with "Src3" => (k_dflt (exact ⟨_, _, _, _, _, _, rfl, rfl, by k_asm, by k_asm, by assumption⟩))
  k_with "KCiEl" => exact kci_el (leastG_pos (by assumption)) rfl rfl
  k_with "KCiNo" => exact kci_no (leastG_neg (by assumption)) rfl
  k_with "call builtin:len" => (k_here; (with_reducible show wpAny _ _ (call (Value.builtin "len") [Value.ref _]) _ _ _); k_dflt (refine' kst_len ?k1 ?k2 ?k3 ?k4 ?_; (case k1 => k_asm); (case k2 => k_mem); (case k3 => exact hlen9); (case k4 => omega); k_whole))
  k_with "pyIter ref" => k_state (fun pre sums => sums = S9 ∧ pre = rangeKs 0 pre.length ∧ ∀ v ∈ pre, v ∈ sums) "sums"
  k_with "state" => first
    | exact least_start rfl
    | exact least_step' (by first | rfl | assumption) (by assumption) (by assumption) (by assumption) (by assumption)
  refine wpAny_call ?_
  k_dflt (k_extra "enter base")
  k_steps
  all_goals first
    | (exfalso; exact least_end ha ha' hb hb' (by assumption) (by assumption) (by omega))
    | ((rename Fr _ _ _ _ => F9); have e9 := least_ret ha ha' hb hb' (by assumption) (by assumption) (by assumption) (by assumption) (by assumption); rw [e9]; exact h _ _ _ F9.keep)
end Mine
namespace Mine
open PySem.Calls
theorem txt_fits {H : Int → Bool} {x : Str} {n : Nat} (h : x = txtL H n) (hn : n ≤ 16) : x.cps.size ≤ 4000 := by
  have h1 : x.length ≤ 16 * n := by rw [h]; exact len_txt H n
  have h2 : x.length = x.cps.size := rfl
  omega
theorem C_sums {w : World} {dp un : Nat} {gd : Option (List Code)} {cn : Str} {cs : Scope} {ac : Addr} {ccd : Value} {cl : List (Str × Addr)} {outer : List Env} {A₀ : Around} {base h₀ : Heap} {L : Addr} {m mg mb : Str → Option Value} {s : Shared} {Q E : Value → Shared → Prop}
    {p : Program} {loose : List Str} {mean : ExcName → Option Value} {a b : Addr} {vs ws : List Value} {ns ms : List Int}
    (B : Below A₀ base outer h₀) (F : Fr h₀ L s.heap m) (X : (Mine.base.heap_1 w.params).In h₀) (T : Top p loose mean mg mb h₀) (hk : cs.kind = .function) (hd : dp + 6 < recursionLimit) (hu : un + 60 < cLine)
    (hl : s.heap.IsList a vs.toArray) (hi : IntsAre vs ns) (hl2 : s.heap.IsList b ws.toArray) (hi2 : IntsAre ws ms) (hn : ns.length ≤ 100) (hm : ms.length ≤ 100) (h16 : Low16 ns) (g16 : Low16 ms)
    (h : ∀ D vs' n h' tk', (∀ b o, s.heap.get? b = some o → h'.get? b = some o) → s.heap.get? D = none → h'.get? D = some (listOf vs' n) → IntsAre vs'.toList (sumI (hitI ns ms)) → Q (.ref D) { s with heap := h', toks := tk' }) :
    wpAny (model PySem.Challenge.rw_wk0021_01.row.prog w) (ktrTop dp un gd cn cs L ac ccd cl outer) (call (.ref 353) [.ref a, .ref b]) Q E s := by
  revert B F X
  k_fill
  intro B F X
  have dI9 : IntsAre [] [] := .nil
  k_with_none
  k_with "ne" => (refine neN ?_; (try dsimp only); first | (with_reducible first | assumption | exact Ne.symm (by assumption) | exact Nat.ne_of_lt (by assumption) | exact Nat.ne_of_gt (by assumption) | ((rename (_ ≠ _ ∧ _) => h9); (first | exact h9.1 | exact h9.2.1 | exact h9.2 | exact h9.2.2.1 | exact h9.2.2 | exact h9.2.2.2.1 | exact h9.2.2.2 | exact h9.2.2.2.2.1 | exact h9.2.2.2.2 | exact h9.2.2.2.2.2.1 | exact h9.2.2.2.2.2 | exact Ne.symm h9.1 | exact Ne.symm h9.2.1 | exact Ne.symm h9.2 | exact Ne.symm h9.2.2.1 | exact Ne.symm h9.2.2 | exact Ne.symm h9.2.2.2.1 | exact Ne.symm h9.2.2.2 | exact Ne.symm h9.2.2.2.2.1 | exact Ne.symm h9.2.2.2.2 | exact Ne.symm h9.2.2.2.2.2.1 | exact Ne.symm h9.2.2.2.2.2)) | ((rename (_ ≠ _ ∧ _) => h9); clear h9; (rename (_ ≠ _ ∧ _) => h9); (first | exact h9.1 | exact h9.2.1 | exact h9.2 | exact h9.2.2.1 | exact h9.2.2 | exact h9.2.2.2.1 | exact h9.2.2.2 | exact h9.2.2.2.2.1 | exact h9.2.2.2.2 | exact h9.2.2.2.2.2.1 | exact h9.2.2.2.2.2 | exact Ne.symm h9.1 | exact Ne.symm h9.2.1 | exact Ne.symm h9.2 | exact Ne.symm h9.2.2.1 | exact Ne.symm h9.2.2 | exact Ne.symm h9.2.2.2.1 | exact Ne.symm h9.2.2.2 | exact Ne.symm h9.2.2.2.2.1 | exact Ne.symm h9.2.2.2.2 | exact Ne.symm h9.2.2.2.2.2.1 | exact Ne.symm h9.2.2.2.2.2)) | ((rename (_ ≠ _ ∧ _) => h9); clear h9; (rename (_ ≠ _ ∧ _) => h9); clear h9; (rename (_ ≠ _ ∧ _) => h9); (first | exact h9.1 | exact h9.2.1 | exact h9.2 | exact h9.2.2.1 | exact h9.2.2 | exact h9.2.2.2.1 | exact h9.2.2.2 | exact h9.2.2.2.2.1 | exact h9.2.2.2.2 | exact h9.2.2.2.2.2.1 | exact h9.2.2.2.2.2 | exact Ne.symm h9.1 | exact Ne.symm h9.2.1 | exact Ne.symm h9.2 | exact Ne.symm h9.2.2.1 | exact Ne.symm h9.2.2 | exact Ne.symm h9.2.2.2.1 | exact Ne.symm h9.2.2.2 | exact Ne.symm h9.2.2.2.2.1 | exact Ne.symm h9.2.2.2.2 | exact Ne.symm h9.2.2.2.2.2.1 | exact Ne.symm h9.2.2.2.2.2)) | ((rename ((_ ∧ _) ∧ _) => h9); (first | exact h9.1.1 | exact h9.1 | exact h9.1.2.1 | exact h9.2.1 | exact h9.1.2.2 | exact h9.2.2 | exact h9.2.1.1 | exact h9.2.1 | exact h9.2.1.2.1 | exact h9.2.2.1 | exact h9.2.1.2.2 | exact h9.2.2.2 | exact h9.2.2.1.1 | exact h9.2.2.1 | exact h9.2.2.1.2.1 | exact h9.2.2.2.1 | exact h9.2.2.1.2.2 | exact h9.2.2.2.2 | exact h9.2.2.2.1.1 | exact h9.2.2.2.1 | exact h9.2.2.2.1.2.1 | exact h9.2.2.2.2.1 | exact h9.2.2.2.1.2.2 | exact h9.2.2.2.2.2 | exact h9.2.2.2.2.1.1 | exact h9.2.2.2.2.1 | exact h9.2.2.2.2.1.2.1 | exact h9.2.2.2.2.2.1 | exact h9.2.2.2.2.1.2.2 | exact h9.2.2.2.2.2.2 | exact h9.2.2.2.2.2.1.1 | exact h9.2.2.2.2.2.1 | exact h9.2.2.2.2.2.1.2.1 | exact h9.2.2.2.2.2.2.1 | exact h9.2.2.2.2.2.1.2.2 | exact h9.2.2.2.2.2.2.2 | exact h9.2.2.2.2.2.2.1.1 | exact h9.2.2.2.2.2.2.1 | exact h9.2.2.2.2.2.2.1.2.1 | exact h9.2.2.2.2.2.2.2.1 | exact h9.2.2.2.2.2.2.1.2.2 | exact h9.2.2.2.2.2.2.2.2 | exact h9.2.2.2.2.2.2.2.1.1 | exact h9.2.2.2.2.2.2.2.1 | exact h9.2.2.2.2.2.2.2.1.2.1 | exact h9.2.2.2.2.2.2.2.2.1 | exact h9.2.2.2.2.2.2.2.1.2.2 | exact h9.2.2.2.2.2.2.2.2.2 | exact h9.2.2.2.2.2.2.2.2.1.1 | exact h9.2.2.2.2.2.2.2.2.1 | exact h9.2.2.2.2.2.2.2.2.1.2.1 | exact h9.2.2.2.2.2.2.2.2.2.1 | exact h9.2.2.2.2.2.2.2.2.1.2.2 | exact h9.2.2.2.2.2.2.2.2.2.2 | exact Ne.symm h9.1.1 | exact Ne.symm h9.1 | exact Ne.symm h9.1.2.1 | exact Ne.symm h9.2.1 | exact Ne.symm h9.1.2.2 | exact Ne.symm h9.2.2 | exact Ne.symm h9.2.1.1 | exact Ne.symm h9.2.1 | exact Ne.symm h9.2.1.2.1 | exact Ne.symm h9.2.2.1 | exact Ne.symm h9.2.1.2.2 | exact Ne.symm h9.2.2.2 | exact Ne.symm h9.2.2.1.1 | exact Ne.symm h9.2.2.1 | exact Ne.symm h9.2.2.1.2.1 | exact Ne.symm h9.2.2.2.1 | exact Ne.symm h9.2.2.1.2.2 | exact Ne.symm h9.2.2.2.2 | exact Ne.symm h9.2.2.2.1.1 | exact Ne.symm h9.2.2.2.1 | exact Ne.symm h9.2.2.2.1.2.1 | exact Ne.symm h9.2.2.2.2.1 | exact Ne.symm h9.2.2.2.1.2.2 | exact Ne.symm h9.2.2.2.2.2 | exact Ne.symm h9.2.2.2.2.1.1 | exact Ne.symm h9.2.2.2.2.1 | exact Ne.symm h9.2.2.2.2.1.2.1 | exact Ne.symm h9.2.2.2.2.2.1 | exact Ne.symm h9.2.2.2.2.1.2.2 | exact Ne.symm h9.2.2.2.2.2.2 | exact Ne.symm h9.2.2.2.2.2.1.1 | exact Ne.symm h9.2.2.2.2.2.1 | exact Ne.symm h9.2.2.2.2.2.1.2.1 | exact Ne.symm h9.2.2.2.2.2.2.1 | exact Ne.symm h9.2.2.2.2.2.1.2.2 | exact Ne.symm h9.2.2.2.2.2.2.2 | exact Ne.symm h9.2.2.2.2.2.2.1.1 | exact Ne.symm h9.2.2.2.2.2.2.1 | exact Ne.symm h9.2.2.2.2.2.2.1.2.1 | exact Ne.symm h9.2.2.2.2.2.2.2.1 | exact Ne.symm h9.2.2.2.2.2.2.1.2.2 | exact Ne.symm h9.2.2.2.2.2.2.2.2 | exact Ne.symm h9.2.2.2.2.2.2.2.1.1 | exact Ne.symm h9.2.2.2.2.2.2.2.1 | exact Ne.symm h9.2.2.2.2.2.2.2.1.2.1 | exact Ne.symm h9.2.2.2.2.2.2.2.2.1 | exact Ne.symm h9.2.2.2.2.2.2.2.1.2.2 | exact Ne.symm h9.2.2.2.2.2.2.2.2.2 | exact Ne.symm h9.2.2.2.2.2.2.2.2.1.1 | exact Ne.symm h9.2.2.2.2.2.2.2.2.1 | exact Ne.symm h9.2.2.2.2.2.2.2.2.1.2.1 | exact Ne.symm h9.2.2.2.2.2.2.2.2.2.1 | exact Ne.symm h9.2.2.2.2.2.2.2.2.1.2.2 | exact Ne.symm h9.2.2.2.2.2.2.2.2.2.2)) | ((rename ((_ ∧ _) ∧ _) => h9); clear h9; (rename ((_ ∧ _) ∧ _) => h9); (first | exact h9.1.1 | exact h9.1 | exact h9.1.2.1 | exact h9.2.1 | exact h9.1.2.2 | exact h9.2.2 | exact h9.2.1.1 | exact h9.2.1 | exact h9.2.1.2.1 | exact h9.2.2.1 | exact h9.2.1.2.2 | exact h9.2.2.2 | exact h9.2.2.1.1 | exact h9.2.2.1 | exact h9.2.2.1.2.1 | exact h9.2.2.2.1 | exact h9.2.2.1.2.2 | exact h9.2.2.2.2 | exact h9.2.2.2.1.1 | exact h9.2.2.2.1 | exact h9.2.2.2.1.2.1 | exact h9.2.2.2.2.1 | exact h9.2.2.2.1.2.2 | exact h9.2.2.2.2.2 | exact h9.2.2.2.2.1.1 | exact h9.2.2.2.2.1 | exact h9.2.2.2.2.1.2.1 | exact h9.2.2.2.2.2.1 | exact h9.2.2.2.2.1.2.2 | exact h9.2.2.2.2.2.2 | exact h9.2.2.2.2.2.1.1 | exact h9.2.2.2.2.2.1 | exact h9.2.2.2.2.2.1.2.1 | exact h9.2.2.2.2.2.2.1 | exact h9.2.2.2.2.2.1.2.2 | exact h9.2.2.2.2.2.2.2 | exact h9.2.2.2.2.2.2.1.1 | exact h9.2.2.2.2.2.2.1 | exact h9.2.2.2.2.2.2.1.2.1 | exact h9.2.2.2.2.2.2.2.1 | exact h9.2.2.2.2.2.2.1.2.2 | exact h9.2.2.2.2.2.2.2.2 | exact h9.2.2.2.2.2.2.2.1.1 | exact h9.2.2.2.2.2.2.2.1 | exact h9.2.2.2.2.2.2.2.1.2.1 | exact h9.2.2.2.2.2.2.2.2.1 | exact h9.2.2.2.2.2.2.2.1.2.2 | exact h9.2.2.2.2.2.2.2.2.2 | exact h9.2.2.2.2.2.2.2.2.1.1 | exact h9.2.2.2.2.2.2.2.2.1 | exact h9.2.2.2.2.2.2.2.2.1.2.1 | exact h9.2.2.2.2.2.2.2.2.2.1 | exact h9.2.2.2.2.2.2.2.2.1.2.2 | exact h9.2.2.2.2.2.2.2.2.2.2 | exact Ne.symm h9.1.1 | exact Ne.symm h9.1 | exact Ne.symm h9.1.2.1 | exact Ne.symm h9.2.1 | exact Ne.symm h9.1.2.2 | exact Ne.symm h9.2.2 | exact Ne.symm h9.2.1.1 | exact Ne.symm h9.2.1 | exact Ne.symm h9.2.1.2.1 | exact Ne.symm h9.2.2.1 | exact Ne.symm h9.2.1.2.2 | exact Ne.symm h9.2.2.2 | exact Ne.symm h9.2.2.1.1 | exact Ne.symm h9.2.2.1 | exact Ne.symm h9.2.2.1.2.1 | exact Ne.symm h9.2.2.2.1 | exact Ne.symm h9.2.2.1.2.2 | exact Ne.symm h9.2.2.2.2 | exact Ne.symm h9.2.2.2.1.1 | exact Ne.symm h9.2.2.2.1 | exact Ne.symm h9.2.2.2.1.2.1 | exact Ne.symm h9.2.2.2.2.1 | exact Ne.symm h9.2.2.2.1.2.2 | exact Ne.symm h9.2.2.2.2.2 | exact Ne.symm h9.2.2.2.2.1.1 | exact Ne.symm h9.2.2.2.2.1 | exact Ne.symm h9.2.2.2.2.1.2.1 | exact Ne.symm h9.2.2.2.2.2.1 | exact Ne.symm h9.2.2.2.2.1.2.2 | exact Ne.symm h9.2.2.2.2.2.2 | exact Ne.symm h9.2.2.2.2.2.1.1 | exact Ne.symm h9.2.2.2.2.2.1 | exact Ne.symm h9.2.2.2.2.2.1.2.1 | exact Ne.symm h9.2.2.2.2.2.2.1 | exact Ne.symm h9.2.2.2.2.2.1.2.2 | exact Ne.symm h9.2.2.2.2.2.2.2 | exact Ne.symm h9.2.2.2.2.2.2.1.1 | exact Ne.symm h9.2.2.2.2.2.2.1 | exact Ne.symm h9.2.2.2.2.2.2.1.2.1 | exact Ne.symm h9.2.2.2.2.2.2.2.1 | exact Ne.symm h9.2.2.2.2.2.2.1.2.2 | exact Ne.symm h9.2.2.2.2.2.2.2.2 | exact Ne.symm h9.2.2.2.2.2.2.2.1.1 | exact Ne.symm h9.2.2.2.2.2.2.2.1 | exact Ne.symm h9.2.2.2.2.2.2.2.1.2.1 | exact Ne.symm h9.2.2.2.2.2.2.2.2.1 | exact Ne.symm h9.2.2.2.2.2.2.2.1.2.2 | exact Ne.symm h9.2.2.2.2.2.2.2.2.2 | exact Ne.symm h9.2.2.2.2.2.2.2.2.1.1 | exact Ne.symm h9.2.2.2.2.2.2.2.2.1 | exact Ne.symm h9.2.2.2.2.2.2.2.2.1.2.1 | exact Ne.symm h9.2.2.2.2.2.2.2.2.2.1 | exact Ne.symm h9.2.2.2.2.2.2.2.2.1.2.2 | exact Ne.symm h9.2.2.2.2.2.2.2.2.2.2)) | ((rename (_ < _ ∧ _) => h9); (first | exact Nat.ne_of_lt h9.1 | exact Nat.ne_of_lt h9.2.1 | exact Nat.ne_of_lt h9.2 | exact Nat.ne_of_lt h9.2.2.1 | exact Nat.ne_of_lt h9.2.2 | exact Nat.ne_of_lt h9.2.2.2.1 | exact Nat.ne_of_lt h9.2.2.2 | exact Nat.ne_of_lt h9.2.2.2.2.1 | exact Nat.ne_of_lt h9.2.2.2.2 | exact Nat.ne_of_lt h9.2.2.2.2.2.1 | exact Nat.ne_of_lt h9.2.2.2.2.2 | exact Nat.ne_of_gt h9.1 | exact Nat.ne_of_gt h9.2.1 | exact Nat.ne_of_gt h9.2 | exact Nat.ne_of_gt h9.2.2.1 | exact Nat.ne_of_gt h9.2.2 | exact Nat.ne_of_gt h9.2.2.2.1 | exact Nat.ne_of_gt h9.2.2.2 | exact Nat.ne_of_gt h9.2.2.2.2.1 | exact Nat.ne_of_gt h9.2.2.2.2 | exact Nat.ne_of_gt h9.2.2.2.2.2.1 | exact Nat.ne_of_gt h9.2.2.2.2.2)) | ((rename (_ < _ ∧ _) => h9); clear h9; (rename (_ < _ ∧ _) => h9); (first | exact Nat.ne_of_lt h9.1 | exact Nat.ne_of_lt h9.2.1 | exact Nat.ne_of_lt h9.2 | exact Nat.ne_of_lt h9.2.2.1 | exact Nat.ne_of_lt h9.2.2 | exact Nat.ne_of_lt h9.2.2.2.1 | exact Nat.ne_of_lt h9.2.2.2 | exact Nat.ne_of_lt h9.2.2.2.2.1 | exact Nat.ne_of_lt h9.2.2.2.2 | exact Nat.ne_of_lt h9.2.2.2.2.2.1 | exact Nat.ne_of_lt h9.2.2.2.2.2 | exact Nat.ne_of_gt h9.1 | exact Nat.ne_of_gt h9.2.1 | exact Nat.ne_of_gt h9.2 | exact Nat.ne_of_gt h9.2.2.1 | exact Nat.ne_of_gt h9.2.2 | exact Nat.ne_of_gt h9.2.2.2.1 | exact Nat.ne_of_gt h9.2.2.2 | exact Nat.ne_of_gt h9.2.2.2.2.1 | exact Nat.ne_of_gt h9.2.2.2.2 | exact Nat.ne_of_gt h9.2.2.2.2.2.1 | exact Nat.ne_of_gt h9.2.2.2.2.2)) | ((rename (_ < _ ∧ _) => h9); clear h9; (rename (_ < _ ∧ _) => h9); clear h9; (rename (_ < _ ∧ _) => h9); (first | exact Nat.ne_of_lt h9.1 | exact Nat.ne_of_lt h9.2.1 | exact Nat.ne_of_lt h9.2 | exact Nat.ne_of_lt h9.2.2.1 | exact Nat.ne_of_lt h9.2.2 | exact Nat.ne_of_lt h9.2.2.2.1 | exact Nat.ne_of_lt h9.2.2.2 | exact Nat.ne_of_lt h9.2.2.2.2.1 | exact Nat.ne_of_lt h9.2.2.2.2 | exact Nat.ne_of_lt h9.2.2.2.2.2.1 | exact Nat.ne_of_lt h9.2.2.2.2.2 | exact Nat.ne_of_gt h9.1 | exact Nat.ne_of_gt h9.2.1 | exact Nat.ne_of_gt h9.2 | exact Nat.ne_of_gt h9.2.2.1 | exact Nat.ne_of_gt h9.2.2 | exact Nat.ne_of_gt h9.2.2.2.1 | exact Nat.ne_of_gt h9.2.2.2 | exact Nat.ne_of_gt h9.2.2.2.2.1 | exact Nat.ne_of_gt h9.2.2.2.2 | exact Nat.ne_of_gt h9.2.2.2.2.2.1 | exact Nat.ne_of_gt h9.2.2.2.2.2)) | ((rename (_ < _ ∧ _) => h9); clear h9; (rename (_ < _ ∧ _) => h9); clear h9; (rename (_ < _ ∧ _) => h9); clear h9; (rename (_ < _ ∧ _) => h9); (first | exact Nat.ne_of_lt h9.1 | exact Nat.ne_of_lt h9.2.1 | exact Nat.ne_of_lt h9.2 | exact Nat.ne_of_lt h9.2.2.1 | exact Nat.ne_of_lt h9.2.2 | exact Nat.ne_of_lt h9.2.2.2.1 | exact Nat.ne_of_lt h9.2.2.2 | exact Nat.ne_of_lt h9.2.2.2.2.1 | exact Nat.ne_of_lt h9.2.2.2.2 | exact Nat.ne_of_lt h9.2.2.2.2.2.1 | exact Nat.ne_of_lt h9.2.2.2.2.2 | exact Nat.ne_of_gt h9.1 | exact Nat.ne_of_gt h9.2.1 | exact Nat.ne_of_gt h9.2 | exact Nat.ne_of_gt h9.2.2.1 | exact Nat.ne_of_gt h9.2.2 | exact Nat.ne_of_gt h9.2.2.2.1 | exact Nat.ne_of_gt h9.2.2.2 | exact Nat.ne_of_gt h9.2.2.2.2.1 | exact Nat.ne_of_gt h9.2.2.2.2 | exact Nat.ne_of_gt h9.2.2.2.2.2.1 | exact Nat.ne_of_gt h9.2.2.2.2.2))) | ((repeat ((rename (_ ≠ _ ∧ _) => h9); clear h9)); (repeat ((rename ((_ ∧ _) ∧ _) => h9); clear h9)); (repeat ((rename (_ ≠ _) => h9); clear h9)); omega) | omega)
  k_with "facts" => exact ⟨by assumption, by assumption⟩
  k_with "call ref" => (k_here; refine wpAny_call ?_; k_dflt ((have kf9 : ScopeKind.function = ScopeKind.function := rfl); ktr_enter; (rename_i g' L' h' FG' F' N' B' X' T'); (try (have hl9' := stays_list (Fr.keep FG') (by with_reducible assumption)))))
  k_with "enter base" => (refine' code_baseC ⟨?b, ?f, ?x, ?t, ?fs, ?fo, ?fk⟩ ⟨?o, ?cd, ?c1, ?c2, ?c3⟩ ?rm ?bi ?lo ?nd ?_; (case fs => exact rfl); (case fo => exact rfl); (case fk => assumption); (case b => k_asm); (case f => k_asm); (case x => k_asm); (case t => k_asm); (case o => k_is); (case cd => k_is); (case rm => ktr_room); (case bi => exact BindsTo.of_eq rfl); (case nd => decide +kernel); (case lo => exact rfl); (case c1 => exact rfl); (case c2 => exact rfl); (case c3 => exact rfl); k_whole; intro L' h' tk' cells' F' N' Y' B' X' T'; k_cells Y'; (try simp only [List.cons_append, List.nil_append] at N'); dsimp only [Runs]; (try k_fold))
  k_with "exec Assign cons ListComp" => (k_here; k_dflt (refine Assign_ListComp_S (F₀ := by k_asm) ⟨by rfl, by with_unfolding_all rfl, by with_unfolding_all rfl, by decide, by rfl, by decide, by rfl, by rfl, by rfl⟩ ?_))
  k_with "KCtEl" => (k_dflt (exact ⟨rfl, _, rfl⟩))
  k_with "SrcS" => (k_here; k_dflt (refine SrcS.intro (by rfl) (by k_asm) (by k_asm) (by decide) ?_; intro g'; (refine' sct_rest (fun c => Str.ofString "@" ++ ⟨#[c]⟩ ++ Str.ofString ".\r\n") (fun c' t' I' oI' C' oC' D' m' ys' h' tk' E' hC' hx' F' N' off' ne' => ?_) ?_; rotate_left; (intro ys' sy'; k_dflt (walk_at "FinA")); rotate_left); (all_goals (try (simp only [LCg.Off3, and_true] at off')))))
  k_with "InvEndN" => (k_dflt kst_close)
  k_with "subscriptTail Name Name ref int" => (k_here; (with_reducible show wpAny _ _ (subscriptTail _ _ (Value.ref _) (Value.int _ _)) _ _ _); k_dflt (refine' rowH_sub ?k1 ?k2 ?k3 ?k4 ?k5 ?k6 ?_ ?k7; (case k1 => k_asm); (case k2 => k_mem); (case k3 => with_reducible assumption); (case k4 => with_reducible assumption); (case k5 => first | exact (bxL (by assumption) (by assumption) (by assumption) (by assumption)).1 | omega); (case k6 => first | exact (bxL (by assumption) (by assumption) (by assumption) (by assumption)).2.1 | omega); (case k7 => with_unfolding_all rfl); k_whole); intro t9)
  k_with "subscriptTail" => (k_here; (with_reducible show wpAny _ _ (subscriptTail (PySem.Expr.Tuple _ _ _) _ _ (Value.int _ _)) _ _ _); k_dflt (refine' end_sub ?k1 ?k2 ?k5 ?k6 ?_ ?k7; (case k1 => k_asm); (case k2 => k_mem); (case k5 => exact Int.fmod_nonneg_of_pos _ (by decide)); (case k6 => exact Int.fmod_lt_of_pos _ (by decide)); (case k7 => with_unfolding_all rfl); k_whole); intro t9)
  k_with "subscriptTail Name Name str int" => (k_here; (with_reducible show wpAny _ _ (subscriptTail _ _ (Value.str _ _) (Value.int _ _)) _ _ _); k_dflt (refine' let_sub ?k4 ?k5 ?k6 ?_ ?k7 ?k8; (case k4 => first | exact (bxL (by assumption) (by assumption) (by assumption) (by assumption)).2.2 | exact rfl); (case k5 => first | exact (bxL (by assumption) (by assumption) (by assumption) (by assumption)).1 | omega); (case k6 => first | exact (bxL (by assumption) (by assumption) (by assumption) (by assumption)).2.1 | omega); (case k7 => with_unfolding_all rfl); (case k8 => (intro _; with_unfolding_all rfl)); k_whole); intro t9 tk9)
  k_with "setItem ref int" => (k_here; (with_reducible show wpAny _ _ (setItem (Value.ref _) (Value.int _ _) (Value.str _ _)) _ _ _); k_dflt (refine' row_set ?k1 ?k2 ?k3 ?k4 ?k5 ?k6 ?k7 ?k8 ?_; (case k1 => k_asm); (case k2 => k_asm); rotate_left 5; (case k8 => k_upd); (case k3 => with_reducible assumption); (case k4 => first | exact len_rows (by with_reducible assumption) | exact len_due (by with_reducible assumption)); (case k5 => first | exact (bxL (by assumption) (by assumption) (by assumption) (by assumption)).2.2 | exact rfl); (case k6 => first | exact (bxL (by assumption) (by assumption) (by assumption) (by assumption)).1 | omega); (case k7 => first | exact (bxL (by assumption) (by assumption) (by assumption) (by assumption)).2.1 | omega); k_whole); intro h9 F9 N9 hS9; (try k_sweep))
  k_with "call ref" => (k_here; (with_reducible show wpAny _ _ (call (Value.ref 52) [_, _]) _ _ _); k_dflt (refine' tellsN_use ?k1 ?k2 ?k3 ?k4 ?k5 ?kK ?kR (T_app _ _ _ _ _ _ _) trivial ?kd ?ku ?_; (case k1 => k_asm); (case k2 => k_asm); (case k3 => k_asm); (case k4 => k_asm); (case k5 => k_asm); (case kK => first | exact rfl | assumption); (case kR => first | exact appR_row | exact appR_let); (case kd => ktr_room); (case ku => ktr_units); intro r9 tl9 h9 tk9 F9 N9 hl9 ht9 ho9; (subst ht9; clear hl9); (try simp only [List.nil_append, List.cons_append, List.append_nil, List.append_assoc] at N9); (refine Exists.elim ho9 ?_; clear ho9; intro t9 e9; subst e9); (try dsimp only); (try k_fold)))
  k_with "binaryOp Add str str" => (k_here; (with_reducible show wpAny _ _ (binaryOp Operator.Add (Value.str _ _) (Value.str (rowS _ ++ _ ++ _) _)) _ _ _); (refine KOpn.add (fit1 (by with_reducible assumption) (by omega)) ?_); intro _ _ _)
  k_with "binaryOp Add str str" => (k_here; (with_reducible show wpAny _ _ (binaryOp Operator.Add (Value.str _ _) (Value.str (endI _) _)) _ _ _); (refine KOpn.add (fit2 (by with_reducible assumption) (by omega)) ?_); intro _ _ _)
  k_with "call ref" => (k_here; (with_reducible show wpAny _ _ (call (Value.ref 329) [_]) _ _ _); k_dflt (refine' tellsN_use ?k1 ?k2 ?k3 ?k4 ?k5 ?kK ?kR (T_quote _ _ _ _ _ _ _) trivial ?kd ?ku ?_; (case k1 => k_asm); (case k2 => k_asm); (case k3 => k_asm); (case k4 => k_asm); (case k5 => k_asm); (case kK => first | exact rfl | assumption); (case kR => exact .mk (txt_fits (by with_reducible assumption) (by decide))); (case kd => ktr_room); (case ku => ktr_units); intro r9 tl9 h9 tk9 F9 N9 hl9 ht9 ho9; (subst ht9; clear hl9); (try simp only [List.nil_append, List.cons_append, List.append_nil, List.append_assoc] at N9); (refine Exists.elim ho9 ?_; clear ho9; intro t9 e9; subst e9); (try dsimp only); (try k_fold)))
  k_with "call builtin:str.join" => (k_here; k_dflt (refine' join_due ?k1 ?k2 ?k3 ?k4 ?_; (case k1 => k_asm); (case k2 => k_mem); (case k3 => with_reducible assumption); (case k4 => with_reducible assumption); k_whole); intro t9 tk9)
  k_with "compareOp NotEq str str" => (k_here; k_dflt (refine cmp_sent (by with_reducible assumption) (by decide) ?_))
  k_with "call builtin:str.split" => (k_here; k_dflt (refine' split_sent ?k1 ?k2 ?k3 ?k4 ?_; (case k1 => k_asm); (case k2 => k_asm); (case k3 => with_reducible assumption); (case k4 => decide); k_whole); intro D' l' h' k' a' F' N' l1; (try k_lt l1))
  k_with "subscriptTail Name Name ref int" => (k_here; (with_reducible show wpAny _ _ (subscriptTail _ _ (Value.ref _) (Value.int _ _)) _ _ _); k_dflt (refine' heard_sub ?k1 ?k2 ?k3 ?k5 ?k6 ?_ ?k7; (case k1 => k_asm); (case k2 => k_mem); (case k3 => with_reducible assumption); (case k5 => ((repeat ((rename (_ ≠ _ ∧ _) => h9); clear h9)); (repeat ((rename ((_ ∧ _) ∧ _) => h9); clear h9)); (repeat ((rename (_ ≠ _) => h9); clear h9)); omega)); (case k6 => ((repeat ((rename (_ ≠ _ ∧ _) => h9); clear h9)); (repeat ((rename ((_ ∧ _) ∧ _) => h9); clear h9)); (repeat ((rename (_ ≠ _) => h9); clear h9)); omega)); (case k7 => with_unfolding_all rfl); k_whole); intro t9)
  k_with "subscriptTail" => (k_here; (with_reducible show wpAny _ _ (subscriptTail _ _ (Value.str (pieceS _ _) _) (Value.int 0 _)) _ _ _); k_dflt (refine' head_sub ?k5 ?_ ?k7 ?k8; (case k5 => ((repeat ((rename (_ ≠ _ ∧ _) => h9); clear h9)); (repeat ((rename ((_ ∧ _) ∧ _) => h9); clear h9)); (repeat ((rename (_ ≠ _) => h9); clear h9)); omega)); (case k7 => with_unfolding_all rfl); (case k8 => (intro _; with_unfolding_all rfl)); k_whole); intro t9 tk9)
  k_with "compareOp Eq str str" => (k_here; k_dflt (refine head_cmp ?_))
  k_with "KCiNo" => exact kci_no (if_neg (Bool.eq_false_iff.mp (by with_reducible assumption))) rfl
  k_with "pyIter ref" => (first
    | k_state_short (fun pre text => text = txtL (hitI ns ms) pre.length) "text"
    | ((rename KstMark => hk9); k_state (fun q9 rows due => rows = rowsL (hit2 kPre kN ms q9) ∧ due = dueL (hit2 kPre kN ms q9)) "rows$" "due$")
    | (k_state (fun pre rows due => rows = rowsL (hitI pre ms) ∧ due = dueL (hitI pre ms)) "rows$" "due$"))
  k_with "state" => first
    | exact sum_start (by with_unfolding_all rfl)
    | exact sum_open (by assumption) (by assumption)
    | exact sum_shut (by assumption) (by assumption)
    | exact sum_step (bxL (by assumption) (by assumption) (by assumption) (by assumption)).1 (by assumption) (by assumption)
    | exact txt_start
    | exact txt_step (by assumption) (by assumption)
  refine wpAny_call ?_
  k_dflt (k_extra "enter base")
  k_steps
  all_goals (
    rename Fr _ _ _ _ => F9
    rename News _ _ _ _ => N9
    have n9 := N9 _ (List.Mem.head _)
    refine h _ _ _ _ _ F9.keep n9.2.2 n9.1 ?_
    rename IntsAre _ (List.foldl _ _ _) => i9
    rw [fold_sum] at i9
    exact i9)
end Mine
namespace Mine
open PySem.Calls
theorem rg_keep {h h' : Heap} {r : Addr} {a b c : Int} {t u v : Tok} (x : IsRange h r a b c t u v) (k : ∀ b o, h.get? b = some o → h'.get? b = some o) : IsRange h' r a b c t u v := k _ _ x
theorem bxR {r q : Nat} {n y : Int} {pre post : List Int} (hn : n = 0 + (pre.length : Int)) (hl : pre.length < (((r : Nat) : Int) - 0).toNat) (hy : y = 0 + (post.length : Int)) (hl2 : post.length < (((q : Nat) : Int) - 0).toNat) (h : r ≤ 6) (g : q ≤ 6) :
    0 ≤ Builtin.bitXor n y ∧ Builtin.bitXor n y < 16 ∧ n + y - 2 * Builtin.bitAnd n y = Builtin.bitXor n y := bx (by omega) (by omega) (by omega) (by omega)
theorem C_sumsR {w : World} {dp un : Nat} {gd : Option (List Code)} {cn : Str} {cs : Scope} {ac : Addr} {ccd : Value} {cl : List (Str × Addr)} {outer : List Env} {A₀ : Around} {base h₀ : Heap} {L : Addr} {m mg mb : Str → Option Value} {s : Shared} {Q E : Value → Shared → Prop}
    {p : Program} {loose : List Str} {mean : ExcName → Option Value} {a b : Addr} {r q : Nat} {t1 t2 t3 u1 u2 u3 : Tok}
    (B : Below A₀ base outer h₀) (F : Fr h₀ L s.heap m) (X : (Mine.base.heap_1 w.params).In h₀) (T : Top p loose mean mg mb h₀) (hk : cs.kind = .function) (hd : dp + 6 < recursionLimit) (hu : un + 60 < cLine)
    (ra : IsRange s.heap a 0 (r : Nat) 1 t1 t2 t3) (rb : IsRange s.heap b 0 (q : Nat) 1 u1 u2 u3) (hr6 : r ≤ 6) (hq6 : q ≤ 6)
    (h : ∀ D vs' n h' tk', (∀ b o, s.heap.get? b = some o → h'.get? b = some o) → s.heap.get? D = none → h'.get? D = some (listOf vs' n) → IntsAre vs'.toList (sumI (hitI (rangeKs 0 (((r : Nat) : Int) - 0).toNat) (rangeKs 0 (((q : Nat) : Int) - 0).toNat))) → Q (.ref D) { s with heap := h', toks := tk' }) :
    wpAny (model PySem.Challenge.rw_wk0021_01.row.prog w) (ktrTop dp un gd cn cs L ac ccd cl outer) (call (.ref 353) [.ref a, .ref b]) Q E s := by
  revert B F X
  k_fill
  intro B F X
  have dI9 : IntsAre [] [] := .nil
  k_with_none
  k_with "ne" => (refine neN ?_; (try dsimp only); first | (with_reducible first | assumption | exact Ne.symm (by assumption) | exact Nat.ne_of_lt (by assumption) | exact Nat.ne_of_gt (by assumption) | ((rename (_ ≠ _ ∧ _) => h9); (first | exact h9.1 | exact h9.2.1 | exact h9.2 | exact h9.2.2.1 | exact h9.2.2 | exact h9.2.2.2.1 | exact h9.2.2.2 | exact h9.2.2.2.2.1 | exact h9.2.2.2.2 | exact h9.2.2.2.2.2.1 | exact h9.2.2.2.2.2 | exact Ne.symm h9.1 | exact Ne.symm h9.2.1 | exact Ne.symm h9.2 | exact Ne.symm h9.2.2.1 | exact Ne.symm h9.2.2 | exact Ne.symm h9.2.2.2.1 | exact Ne.symm h9.2.2.2 | exact Ne.symm h9.2.2.2.2.1 | exact Ne.symm h9.2.2.2.2 | exact Ne.symm h9.2.2.2.2.2.1 | exact Ne.symm h9.2.2.2.2.2)) | ((rename (_ ≠ _ ∧ _) => h9); clear h9; (rename (_ ≠ _ ∧ _) => h9); (first | exact h9.1 | exact h9.2.1 | exact h9.2 | exact h9.2.2.1 | exact h9.2.2 | exact h9.2.2.2.1 | exact h9.2.2.2 | exact h9.2.2.2.2.1 | exact h9.2.2.2.2 | exact h9.2.2.2.2.2.1 | exact h9.2.2.2.2.2 | exact Ne.symm h9.1 | exact Ne.symm h9.2.1 | exact Ne.symm h9.2 | exact Ne.symm h9.2.2.1 | exact Ne.symm h9.2.2 | exact Ne.symm h9.2.2.2.1 | exact Ne.symm h9.2.2.2 | exact Ne.symm h9.2.2.2.2.1 | exact Ne.symm h9.2.2.2.2 | exact Ne.symm h9.2.2.2.2.2.1 | exact Ne.symm h9.2.2.2.2.2)) | ((rename (_ ≠ _ ∧ _) => h9); clear h9; (rename (_ ≠ _ ∧ _) => h9); clear h9; (rename (_ ≠ _ ∧ _) => h9); (first | exact h9.1 | exact h9.2.1 | exact h9.2 | exact h9.2.2.1 | exact h9.2.2 | exact h9.2.2.2.1 | exact h9.2.2.2 | exact h9.2.2.2.2.1 | exact h9.2.2.2.2 | exact h9.2.2.2.2.2.1 | exact h9.2.2.2.2.2 | exact Ne.symm h9.1 | exact Ne.symm h9.2.1 | exact Ne.symm h9.2 | exact Ne.symm h9.2.2.1 | exact Ne.symm h9.2.2 | exact Ne.symm h9.2.2.2.1 | exact Ne.symm h9.2.2.2 | exact Ne.symm h9.2.2.2.2.1 | exact Ne.symm h9.2.2.2.2 | exact Ne.symm h9.2.2.2.2.2.1 | exact Ne.symm h9.2.2.2.2.2)) | ((rename ((_ ∧ _) ∧ _) => h9); (first | exact h9.1.1 | exact h9.1 | exact h9.1.2.1 | exact h9.2.1 | exact h9.1.2.2 | exact h9.2.2 | exact h9.2.1.1 | exact h9.2.1 | exact h9.2.1.2.1 | exact h9.2.2.1 | exact h9.2.1.2.2 | exact h9.2.2.2 | exact h9.2.2.1.1 | exact h9.2.2.1 | exact h9.2.2.1.2.1 | exact h9.2.2.2.1 | exact h9.2.2.1.2.2 | exact h9.2.2.2.2 | exact h9.2.2.2.1.1 | exact h9.2.2.2.1 | exact h9.2.2.2.1.2.1 | exact h9.2.2.2.2.1 | exact h9.2.2.2.1.2.2 | exact h9.2.2.2.2.2 | exact h9.2.2.2.2.1.1 | exact h9.2.2.2.2.1 | exact h9.2.2.2.2.1.2.1 | exact h9.2.2.2.2.2.1 | exact h9.2.2.2.2.1.2.2 | exact h9.2.2.2.2.2.2 | exact h9.2.2.2.2.2.1.1 | exact h9.2.2.2.2.2.1 | exact h9.2.2.2.2.2.1.2.1 | exact h9.2.2.2.2.2.2.1 | exact h9.2.2.2.2.2.1.2.2 | exact h9.2.2.2.2.2.2.2 | exact h9.2.2.2.2.2.2.1.1 | exact h9.2.2.2.2.2.2.1 | exact h9.2.2.2.2.2.2.1.2.1 | exact h9.2.2.2.2.2.2.2.1 | exact h9.2.2.2.2.2.2.1.2.2 | exact h9.2.2.2.2.2.2.2.2 | exact h9.2.2.2.2.2.2.2.1.1 | exact h9.2.2.2.2.2.2.2.1 | exact h9.2.2.2.2.2.2.2.1.2.1 | exact h9.2.2.2.2.2.2.2.2.1 | exact h9.2.2.2.2.2.2.2.1.2.2 | exact h9.2.2.2.2.2.2.2.2.2 | exact h9.2.2.2.2.2.2.2.2.1.1 | exact h9.2.2.2.2.2.2.2.2.1 | exact h9.2.2.2.2.2.2.2.2.1.2.1 | exact h9.2.2.2.2.2.2.2.2.2.1 | exact h9.2.2.2.2.2.2.2.2.1.2.2 | exact h9.2.2.2.2.2.2.2.2.2.2 | exact Ne.symm h9.1.1 | exact Ne.symm h9.1 | exact Ne.symm h9.1.2.1 | exact Ne.symm h9.2.1 | exact Ne.symm h9.1.2.2 | exact Ne.symm h9.2.2 | exact Ne.symm h9.2.1.1 | exact Ne.symm h9.2.1 | exact Ne.symm h9.2.1.2.1 | exact Ne.symm h9.2.2.1 | exact Ne.symm h9.2.1.2.2 | exact Ne.symm h9.2.2.2 | exact Ne.symm h9.2.2.1.1 | exact Ne.symm h9.2.2.1 | exact Ne.symm h9.2.2.1.2.1 | exact Ne.symm h9.2.2.2.1 | exact Ne.symm h9.2.2.1.2.2 | exact Ne.symm h9.2.2.2.2 | exact Ne.symm h9.2.2.2.1.1 | exact Ne.symm h9.2.2.2.1 | exact Ne.symm h9.2.2.2.1.2.1 | exact Ne.symm h9.2.2.2.2.1 | exact Ne.symm h9.2.2.2.1.2.2 | exact Ne.symm h9.2.2.2.2.2 | exact Ne.symm h9.2.2.2.2.1.1 | exact Ne.symm h9.2.2.2.2.1 | exact Ne.symm h9.2.2.2.2.1.2.1 | exact Ne.symm h9.2.2.2.2.2.1 | exact Ne.symm h9.2.2.2.2.1.2.2 | exact Ne.symm h9.2.2.2.2.2.2 | exact Ne.symm h9.2.2.2.2.2.1.1 | exact Ne.symm h9.2.2.2.2.2.1 | exact Ne.symm h9.2.2.2.2.2.1.2.1 | exact Ne.symm h9.2.2.2.2.2.2.1 | exact Ne.symm h9.2.2.2.2.2.1.2.2 | exact Ne.symm h9.2.2.2.2.2.2.2 | exact Ne.symm h9.2.2.2.2.2.2.1.1 | exact Ne.symm h9.2.2.2.2.2.2.1 | exact Ne.symm h9.2.2.2.2.2.2.1.2.1 | exact Ne.symm h9.2.2.2.2.2.2.2.1 | exact Ne.symm h9.2.2.2.2.2.2.1.2.2 | exact Ne.symm h9.2.2.2.2.2.2.2.2 | exact Ne.symm h9.2.2.2.2.2.2.2.1.1 | exact Ne.symm h9.2.2.2.2.2.2.2.1 | exact Ne.symm h9.2.2.2.2.2.2.2.1.2.1 | exact Ne.symm h9.2.2.2.2.2.2.2.2.1 | exact Ne.symm h9.2.2.2.2.2.2.2.1.2.2 | exact Ne.symm h9.2.2.2.2.2.2.2.2.2 | exact Ne.symm h9.2.2.2.2.2.2.2.2.1.1 | exact Ne.symm h9.2.2.2.2.2.2.2.2.1 | exact Ne.symm h9.2.2.2.2.2.2.2.2.1.2.1 | exact Ne.symm h9.2.2.2.2.2.2.2.2.2.1 | exact Ne.symm h9.2.2.2.2.2.2.2.2.1.2.2 | exact Ne.symm h9.2.2.2.2.2.2.2.2.2.2)) | ((rename ((_ ∧ _) ∧ _) => h9); clear h9; (rename ((_ ∧ _) ∧ _) => h9); (first | exact h9.1.1 | exact h9.1 | exact h9.1.2.1 | exact h9.2.1 | exact h9.1.2.2 | exact h9.2.2 | exact h9.2.1.1 | exact h9.2.1 | exact h9.2.1.2.1 | exact h9.2.2.1 | exact h9.2.1.2.2 | exact h9.2.2.2 | exact h9.2.2.1.1 | exact h9.2.2.1 | exact h9.2.2.1.2.1 | exact h9.2.2.2.1 | exact h9.2.2.1.2.2 | exact h9.2.2.2.2 | exact h9.2.2.2.1.1 | exact h9.2.2.2.1 | exact h9.2.2.2.1.2.1 | exact h9.2.2.2.2.1 | exact h9.2.2.2.1.2.2 | exact h9.2.2.2.2.2 | exact h9.2.2.2.2.1.1 | exact h9.2.2.2.2.1 | exact h9.2.2.2.2.1.2.1 | exact h9.2.2.2.2.2.1 | exact h9.2.2.2.2.1.2.2 | exact h9.2.2.2.2.2.2 | exact h9.2.2.2.2.2.1.1 | exact h9.2.2.2.2.2.1 | exact h9.2.2.2.2.2.1.2.1 | exact h9.2.2.2.2.2.2.1 | exact h9.2.2.2.2.2.1.2.2 | exact h9.2.2.2.2.2.2.2 | exact h9.2.2.2.2.2.2.1.1 | exact h9.2.2.2.2.2.2.1 | exact h9.2.2.2.2.2.2.1.2.1 | exact h9.2.2.2.2.2.2.2.1 | exact h9.2.2.2.2.2.2.1.2.2 | exact h9.2.2.2.2.2.2.2.2 | exact h9.2.2.2.2.2.2.2.1.1 | exact h9.2.2.2.2.2.2.2.1 | exact h9.2.2.2.2.2.2.2.1.2.1 | exact h9.2.2.2.2.2.2.2.2.1 | exact h9.2.2.2.2.2.2.2.1.2.2 | exact h9.2.2.2.2.2.2.2.2.2 | exact h9.2.2.2.2.2.2.2.2.1.1 | exact h9.2.2.2.2.2.2.2.2.1 | exact h9.2.2.2.2.2.2.2.2.1.2.1 | exact h9.2.2.2.2.2.2.2.2.2.1 | exact h9.2.2.2.2.2.2.2.2.1.2.2 | exact h9.2.2.2.2.2.2.2.2.2.2 | exact Ne.symm h9.1.1 | exact Ne.symm h9.1 | exact Ne.symm h9.1.2.1 | exact Ne.symm h9.2.1 | exact Ne.symm h9.1.2.2 | exact Ne.symm h9.2.2 | exact Ne.symm h9.2.1.1 | exact Ne.symm h9.2.1 | exact Ne.symm h9.2.1.2.1 | exact Ne.symm h9.2.2.1 | exact Ne.symm h9.2.1.2.2 | exact Ne.symm h9.2.2.2 | exact Ne.symm h9.2.2.1.1 | exact Ne.symm h9.2.2.1 | exact Ne.symm h9.2.2.1.2.1 | exact Ne.symm h9.2.2.2.1 | exact Ne.symm h9.2.2.1.2.2 | exact Ne.symm h9.2.2.2.2 | exact Ne.symm h9.2.2.2.1.1 | exact Ne.symm h9.2.2.2.1 | exact Ne.symm h9.2.2.2.1.2.1 | exact Ne.symm h9.2.2.2.2.1 | exact Ne.symm h9.2.2.2.1.2.2 | exact Ne.symm h9.2.2.2.2.2 | exact Ne.symm h9.2.2.2.2.1.1 | exact Ne.symm h9.2.2.2.2.1 | exact Ne.symm h9.2.2.2.2.1.2.1 | exact Ne.symm h9.2.2.2.2.2.1 | exact Ne.symm h9.2.2.2.2.1.2.2 | exact Ne.symm h9.2.2.2.2.2.2 | exact Ne.symm h9.2.2.2.2.2.1.1 | exact Ne.symm h9.2.2.2.2.2.1 | exact Ne.symm h9.2.2.2.2.2.1.2.1 | exact Ne.symm h9.2.2.2.2.2.2.1 | exact Ne.symm h9.2.2.2.2.2.1.2.2 | exact Ne.symm h9.2.2.2.2.2.2.2 | exact Ne.symm h9.2.2.2.2.2.2.1.1 | exact Ne.symm h9.2.2.2.2.2.2.1 | exact Ne.symm h9.2.2.2.2.2.2.1.2.1 | exact Ne.symm h9.2.2.2.2.2.2.2.1 | exact Ne.symm h9.2.2.2.2.2.2.1.2.2 | exact Ne.symm h9.2.2.2.2.2.2.2.2 | exact Ne.symm h9.2.2.2.2.2.2.2.1.1 | exact Ne.symm h9.2.2.2.2.2.2.2.1 | exact Ne.symm h9.2.2.2.2.2.2.2.1.2.1 | exact Ne.symm h9.2.2.2.2.2.2.2.2.1 | exact Ne.symm h9.2.2.2.2.2.2.2.1.2.2 | exact Ne.symm h9.2.2.2.2.2.2.2.2.2 | exact Ne.symm h9.2.2.2.2.2.2.2.2.1.1 | exact Ne.symm h9.2.2.2.2.2.2.2.2.1 | exact Ne.symm h9.2.2.2.2.2.2.2.2.1.2.1 | exact Ne.symm h9.2.2.2.2.2.2.2.2.2.1 | exact Ne.symm h9.2.2.2.2.2.2.2.2.1.2.2 | exact Ne.symm h9.2.2.2.2.2.2.2.2.2.2)) | ((rename (_ < _ ∧ _) => h9); (first | exact Nat.ne_of_lt h9.1 | exact Nat.ne_of_lt h9.2.1 | exact Nat.ne_of_lt h9.2 | exact Nat.ne_of_lt h9.2.2.1 | exact Nat.ne_of_lt h9.2.2 | exact Nat.ne_of_lt h9.2.2.2.1 | exact Nat.ne_of_lt h9.2.2.2 | exact Nat.ne_of_lt h9.2.2.2.2.1 | exact Nat.ne_of_lt h9.2.2.2.2 | exact Nat.ne_of_lt h9.2.2.2.2.2.1 | exact Nat.ne_of_lt h9.2.2.2.2.2 | exact Nat.ne_of_gt h9.1 | exact Nat.ne_of_gt h9.2.1 | exact Nat.ne_of_gt h9.2 | exact Nat.ne_of_gt h9.2.2.1 | exact Nat.ne_of_gt h9.2.2 | exact Nat.ne_of_gt h9.2.2.2.1 | exact Nat.ne_of_gt h9.2.2.2 | exact Nat.ne_of_gt h9.2.2.2.2.1 | exact Nat.ne_of_gt h9.2.2.2.2 | exact Nat.ne_of_gt h9.2.2.2.2.2.1 | exact Nat.ne_of_gt h9.2.2.2.2.2)) | ((rename (_ < _ ∧ _) => h9); clear h9; (rename (_ < _ ∧ _) => h9); (first | exact Nat.ne_of_lt h9.1 | exact Nat.ne_of_lt h9.2.1 | exact Nat.ne_of_lt h9.2 | exact Nat.ne_of_lt h9.2.2.1 | exact Nat.ne_of_lt h9.2.2 | exact Nat.ne_of_lt h9.2.2.2.1 | exact Nat.ne_of_lt h9.2.2.2 | exact Nat.ne_of_lt h9.2.2.2.2.1 | exact Nat.ne_of_lt h9.2.2.2.2 | exact Nat.ne_of_lt h9.2.2.2.2.2.1 | exact Nat.ne_of_lt h9.2.2.2.2.2 | exact Nat.ne_of_gt h9.1 | exact Nat.ne_of_gt h9.2.1 | exact Nat.ne_of_gt h9.2 | exact Nat.ne_of_gt h9.2.2.1 | exact Nat.ne_of_gt h9.2.2 | exact Nat.ne_of_gt h9.2.2.2.1 | exact Nat.ne_of_gt h9.2.2.2 | exact Nat.ne_of_gt h9.2.2.2.2.1 | exact Nat.ne_of_gt h9.2.2.2.2 | exact Nat.ne_of_gt h9.2.2.2.2.2.1 | exact Nat.ne_of_gt h9.2.2.2.2.2)) | ((rename (_ < _ ∧ _) => h9); clear h9; (rename (_ < _ ∧ _) => h9); clear h9; (rename (_ < _ ∧ _) => h9); (first | exact Nat.ne_of_lt h9.1 | exact Nat.ne_of_lt h9.2.1 | exact Nat.ne_of_lt h9.2 | exact Nat.ne_of_lt h9.2.2.1 | exact Nat.ne_of_lt h9.2.2 | exact Nat.ne_of_lt h9.2.2.2.1 | exact Nat.ne_of_lt h9.2.2.2 | exact Nat.ne_of_lt h9.2.2.2.2.1 | exact Nat.ne_of_lt h9.2.2.2.2 | exact Nat.ne_of_lt h9.2.2.2.2.2.1 | exact Nat.ne_of_lt h9.2.2.2.2.2 | exact Nat.ne_of_gt h9.1 | exact Nat.ne_of_gt h9.2.1 | exact Nat.ne_of_gt h9.2 | exact Nat.ne_of_gt h9.2.2.1 | exact Nat.ne_of_gt h9.2.2 | exact Nat.ne_of_gt h9.2.2.2.1 | exact Nat.ne_of_gt h9.2.2.2 | exact Nat.ne_of_gt h9.2.2.2.2.1 | exact Nat.ne_of_gt h9.2.2.2.2 | exact Nat.ne_of_gt h9.2.2.2.2.2.1 | exact Nat.ne_of_gt h9.2.2.2.2.2)) | ((rename (_ < _ ∧ _) => h9); clear h9; (rename (_ < _ ∧ _) => h9); clear h9; (rename (_ < _ ∧ _) => h9); clear h9; (rename (_ < _ ∧ _) => h9); (first | exact Nat.ne_of_lt h9.1 | exact Nat.ne_of_lt h9.2.1 | exact Nat.ne_of_lt h9.2 | exact Nat.ne_of_lt h9.2.2.1 | exact Nat.ne_of_lt h9.2.2 | exact Nat.ne_of_lt h9.2.2.2.1 | exact Nat.ne_of_lt h9.2.2.2 | exact Nat.ne_of_lt h9.2.2.2.2.1 | exact Nat.ne_of_lt h9.2.2.2.2 | exact Nat.ne_of_lt h9.2.2.2.2.2.1 | exact Nat.ne_of_lt h9.2.2.2.2.2 | exact Nat.ne_of_gt h9.1 | exact Nat.ne_of_gt h9.2.1 | exact Nat.ne_of_gt h9.2 | exact Nat.ne_of_gt h9.2.2.1 | exact Nat.ne_of_gt h9.2.2 | exact Nat.ne_of_gt h9.2.2.2.1 | exact Nat.ne_of_gt h9.2.2.2 | exact Nat.ne_of_gt h9.2.2.2.2.1 | exact Nat.ne_of_gt h9.2.2.2.2 | exact Nat.ne_of_gt h9.2.2.2.2.2.1 | exact Nat.ne_of_gt h9.2.2.2.2.2))) | ((repeat ((rename (_ ≠ _ ∧ _) => h9); clear h9)); (repeat ((rename ((_ ∧ _) ∧ _) => h9); clear h9)); (repeat ((rename (_ ≠ _) => h9); clear h9)); omega) | omega)
  k_with "facts" => exact ⟨by assumption, by assumption⟩
  k_with "call ref" => (k_here; refine wpAny_call ?_; k_dflt ((have kf9 : ScopeKind.function = ScopeKind.function := rfl); ktr_enter; (rename_i g' L' h' FG' F' N' B' X' T'); (try (have hl9' := stays_list (Fr.keep FG') (by with_reducible assumption)))))
  k_with "enter base" => (refine' code_baseC ⟨?b, ?f, ?x, ?t, ?fs, ?fo, ?fk⟩ ⟨?o, ?cd, ?c1, ?c2, ?c3⟩ ?rm ?bi ?lo ?nd ?_; (case fs => exact rfl); (case fo => exact rfl); (case fk => assumption); (case b => k_asm); (case f => k_asm); (case x => k_asm); (case t => k_asm); (case o => k_is); (case cd => k_is); (case rm => ktr_room); (case bi => exact BindsTo.of_eq rfl); (case nd => decide +kernel); (case lo => exact rfl); (case c1 => exact rfl); (case c2 => exact rfl); (case c3 => exact rfl); k_whole; intro L' h' tk' cells' F' N' Y' B' X' T'; k_cells Y'; (try simp only [List.cons_append, List.nil_append] at N'); dsimp only [Runs]; (try k_fold))
  k_with "exec Assign cons ListComp" => (k_here; k_dflt (refine Assign_ListComp_S (F₀ := by k_asm) ⟨by rfl, by with_unfolding_all rfl, by with_unfolding_all rfl, by decide, by rfl, by decide, by rfl, by rfl, by rfl⟩ ?_))
  k_with "KCtEl" => (k_dflt (exact ⟨rfl, _, rfl⟩))
  k_with "SrcS" => (k_here; k_dflt (refine SrcS.intro (by rfl) (by k_asm) (by k_asm) (by decide) ?_; intro g'; (refine' sct_rest (fun c => Str.ofString "@" ++ ⟨#[c]⟩ ++ Str.ofString ".\r\n") (fun c' t' I' oI' C' oC' D' m' ys' h' tk' E' hC' hx' F' N' off' ne' => ?_) ?_; rotate_left; (intro ys' sy'; k_dflt (walk_at "FinA")); rotate_left); (all_goals (try (simp only [LCg.Off3, and_true] at off')))))
  k_with "InvEndN" => (k_dflt kst_close)
  k_with "subscriptTail Name Name ref int" => (k_here; (with_reducible show wpAny _ _ (subscriptTail _ _ (Value.ref _) (Value.int _ _)) _ _ _); k_dflt (refine' rowH_sub ?k1 ?k2 ?k3 ?k4 ?k5 ?k6 ?_ ?k7; (case k1 => k_asm); (case k2 => k_mem); (case k3 => with_reducible assumption); (case k4 => with_reducible assumption); (case k5 => first | exact (bxR (by assumption) (by assumption) (by assumption) (by assumption) (by assumption) (by assumption)).1 | omega); (case k6 => first | exact (bxR (by assumption) (by assumption) (by assumption) (by assumption) (by assumption) (by assumption)).2.1 | omega); (case k7 => with_unfolding_all rfl); k_whole); intro t9)
  k_with "subscriptTail" => (k_here; (with_reducible show wpAny _ _ (subscriptTail (PySem.Expr.Tuple _ _ _) _ _ (Value.int _ _)) _ _ _); k_dflt (refine' end_sub ?k1 ?k2 ?k5 ?k6 ?_ ?k7; (case k1 => k_asm); (case k2 => k_mem); (case k5 => exact Int.fmod_nonneg_of_pos _ (by decide)); (case k6 => exact Int.fmod_lt_of_pos _ (by decide)); (case k7 => with_unfolding_all rfl); k_whole); intro t9)
  k_with "subscriptTail Name Name str int" => (k_here; (with_reducible show wpAny _ _ (subscriptTail _ _ (Value.str _ _) (Value.int _ _)) _ _ _); k_dflt (refine' let_sub ?k4 ?k5 ?k6 ?_ ?k7 ?k8; (case k4 => first | exact (bxR (by assumption) (by assumption) (by assumption) (by assumption) (by assumption) (by assumption)).2.2 | exact rfl); (case k5 => first | exact (bxR (by assumption) (by assumption) (by assumption) (by assumption) (by assumption) (by assumption)).1 | omega); (case k6 => first | exact (bxR (by assumption) (by assumption) (by assumption) (by assumption) (by assumption) (by assumption)).2.1 | omega); (case k7 => with_unfolding_all rfl); (case k8 => (intro _; with_unfolding_all rfl)); k_whole); intro t9 tk9)
  k_with "setItem ref int" => (k_here; (with_reducible show wpAny _ _ (setItem (Value.ref _) (Value.int _ _) (Value.str _ _)) _ _ _); k_dflt (refine' row_set ?k1 ?k2 ?k3 ?k4 ?k5 ?k6 ?k7 ?k8 ?_; (case k1 => k_asm); (case k2 => k_asm); rotate_left 5; (case k8 => k_upd); (case k3 => with_reducible assumption); (case k4 => first | exact len_rows (by with_reducible assumption) | exact len_due (by with_reducible assumption)); (case k5 => first | exact (bxR (by assumption) (by assumption) (by assumption) (by assumption) (by assumption) (by assumption)).2.2 | exact rfl); (case k6 => first | exact (bxR (by assumption) (by assumption) (by assumption) (by assumption) (by assumption) (by assumption)).1 | omega); (case k7 => first | exact (bxR (by assumption) (by assumption) (by assumption) (by assumption) (by assumption) (by assumption)).2.1 | omega); k_whole); intro h9 F9 N9 hS9; (try k_sweep))
  k_with "call ref" => (k_here; (with_reducible show wpAny _ _ (call (Value.ref 52) [_, _]) _ _ _); k_dflt (refine' tellsN_use ?k1 ?k2 ?k3 ?k4 ?k5 ?kK ?kR (T_app _ _ _ _ _ _ _) trivial ?kd ?ku ?_; (case k1 => k_asm); (case k2 => k_asm); (case k3 => k_asm); (case k4 => k_asm); (case k5 => k_asm); (case kK => first | exact rfl | assumption); (case kR => first | exact appR_row | exact appR_let); (case kd => ktr_room); (case ku => ktr_units); intro r9 tl9 h9 tk9 F9 N9 hl9 ht9 ho9; (subst ht9; clear hl9); (try simp only [List.nil_append, List.cons_append, List.append_nil, List.append_assoc] at N9); (refine Exists.elim ho9 ?_; clear ho9; intro t9 e9; subst e9); (try dsimp only); (try k_fold)))
  k_with "binaryOp Add str str" => (k_here; (with_reducible show wpAny _ _ (binaryOp Operator.Add (Value.str _ _) (Value.str (rowS _ ++ _ ++ _) _)) _ _ _); (refine KOpn.add (fit1 (by with_reducible assumption) (by omega)) ?_); intro _ _ _)
  k_with "binaryOp Add str str" => (k_here; (with_reducible show wpAny _ _ (binaryOp Operator.Add (Value.str _ _) (Value.str (endI _) _)) _ _ _); (refine KOpn.add (fit2 (by with_reducible assumption) (by omega)) ?_); intro _ _ _)
  k_with "call ref" => (k_here; (with_reducible show wpAny _ _ (call (Value.ref 329) [_]) _ _ _); k_dflt (refine' tellsN_use ?k1 ?k2 ?k3 ?k4 ?k5 ?kK ?kR (T_quote _ _ _ _ _ _ _) trivial ?kd ?ku ?_; (case k1 => k_asm); (case k2 => k_asm); (case k3 => k_asm); (case k4 => k_asm); (case k5 => k_asm); (case kK => first | exact rfl | assumption); (case kR => exact .mk (txt_fits (by with_reducible assumption) (by decide))); (case kd => ktr_room); (case ku => ktr_units); intro r9 tl9 h9 tk9 F9 N9 hl9 ht9 ho9; (subst ht9; clear hl9); (try simp only [List.nil_append, List.cons_append, List.append_nil, List.append_assoc] at N9); (refine Exists.elim ho9 ?_; clear ho9; intro t9 e9; subst e9); (try dsimp only); (try k_fold)))
  k_with "call builtin:str.join" => (k_here; k_dflt (refine' join_due ?k1 ?k2 ?k3 ?k4 ?_; (case k1 => k_asm); (case k2 => k_mem); (case k3 => with_reducible assumption); (case k4 => with_reducible assumption); k_whole); intro t9 tk9)
  k_with "compareOp NotEq str str" => (k_here; k_dflt (refine cmp_sent (by with_reducible assumption) (by decide) ?_))
  k_with "call builtin:str.split" => (k_here; k_dflt (refine' split_sent ?k1 ?k2 ?k3 ?k4 ?_; (case k1 => k_asm); (case k2 => k_asm); (case k3 => with_reducible assumption); (case k4 => decide); k_whole); intro D' l' h' k' a' F' N' l1; (try k_lt l1))
  k_with "subscriptTail Name Name ref int" => (k_here; (with_reducible show wpAny _ _ (subscriptTail _ _ (Value.ref _) (Value.int _ _)) _ _ _); k_dflt (refine' heard_sub ?k1 ?k2 ?k3 ?k5 ?k6 ?_ ?k7; (case k1 => k_asm); (case k2 => k_mem); (case k3 => with_reducible assumption); (case k5 => ((repeat ((rename (_ ≠ _ ∧ _) => h9); clear h9)); (repeat ((rename ((_ ∧ _) ∧ _) => h9); clear h9)); (repeat ((rename (_ ≠ _) => h9); clear h9)); omega)); (case k6 => ((repeat ((rename (_ ≠ _ ∧ _) => h9); clear h9)); (repeat ((rename ((_ ∧ _) ∧ _) => h9); clear h9)); (repeat ((rename (_ ≠ _) => h9); clear h9)); omega)); (case k7 => with_unfolding_all rfl); k_whole); intro t9)
  k_with "subscriptTail" => (k_here; (with_reducible show wpAny _ _ (subscriptTail _ _ (Value.str (pieceS _ _) _) (Value.int 0 _)) _ _ _); k_dflt (refine' head_sub ?k5 ?_ ?k7 ?k8; (case k5 => ((repeat ((rename (_ ≠ _ ∧ _) => h9); clear h9)); (repeat ((rename ((_ ∧ _) ∧ _) => h9); clear h9)); (repeat ((rename (_ ≠ _) => h9); clear h9)); omega)); (case k7 => with_unfolding_all rfl); (case k8 => (intro _; with_unfolding_all rfl)); k_whole); intro t9 tk9)
  k_with "compareOp Eq str str" => (k_here; k_dflt (refine head_cmp ?_))
  k_with "KCiNo" => exact kci_no (if_neg (Bool.eq_false_iff.mp (by with_reducible assumption))) rfl
  k_with "pyIter ref" => (first
    | k_state_short (fun pre text => text = txtL (hitI (rangeKs 0 (((r : Nat) : Int) - 0).toNat) (rangeKs 0 (((q : Nat) : Int) - 0).toNat)) pre.length) "text"
    | ((rename KstMark => hk9); (have rb9 := rg_keep rb (Fr.keep (by assumption))); k_state (fun q9 rows due => rows = rowsL (hit2 kPre kN (rangeKs 0 (((q : Nat) : Int) - 0).toNat) q9) ∧ due = dueL (hit2 kPre kN (rangeKs 0 (((q : Nat) : Int) - 0).toNat) q9)) "rows$" "due$")
    | ((have ra9 := rg_keep ra (Fr.keep (by assumption))); k_state (fun pre rows due => rows = rowsL (hitI pre (rangeKs 0 (((q : Nat) : Int) - 0).toNat)) ∧ due = dueL (hitI pre (rangeKs 0 (((q : Nat) : Int) - 0).toNat))) "rows$" "due$"))
  k_with "state" => first
    | exact sum_start (by with_unfolding_all rfl)
    | exact sum_open (by assumption) (by assumption)
    | exact sum_shut (by assumption) (by assumption)
    | exact sum_step (bxR (by assumption) (by assumption) (by assumption) (by assumption) (by assumption) (by assumption)).1 (by assumption) (by assumption)
    | exact txt_start
    | exact txt_step (by assumption) (by assumption)
  refine wpAny_call ?_
  k_dflt (k_extra "enter base")
  k_steps
  all_goals (
    rename Fr _ _ _ _ => F9
    rename News _ _ _ _ => N9
    have n9 := N9 _ (List.Mem.head _)
    refine h _ _ _ _ _ F9.keep n9.2.2 n9.1 ?_
    rename IntsAre _ (List.foldl _ _ _) => i9
    rw [fold_sum] at i9
    exact i9)
end Mine
namespace Mine
open PySem.Calls
def natL (S : List Int) : List Nat := S.map Int.toNat
theorem natL_length (S : List Int) : (natL S).length = S.length := List.length_map ..
theorem low_natL {S : List Int} (h : Low16 S) : Low (natL S) := by
  intro a ha
  obtain ⟨x, hx, rfl⟩ := List.mem_map.mp ha
  have := h x hx
  omega
theorem mem_natL {S : List Int} (h : Low16 S) {a : Nat} : a ∈ natL S ↔ (a : Int) ∈ S := by
  constructor
  · intro ha
    obtain ⟨x, hx, rfl⟩ := List.mem_map.mp ha
    rw [Int.toNat_of_nonneg (h x hx).1]
    exact hx
  · intro ha
    exact List.mem_map.mpr ⟨_, ha, rfl⟩
theorem nodup_natL : ∀ {S : List Int}, Low16 S → S.Nodup → (natL S).Nodup
  | [], _, _ => List.nodup_nil
  | x :: r, h, hn => by
    obtain ⟨h1, h2⟩ := List.nodup_cons.mp hn
    have hr : Low16 r := fun y hy => h y (.tail _ hy)
    refine List.nodup_cons.mpr ⟨fun hm => h1 ?_, nodup_natL hr h2⟩
    have := (mem_natL hr).mp hm
    rwa [Int.toNat_of_nonneg (h x (.head _)).1] at this
theorem bits_tab : ((List.range 16).all fun a => (List.range 16).all fun b => decide (Builtin.bitXor (a : Int) (b : Int) = ((a ^^^ b : Nat) : Int)) && decide (Builtin.bitAnd (a : Int) (b : Int) = ((a &&& b : Nat) : Int))) = true := by decide +kernel
theorem bits_nat {a b : Nat} (ha : a < 16) (hb : b < 16) : Builtin.bitXor (a : Int) (b : Int) = ((a ^^^ b : Nat) : Int) ∧ Builtin.bitAnd (a : Int) (b : Int) = ((a &&& b : Nat) : Int) := by
  have h := bits_tab
  simp only [List.all_eq_true, List.mem_range, Bool.and_eq_true, decide_eq_true_eq] at h
  exact h a ha b hb
theorem hit_nat {S R : List Int} (h : Low16 S) (g : Low16 R) (k : Nat) : hitI S R (k : Int) = hit (natL S) (natL R) k := by
  rw [Bool.eq_iff_iff, hit_iff]
  constructor
  · intro e
    obtain ⟨x, hx, e⟩ := List.any_eq_true.mp e
    obtain ⟨y, hy, e⟩ := List.any_eq_true.mp e
    have e := eq_of_beq e
    refine ⟨x.toNat, List.mem_map.mpr ⟨x, hx, rfl⟩, y.toNat, List.mem_map.mpr ⟨y, hy, rfl⟩, ?_⟩
    have hx' := h x hx
    have hy' := g y hy
    have b := (bits_nat (a := x.toNat) (b := y.toNat) (by omega) (by omega)).1
    rw [Int.toNat_of_nonneg hx'.1, Int.toNat_of_nonneg hy'.1, e] at b
    omega
  · rintro ⟨a, ha, b, hb, e⟩
    have ha' := (mem_natL h).mp ha
    have hb' := (mem_natL g).mp hb
    refine List.any_eq_true.mpr ⟨_, ha', List.any_eq_true.mpr ⟨_, hb', ?_⟩⟩
    rw [(bits_nat (low_natL h a ha) (low_natL g b hb)).1, e]
    simp
theorem sum_places {S R : List Int} (h : Low16 S) (g : Low16 R) : sumI (hitI S R) = (places (natL S) (natL R)).map fun (k : Nat) => (k : Int) := by
  unfold sumI places
  congr 1
  exact List.filter_congr fun k _ => hit_nat h g k
def pushL (S : List Int) (b : Int) : List Int := S.map (pushI S b)
theorem bit_nat {b : Int} (h : BitI b) : IsBit b.toNat ∧ b = (b.toNat : Int) ∧ b.toNat < 16 := by
  rcases h with rfl | rfl | rfl | rfl
  · exact ⟨.inl rfl, rfl, by decide⟩
  · exact ⟨.inr (.inl rfl), rfl, by decide⟩
  · exact ⟨.inr (.inr (.inl rfl)), rfl, by decide⟩
  · exact ⟨.inr (.inr (.inr rfl)), rfl, by decide⟩
theorem push_one {S : List Int} (h : Low16 S) {b n : Int} (hb : BitI b) (hn : n ∈ S) : pushI S b n = ((push1 (natL S) b.toNat n.toNat : Nat) : Int) := by
  obtain ⟨_, eb, hb16⟩ := bit_nat hb
  have hn' := h n hn
  have en : n = (n.toNat : Int) := (Int.toNat_of_nonneg hn'.1).symm
  obtain ⟨e1, e2⟩ := bits_nat (a := n.toNat) (b := b.toNat) (by omega) hb16
  rw [← en, ← eb] at e1 e2
  unfold pushI push1
  rw [e1, e2]
  have c : (((n.toNat &&& b.toNat : Nat) : Int) = 0 ∨ ((n.toNat ^^^ b.toNat : Nat) : Int) ∈ S) ↔ (n.toNat &&& b.toNat = 0 ∨ (n.toNat ^^^ b.toNat) ∈ natL S) := by
    rw [mem_natL h]
    constructor
    · rintro (q | q)
      · left; omega
      · right; exact q
    · rintro (q | q)
      · left; omega
      · right; exact q
  by_cases q : n.toNat &&& b.toNat = 0 ∨ (n.toNat ^^^ b.toNat) ∈ natL S
  · rw [if_pos q, if_pos (c.mpr q)]; exact en
  · rw [if_neg q, if_neg fun z => q (c.mp z)]
theorem push_natL {S : List Int} (h : Low16 S) {b : Int} (hb : BitI b) : natL (pushL S b) = push (natL S) b.toNat := by
  unfold natL pushL push
  rw [List.map_map, List.map_map]
  refine List.map_congr_left fun n hn => ?_
  show (pushI S b n).toNat = push1 (natL S) b.toNat n.toNat
  rw [push_one h hb hn]
  exact Int.toNat_natCast _
theorem low_pushL {S : List Int} (h : Low16 S) {b : Int} (hb : BitI b) : Low16 (pushL S b) := by
  intro x hx
  obtain ⟨n, hn, rfl⟩ := List.mem_map.mp hx
  rw [push_one h hb hn]
  have : push1 (natL S) b.toNat n.toNat ∈ push (natL S) b.toNat := List.mem_map.mpr ⟨_, List.mem_map.mpr ⟨n, hn, rfl⟩, rfl⟩
  have := push_low (low_natL h) (bit_nat hb).1 _ this
  omega
theorem pushL_length (S : List Int) (b : Int) : (pushL S b).length = S.length := List.length_map ..
theorem low_range {n : Nat} (h : n ≤ 6) : Low16 (rangeKs 0 n) := by
  intro x hx
  unfold rangeKs at hx
  obtain ⟨k, hk, rfl⟩ := List.mem_map.mp hx
  have := List.mem_range.mp hk
  omega
theorem natL_range (n : Nat) : natL (rangeKs 0 n) = List.range n := by
  unfold natL rangeKs
  rw [List.map_map]
  conv => rhs; rw [← List.map_id (List.range n)]
  exact List.map_congr_left fun k _ => by show ((0 : Int) + (k : Int)).toNat = k; omega
def IsSet (S : List Int) : Prop := Low16 S ∧ S.Nodup ∧ 1 ≤ S.length ∧ S.length ≤ 6
/-- the law, of lists of ints -/
theorem law_facts {S R : List Int} {b c : Int} (h : IsSet S) (g : IsSet R) (hb : BitI b) (hc : BitI c) :
    (sumI (hitI (pushL S b) (pushL R b))).length ≤ (sumI (hitI S R)).length ∧
    (sumI (hitI (pushL (pushL S b) c) (pushL (pushL R b) c))).length ≤ (sumI (hitI (pushL S b) (pushL R b))).length ∧
    (sumI (hitI (rangeKs 0 S.length) (rangeKs 0 R.length))).length ≤ (sumI (hitI (pushL (pushL S b) c) (pushL (pushL R b) c))).length ∧
    sumI (hitI (rangeKs 0 S.length) (rangeKs 0 R.length)) = rangeKs 0 (hs S.length R.length) := by
  obtain ⟨l1, n1, p1, q1⟩ := h
  obtain ⟨l2, n2, p2, q2⟩ := g
  have P := plain_law (low_natL l1) (low_natL l2) (nodup_natL l1 n1) (nodup_natL l2 n2) (by rw [natL_length]; exact p1) (by rw [natL_length]; exact q1) (by rw [natL_length]; exact p2) (by rw [natL_length]; exact q2) (bit_nat hb).1 (bit_nat hc).1
  rw [natL_length, natL_length] at P
  rw [sum_places l1 l2, sum_places (low_pushL l1 hb) (low_pushL l2 hb), sum_places (low_pushL (low_pushL l1 hb) hc) (low_pushL (low_pushL l2 hb) hc), sum_places (low_range q1) (low_range q2)]
  simp only [List.length_map]
  rw [push_natL (low_pushL l1 hb) hc, push_natL (low_pushL l2 hb) hc, push_natL l1 hb, push_natL l2 hb, natL_range, natL_range]
  refine ⟨P.1, P.2.1, P.2.2.1, ?_⟩
  rw [P.2.2.2]
  unfold rangeKs
  exact List.map_congr_left fun k _ => (Int.zero_add _).symm
end Mine
namespace Mine
open PySem.Calls
theorem num_low {ns ms : List Int} {first n : Int} (h : Low16 ms) : 0 ≤ numAt ns first ms n ∧ numAt ns first ms n < 16 := by
  unfold numAt
  split
  · exact ⟨Int.fmod_nonneg_of_pos _ (by decide), Int.fmod_lt_of_pos _ (by decide)⟩
  · rw [List.getD_eq_getElem?_getD]
    cases e : ms[n.toNat]? with
    | none => exact ⟨by decide, by decide⟩
    | some x => exact h x (List.mem_of_getElem? e)
theorem add_facts {l : List Int} (hl : Low16 l) : ∀ {acc : List Int}, Low16 acc → acc.Nodup → Low16 (l.foldl addNew acc) ∧ (l.foldl addNew acc).Nodup ∧ acc.length ≤ (l.foldl addNew acc).length ∧ (l.foldl addNew acc).length ≤ acc.length + l.length := by
  induction l with
  | nil => intro acc h1 h2; exact ⟨h1, h2, Nat.le_refl _, Nat.le_refl _⟩
  | cons x r ih =>
    intro acc h1 h2
    have hr : Low16 r := fun y hy => hl y (.tail _ hy)
    rw [List.foldl_cons]
    by_cases q : x ∈ acc
    · rw [show addNew acc x = acc from if_pos q]
      obtain ⟨a, b, c, d⟩ := ih hr h1 h2
      exact ⟨a, b, c, by rw [List.length_cons]; omega⟩
    · rw [show addNew acc x = acc ++ [x] from if_neg q]
      have h3 : Low16 (acc ++ [x]) := fun y hy => by
        rcases List.mem_append.mp hy with hy | hy
        · exact h1 y hy
        · rw [List.mem_singleton.mp hy]; exact hl x (.head _)
      have h4 : (acc ++ [x]).Nodup := by
        refine List.nodup_append.mpr ⟨h2, by simp, fun a ha b hb e => q ?_⟩
        rw [← List.mem_singleton.mp hb, ← e]; exact ha
      obtain ⟨a, b, c, d⟩ := ih hr h3 h4
      rw [List.length_append, List.length_singleton] at c d
      exact ⟨a, b, by omega, by rw [List.length_cons]; omega⟩
theorem set_facts {ns ms : List Int} {first : Int} (h : Low16 ms) (h1 : 1 ≤ ms.length) (h6 : ms.length ≤ 6) : IsSet (setI ns first ms ((List.range ms.length).map fun (i : Nat) => (i : Int))) := by
  unfold setI
  generalize hl : (((List.range ms.length).map fun (i : Nat) => (i : Int)).map (numAt ns first ms)) = l
  have hlen : l.length = ms.length := by rw [← hl]; simp
  have hlow : Low16 l := fun x hx => by
    rw [← hl] at hx
    obtain ⟨n, _, rfl⟩ := List.mem_map.mp hx
    exact num_low h
  obtain ⟨x, r, rfl⟩ : ∃ x r, l = x :: r := by
    cases l with
    | nil => rw [List.length_nil] at hlen; omega
    | cons x r => exact ⟨x, r, rfl⟩
  have hr : Low16 r := fun y hy => hlow y (.tail _ hy)
  have e : (x :: r).foldl addNew [] = r.foldl addNew [x] := by
    rw [List.foldl_cons]
    congr 1
  rw [e]
  obtain ⟨a, b, c, d⟩ := add_facts hr (acc := [x]) (fun y hy => by rw [List.mem_singleton.mp hy]; exact hlow x (.head _)) (by simp)
  rw [List.length_singleton] at c d
  rw [List.length_cons] at hlen
  exact ⟨a, b, c, by omega⟩
theorem sum_len (H : Int → Bool) : (sumI H).length ≤ 16 := by
  unfold sumI
  rw [List.length_map]
  exact Nat.le_trans (List.length_filter_le _ _) (by simp)
section
variable {w : World} {dp un : Nat} {gd : Option (List Code)} {cn : Str} {cs : Scope} {ac : Addr} {ccd : Value} {cl : List (Str × Addr)} {outer : List Env} {A₀ : Around} {base h₀ : Heap} {L : Addr} {m mg mb : Str → Option Value} {s : Shared} {Q E : Value → Shared → Prop}
    {p : Program} {loose : List Str} {mean : ExcName → Option Value} {news : List (Addr × Obj)}
theorem fresh {h' : Heap} {D : Addr} {o : Obj} (F : Fr h₀ L s.heap m) (N : News h₀ L s.heap news) (hk : ∀ b o, s.heap.get? b = some o → h'.get? b = some o) (hf : s.heap.get? D = none) (hg : h'.get? D = some o) : Fr h₀ L h' m ∧ News h₀ L h' ((D, o) :: news) := by
  have d₀ : h₀.get? D = none := by
    cases e : h₀.get? D with
    | none => rfl
    | some o' => rw [F.keep D o' e] at hf; cases hf
  have notL : D ≠ L := fun q => by
    obtain ⟨o', _, _, e, _⟩ := F.ns
    simp [← q, hf] at e
  refine ⟨F.keeps hk, fun q hq => ?_⟩
  cases hq with
  | head => exact ⟨hg, notL, d₀⟩
  | tail _ hq => exact N.grown hk q hq
theorem U_set {a b : Addr} {vs ws : List Value} {ns ms : List Int} {first : Int} {t : Tok} {n : Nat}
    (B : Below A₀ base outer h₀) (F : Fr h₀ L s.heap m) (X : (Mine.base.heap_1 w.params).In h₀) (N : News h₀ L s.heap news) (T : Top p loose mean mg mb h₀) (hk : cs.kind = .function) (hd : dp + 3 < recursionLimit) (hu : un + 24 < cLine)
    (hl : h₀.IsList a vs.toArray) (hi : IntsAre vs ns) (hn : ns.length ≤ 100) (ht : (b, ({ cls := .type "tuple", data := .seq ws.toArray n } : Obj)) ∈ news) (hj : IntsAre ws ms) (hms : Low16 ms) (hm1 : 1 ≤ ms.length) (hm : ms.length ≤ 6) (hf : 0 ≤ first) (hf' : first ≤ 100)
    (h : ∀ D vs' S n' h' tk', Fr h₀ L h' m → News h₀ L h' ((D, listOf vs'.toArray n') :: news) → IntsAre vs' S → IsSet S → Q (.ref D) { s with heap := h', toks := tk' }) :
    wpAny (model PySem.Challenge.rw_wk0021_01.row.prog w) (ktrTop dp un gd cn cs L ac ccd cl outer) (call (.ref 336) [.ref a, .int first t, .ref b]) Q E s := by
  have hl' : s.heap.IsList a vs.toArray := by obtain ⟨o, e, r⟩ := hl; exact ⟨o, F.keep _ _ e, r⟩
  refine C_set B F X T hk hd hu hl' hi hn ⟨_, (N _ ht).1, rfl, n, rfl⟩ hj (by omega) hf hf' fun D vs' n' h' tk' k1 k2 k3 k4 => ?_
  obtain ⟨F', N'⟩ := fresh F N k1 k2 k3
  exact h D vs'.toList _ n' h' tk' F' N' k4 (set_facts hms hm1 hm)
theorem U_bits {a : Addr} {vs : List Value} {ns : List Int}
    (B : Below A₀ base outer h₀) (F : Fr h₀ L s.heap m) (X : (Mine.base.heap_1 w.params).In h₀) (N : News h₀ L s.heap news) (T : Top p loose mean mg mb h₀) (hk : cs.kind = .function) (hd : dp + 3 < recursionLimit) (hu : un + 24 < cLine)
    (hl : h₀.IsList a vs.toArray) (hi : IntsAre vs ns) (hn : ns.length ≤ 100)
    (h : ∀ D b0 b1 t0 t1 n h' tk', Fr h₀ L h' m → News h₀ L h' ((D, listOf #[.int b0 t0, .int b1 t1] n) :: news) → BitI b0 → BitI b1 → Q (.ref D) { s with heap := h', toks := tk' }) :
    wpAny (model PySem.Challenge.rw_wk0021_01.row.prog w) (ktrTop dp un gd cn cs L ac ccd cl outer) (call (.ref 341) [.ref a]) Q E s := by
  have hl' : s.heap.IsList a vs.toArray := by obtain ⟨o, e, r⟩ := hl; exact ⟨o, F.keep _ _ e, r⟩
  refine C_bits B F X T hk hd hu hl' hi hn fun D b0 b1 t0 t1 n h' tk' k1 k2 k3 k4 k5 => ?_
  obtain ⟨F', N'⟩ := fresh F N k1 k2 k3
  exact h D b0 b1 t0 t1 n h' tk' F' N' k4 k5
theorem U_pushed {a : Addr} {vs : List Value} {S : List Int} {bit : Int} {t : Tok} {n : Nat}
    (B : Below A₀ base outer h₀) (F : Fr h₀ L s.heap m) (X : (Mine.base.heap_1 w.params).In h₀) (N : News h₀ L s.heap news) (T : Top p loose mean mg mb h₀) (hk : cs.kind = .function) (hd : dp + 3 < recursionLimit) (hu : un + 24 < cLine)
    (hm : (a, listOf vs.toArray n) ∈ news) (hi : IntsAre vs S) (hn : S.length ≤ 100)
    (h : ∀ D vs' n' h' tk', Fr h₀ L h' m → News h₀ L h' ((D, listOf vs'.toArray n') :: news) → IntsAre vs' (pushL S bit) → Q (.ref D) { s with heap := h', toks := tk' }) :
    wpAny (model PySem.Challenge.rw_wk0021_01.row.prog w) (ktrTop dp un gd cn cs L ac ccd cl outer) (call (.ref 348) [.ref a, .int bit t]) Q E s := by
  refine C_pushed B F X T hk hd hu (PySem.IsL.isList (n := n) (N _ hm).1) hi hn fun D vs' n' h' tk' k1 k2 k3 k4 => ?_
  obtain ⟨F', N'⟩ := fresh F N k1 k2 k3
  exact h D vs'.toList n' h' tk' F' N' k4
theorem U_sums {a b : Addr} {vs ws : List Value} {S R : List Int} {n n2 : Nat}
    (B : Below A₀ base outer h₀) (F : Fr h₀ L s.heap m) (X : (Mine.base.heap_1 w.params).In h₀) (N : News h₀ L s.heap news) (T : Top p loose mean mg mb h₀) (hk : cs.kind = .function) (hd : dp + 6 < recursionLimit) (hu : un + 60 < cLine)
    (hm : (a, listOf vs.toArray n) ∈ news) (hi : IntsAre vs S) (hm2 : (b, listOf ws.toArray n2) ∈ news) (hi2 : IntsAre ws R) (hS : Low16 S) (hR : Low16 R) (hn : S.length ≤ 100) (hn2 : R.length ≤ 100)
    (h : ∀ D vs' n' h' tk', Fr h₀ L h' m → News h₀ L h' ((D, listOf vs'.toArray n') :: news) → IntsAre vs' (sumI (hitI S R)) → (sumI (hitI S R)).length ≤ 16 → Q (.ref D) { s with heap := h', toks := tk' }) :
    wpAny (model PySem.Challenge.rw_wk0021_01.row.prog w) (ktrTop dp un gd cn cs L ac ccd cl outer) (call (.ref 353) [.ref a, .ref b]) Q E s := by
  refine C_sums B F X T hk hd hu (PySem.IsL.isList (n := n) (N _ hm).1) hi (PySem.IsL.isList (n := n2) (N _ hm2).1) hi2 hn hn2 hS hR fun D vs' n' h' tk' k1 k2 k3 k4 => ?_
  obtain ⟨F', N'⟩ := fresh F N k1 k2 k3
  exact h D vs'.toList n' h' tk' F' N' k4 (sum_len _)
theorem U_firsts {a b : Addr} {r q : Nat} {t1 t2 t3 u1 u2 u3 : Tok}
    (B : Below A₀ base outer h₀) (F : Fr h₀ L s.heap m) (X : (Mine.base.heap_1 w.params).In h₀) (N : News h₀ L s.heap news) (T : Top p loose mean mg mb h₀) (hk : cs.kind = .function) (hd : dp + 6 < recursionLimit) (hu : un + 60 < cLine)
    (ra : IsRange s.heap a 0 (r : Nat) 1 t1 t2 t3) (rb : IsRange s.heap b 0 (q : Nat) 1 u1 u2 u3) (hr1 : 1 ≤ r) (hr6 : r ≤ 6) (hq1 : 1 ≤ q) (hq6 : q ≤ 6)
    (h : ∀ D vs' n' h' tk', Fr h₀ L h' m → News h₀ L h' ((D, listOf vs'.toArray n') :: news) → IntsAre vs' (rangeKs 0 (hs r q)) → hs r q ≤ 16 → Q (.ref D) { s with heap := h', toks := tk' }) :
    wpAny (model PySem.Challenge.rw_wk0021_01.row.prog w) (ktrTop dp un gd cn cs L ac ccd cl outer) (call (.ref 353) [.ref a, .ref b]) Q E s := by
  refine C_sumsR B F X T hk hd hu ra rb hr6 hq6 fun D vs' n' h' tk' k1 k2 k3 k4 => ?_
  obtain ⟨F', N'⟩ := fresh F N k1 k2 k3
  have e : ∀ k : Nat, ((k : Int) - 0).toNat = k := fun k => by omega
  rw [e, e] at k4
  have e2 : sumI (hitI (rangeKs 0 r) (rangeKs 0 q)) = rangeKs 0 (hs r q) := by
    rw [sum_places (low_range hr6) (low_range hq6), natL_range, natL_range, firsts_eq hr1 hr6 hq1 hq6]
    unfold rangeKs
    exact List.map_congr_left fun k _ => (Int.zero_add _).symm
  have e3 := sum_len (hitI (rangeKs 0 r) (rangeKs 0 q))
  rw [e2] at k4 e3
  rw [rangeKs_length] at e3
  exact h D vs'.toList n' h' tk' F' N' k4 e3
theorem U_least {r q : Nat} {t u : Tok}
    (B : Below A₀ base outer h₀) (F : Fr h₀ L s.heap m) (X : (Mine.base.heap_1 w.params).In h₀) (N : News h₀ L s.heap news) (T : Top p loose mean mg mb h₀) (hk : cs.kind = .function) (hd : dp + 6 < recursionLimit) (hu : un + 60 < cLine)
    (hr1 : 1 ≤ r) (hr6 : r ≤ 6) (hq1 : 1 ≤ q) (hq6 : q ≤ 6) (h : ∀ k h' tk', Fr h₀ L h' m → News h₀ L h' news → Q (.int (hs r q : Nat) k) { s with heap := h', toks := tk' }) :
    wpAny (model PySem.Challenge.rw_wk0021_01.row.prog w) (ktrTop dp un gd cn cs L ac ccd cl outer) (call (.ref 358) [.int (r : Nat) t, .int (q : Nat) u]) Q E s :=
  C_least B F X T hk hd hu hr1 hr6 hq1 hq6 fun k h' tk' k1 => h k h' tk' (F.keeps k1) (N.grown k1)
theorem U_blocks {r q : Nat} {t u : Tok}
    (B : Below A₀ base outer h₀) (F : Fr h₀ L s.heap m) (X : (Mine.base.heap_1 w.params).In h₀) (N : News h₀ L s.heap news) (T : Top p loose mean mg mb h₀) (hk : cs.kind = .function) (hd : dp + 3 < recursionLimit) (hu : un + 24 < cLine)
    (hr1 : 1 ≤ r) (hr6 : r ≤ 6) (hq1 : 1 ≤ q) (hq6 : q ≤ 6) (h : ∀ k h' tk', Fr h₀ L h' m → News h₀ L h' news → Q (.int (hs r q : Nat) k) { s with heap := h', toks := tk' }) :
    wpAny (model PySem.Challenge.rw_wk0021_01.row.prog w) (ktrTop dp un gd cn cs L ac ccd cl outer) (call (.ref 365) [.int (r : Nat) t, .int (q : Nat) u]) Q E s :=
  C_blocks B F X T hk hd hu hr1 hr6 hq1 hq6 fun k h' tk' k1 => h k h' tk' (F.keeps k1) (N.grown k1)
end
end Mine
namespace Mine
open PySem.Calls
theorem law_rng (k : Nat) : rangeKs 0 k = rangeKs 0 ((k : Int) - 0).toNat := by rw [show ((k : Int) - 0).toNat = k by omega]
theorem law_eq {prog : Program} {w : World} {A : Around} {E : Value → Shared → Prop} {s : Shared} {a b : Addr} {vs us : List Value} {ns ms : List Int} {Q : Value → Shared → Prop} (hl : s.heap.IsList a vs.toArray) (hi : IntsAre vs ns) (hl' : s.heap.IsList b us.toArray) (hi' : IntsAre us ms) (hu : A.units + 64 < cLine) (e : ns = ms)
    (h : Q (.bool true) s) : wpAny (model prog w) A (compareOp .Eq (.ref a) (.ref b)) Q E s := eq_intsK hl hi hl' hi' hu (by rw [decide_eq_true e]; exact h)
theorem law_eqI {prog : Program} {w : World} {A : Around} {E : Value → Shared → Prop} {s : Shared} {a : Int} {t u : Tok} {Q : Value → Shared → Prop} (h : Q (.bool true) s) : wpAny (model prog w) A (compareOp .Eq (.int a t) (.int a u)) Q E s := eq_int (by rw [show (a == a) = true from by simp]; exact h)
theorem low_a : Low16 [5, 11, 6, 5, 11, 6] := by
  intro x hx
  simp at hx
  omega
theorem low_b : Low16 [3, 12, 10, 7, 9, 3] := by
  intro x hx
  simp at hx
  omega
theorem fin.tw10007411396671696613 : True := True.intro
theorem fin.tw10070804522480449196 : True := True.intro
theorem fin.tw10098057777631523497 : True := True.intro
theorem fin.tw1014637456484912126 : True := True.intro
theorem fin.tw10147658903529517814 : True := True.intro
theorem fin.tw10196768644732416780 : True := True.intro
theorem fin.tw10242451874928486539 : True := True.intro
theorem fin.tw10279692637995926009 : True := True.intro
theorem fin.tw10329872625359487480 : True := True.intro
theorem fin.tw1035503724928835527 : True := True.intro
theorem fin.tw10383673109516279431 : True := True.intro
theorem fin.tw10391319463526535247 : True := True.intro
theorem fin.tw10393886385942881009 : True := True.intro
theorem fin.tw10411508006071892022 : True := True.intro
theorem fin.tw10469515968555745039 : True := True.intro
theorem fin.tw10511823565363050587 : True := True.intro
theorem fin.tw10599938827571368224 : True := True.intro
theorem fin.tw10671828304227620169 : True := True.intro
theorem fin.tw10696652717036330658 : True := True.intro
theorem fin.tw10699407837109476802 : True := True.intro
theorem fin.tw10708223146118651492 : True := True.intro
theorem fin.tw10751089155417173751 : True := True.intro
theorem fin.tw10782327089294195420 : True := True.intro
theorem fin.tw1080700006314346644 : True := True.intro
theorem fin.tw10807920368746810246 : True := True.intro
theorem fin.tw10829458402184033698 : True := True.intro
theorem fin.tw10852849658779182186 : True := True.intro
theorem fin.tw10874316729293906858 : True := True.intro
theorem fin.tw10875463905939285979 : True := True.intro
theorem fin.tw1088692219920020602 : True := True.intro
theorem fin.tw10895054467252067526 : True := True.intro
theorem fin.tw10925335251469727208 : True := True.intro
theorem fin.tw10936777179133785780 : True := True.intro
theorem fin.tw10939691994893167182 : True := True.intro
theorem fin.tw10998343915150870288 : True := True.intro
theorem fin.tw11039862389202566683 : True := True.intro
theorem fin.tw11040825799340251285 : True := True.intro
theorem fin.tw1105837973531982728 : True := True.intro
theorem fin.tw11061592194353771069 : True := True.intro
theorem fin.tw111200028466390044 : True := True.intro
theorem fin.tw11147117730913898307 : True := True.intro
theorem fin.tw11151619158091525091 : True := True.intro
theorem fin.tw11154830654865731599 : True := True.intro
theorem fin.tw11192643925408225281 : True := True.intro
theorem fin.tw11227884535216515135 : True := True.intro
theorem fin.tw11273041486466551846 : True := True.intro
theorem fin.tw11277574374343807151 : True := True.intro
theorem fin.tw1128348596072947701 : True := True.intro
theorem fin.tw11293339424137598113 : True := True.intro
theorem fin.tw11325060847842403200 : True := True.intro
theorem fin.tw11336253725339858928 : True := True.intro
theorem fin.tw11414119711712004833 : True := True.intro
theorem fin.tw11414674201277728305 : True := True.intro
theorem fin.tw11454252539852477091 : True := True.intro
theorem fin.tw11466478281803324712 : True := True.intro
theorem fin.tw11575174756993882273 : True := True.intro
theorem fin.tw11587955951900863698 : True := True.intro
theorem fin.tw11607805686811502034 : True := True.intro
theorem fin.tw11615019562542576733 : True := True.intro
theorem fin.tw11897717083992391400 : True := True.intro
theorem fin.tw11936995450923721628 : True := True.intro
theorem fin.tw1202912048536075021 : True := True.intro
theorem fin.tw1204137644300099425 : True := True.intro
theorem fin.tw12101641454282484092 : True := True.intro
theorem fin.tw12105171945263650130 : True := True.intro
theorem fin.tw12118000046449163591 : True := True.intro
theorem fin.tw12135189313929291683 : True := True.intro
theorem fin.tw12141802397888321627 : True := True.intro
theorem fin.tw12180539936304867106 : True := True.intro
theorem fin.tw12212933522069011988 : True := True.intro
theorem fin.tw12239064139714945176 : True := True.intro
theorem fin.tw12284014389350100970 : True := True.intro
theorem fin.tw12291753297600562012 : True := True.intro
theorem fin.tw12292906935544458286 : True := True.intro
theorem fin.tw12347537446847802165 : True := True.intro
theorem fin.tw12355744275394475900 : True := True.intro
theorem fin.tw12356021495744459628 : True := True.intro
theorem fin.tw12396209658082332994 : True := True.intro
theorem fin.tw12464766053444552404 : True := True.intro
theorem fin.tw12494888245299231016 : True := True.intro
theorem fin.tw1252854909445205041 : True := True.intro
theorem fin.tw12550770813317053977 : True := True.intro
theorem fin.tw12567809125941998234 : True := True.intro
theorem fin.tw12612204703400128841 : True := True.intro
theorem fin.tw12649782002744950493 : True := True.intro
theorem fin.tw12696600883282566439 : True := True.intro
theorem fin.tw12711679700452659978 : True := True.intro
theorem fin.tw12718612220689870738 : True := True.intro
theorem fin.tw12809788781938459499 : True := True.intro
theorem fin.tw1281744992317467088 : True := True.intro
theorem fin.tw12829507556594621215 : True := True.intro
theorem fin.tw12833947400113492166 : True := True.intro
theorem fin.tw12868640280835112553 : True := True.intro
theorem fin.tw12869217540446652890 : True := True.intro
theorem fin.tw12876064707754696378 : True := True.intro
theorem fin.tw12876116671307685997 : True := True.intro
theorem fin.tw12932903420030652473 : True := True.intro
theorem fin.tw12946824338688289833 : True := True.intro
theorem fin.tw12962497063298326498 : True := True.intro
theorem fin.tw12977279227502587607 : True := True.intro
theorem fin.tw12996517811204074000 : True := True.intro
theorem fin.tw13021059552284102479 : True := True.intro
theorem fin.tw13066358836101814915 : True := True.intro
theorem fin.tw13077057902897974858 : True := True.intro
theorem fin.tw13093503161671486093 : True := True.intro
theorem fin.tw13119895379190043232 : True := True.intro
theorem fin.tw13158425560686309300 : True := True.intro
theorem fin.tw13162651487661262736 : True := True.intro
theorem fin.tw13272504610945704091 : True := True.intro
theorem fin.tw13294311002278339166 : True := True.intro
theorem fin.tw13295704053362595847 : True := True.intro
theorem fin.tw13326868189938593150 : True := True.intro
theorem fin.tw13337293482115323266 : True := True.intro
theorem fin.tw13360279666012451719 : True := True.intro
theorem fin.tw13383306551100868464 : True := True.intro
theorem fin.tw13412572060209156058 : True := True.intro
theorem fin.tw13467322939085005891 : True := True.intro
theorem fin.tw13469397999491448738 : True := True.intro
theorem fin.tw13516622038369049944 : True := True.intro
theorem fin.tw13523910257889291827 : True := True.intro
theorem fin.tw13574545013463194659 : True := True.intro
theorem fin.tw13663712653956307005 : True := True.intro
theorem fin.tw13700621096757390547 : True := True.intro
theorem fin.tw13724452099449386491 : True := True.intro
theorem fin.tw13790858721211988464 : True := True.intro
theorem fin.tw13804985430223577035 : True := True.intro
theorem fin.tw13814004702073501669 : True := True.intro
theorem fin.tw13815853411582834384 : True := True.intro
theorem fin.tw13870153662132920491 : True := True.intro
theorem fin.tw13898374239775968522 : True := True.intro
theorem fin.tw13925877587632400325 : True := True.intro
theorem fin.tw1397303283331804279 : True := True.intro
theorem fin.tw1405897622057794425 : True := True.intro
theorem fin.tw14075178694198228753 : True := True.intro
theorem fin.tw14109310954907245088 : True := True.intro
theorem fin.tw14111491100615862519 : True := True.intro
theorem fin.tw14134379338385194387 : True := True.intro
theorem fin.tw14139026862911339306 : True := True.intro
theorem fin.tw14210890002308233579 : True := True.intro
theorem fin.tw1422313219903470601 : True := True.intro
theorem fin.tw14232876856209179772 : True := True.intro
theorem fin.tw14239432107786713131 : True := True.intro
theorem fin.tw14245171486683049214 : True := True.intro
theorem fin.tw14279960228734115912 : True := True.intro
theorem fin.tw14333544728242365436 : True := True.intro
theorem fin.tw14345562132136545540 : True := True.intro
theorem fin.tw14347400895652799225 : True := True.intro
theorem fin.tw14431720936831517352 : True := True.intro
theorem fin.tw14468091648759818802 : True := True.intro
theorem fin.tw14497727239971306367 : True := True.intro
theorem fin.tw1450881378762983150 : True := True.intro
theorem fin.tw14517287926952318261 : True := True.intro
theorem fin.tw14560573928864763818 : True := True.intro
theorem fin.tw14568449535678555946 : True := True.intro
theorem fin.tw14574801432027512755 : True := True.intro
theorem fin.tw14578271805448956485 : True := True.intro
theorem fin.tw14637358334870819178 : True := True.intro
theorem fin.tw14658254696389335927 : True := True.intro
theorem fin.tw14679806638718605512 : True := True.intro
theorem fin.tw14728723275428758510 : True := True.intro
theorem fin.tw14746900525979965132 : True := True.intro
theorem fin.tw14786503066443513839 : True := True.intro
theorem fin.tw14793013804824869981 : True := True.intro
theorem fin.tw14814673180317915700 : True := True.intro
theorem fin.tw14838103818555229697 : True := True.intro
theorem fin.tw14855157385224911753 : True := True.intro
theorem fin.tw14856888987745899463 : True := True.intro
theorem fin.tw14899709244077398024 : True := True.intro
theorem fin.tw15006197148634694070 : True := True.intro
theorem fin.tw15083174532876359662 : True := True.intro
theorem fin.tw15094949803261831281 : True := True.intro
theorem fin.tw1513882299299856519 : True := True.intro
theorem fin.tw15144710454662140524 : True := True.intro
theorem fin.tw15149952090015108872 : True := True.intro
theorem fin.tw15201286185872193147 : True := True.intro
theorem fin.tw15205425988870721313 : True := True.intro
theorem fin.tw15225332579556243176 : True := True.intro
theorem fin.tw15234240111613058569 : True := True.intro
theorem fin.tw15309079848183770524 : True := True.intro
theorem fin.tw15344004072050561172 : True := True.intro
theorem fin.tw1535588207084551279 : True := True.intro
theorem fin.tw15373703851562958014 : True := True.intro
theorem fin.tw15399907426655090358 : True := True.intro
theorem fin.tw1544503264643628384 : True := True.intro
theorem fin.tw1545086475593560577 : True := True.intro
theorem fin.tw15459455144867644326 : True := True.intro
theorem fin.tw15523922138108190246 : True := True.intro
theorem fin.tw15530151957754944063 : True := True.intro
theorem fin.tw15533503492667675913 : True := True.intro
theorem fin.tw15564276425815640635 : True := True.intro
theorem fin.tw15566928917628492161 : True := True.intro
theorem fin.tw15583698165555649274 : True := True.intro
theorem fin.tw15590172107835277464 : True := True.intro
theorem fin.tw1560641971993327685 : True := True.intro
theorem fin.tw15621619335703214680 : True := True.intro
theorem fin.tw15675102808854859970 : True := True.intro
theorem fin.tw15688172546075569117 : True := True.intro
theorem fin.tw15741700470354863883 : True := True.intro
theorem fin.tw1580780407708033493 : True := True.intro
theorem fin.tw15815952407149668801 : True := True.intro
theorem fin.tw15832999045522443761 : True := True.intro
theorem fin.tw15942684835789789487 : True := True.intro
theorem fin.tw15989303212955285315 : True := True.intro
theorem fin.tw16008352439218843909 : True := True.intro
theorem fin.tw16103849850496634939 : True := True.intro
theorem fin.tw16109372258727991565 : True := True.intro
theorem fin.tw16115155874713506467 : True := True.intro
theorem fin.tw1613116972386908190 : True := True.intro
theorem fin.tw16175276709679454751 : True := True.intro
theorem fin.tw16196181902256332553 : True := True.intro
theorem fin.tw16205109500356779066 : True := True.intro
theorem fin.tw16229209127682248589 : True := True.intro
theorem fin.tw16237762584071213788 : True := True.intro
theorem fin.tw1625080806587739848 : True := True.intro
theorem fin.tw16252508478716706905 : True := True.intro
theorem fin.tw16269368082590959529 : True := True.intro
theorem fin.tw16275787546110486726 : True := True.intro
theorem fin.tw16285329926789087883 : True := True.intro
theorem fin.tw16307707646766795581 : True := True.intro
theorem fin.tw16328414832103592811 : True := True.intro
theorem fin.tw1635022588487117616 : True := True.intro
theorem fin.tw16363194186817777481 : True := True.intro
theorem fin.tw16401934584784274106 : True := True.intro
theorem fin.tw16429022384663243119 : True := True.intro
theorem fin.tw16488607150827929282 : True := True.intro
theorem fin.tw16496857829328116044 : True := True.intro
theorem fin.tw16503470079419688546 : True := True.intro
theorem fin.tw16510490156224867327 : True := True.intro
theorem fin.tw16530489862217454893 : True := True.intro
theorem fin.tw16570786720924097770 : True := True.intro
theorem fin.tw16584127079891442865 : True := True.intro
theorem fin.tw16656299143469825513 : True := True.intro
theorem fin.tw1666694428299288667 : True := True.intro
theorem fin.tw16798467561266328274 : True := True.intro
theorem fin.tw16867096813858660809 : True := True.intro
theorem fin.tw16906536467411238026 : True := True.intro
theorem fin.tw16912196016219973028 : True := True.intro
theorem fin.tw16934629359412608497 : True := True.intro
theorem fin.tw16939121089588816534 : True := True.intro
theorem fin.tw16958243865122950064 : True := True.intro
theorem fin.tw17013622689778091987 : True := True.intro
theorem fin.tw170242057164969149 : True := True.intro
theorem fin.tw17067295170570645592 : True := True.intro
theorem fin.tw17108682257543074861 : True := True.intro
theorem fin.tw17123178472405020103 : True := True.intro
theorem fin.tw17130245016438642246 : True := True.intro
theorem fin.tw1713156846745171867 : True := True.intro
theorem fin.tw17149882997012438147 : True := True.intro
theorem fin.tw17164383140453370395 : True := True.intro
theorem fin.tw17186005699333237546 : True := True.intro
theorem fin.tw17197158672614542318 : True := True.intro
theorem fin.tw17204297501091165112 : True := True.intro
theorem fin.tw17217429795192226366 : True := True.intro
theorem fin.tw17235304873150492719 : True := True.intro
theorem fin.tw17260493314774615805 : True := True.intro
theorem fin.tw17311274769643918242 : True := True.intro
theorem fin.tw17334501490640209979 : True := True.intro
theorem fin.tw17347454772498655404 : True := True.intro
theorem fin.tw17362494058136835672 : True := True.intro
theorem fin.tw17381565186217453558 : True := True.intro
theorem fin.tw17416127249078093707 : True := True.intro
theorem fin.tw17425937995043322649 : True := True.intro
theorem fin.tw17430205856086898164 : True := True.intro
theorem fin.tw17449020081951674710 : True := True.intro
theorem fin.tw17495881415371897999 : True := True.intro
theorem fin.tw17570709534508481193 : True := True.intro
theorem fin.tw17628183408451194143 : True := True.intro
theorem fin.tw17637551073024348614 : True := True.intro
theorem fin.tw17656766251404061198 : True := True.intro
theorem fin.tw17662344363894024548 : True := True.intro
theorem fin.tw17665283555074236365 : True := True.intro
theorem fin.tw17698704350827878285 : True := True.intro
theorem fin.tw17701328389417463424 : True := True.intro
theorem fin.tw17717364068325071970 : True := True.intro
theorem fin.tw17719728818120068181 : True := True.intro
theorem fin.tw17743408960866722510 : True := True.intro
theorem fin.tw17784850919643140607 : True := True.intro
theorem fin.tw17801579834951734752 : True := True.intro
theorem fin.tw17821466097196317003 : True := True.intro
theorem fin.tw17861066769153400444 : True := True.intro
theorem fin.tw17869975865946814897 : True := True.intro
theorem fin.tw17896612028031085017 : True := True.intro
theorem fin.tw17933470926392208243 : True := True.intro
theorem fin.tw17963964198891936676 : True := True.intro
theorem fin.tw17971676594858020690 : True := True.intro
theorem fin.tw17974384156558142227 : True := True.intro
theorem fin.tw18004827428879835118 : True := True.intro
theorem fin.tw18082680734076937219 : True := True.intro
theorem fin.tw18105285910621931680 : True := True.intro
theorem fin.tw18105942590061964161 : True := True.intro
theorem fin.tw18115140415614742170 : True := True.intro
theorem fin.tw18164189302063226315 : True := True.intro
theorem fin.tw18176387895596863783 : True := True.intro
theorem fin.tw1819255440876223710 : True := True.intro
theorem fin.tw18195182924450695511 : True := True.intro
theorem fin.tw18230178534529381785 : True := True.intro
theorem fin.tw18255404467826089762 : True := True.intro
theorem fin.tw1830487165695529041 : True := True.intro
theorem fin.tw18373065035072037172 : True := True.intro
theorem fin.tw18387650150990424433 : True := True.intro
theorem fin.tw1887099378405440850 : True := True.intro
theorem fin.tw1921165311934587177 : True := True.intro
theorem fin.tw1921391257341544841 : True := True.intro
theorem fin.tw1963134401048803436 : True := True.intro
theorem fin.tw1976505206021243879 : True := True.intro
theorem fin.tw1982079694162106894 : True := True.intro
theorem fin.tw2051409578822353534 : True := True.intro
theorem fin.tw2067723777617599883 : True := True.intro
theorem fin.tw2090205506522743130 : True := True.intro
theorem fin.tw2103456241558337223 : True := True.intro
theorem fin.tw216489041496292469 : True := True.intro
theorem fin.tw220677088936066577 : True := True.intro
theorem fin.tw2236755162388048479 : True := True.intro
theorem fin.tw2277568627679802767 : True := True.intro
theorem fin.tw2304379251839397102 : True := True.intro
theorem fin.tw2305881189932309285 : True := True.intro
theorem fin.tw2316539691658765527 : True := True.intro
theorem fin.tw2320886540369039338 : True := True.intro
theorem fin.tw2321816554428607280 : True := True.intro
theorem fin.tw2367325634123391141 : True := True.intro
theorem fin.tw2377308710366028375 : True := True.intro
theorem fin.tw2415902012162501839 : True := True.intro
theorem fin.tw2441168790927817222 : True := True.intro
theorem fin.tw2462912638960843985 : True := True.intro
theorem fin.tw2469472546353832535 : True := True.intro
theorem fin.tw2503846163805864124 : True := True.intro
theorem fin.tw25104660705969849 : True := True.intro
theorem fin.tw2512408688544751470 : True := True.intro
theorem fin.tw251868834278440796 : True := True.intro
theorem fin.tw2537931557510868981 : True := True.intro
theorem fin.tw2608567993692976607 : True := True.intro
theorem fin.tw2617349483901765261 : True := True.intro
theorem fin.tw261821256539638927 : True := True.intro
theorem fin.tw2656788454239962097 : True := True.intro
theorem fin.tw2671655128345628175 : True := True.intro
theorem fin.tw2775396313129547428 : True := True.intro
theorem fin.tw2789213428527533208 : True := True.intro
theorem fin.tw2824846461999071874 : True := True.intro
theorem fin.tw2866121171748074186 : True := True.intro
theorem fin.tw2885147992704089249 : True := True.intro
theorem fin.tw2896703901015224195 : True := True.intro
theorem fin.tw2910385600587045654 : True := True.intro
theorem fin.tw2976117146107443816 : True := True.intro
theorem fin.tw3004984022683251337 : True := True.intro
theorem fin.tw3008263204520378139 : True := True.intro
theorem fin.tw3028926083550364057 : True := True.intro
theorem fin.tw3029852977388229646 : True := True.intro
theorem fin.tw3112429581023547943 : True := True.intro
theorem fin.tw3125960719983571848 : True := True.intro
theorem fin.tw3173534031939492945 : True := True.intro
theorem fin.tw3193646187698272336 : True := True.intro
theorem fin.tw3199103547748192838 : True := True.intro
theorem fin.tw3211687289105081006 : True := True.intro
theorem fin.tw3222278782482380304 : True := True.intro
theorem fin.tw3236217559460173300 : True := True.intro
theorem fin.tw3263211703599914710 : True := True.intro
theorem fin.tw3268265519342814607 : True := True.intro
theorem fin.tw3293696948919318046 : True := True.intro
theorem fin.tw3294737048268681048 : True := True.intro
theorem fin.tw3302319216010004292 : True := True.intro
theorem fin.tw333583748066197110 : True := True.intro
theorem fin.tw3343445320678177929 : True := True.intro
theorem fin.tw3373110491918621954 : True := True.intro
theorem fin.tw3404873503106905745 : True := True.intro
theorem fin.tw3432132637015033673 : True := True.intro
theorem fin.tw3456623496861543869 : True := True.intro
theorem fin.tw3459265974087741279 : True := True.intro
theorem fin.tw3506512066687448480 : True := True.intro
theorem fin.tw3598329298470268980 : True := True.intro
theorem fin.tw3599858809825778643 : True := True.intro
theorem fin.tw3683778510129048087 : True := True.intro
theorem fin.tw3698310029689876229 : True := True.intro
theorem fin.tw373065315874586923 : True := True.intro
theorem fin.tw3762306804915933987 : True := True.intro
theorem fin.tw3767311804947220896 : True := True.intro
theorem fin.tw3788772014149755174 : True := True.intro
theorem fin.tw3794220679723124481 : True := True.intro
theorem fin.tw380778119907437045 : True := True.intro
theorem fin.tw3810338749695602999 : True := True.intro
theorem fin.tw3810570522144960214 : True := True.intro
theorem fin.tw3812028171767442716 : True := True.intro
theorem fin.tw3837020019201816242 : True := True.intro
theorem fin.tw3906754673857718949 : True := True.intro
theorem fin.tw3975253019698251321 : True := True.intro
theorem fin.tw3998398428148030388 : True := True.intro
theorem fin.tw4013537778516871869 : True := True.intro
theorem fin.tw4040260094072895976 : True := True.intro
theorem fin.tw4100293265295638779 : True := True.intro
theorem fin.tw4124276233288881987 : True := True.intro
theorem fin.tw4144819383078699286 : True := True.intro
theorem fin.tw4162185377826839926 : True := True.intro
theorem fin.tw4170516301191304579 : True := True.intro
theorem fin.tw4171678462856256454 : True := True.intro
theorem fin.tw4209717502836232480 : True := True.intro
theorem fin.tw4218790737952374519 : True := True.intro
theorem fin.tw4265850918314828415 : True := True.intro
theorem fin.tw428092273266315144 : True := True.intro
theorem fin.tw4312942655851389009 : True := True.intro
theorem fin.tw4326780796455107134 : True := True.intro
theorem fin.tw4329306826757983850 : True := True.intro
theorem fin.tw4395496475954998127 : True := True.intro
theorem fin.tw4424551920762525699 : True := True.intro
theorem fin.tw4443050520305737185 : True := True.intro
theorem fin.tw4487510444934403244 : True := True.intro
theorem fin.tw4504814632618958902 : True := True.intro
theorem fin.tw452842511749404161 : True := True.intro
theorem fin.tw4570111826955561243 : True := True.intro
theorem fin.tw4588413851689716618 : True := True.intro
theorem fin.tw4598667867955821814 : True := True.intro
theorem fin.tw4613182775407389354 : True := True.intro
theorem fin.tw4640724917100965312 : True := True.intro
theorem fin.tw4684940682943077961 : True := True.intro
theorem fin.tw4719063310657182621 : True := True.intro
theorem fin.tw4723787954990577340 : True := True.intro
theorem fin.tw4768634762848416435 : True := True.intro
theorem fin.tw4769821431679368130 : True := True.intro
theorem fin.tw4788878847521262168 : True := True.intro
theorem fin.tw480829909506669009 : True := True.intro
theorem fin.tw4868334931027891882 : True := True.intro
theorem fin.tw4878226113927451544 : True := True.intro
theorem fin.tw4879674094562380441 : True := True.intro
theorem fin.tw4898026214463823928 : True := True.intro
theorem fin.tw4924110625330727750 : True := True.intro
theorem fin.tw4928979718650693569 : True := True.intro
theorem fin.tw4950403968356008110 : True := True.intro
theorem fin.tw4983621829425596963 : True := True.intro
theorem fin.tw5071919506433949198 : True := True.intro
theorem fin.tw5073790198343104882 : True := True.intro
theorem fin.tw5098551885099359569 : True := True.intro
theorem fin.tw5102460946473063141 : True := True.intro
theorem fin.tw5106123347721008290 : True := True.intro
theorem fin.tw5115476493328737885 : True := True.intro
theorem fin.tw5227809002895711924 : True := True.intro
theorem fin.tw5230622158679508976 : True := True.intro
theorem fin.tw5250828734511838712 : True := True.intro
theorem fin.tw5293390819737331289 : True := True.intro
theorem fin.tw5320702786494000081 : True := True.intro
theorem fin.tw5346855491437873869 : True := True.intro
theorem fin.tw5402249366112354979 : True := True.intro
theorem fin.tw5409113828100790563 : True := True.intro
theorem fin.tw544173102793226557 : True := True.intro
theorem fin.tw5486226609284752418 : True := True.intro
theorem fin.tw5514125408013525434 : True := True.intro
theorem fin.tw5555312102172926907 : True := True.intro
theorem fin.tw5593514722818144331 : True := True.intro
theorem fin.tw5615129895364139138 : True := True.intro
theorem fin.tw5634151482396758240 : True := True.intro
theorem fin.tw5647864574477489665 : True := True.intro
theorem fin.tw5678346346211369953 : True := True.intro
theorem fin.tw5734618986648460908 : True := True.intro
theorem fin.tw5776136370200156792 : True := True.intro
theorem fin.tw5796354222422608987 : True := True.intro
theorem fin.tw5805905742469029177 : True := True.intro
theorem fin.tw5897612983314593646 : True := True.intro
theorem fin.tw5901363791540438844 : True := True.intro
theorem fin.tw5962627729488381771 : True := True.intro
theorem fin.tw6058378993454661626 : True := True.intro
theorem fin.tw6068950659093879613 : True := True.intro
theorem fin.tw6081921254191324426 : True := True.intro
theorem fin.tw6113989636485653130 : True := True.intro
theorem fin.tw6127190174262240918 : True := True.intro
theorem fin.tw612862322836996645 : True := True.intro
theorem fin.tw6144012678527597917 : True := True.intro
theorem fin.tw6207176494656529804 : True := True.intro
theorem fin.tw6323506392446703087 : True := True.intro
theorem fin.tw6341822008880759003 : True := True.intro
theorem fin.tw6381419901266130222 : True := True.intro
theorem fin.tw6385529401280152062 : True := True.intro
theorem fin.tw6388184931127306564 : True := True.intro
theorem fin.tw6435670951450185984 : True := True.intro
theorem fin.tw6449190631224713292 : True := True.intro
theorem fin.tw6454446336052903152 : True := True.intro
theorem fin.tw6455845175183424153 : True := True.intro
theorem fin.tw6498334528663615478 : True := True.intro
theorem fin.tw6515953530934532768 : True := True.intro
theorem fin.tw6531376189190222733 : True := True.intro
theorem fin.tw6566618420281934 : True := True.intro
theorem fin.tw6567050819087999508 : True := True.intro
theorem fin.tw6577878126316647860 : True := True.intro
theorem fin.tw6634307039904815820 : True := True.intro
theorem fin.tw6650461044873433052 : True := True.intro
theorem fin.tw6667815254911646788 : True := True.intro
theorem fin.tw670465573061467203 : True := True.intro
theorem fin.tw6712194924023145494 : True := True.intro
theorem fin.tw6718411051458867188 : True := True.intro
theorem fin.tw6766378078585498003 : True := True.intro
theorem fin.tw6766580051018981234 : True := True.intro
theorem fin.tw6815667921103612162 : True := True.intro
theorem fin.tw6846200578177281708 : True := True.intro
theorem fin.tw6878024787957991413 : True := True.intro
theorem fin.tw6951216239237536575 : True := True.intro
theorem fin.tw6968583824967984638 : True := True.intro
theorem fin.tw7000300075881102575 : True := True.intro
theorem fin.tw7028063314416541132 : True := True.intro
theorem fin.tw7055459427971326715 : True := True.intro
theorem fin.tw7070210977369740762 : True := True.intro
theorem fin.tw7090946254666370152 : True := True.intro
theorem fin.tw7130589087949165531 : True := True.intro
theorem fin.tw7177338460636591580 : True := True.intro
theorem fin.tw7249652514872940865 : True := True.intro
theorem fin.tw7278507554335971580 : True := True.intro
theorem fin.tw7282745182861764756 : True := True.intro
theorem fin.tw7334248845499685764 : True := True.intro
theorem fin.tw7336344344812659824 : True := True.intro
theorem fin.tw7348594602126897846 : True := True.intro
theorem fin.tw7431150777340633575 : True := True.intro
theorem fin.tw744865244796547220 : True := True.intro
theorem fin.tw7451905468542833597 : True := True.intro
theorem fin.tw7468727024169554154 : True := True.intro
theorem fin.tw7470013935711676318 : True := True.intro
theorem fin.tw7547296005191728479 : True := True.intro
theorem fin.tw757079261281740938 : True := True.intro
theorem fin.tw7613857476909055813 : True := True.intro
theorem fin.tw7613945582906998725 : True := True.intro
theorem fin.tw7636574776371312073 : True := True.intro
theorem fin.tw7661832156752021035 : True := True.intro
theorem fin.tw7716820226725407877 : True := True.intro
theorem fin.tw7773504467932542270 : True := True.intro
theorem fin.tw7779959011674639804 : True := True.intro
theorem fin.tw7783950685163080668 : True := True.intro
theorem fin.tw7786677914034681988 : True := True.intro
theorem fin.tw7803649310394182010 : True := True.intro
theorem fin.tw7822013112032934038 : True := True.intro
theorem fin.tw7830602891274557492 : True := True.intro
theorem fin.tw7830629276484211593 : True := True.intro
theorem fin.tw783483362715066742 : True := True.intro
theorem fin.tw7845872953664198349 : True := True.intro
theorem fin.tw7890596953891613788 : True := True.intro
theorem fin.tw7929640520542984453 : True := True.intro
theorem fin.tw7930893340574950883 : True := True.intro
theorem fin.tw7976502392129159676 : True := True.intro
theorem fin.tw799341379326975648 : True := True.intro
theorem fin.tw7995362448368537469 : True := True.intro
theorem fin.tw8004206274103572539 : True := True.intro
theorem fin.tw8018989035897545986 : True := True.intro
theorem fin.tw8025084765662995669 : True := True.intro
theorem fin.tw803859442106103436 : True := True.intro
theorem fin.tw807531904560671035 : True := True.intro
theorem fin.tw8088732932480780420 : True := True.intro
theorem fin.tw8126443298418566877 : True := True.intro
theorem fin.tw8166985623705000286 : True := True.intro
theorem fin.tw824001488490597953 : True := True.intro
theorem fin.tw8261031787919469916 : True := True.intro
theorem fin.tw8269367382603917829 : True := True.intro
theorem fin.tw8272817396058243321 : True := True.intro
theorem fin.tw828056024939588000 : True := True.intro
theorem fin.tw8281523328739849912 : True := True.intro
theorem fin.tw8288733244629462318 : True := True.intro
theorem fin.tw8289400949097046189 : True := True.intro
theorem fin.tw8330952907988395303 : True := True.intro
theorem fin.tw8352470293576582857 : True := True.intro
theorem fin.tw8383268338085895543 : True := True.intro
theorem fin.tw8399098705505230059 : True := True.intro
theorem fin.tw8416529770105884409 : True := True.intro
theorem fin.tw846297522682114974 : True := True.intro
theorem fin.tw8472697214298850164 : True := True.intro
theorem fin.tw848606289541702500 : True := True.intro
theorem fin.tw8559517257967667466 : True := True.intro
theorem fin.tw8569027658895312972 : True := True.intro
theorem fin.tw8577089030196625639 : True := True.intro
theorem fin.tw8590288500278120515 : True := True.intro
theorem fin.tw8643116662766533202 : True := True.intro
theorem fin.tw8656503046869711584 : True := True.intro
theorem fin.tw8668149382578428375 : True := True.intro
theorem fin.tw876206183137641144 : True := True.intro
theorem fin.tw8766236636241539760 : True := True.intro
theorem fin.tw8776770756819070316 : True := True.intro
theorem fin.tw884059145510264010 : True := True.intro
theorem fin.tw888132650186811988 : True := True.intro
theorem fin.tw8896352889252549814 : True := True.intro
theorem fin.tw891787732878383699 : True := True.intro
theorem fin.tw8919302590299486024 : True := True.intro
theorem fin.tw8947099994592609211 : True := True.intro
theorem fin.tw895571856199123645 : True := True.intro
theorem fin.tw9001875181463519149 : True := True.intro
theorem fin.tw9113340658982188547 : True := True.intro
theorem fin.tw9218923581257491847 : True := True.intro
theorem fin.tw9221430085559818832 : True := True.intro
theorem fin.tw9247658263007524724 : True := True.intro
theorem fin.tw9260378047223084069 : True := True.intro
theorem fin.tw9297318355482256503 : True := True.intro
theorem fin.tw9335943379023604384 : True := True.intro
theorem fin.tw9357874355931990178 : True := True.intro
theorem fin.tw9363291351745731410 : True := True.intro
theorem fin.tw9387745189664136937 : True := True.intro
theorem fin.tw9509447333196811905 : True := True.intro
theorem fin.tw9524518906428321964 : True := True.intro
theorem fin.tw9544026089342320630 : True := True.intro
theorem fin.tw9578429878718019509 : True := True.intro
theorem fin.tw9610726530385051774 : True := True.intro
theorem fin.tw9681490240930344151 : True := True.intro
theorem fin.tw9712136527352899355 : True := True.intro
theorem fin.tw9722632081671974098 : True := True.intro
theorem fin.tw9725021084223525626 : True := True.intro
theorem fin.tw9735714214384596553 : True := True.intro
theorem fin.tw9746214513668125432 : True := True.intro
theorem fin.tw9746901515087519452 : True := True.intro
theorem fin.tw9757074474933493440 : True := True.intro
theorem fin.tw9806666330580929782 : True := True.intro
theorem fin.tw982560976839675504 : True := True.intro
theorem fin.tw9825859731914700964 : True := True.intro
theorem fin.tw9839346839192117915 : True := True.intro
theorem fin.tw9913140749668108558 : True := True.intro
theorem fin.tw9917203430921899224 : True := True.intro
theorem fin.tw9962418760945406050 : True := True.intro
theorem fin.tw9973546303253646035 : True := True.intro
theorem fin.tw9997704412844104603 : True := True.intro
theorem fin.tw999798209818781672 : True := True.intro
set_option Elab.async true in
theorem fin : PySem.Challenge.rw_wk0021_01.Holds := by
  w_on; o_law; k_head; (case hw => w_witness2); w_strict (
    k_go0
    (all_goals try k_fold)
    (rename Frag.In _ _ => XF9)
    (have XB9 : (Mine.base.heap_1 _).In _ := XF9)
    (clear XF9)
    (revert XB9; k_fill; intro XB9)
    k_with_none
    k_with "testChain" => first | with_reducible refine test_link ?_ | with_unfolding_all refine test_link ?_ | with_unfolding_all refine test_last ?_
    k_with "ne" => (refine neN ?_; (try dsimp only); first | (with_reducible first | assumption | exact Ne.symm (by assumption) | exact Nat.ne_of_lt (by assumption) | exact Nat.ne_of_gt (by assumption) | ((rename (_ ≠ _ ∧ _) => h9); (first | exact h9.1 | exact h9.2.1 | exact h9.2 | exact h9.2.2.1 | exact h9.2.2 | exact h9.2.2.2.1 | exact h9.2.2.2 | exact h9.2.2.2.2.1 | exact h9.2.2.2.2 | exact h9.2.2.2.2.2.1 | exact h9.2.2.2.2.2 | exact Ne.symm h9.1 | exact Ne.symm h9.2.1 | exact Ne.symm h9.2 | exact Ne.symm h9.2.2.1 | exact Ne.symm h9.2.2 | exact Ne.symm h9.2.2.2.1 | exact Ne.symm h9.2.2.2 | exact Ne.symm h9.2.2.2.2.1 | exact Ne.symm h9.2.2.2.2 | exact Ne.symm h9.2.2.2.2.2.1 | exact Ne.symm h9.2.2.2.2.2)) | ((rename (_ ≠ _ ∧ _) => h9); clear h9; (rename (_ ≠ _ ∧ _) => h9); (first | exact h9.1 | exact h9.2.1 | exact h9.2 | exact h9.2.2.1 | exact h9.2.2 | exact h9.2.2.2.1 | exact h9.2.2.2 | exact h9.2.2.2.2.1 | exact h9.2.2.2.2 | exact h9.2.2.2.2.2.1 | exact h9.2.2.2.2.2 | exact Ne.symm h9.1 | exact Ne.symm h9.2.1 | exact Ne.symm h9.2 | exact Ne.symm h9.2.2.1 | exact Ne.symm h9.2.2 | exact Ne.symm h9.2.2.2.1 | exact Ne.symm h9.2.2.2 | exact Ne.symm h9.2.2.2.2.1 | exact Ne.symm h9.2.2.2.2 | exact Ne.symm h9.2.2.2.2.2.1 | exact Ne.symm h9.2.2.2.2.2)) | ((rename (_ ≠ _ ∧ _) => h9); clear h9; (rename (_ ≠ _ ∧ _) => h9); clear h9; (rename (_ ≠ _ ∧ _) => h9); (first | exact h9.1 | exact h9.2.1 | exact h9.2 | exact h9.2.2.1 | exact h9.2.2 | exact h9.2.2.2.1 | exact h9.2.2.2 | exact h9.2.2.2.2.1 | exact h9.2.2.2.2 | exact h9.2.2.2.2.2.1 | exact h9.2.2.2.2.2 | exact Ne.symm h9.1 | exact Ne.symm h9.2.1 | exact Ne.symm h9.2 | exact Ne.symm h9.2.2.1 | exact Ne.symm h9.2.2 | exact Ne.symm h9.2.2.2.1 | exact Ne.symm h9.2.2.2 | exact Ne.symm h9.2.2.2.2.1 | exact Ne.symm h9.2.2.2.2 | exact Ne.symm h9.2.2.2.2.2.1 | exact Ne.symm h9.2.2.2.2.2)) | ((rename ((_ ∧ _) ∧ _) => h9); (first | exact h9.1.1 | exact h9.1 | exact h9.1.2.1 | exact h9.2.1 | exact h9.1.2.2 | exact h9.2.2 | exact h9.2.1.1 | exact h9.2.1 | exact h9.2.1.2.1 | exact h9.2.2.1 | exact h9.2.1.2.2 | exact h9.2.2.2 | exact h9.2.2.1.1 | exact h9.2.2.1 | exact h9.2.2.1.2.1 | exact h9.2.2.2.1 | exact h9.2.2.1.2.2 | exact h9.2.2.2.2 | exact h9.2.2.2.1.1 | exact h9.2.2.2.1 | exact h9.2.2.2.1.2.1 | exact h9.2.2.2.2.1 | exact h9.2.2.2.1.2.2 | exact h9.2.2.2.2.2 | exact h9.2.2.2.2.1.1 | exact h9.2.2.2.2.1 | exact h9.2.2.2.2.1.2.1 | exact h9.2.2.2.2.2.1 | exact h9.2.2.2.2.1.2.2 | exact h9.2.2.2.2.2.2 | exact h9.2.2.2.2.2.1.1 | exact h9.2.2.2.2.2.1 | exact h9.2.2.2.2.2.1.2.1 | exact h9.2.2.2.2.2.2.1 | exact h9.2.2.2.2.2.1.2.2 | exact h9.2.2.2.2.2.2.2 | exact h9.2.2.2.2.2.2.1.1 | exact h9.2.2.2.2.2.2.1 | exact h9.2.2.2.2.2.2.1.2.1 | exact h9.2.2.2.2.2.2.2.1 | exact h9.2.2.2.2.2.2.1.2.2 | exact h9.2.2.2.2.2.2.2.2 | exact h9.2.2.2.2.2.2.2.1.1 | exact h9.2.2.2.2.2.2.2.1 | exact h9.2.2.2.2.2.2.2.1.2.1 | exact h9.2.2.2.2.2.2.2.2.1 | exact h9.2.2.2.2.2.2.2.1.2.2 | exact h9.2.2.2.2.2.2.2.2.2 | exact h9.2.2.2.2.2.2.2.2.1.1 | exact h9.2.2.2.2.2.2.2.2.1 | exact h9.2.2.2.2.2.2.2.2.1.2.1 | exact h9.2.2.2.2.2.2.2.2.2.1 | exact h9.2.2.2.2.2.2.2.2.1.2.2 | exact h9.2.2.2.2.2.2.2.2.2.2 | exact Ne.symm h9.1.1 | exact Ne.symm h9.1 | exact Ne.symm h9.1.2.1 | exact Ne.symm h9.2.1 | exact Ne.symm h9.1.2.2 | exact Ne.symm h9.2.2 | exact Ne.symm h9.2.1.1 | exact Ne.symm h9.2.1 | exact Ne.symm h9.2.1.2.1 | exact Ne.symm h9.2.2.1 | exact Ne.symm h9.2.1.2.2 | exact Ne.symm h9.2.2.2 | exact Ne.symm h9.2.2.1.1 | exact Ne.symm h9.2.2.1 | exact Ne.symm h9.2.2.1.2.1 | exact Ne.symm h9.2.2.2.1 | exact Ne.symm h9.2.2.1.2.2 | exact Ne.symm h9.2.2.2.2 | exact Ne.symm h9.2.2.2.1.1 | exact Ne.symm h9.2.2.2.1 | exact Ne.symm h9.2.2.2.1.2.1 | exact Ne.symm h9.2.2.2.2.1 | exact Ne.symm h9.2.2.2.1.2.2 | exact Ne.symm h9.2.2.2.2.2 | exact Ne.symm h9.2.2.2.2.1.1 | exact Ne.symm h9.2.2.2.2.1 | exact Ne.symm h9.2.2.2.2.1.2.1 | exact Ne.symm h9.2.2.2.2.2.1 | exact Ne.symm h9.2.2.2.2.1.2.2 | exact Ne.symm h9.2.2.2.2.2.2 | exact Ne.symm h9.2.2.2.2.2.1.1 | exact Ne.symm h9.2.2.2.2.2.1 | exact Ne.symm h9.2.2.2.2.2.1.2.1 | exact Ne.symm h9.2.2.2.2.2.2.1 | exact Ne.symm h9.2.2.2.2.2.1.2.2 | exact Ne.symm h9.2.2.2.2.2.2.2 | exact Ne.symm h9.2.2.2.2.2.2.1.1 | exact Ne.symm h9.2.2.2.2.2.2.1 | exact Ne.symm h9.2.2.2.2.2.2.1.2.1 | exact Ne.symm h9.2.2.2.2.2.2.2.1 | exact Ne.symm h9.2.2.2.2.2.2.1.2.2 | exact Ne.symm h9.2.2.2.2.2.2.2.2 | exact Ne.symm h9.2.2.2.2.2.2.2.1.1 | exact Ne.symm h9.2.2.2.2.2.2.2.1 | exact Ne.symm h9.2.2.2.2.2.2.2.1.2.1 | exact Ne.symm h9.2.2.2.2.2.2.2.2.1 | exact Ne.symm h9.2.2.2.2.2.2.2.1.2.2 | exact Ne.symm h9.2.2.2.2.2.2.2.2.2 | exact Ne.symm h9.2.2.2.2.2.2.2.2.1.1 | exact Ne.symm h9.2.2.2.2.2.2.2.2.1 | exact Ne.symm h9.2.2.2.2.2.2.2.2.1.2.1 | exact Ne.symm h9.2.2.2.2.2.2.2.2.2.1 | exact Ne.symm h9.2.2.2.2.2.2.2.2.1.2.2 | exact Ne.symm h9.2.2.2.2.2.2.2.2.2.2)) | ((rename ((_ ∧ _) ∧ _) => h9); clear h9; (rename ((_ ∧ _) ∧ _) => h9); (first | exact h9.1.1 | exact h9.1 | exact h9.1.2.1 | exact h9.2.1 | exact h9.1.2.2 | exact h9.2.2 | exact h9.2.1.1 | exact h9.2.1 | exact h9.2.1.2.1 | exact h9.2.2.1 | exact h9.2.1.2.2 | exact h9.2.2.2 | exact h9.2.2.1.1 | exact h9.2.2.1 | exact h9.2.2.1.2.1 | exact h9.2.2.2.1 | exact h9.2.2.1.2.2 | exact h9.2.2.2.2 | exact h9.2.2.2.1.1 | exact h9.2.2.2.1 | exact h9.2.2.2.1.2.1 | exact h9.2.2.2.2.1 | exact h9.2.2.2.1.2.2 | exact h9.2.2.2.2.2 | exact h9.2.2.2.2.1.1 | exact h9.2.2.2.2.1 | exact h9.2.2.2.2.1.2.1 | exact h9.2.2.2.2.2.1 | exact h9.2.2.2.2.1.2.2 | exact h9.2.2.2.2.2.2 | exact h9.2.2.2.2.2.1.1 | exact h9.2.2.2.2.2.1 | exact h9.2.2.2.2.2.1.2.1 | exact h9.2.2.2.2.2.2.1 | exact h9.2.2.2.2.2.1.2.2 | exact h9.2.2.2.2.2.2.2 | exact h9.2.2.2.2.2.2.1.1 | exact h9.2.2.2.2.2.2.1 | exact h9.2.2.2.2.2.2.1.2.1 | exact h9.2.2.2.2.2.2.2.1 | exact h9.2.2.2.2.2.2.1.2.2 | exact h9.2.2.2.2.2.2.2.2 | exact h9.2.2.2.2.2.2.2.1.1 | exact h9.2.2.2.2.2.2.2.1 | exact h9.2.2.2.2.2.2.2.1.2.1 | exact h9.2.2.2.2.2.2.2.2.1 | exact h9.2.2.2.2.2.2.2.1.2.2 | exact h9.2.2.2.2.2.2.2.2.2 | exact h9.2.2.2.2.2.2.2.2.1.1 | exact h9.2.2.2.2.2.2.2.2.1 | exact h9.2.2.2.2.2.2.2.2.1.2.1 | exact h9.2.2.2.2.2.2.2.2.2.1 | exact h9.2.2.2.2.2.2.2.2.1.2.2 | exact h9.2.2.2.2.2.2.2.2.2.2 | exact Ne.symm h9.1.1 | exact Ne.symm h9.1 | exact Ne.symm h9.1.2.1 | exact Ne.symm h9.2.1 | exact Ne.symm h9.1.2.2 | exact Ne.symm h9.2.2 | exact Ne.symm h9.2.1.1 | exact Ne.symm h9.2.1 | exact Ne.symm h9.2.1.2.1 | exact Ne.symm h9.2.2.1 | exact Ne.symm h9.2.1.2.2 | exact Ne.symm h9.2.2.2 | exact Ne.symm h9.2.2.1.1 | exact Ne.symm h9.2.2.1 | exact Ne.symm h9.2.2.1.2.1 | exact Ne.symm h9.2.2.2.1 | exact Ne.symm h9.2.2.1.2.2 | exact Ne.symm h9.2.2.2.2 | exact Ne.symm h9.2.2.2.1.1 | exact Ne.symm h9.2.2.2.1 | exact Ne.symm h9.2.2.2.1.2.1 | exact Ne.symm h9.2.2.2.2.1 | exact Ne.symm h9.2.2.2.1.2.2 | exact Ne.symm h9.2.2.2.2.2 | exact Ne.symm h9.2.2.2.2.1.1 | exact Ne.symm h9.2.2.2.2.1 | exact Ne.symm h9.2.2.2.2.1.2.1 | exact Ne.symm h9.2.2.2.2.2.1 | exact Ne.symm h9.2.2.2.2.1.2.2 | exact Ne.symm h9.2.2.2.2.2.2 | exact Ne.symm h9.2.2.2.2.2.1.1 | exact Ne.symm h9.2.2.2.2.2.1 | exact Ne.symm h9.2.2.2.2.2.1.2.1 | exact Ne.symm h9.2.2.2.2.2.2.1 | exact Ne.symm h9.2.2.2.2.2.1.2.2 | exact Ne.symm h9.2.2.2.2.2.2.2 | exact Ne.symm h9.2.2.2.2.2.2.1.1 | exact Ne.symm h9.2.2.2.2.2.2.1 | exact Ne.symm h9.2.2.2.2.2.2.1.2.1 | exact Ne.symm h9.2.2.2.2.2.2.2.1 | exact Ne.symm h9.2.2.2.2.2.2.1.2.2 | exact Ne.symm h9.2.2.2.2.2.2.2.2 | exact Ne.symm h9.2.2.2.2.2.2.2.1.1 | exact Ne.symm h9.2.2.2.2.2.2.2.1 | exact Ne.symm h9.2.2.2.2.2.2.2.1.2.1 | exact Ne.symm h9.2.2.2.2.2.2.2.2.1 | exact Ne.symm h9.2.2.2.2.2.2.2.1.2.2 | exact Ne.symm h9.2.2.2.2.2.2.2.2.2 | exact Ne.symm h9.2.2.2.2.2.2.2.2.1.1 | exact Ne.symm h9.2.2.2.2.2.2.2.2.1 | exact Ne.symm h9.2.2.2.2.2.2.2.2.1.2.1 | exact Ne.symm h9.2.2.2.2.2.2.2.2.2.1 | exact Ne.symm h9.2.2.2.2.2.2.2.2.1.2.2 | exact Ne.symm h9.2.2.2.2.2.2.2.2.2.2)) | ((rename (_ < _ ∧ _) => h9); (first | exact Nat.ne_of_lt h9.1 | exact Nat.ne_of_lt h9.2.1 | exact Nat.ne_of_lt h9.2 | exact Nat.ne_of_lt h9.2.2.1 | exact Nat.ne_of_lt h9.2.2 | exact Nat.ne_of_lt h9.2.2.2.1 | exact Nat.ne_of_lt h9.2.2.2 | exact Nat.ne_of_lt h9.2.2.2.2.1 | exact Nat.ne_of_lt h9.2.2.2.2 | exact Nat.ne_of_lt h9.2.2.2.2.2.1 | exact Nat.ne_of_lt h9.2.2.2.2.2 | exact Nat.ne_of_gt h9.1 | exact Nat.ne_of_gt h9.2.1 | exact Nat.ne_of_gt h9.2 | exact Nat.ne_of_gt h9.2.2.1 | exact Nat.ne_of_gt h9.2.2 | exact Nat.ne_of_gt h9.2.2.2.1 | exact Nat.ne_of_gt h9.2.2.2 | exact Nat.ne_of_gt h9.2.2.2.2.1 | exact Nat.ne_of_gt h9.2.2.2.2 | exact Nat.ne_of_gt h9.2.2.2.2.2.1 | exact Nat.ne_of_gt h9.2.2.2.2.2)) | ((rename (_ < _ ∧ _) => h9); clear h9; (rename (_ < _ ∧ _) => h9); (first | exact Nat.ne_of_lt h9.1 | exact Nat.ne_of_lt h9.2.1 | exact Nat.ne_of_lt h9.2 | exact Nat.ne_of_lt h9.2.2.1 | exact Nat.ne_of_lt h9.2.2 | exact Nat.ne_of_lt h9.2.2.2.1 | exact Nat.ne_of_lt h9.2.2.2 | exact Nat.ne_of_lt h9.2.2.2.2.1 | exact Nat.ne_of_lt h9.2.2.2.2 | exact Nat.ne_of_lt h9.2.2.2.2.2.1 | exact Nat.ne_of_lt h9.2.2.2.2.2 | exact Nat.ne_of_gt h9.1 | exact Nat.ne_of_gt h9.2.1 | exact Nat.ne_of_gt h9.2 | exact Nat.ne_of_gt h9.2.2.1 | exact Nat.ne_of_gt h9.2.2 | exact Nat.ne_of_gt h9.2.2.2.1 | exact Nat.ne_of_gt h9.2.2.2 | exact Nat.ne_of_gt h9.2.2.2.2.1 | exact Nat.ne_of_gt h9.2.2.2.2 | exact Nat.ne_of_gt h9.2.2.2.2.2.1 | exact Nat.ne_of_gt h9.2.2.2.2.2)) | ((rename (_ < _ ∧ _) => h9); clear h9; (rename (_ < _ ∧ _) => h9); clear h9; (rename (_ < _ ∧ _) => h9); (first | exact Nat.ne_of_lt h9.1 | exact Nat.ne_of_lt h9.2.1 | exact Nat.ne_of_lt h9.2 | exact Nat.ne_of_lt h9.2.2.1 | exact Nat.ne_of_lt h9.2.2 | exact Nat.ne_of_lt h9.2.2.2.1 | exact Nat.ne_of_lt h9.2.2.2 | exact Nat.ne_of_lt h9.2.2.2.2.1 | exact Nat.ne_of_lt h9.2.2.2.2 | exact Nat.ne_of_lt h9.2.2.2.2.2.1 | exact Nat.ne_of_lt h9.2.2.2.2.2 | exact Nat.ne_of_gt h9.1 | exact Nat.ne_of_gt h9.2.1 | exact Nat.ne_of_gt h9.2 | exact Nat.ne_of_gt h9.2.2.1 | exact Nat.ne_of_gt h9.2.2 | exact Nat.ne_of_gt h9.2.2.2.1 | exact Nat.ne_of_gt h9.2.2.2 | exact Nat.ne_of_gt h9.2.2.2.2.1 | exact Nat.ne_of_gt h9.2.2.2.2 | exact Nat.ne_of_gt h9.2.2.2.2.2.1 | exact Nat.ne_of_gt h9.2.2.2.2.2)) | ((rename (_ < _ ∧ _) => h9); clear h9; (rename (_ < _ ∧ _) => h9); clear h9; (rename (_ < _ ∧ _) => h9); clear h9; (rename (_ < _ ∧ _) => h9); (first | exact Nat.ne_of_lt h9.1 | exact Nat.ne_of_lt h9.2.1 | exact Nat.ne_of_lt h9.2 | exact Nat.ne_of_lt h9.2.2.1 | exact Nat.ne_of_lt h9.2.2 | exact Nat.ne_of_lt h9.2.2.2.1 | exact Nat.ne_of_lt h9.2.2.2 | exact Nat.ne_of_lt h9.2.2.2.2.1 | exact Nat.ne_of_lt h9.2.2.2.2 | exact Nat.ne_of_lt h9.2.2.2.2.2.1 | exact Nat.ne_of_lt h9.2.2.2.2.2 | exact Nat.ne_of_gt h9.1 | exact Nat.ne_of_gt h9.2.1 | exact Nat.ne_of_gt h9.2 | exact Nat.ne_of_gt h9.2.2.1 | exact Nat.ne_of_gt h9.2.2 | exact Nat.ne_of_gt h9.2.2.2.1 | exact Nat.ne_of_gt h9.2.2.2 | exact Nat.ne_of_gt h9.2.2.2.2.1 | exact Nat.ne_of_gt h9.2.2.2.2 | exact Nat.ne_of_gt h9.2.2.2.2.2.1 | exact Nat.ne_of_gt h9.2.2.2.2.2))) | ((repeat ((rename (_ ≠ _ ∧ _) => h9); clear h9)); (repeat ((rename ((_ ∧ _) ∧ _) => h9); clear h9)); (repeat ((rename (_ ≠ _) => h9); clear h9)); omega) | omega)
    k_with "facts" => exact ⟨by assumption, by assumption⟩
    k_with "call ref" => (k_here; (with_reducible show wpAny _ _ (call (Value.ref 336) _) _ _ _); k_dflt ((show wpAny _ _ (call (Value.ref 336) [_, Value.int 0 _, _]) _ _ _); refine' U_set ?k1 ?k2 ?k3 ?k4 ?k5 ?kK ?kd ?ku ?h1 ?h2 ?h3 ?h4 ?h5 ?h6 ?h7 ?h8 ?h9 ?hA ?_; (case k1 => k_asm); (case k2 => k_asm); (case k3 => k_asm); (case k4 => k_asm); (case k5 => k_asm); (case kK => first | exact rfl | assumption); (case kd => ktr_room); (case ku => ktr_units); (case h1 => assumption); (case h2 => assumption); (case h3 => omega); (case h4 => k_mem); (case h5 => exact .cons _ _ (.cons _ _ (.cons _ _ (.cons _ _ (.cons _ _ (.cons _ _ .nil)))))); (case h6 => exact low_a); (case h7 => decide); (case h8 => decide); (case h9 => decide); (case hA => decide); k_whole; intro D9 vs9 S9 n9 h9 tk9 F9 N9 hi9 hs9; (have ls9 := hs9.1); (have ps9 := hs9.2.2.1); (have qs9 := hs9.2.2.2); (try k_fold)))
    k_with "call ref" => (k_here; (with_reducible show wpAny _ _ (call (Value.ref 336) _) _ _ _); k_dflt ((show wpAny _ _ (call (Value.ref 336) [_, Value.int 6 _, _]) _ _ _); refine' U_set ?k1 ?k2 ?k3 ?k4 ?k5 ?kK ?kd ?ku ?h1 ?h2 ?h3 ?h4 ?h5 ?h6 ?h7 ?h8 ?h9 ?hA ?_; (case k1 => k_asm); (case k2 => k_asm); (case k3 => k_asm); (case k4 => k_asm); (case k5 => k_asm); (case kK => first | exact rfl | assumption); (case kd => ktr_room); (case ku => ktr_units); (case h1 => assumption); (case h2 => assumption); (case h3 => omega); (case h4 => k_mem); (case h5 => exact .cons _ _ (.cons _ _ (.cons _ _ (.cons _ _ (.cons _ _ (.cons _ _ .nil)))))); (case h6 => exact low_b); (case h7 => decide); (case h8 => decide); (case h9 => decide); (case hA => decide); k_whole; intro D9 vs9 R9 n9 h9 tk9 F9 N9 hi9 hr9; (have lr9 := hr9.1); (have pr9 := hr9.2.2.1); (have qr9 := hr9.2.2.2); (try k_fold)))
    k_with "call ref" => (k_here; (with_reducible show wpAny _ _ (call (Value.ref 341) _) _ _ _); k_dflt ((show wpAny _ _ (call (Value.ref 341) [_]) _ _ _); refine' U_bits ?k1 ?k2 ?k3 ?k4 ?k5 ?kK ?kd ?ku ?h1 ?h2 ?h3 ?_; (case k1 => k_asm); (case k2 => k_asm); (case k3 => k_asm); (case k4 => k_asm); (case k5 => k_asm); (case kK => first | exact rfl | assumption); (case kd => ktr_room); (case ku => ktr_units); (case h1 => assumption); (case h2 => assumption); (case h3 => omega); k_whole; intro D9 b9 c9 t9 u9 n9 h9 tk9 F9 N9 hb9 hc9; (have hB9 : BitI ([b9, c9].getD (Int.toNat 0) 0) := hb9); (have hC9 : BitI ([b9, c9].getD (Int.toNat 1) 0) := hc9); (obtain ⟨lf1, lf2, lf3, lf4⟩ := law_facts hs9 hr9 hB9 hC9); (rw [lf4] at lf3); (have lf5 := lf3); (rw [rangeKs_length] at lf5); (try k_fold)))
    k_with "call ref" => (k_here; (with_reducible show wpAny _ _ (call (Value.ref 348) _) _ _ _); k_dflt ((show wpAny _ _ (call (Value.ref 348) [_, _]) _ _ _); refine' U_pushed ?k1 ?k2 ?k3 ?k4 ?k5 ?kK ?kd ?ku ?h1 ?h2 ?h3 ?_; (case k1 => k_asm); (case k2 => k_asm); (case k3 => k_asm); (case k4 => k_asm); (case k5 => k_asm); (case kK => first | exact rfl | assumption); (case kd => ktr_room); (case ku => ktr_units); (case h1 => k_mem); (case h2 => assumption); (case h3 => (first | omega | (simp only [pushL_length]; omega))); k_whole; intro D9 vs9 n9 h9 tk9 F9 N9 hi9; (try k_fold)))
    k_with "call ref" => (k_here; (with_reducible show wpAny _ _ (call (Value.ref 353) _) _ _ _); k_dflt ((show wpAny _ _ (call (Value.ref 353) [_, _]) _ _ _); refine' U_firsts ?k1 ?k2 ?k3 ?k4 ?k5 ?kK ?kd ?ku ?h1 ?h2 ?h3 ?h4 ?h5 ?h6 ?_; (case k1 => k_asm); (case k2 => k_asm); (case k3 => k_asm); (case k4 => k_asm); (case k5 => k_asm); (case kK => first | exact rfl | assumption); (case kd => ktr_room); (case ku => ktr_units); (case h1 => first | assumption | exact rg_keep (by assumption) (by assumption)); (case h2 => first | assumption | exact rg_keep (by assumption) (by assumption)); (case h3 => assumption); (case h4 => assumption); (case h5 => assumption); (case h6 => assumption); k_whole; intro D9 vs9 n9 h9 tk9 F9 N9 hi9 hz9; (try k_fold)))
    k_with "call ref" => (k_here; (with_reducible show wpAny _ _ (call (Value.ref 353) _) _ _ _); k_dflt ((show wpAny _ _ (call (Value.ref 353) [_, _]) _ _ _); refine' U_sums ?k1 ?k2 ?k3 ?k4 ?k5 ?kK ?kd ?ku ?h1 ?h2 ?h3 ?h4 ?h5 ?h6 ?h7 ?h8 ?_; (case k1 => k_asm); (case k2 => k_asm); (case k3 => k_asm); (case k4 => k_asm); (case k5 => k_asm); (case kK => first | exact rfl | assumption); (case kd => ktr_room); (case ku => ktr_units); (case h1 => k_mem); (case h2 => assumption); (case h3 => k_mem); (case h4 => assumption); (case h5 => (first | assumption | exact low_pushL (by assumption) (by assumption) | exact low_pushL (low_pushL (by assumption) (by assumption)) (by assumption))); (case h6 => (first | assumption | exact low_pushL (by assumption) (by assumption) | exact low_pushL (low_pushL (by assumption) (by assumption)) (by assumption))); (case h7 => (first | omega | (simp only [pushL_length]; omega))); (case h8 => (first | omega | (simp only [pushL_length]; omega))); k_whole; intro D9 vs9 n9 h9 tk9 F9 N9 hi9 hz9; (try k_fold)))
    k_with "call ref" => (k_here; (with_reducible show wpAny _ _ (call (Value.ref 358) _) _ _ _); k_dflt ((show wpAny _ _ (call (Value.ref 358) [_, _]) _ _ _); refine' U_least ?k1 ?k2 ?k3 ?k4 ?k5 ?kK ?kd ?ku ?h3 ?h4 ?h5 ?h6 ?_; (case k1 => k_asm); (case k2 => k_asm); (case k3 => k_asm); (case k4 => k_asm); (case k5 => k_asm); (case kK => first | exact rfl | assumption); (case kd => ktr_room); (case ku => ktr_units); (case h3 => assumption); (case h4 => assumption); (case h5 => assumption); (case h6 => assumption); k_whole; intro k9 h9 tk9 F9 N9; (try k_fold)))
    k_with "call ref" => (k_here; (with_reducible show wpAny _ _ (call (Value.ref 365) _) _ _ _); k_dflt ((show wpAny _ _ (call (Value.ref 365) [_, _]) _ _ _); refine' U_blocks ?k1 ?k2 ?k3 ?k4 ?k5 ?kK ?kd ?ku ?h3 ?h4 ?h5 ?h6 ?_; (case k1 => k_asm); (case k2 => k_asm); (case k3 => k_asm); (case k4 => k_asm); (case k5 => k_asm); (case kK => first | exact rfl | assumption); (case kd => ktr_room); (case ku => ktr_units); (case h3 => assumption); (case h4 => assumption); (case h5 => assumption); (case h6 => assumption); k_whole; intro k9 h9 tk9 F9 N9; (try k_fold)))
    k_with "call builtin:len" => (k_here; (with_reducible show wpAny _ _ (call (Value.builtin "len") [Value.ref _]) _ _ _); k_dflt (refine' kst_len ?k1 ?k2 ?k3 ?k4 ?_; (case k1 => k_asm); (case k2 => k_mem); (case k3 => exact IntsAre.length (by assumption)); (case k4 => first | omega | (simp only [rangeKs_length]; omega)); k_whole))
    k_with "compareOp Eq ref ref" => (k_here; (with_reducible show wpAny _ _ (compareOp CmpOp.Eq (Value.ref _) (Value.ref _)) _ _ _); (with_unfolding_all refine' law_eq ?k1 ?k2 ?k3 ?k4 ?k5 ?k6 ?_; (case k1 => is_list); (case k2 => l_intsC); (case k3 => is_list); (case k4 => l_intsC); (case k5 => units_room); (case k6 => exact law_rng _); k_whole))
    k_with "compareOp Eq int int" => (refine law_eqI ?_)
    k_steps)
end Mine
theorem PySem.Challenge.cw_wk0021_01_holds : PySem.Challenge.rw_wk0021_01.Holds := by
  exact Mine.fin
