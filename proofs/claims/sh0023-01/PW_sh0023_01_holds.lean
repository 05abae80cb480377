import PyProof.Rows.All
import Wide.All
import OpenK.AllK
import Wide.FinOn
import KE.BitLaws
import KE.KCompText
import PyProof.TableTree
import PyProof.FactsTree
import PyProof.PlainAttrs
import PySem.Sre
import Lean
import PySem.Challenge.RW_sh0023_01
set_option Elab.async false
set_option compiler.extract_closed false
section
open PySem PySem.W PyProof.Rows
namespace Mine
set_option maxRecDepth 100000 in
set_option maxHeartbeats 8000000 in
open_top hd for PySem.Challenge.rw_sh0023_01
end Mine
end
section
open PySem PySem.W PyProof.Rows
namespace Mine

def C : List Nat → List Nat → Nat
  | [], _ => 1
  | _ :: _, [] => 0
  | a :: u, d :: r => C (a :: u) r + if a = d then C u r else 0

def cs (x : Str) : List Nat := x.cps.toList

theorem cs_len (x : Str) : (cs x).length = x.length := by simp [cs, Str.length]

theorem C_nil (r : List Nat) : C [] r = 1 := by cases r <;> rfl
theorem C_drop {X Y : List Nat} {p q : Nat} (hp : p < X.length) (hq : q < Y.length) :
    C (X.drop p) (Y.drop q) = C (X.drop p) (Y.drop (q + 1)) + if X[p] = Y[q] then C (X.drop (p + 1)) (Y.drop (q + 1)) else 0 := by
  rw [List.drop_eq_getElem_cons hp, List.drop_eq_getElem_cons hq]
  rfl

theorem item_neg {x : Str} {j : Int} (h0 : 1 ≤ j) (h1 : j ≤ x.length) : Txt.item x (-j) = ⟨#[(cs x).getD (x.length - j.toNat) 0]⟩ := by
  have h := item_closes_neg (x := x) (i := -j) (j := -j + x.length) (by omega) (by omega) rfl
  have h' := eq_of_beq h
  rw [h']
  have e : (-j + (x.length : Int)).toNat = x.length - j.toNat := by omega
  rw [e]
  simp [cs, Array.getD_eq_getD_getElem?, List.getD_eq_getElem?_getD]

theorem item_neg_eq {x y : Str} {j i : Int} (h0 : 1 ≤ j) (h1 : j ≤ x.length) (g0 : 1 ≤ i) (g1 : i ≤ y.length) :
    (Txt.item x (-j) == Txt.item y (-i)) = decide ((cs x).getD (x.length - j.toNat) 0 = (cs y).getD (y.length - i.toNat) 0) := by
  rw [item_neg h0 h1, item_neg g0 g1]
  rw [Bool.eq_iff_iff]
  simp

def bk (X Y : List Nat) (i : Nat) : List Int := (List.range (X.length + 1)).map fun j => (C (X.drop (X.length - j)) (Y.drop (Y.length - i)) : Int)
def bkI (X Y : List Nat) (i k : Nat) : List Int := (List.range (X.length + 1)).map fun j => if X.length < j + k then (C (X.drop (X.length - j)) (Y.drop (Y.length - i)) : Int) else (C (X.drop (X.length - j)) (Y.drop (Y.length - (i - 1))) : Int)

theorem bk_len (X Y : List Nat) (i : Nat) : (bk X Y i).length = X.length + 1 := by simp [bk]
theorem bkI_len (X Y : List Nat) (i k : Nat) : (bkI X Y i k).length = X.length + 1 := by simp [bkI]

theorem bk_start (x y : Str) (n : Nat) (hn : n = x.length) : [1] ++ (List.replicate n [(0 : Int)]).flatten = bk (cs x) (cs y) 0 := by
  have e : (List.replicate n [(0 : Int)]).flatten = List.replicate n 0 := by
    induction n generalizing x with
    | zero => rfl
    | succ n ih =>
      clear hn
      rw [List.replicate_succ, List.flatten_cons, List.replicate_succ]
      have := ih ⟨Array.replicate n 0⟩ (by simp [Str.length])
      rw [this]; rfl
  rw [e]
  apply List.ext_getElem
  · simp only [List.length_append, List.length_replicate, bk_len, cs_len, hn, List.length_singleton]; omega
  · intro j h1 h2
    simp only [bk, List.getElem_map, List.getElem_range, Nat.sub_zero, List.drop_length]
    cases j with
    | zero => simp only [Nat.sub_zero, List.drop_length, C_nil]; rfl
    | succ j =>
      have hj : j < n := by simpa using h1
      have hj' : (cs x).length - (j + 1) < (cs x).length := by rw [cs_len]; omega
      rw [List.drop_eq_getElem_cons hj']
      simp [C]

theorem bkI_start (X Y : List Nat) (i : Nat) : bk X Y i = bkI X Y (i + 1) 0 := by
  unfold bk bkI
  apply List.map_congr_left
  intro j hj
  have : j < X.length + 1 := List.mem_range.mp hj
  rw [if_neg (by omega)]
  rfl

theorem bkI_end (X Y : List Nat) (i : Nat) : bkI X Y i X.length = bk X Y i := by
  unfold bk bkI
  apply List.map_congr_left
  intro j hj
  have : j < X.length + 1 := List.mem_range.mp hj
  by_cases h : j = 0
  · subst h
    rw [if_neg (by omega)]
    simp [C_nil]
  · rw [if_pos (by omega)]

theorem bk_arith {n m i k j : Nat} (hj : j = n - k) (hk : k < n) (hi : 1 ≤ i) (hi' : i ≤ m) : (¬ n < j + k ∧ ¬ n < j - 1 + k ∧ j - 1 < n + 1 ∧ n - j < n) ∧ m - i < m ∧ m - i + 1 = m - (i - 1) ∧ n - j + 1 = n - (j - 1) ∧ n < j + (k + 1) := by
  have a1 : j + k = n := by clear hi hi'; omega
  have a2 : 1 ≤ j := by clear hi hi'; omega
  clear hj
  refine ⟨⟨?_, ?_, ?_, ?_⟩, ?_, ?_, ?_, ?_⟩
  · clear hi hi'; omega
  · clear hi hi'; omega
  · clear hi hi'; omega
  · clear hi hi'; omega
  · clear hk a1 a2; omega
  · clear hk a1 a2; omega
  · clear hi hi'; omega
  · clear hi hi'; omega
theorem bk_arith2 {n k j p : Nat} (hj : j = n - k) (hk : k < n) (e : j ≠ p) (h3 : ¬ n < p + k) : ¬ n < p + (k + 1) := by omega
theorem bkI_step {X Y : List Nat} {i k j : Nat} (hj : j = X.length - k) (hk : k < X.length) (hi : 1 ≤ i) (hi' : i ≤ Y.length) (ws : List Int)
    (h : ws = bkI X Y i k) : ws.set j (ws.getD j 0 + if X.getD (X.length - j) 0 = Y.getD (Y.length - i) 0 then ws.getD (j - 1) 0 else 0) = bkI X Y i (k + 1) := by
  subst h
  obtain ⟨⟨a1, a2, a3, hx⟩, hy, e1, e2, hlt⟩ := bk_arith hj hk hi hi'
  apply List.ext_getElem
  · simp [bkI]
  · intro p h1 h2
    have hp : p < X.length + 1 := by simpa [bkI] using h2
    rw [List.getElem_set]
    have g : ∀ q, q < X.length + 1 → (bkI X Y i k).getD q 0 = if X.length < q + k then (C (X.drop (X.length - q)) (Y.drop (Y.length - i)) : Int) else (C (X.drop (X.length - q)) (Y.drop (Y.length - (i - 1))) : Int) := by
      intro q hq
      simp [bkI, hq]
    by_cases e : j = p
    · subst e
      have gj := g j hp
      have gj1 := g (j - 1) a3
      rw [if_neg a1] at gj
      rw [if_neg a2] at gj1
      rw [if_pos rfl, gj, gj1]
      have := C_drop hx hy
      rw [e1, e2] at this
      simp only [bkI, List.getElem_map, List.getElem_range]
      have ex : X.getD (X.length - j) 0 = X[X.length - j] := by simp [List.getD_eq_getElem?_getD, List.getElem?_eq_getElem hx]
      have ey : Y.getD (Y.length - i) 0 = Y[Y.length - i] := by simp [List.getD_eq_getElem?_getD, List.getElem?_eq_getElem hy]
      simp only [if_pos hlt]
      rw [ex, ey, this]
      clear g gj gj1 this ex ey a1 a2 a3 hlt e1 e2 h1 h2 hp hj hk hi hi'
      by_cases hc : X[X.length - j] = Y[Y.length - i]
      · rw [if_pos hc, if_pos hc, Int.natCast_add]
      · rw [if_neg hc, if_neg hc, Int.natCast_add]; rfl
    · rw [if_neg e]
      simp only [bkI, List.getElem_map, List.getElem_range]
      by_cases h3 : X.length < p + k
      · rw [if_pos h3, if_pos (show X.length < p + (k + 1) from Nat.lt_succ_of_lt h3)]
      · rw [if_neg h3, if_neg (bk_arith2 hj hk e h3)]

end Mine

namespace Mine
def Stop (P : Prop) : Prop := P
theorem stop_in {P : Prop} (h : Stop P) : P := h
theorem stop_out {P : Prop} (h : P) : Stop P := h

theorem back1 (x y : Str) : [1] ++ (List.replicate (↑x.length : Int).toNat [(0 : Int)]).flatten = bk (cs x) (cs y) ([] : List Int).length ∧ ([1] ++ (List.replicate (↑x.length : Int).toNat [(0 : Int)]).flatten).length = x.length + 1 := by
  rw [bk_start x y _ (by simp)]
  exact ⟨rfl, by rw [bk_len, cs_len]⟩
theorem back2 {x y : Str} {ws pre : List Int} {n : Int} (h : ws = bk (cs x) (cs y) pre.length) (hl : ws.length = x.length + 1) (e : n = 1 + (pre.length : Int)) :
    ws = bkI (cs x) (cs y) n.toNat ([] : List Int).length ∧ ws.length = x.length + 1 := by
  refine ⟨?_, hl⟩
  rw [h, bkI_start]
  have : n.toNat = pre.length + 1 := by omega
  rw [this]; rfl
theorem back_arith {n m p q : Nat} {i j : Int} (ej : j = (n : Int) - (p : Int)) (hp : p < ((n : Int) - 0).toNat) (ei : i = 1 + (q : Int)) (hi : q < ((m : Int) + 1 - 1).toNat) :
    ((1 ≤ j ∧ j ≤ n) ∧ (1 ≤ i ∧ i ≤ m)) ∧ j.toNat = n - p ∧ p < n ∧ 1 ≤ i.toNat ∧ i.toNat ≤ m ∧ (j - 1).toNat = j.toNat - 1 := by
  have h1 : p < n := by rw [Int.sub_zero] at hp; exact hp
  have h2 : q < m := by rw [Int.add_sub_cancel] at hi; exact hi
  clear hp hi
  refine ⟨⟨⟨?_, ?_⟩, ?_, ?_⟩, ?_, h1, ?_, ?_, ?_⟩
  · clear ei h2; omega
  · clear ei h2; omega
  · clear ej h1; omega
  · clear ej h1; omega
  · clear ei h2; omega
  · clear ej h1; omega
  · clear ej h1; omega
  · clear ei h2; omega
theorem back3 {x y : Str} {ws pre : List Int} {i j : Int} (h : ws = bkI (cs x) (cs y) i.toNat pre.length) (hl : ws.length = x.length + 1) (ej : j = (x.length : Int) - (pre.length : Int)) (hp : pre.length < ((x.length : Int) - 0).toNat)
    (pre' : List Int) (ei : i = 1 + (pre'.length : Int)) (hi : pre'.length < ((y.length : Int) + 1 - 1).toNat) (c : (Txt.item x (-j) == Txt.item y (-i)) = true) :
    ws.set j.toNat (ws.getD j.toNat 0 + ws.getD (j - 1).toNat 0) = bkI (cs x) (cs y) i.toNat (pre ++ [j]).length ∧ (ws.set j.toNat (ws.getD j.toNat 0 + ws.getD (j - 1).toNat 0)).length = x.length + 1 := by
  refine ⟨?_, by rw [List.length_set, hl]⟩
  obtain ⟨⟨⟨g1, g2⟩, g3, g4⟩, k1, k2, k3, k4, e1⟩ := back_arith ej hp ei hi
  rw [item_neg_eq g1 g2 g3 g4] at c
  have c' := of_decide_eq_true c
  have q := bkI_step (X := cs x) (Y := cs y) (i := i.toNat) (k := pre.length) (j := j.toNat) (by rw [cs_len]; exact k1) (by rw [cs_len]; exact k2) k3 (by rw [cs_len]; exact k4) ws h
  rw [cs_len, cs_len, if_pos c'] at q
  rw [e1, q, List.length_append]
  rfl
theorem back3' {x y : Str} {ws pre : List Int} {i j : Int} (h : ws = bkI (cs x) (cs y) i.toNat pre.length) (hl : ws.length = x.length + 1) (ej : j = (x.length : Int) - (pre.length : Int)) (hp : pre.length < ((x.length : Int) - 0).toNat)
    (pre' : List Int) (ei : i = 1 + (pre'.length : Int)) (hi : pre'.length < ((y.length : Int) + 1 - 1).toNat) (c : (Txt.item x (-j) == Txt.item y (-i)) = false) :
    ws = bkI (cs x) (cs y) i.toNat (pre ++ [j]).length ∧ ws.length = x.length + 1 := by
  refine ⟨?_, hl⟩
  obtain ⟨⟨⟨g1, g2⟩, g3, g4⟩, k1, k2, k3, k4, e1⟩ := back_arith ej hp ei hi
  rw [item_neg_eq g1 g2 g3 g4] at c
  have c' := of_decide_eq_false c
  have q := bkI_step (X := cs x) (Y := cs y) (i := i.toNat) (k := pre.length) (j := j.toNat) (by rw [cs_len]; exact k1) (by rw [cs_len]; exact k2) k3 (by rw [cs_len]; exact k4) ws h
  rw [cs_len, cs_len, if_neg c'] at q
  have e3 : (pre ++ [j]).length = pre.length + 1 := List.length_append
  rw [e3, ← q]
  have hlt : j.toNat < ws.length := by rw [k1, hl]; exact Nat.lt_succ_of_le (Nat.sub_le _ _)
  rw [Int.add_zero]
  apply List.ext_getElem
  · simp
  · intro p h1 h2
    rw [List.getElem_set]
    split
    · rename_i e; subst e; simp [List.getD_eq_getElem?_getD, List.getElem?_eq_getElem hlt]
    · rfl
theorem back4 {x y : Str} {ws pre : List Int} {i : Int} {n : Nat} (h : ws = bkI (cs x) (cs y) i.toNat n) (hn : n = x.length) (hl : ws.length = x.length + 1) (ei : i = 1 + (pre.length : Int)) :
    ws = bk (cs x) (cs y) (pre ++ [i]).length ∧ ws.length = x.length + 1 := by
  refine ⟨?_, hl⟩
  have e : n = (cs x).length := by rw [cs_len, hn]
  rw [h, e, bkI_end]
  have e2 : (pre ++ [i]).length = i.toNat := by simp; omega
  rw [e2]
theorem back5 {x y : Str} {ws : List Int} {n : Nat} (h : ws = bk (cs x) (cs y) n) (hn : n = y.length) : ws.getD x.length 0 = (C (cs x) (cs y) : Int) := by
  rw [h]
  have e : n = (cs y).length := by rw [cs_len, hn]
  rw [e]
  simp [bk, cs_len]
theorem back6 {x y : Str} {ws : List Int} (h : ws = bk (cs x) (cs y) (rangeKs 1 ((y.length : Int) + 1 - 1).toNat).length) (hl : ws.length = x.length + 1) :
    ws.getD (-1 + (ws.length : Int)).toNat 0 = (C (cs x) (cs y) : Int) := by
  have e : (-1 + (ws.length : Int)).toNat = x.length := by omega
  rw [e]
  exact back5 h (by rw [rangeKs_length]; omega)
end Mine

namespace Mine
def NewsLt (d : Nat) (l : List (Addr × Obj)) : Prop := ∀ p ∈ l, @LT.lt Nat _ p.1 d
theorem newsLt_mk {d : Nat} {l : List (Addr × Obj)} (h : ∀ p ∈ l, p.1 < d) : NewsLt d l := h
theorem newsLt_tail {d : Nat} {q : Addr × Obj} {l : List (Addr × Obj)} (h : NewsLt d (q :: l)) : NewsLt d l := fun p hp => h p (.tail _ hp)
theorem newsLt_ne {d b : Nat} {l : List (Addr × Obj)} (h : NewsLt d l) (hb : d ≤ b) : ∀ p ∈ l, p.1 ≠ b := fun p hp e => by
  have := h p hp
  rw [e] at this
  exact absurd (Nat.lt_of_lt_of_le this hb) (Nat.lt_irrefl _)
end Mine

namespace Mine
def V : List Int → Int
  | [] => 0
  | d :: r => d + 4096 * V r
theorem V_append (a b : List Int) : V (a ++ b) = V a + 4096 ^ a.length * V b := by
  induction a with
  | nil => simp [V]
  | cons d r ih =>
    rw [List.cons_append, V, ih, V, List.length_cons, Int.pow_succ, Int.mul_add]
    rw [Int.mul_comm (4096 ^ r.length) 4096, Int.mul_assoc]
    omega
def seg (ns : List Int) (i j : Int) : List Int := (ns.drop i.toNat).take (j - i).toNat
theorem seg_len {ns : List Int} {i j : Int} (hi : 0 ≤ i) (hj : i ≤ j) (hl : j ≤ ns.length) : (seg ns i j).length = (j - i).toNat := by
  simp only [seg, List.length_take, List.length_drop]
  omega
theorem seg_split {ns : List Int} {i m j : Int} (hi : 0 ≤ i) (hm : i ≤ m) (hj : m ≤ j) : seg ns i j = seg ns i m ++ seg ns m j := by
  unfold seg
  have e1 : (j - i).toNat = (m - i).toNat + (j - m).toNat := by
    rw [← Int.toNat_add (Int.sub_nonneg_of_le hm) (Int.sub_nonneg_of_le hj)]
    congr 1
    clear hi hm hj; omega
  have e2 : m.toNat = i.toNat + (m - i).toNat := by
    rw [← Int.toNat_add hi (Int.sub_nonneg_of_le hm)]
    congr 1
    clear hi hm hj; omega
  rw [e1, List.take_add, List.drop_drop, ← e2]
theorem seg_one {ns : List Int} {i j : Int} (hi : 0 ≤ i) (hj : j = i + 1) (hl : j ≤ ns.length) : V (seg ns i j) = ns.getD i.toNat 0 := by
  have h : i.toNat < ns.length := by omega
  unfold seg
  have e : (j - i).toNat = 1 := by omega
  rw [e, List.drop_eq_getElem_cons h, List.take_succ_cons, List.take_zero, List.getD_eq_getElem?_getD, List.getElem?_eq_getElem h]
  show _ + 4096 * (0 : Int) = _
  simp
theorem seg_all (ns : List Int) : seg ns 0 ns.length = ns := by simp [seg]
def Fig (ns : List Int) : Prop := ∀ d ∈ ns, 0 ≤ d ∧ d < 4096
theorem V_bound {ns : List Int} (h : Fig ns) : 0 ≤ V ns ∧ V ns < 4096 ^ ns.length := by
  induction ns with
  | nil => simp [V]
  | cons d r ih =>
    have h1 := h d (.head _)
    have h2 := ih fun x hx => h x (.tail _ hx)
    rw [V, List.length_cons, Int.pow_succ]
    generalize (4096 : Int) ^ r.length = q at *
    omega
theorem seg_fig {ns : List Int} (h : Fig ns) (i j : Int) : Fig (seg ns i j) := fun d hd => h d (List.mem_of_mem_drop (List.mem_of_mem_take hd))
theorem V_small {ns : List Int} (h : Fig ns) (hl : ns.length ≤ 5) : 0 ≤ V ns ∧ V ns < 2 ^ 60 := by
  have q := V_bound h
  refine ⟨q.1, Int.lt_of_lt_of_le q.2 ?_⟩
  have h6 : ∀ n : Nat, n ≤ 5 → (4096 : Int) ^ n ≤ 2 ^ 60 := by decide +kernel
  exact h6 _ hl
theorem V_join {ns : List Int} {i m j : Int} (hi : 0 ≤ i) (hm : i ≤ m) (hj : m ≤ j) (hl : j ≤ ns.length) : V (seg ns m j) * 2 ^ ((m - i) * 12).toNat + V (seg ns i m) = V (seg ns i j) := by
  rw [seg_split hi hm hj, V_append, seg_len hi hm (by omega)]
  have e : ((m - i) * 12).toNat = 12 * (m - i).toNat := by omega
  rw [e, Int.pow_mul]
  have : (2 : Int) ^ 12 = 4096 := by decide
  rw [this, Int.mul_comm]
  omega
end Mine

namespace Mine
theorem seg_small {ns : List Int} (hf : Fig ns) (hl : ns.length ≤ 5) (i j : Int) : 0 ≤ V (seg ns i j) ∧ V (seg ns i j) < 2 ^ 60 := by
  refine V_small (seg_fig hf i j) ?_
  simp only [seg, List.length_take, List.length_drop]
  omega
end Mine

namespace Mine
theorem of_allLt {d : Nat} : ∀ {l : List (Addr × Obj)}, AllLt d l → ∀ p ∈ l, p.1 < d
  | [], _, _, h => nomatch h
  | _ :: _, h, p, hp => by
    rcases List.mem_cons.mp hp with rfl | hp
    · exact h.1
    · exact of_allLt h.2 p hp
theorem lt_tail3 {x y z c : Nat} {l : List (Addr × Obj)} (h : @LT.lt Nat _ x c ∧ @LT.lt Nat _ y c ∧ @LT.lt Nat _ z c ∧ AllLt c l) : ∀ p ∈ l, p.1 < c := of_allLt h.2.2.2
end Mine
end
section
open PySem PySem.W PyProof.Rows
namespace Mine

theorem and_shift (x s : Nat) : x &&& (x / 2 ^ s * 2 ^ s) = x / 2 ^ s * 2 ^ s := by
  have h1 : (x &&& (x / 2 ^ s * 2 ^ s)) / 2 ^ s = x / 2 ^ s := by
    rw [Nat.and_div_two_pow, Nat.mul_div_cancel _ (Nat.two_pow_pos s), Nat.and_self]
  have h2 : (x &&& (x / 2 ^ s * 2 ^ s)) % 2 ^ s = 0 := by
    rw [Nat.and_mod_two_pow, Nat.mul_mod_left, Nat.and_zero]
  have h3 := Nat.div_add_mod (x &&& (x / 2 ^ s * 2 ^ s)) (2 ^ s)
  rw [h1, h2, Nat.add_zero, Nat.mul_comm] at h3
  exact h3.symm

theorem xor_low {x : Int} (hx : 0 ≤ x) (s : Nat) : Builtin.bitXor x (x / 2 ^ s * 2 ^ s) = x % 2 ^ s := by
  obtain ⟨n, rfl⟩ := Int.eq_ofNat_of_zero_le hx
  have e : ((n : Int) / 2 ^ s * 2 ^ s) = ((n / 2 ^ s * 2 ^ s : Nat) : Int) := by simp
  have e2 : ((n : Int) % 2 ^ s) = ((n % 2 ^ s : Nat) : Int) := by simp
  rw [bitXor_and, e, e2]
  have h : Builtin.bitAnd (n : Int) ((n / 2 ^ s * 2 ^ s : Nat) : Int) = ((n / 2 ^ s * 2 ^ s : Nat) : Int) := by
    unfold Builtin.bitAnd
    rw [decide_eq_true (Int.natCast_nonneg n), decide_eq_true (Int.natCast_nonneg _)]
    show (((n : Int).toNat &&& ((n / 2 ^ s * 2 ^ s : Nat) : Int).toNat : Nat) : Int) = _
    rw [Int.toNat_natCast, Int.toNat_natCast, and_shift]
  rw [h]
  have h3 := Nat.div_add_mod n (2 ^ s)
  rw [Nat.mul_comm] at h3
  omega

def dig (x : Int) : Nat → List Int
  | 0 => []
  | k + 1 => x % 4096 :: dig (x / 4096) k
theorem dig_len (x : Int) (k : Nat) : (dig x k).length = k := by
  induction k generalizing x with
  | zero => rfl
  | succ k ih => simp [dig, ih]
theorem dig_add (x : Int) (a b : Nat) : dig x (a + b) = dig (x % 4096 ^ a) a ++ dig (x / 4096 ^ a) b := by
  induction a generalizing x with
  | zero => simp [dig]
  | succ a ih =>
    have e : a + 1 + b = (a + b) + 1 := by omega
    rw [e, dig, dig, List.cons_append, ih]
    have h1 : x % 4096 ^ (a + 1) % 4096 = x % 4096 := by
      apply Int.emod_emod_of_dvd
      rw [Int.pow_succ]
      exact Int.dvd_mul_left ..
    have h2 : x / 4096 / 4096 ^ a = x / 4096 ^ (a + 1) := by
      rw [Int.pow_succ, Int.mul_comm, Int.ediv_ediv_of_nonneg (by decide)]
    have h3 : x % 4096 ^ (a + 1) / 4096 = x / 4096 % 4096 ^ a := by
      have q1 := Int.mul_ediv_add_emod x (4096 ^ (a + 1))
      have q2 := Int.mul_ediv_add_emod (x / 4096) (4096 ^ a)
      have q3 := Int.mul_ediv_add_emod x 4096
      rw [h2] at q2
      have hp : (0 : Int) < 4096 ^ a := Int.pow_pos (by decide)
      have r2 := Int.emod_nonneg (x / 4096) (Int.ne_of_gt hp)
      have r3 := Int.emod_nonneg x (show (4096 : Int) ≠ 0 by decide)
      have r4 := Int.emod_lt_of_pos x (show (0 : Int) < 4096 by decide)
      rw [Int.pow_succ, Int.mul_comm (4096 ^ a) 4096, Int.mul_assoc] at q1
      rw [Int.pow_succ, Int.mul_comm (4096 ^ a) 4096]
      rw [Int.pow_succ, Int.mul_comm (4096 ^ a) 4096] at q2
      generalize x / (4096 * 4096 ^ a) = z at *
      generalize (4096 : Int) ^ a * z = y at *
      generalize x % (4096 * 4096 ^ a) = m at *
      generalize x / 4096 % 4096 ^ a = n at *
      generalize x % 4096 = k at *
      generalize x / 4096 = d at *
      omega
    rw [h1, h2, h3]
theorem dig_one {x : Int} (h0 : 0 ≤ x) (h1 : x < 4096) : dig x 1 = [x] := by
  show [x % 4096] = [x]
  rw [Int.emod_eq_of_lt h0 h1]
theorem dig_getD (x : Int) (k i : Nat) (h : i < k) : (dig x k).getD i 0 = x / 4096 ^ i % 4096 := by
  induction k generalizing x i with
  | zero => omega
  | succ k ih =>
    cases i with
    | zero => simp [dig]
    | succ i =>
      show (dig (x / 4096) k).getD i 0 = _
      rw [ih _ _ (by omega), Int.pow_succ, Int.mul_comm, Int.ediv_ediv_of_nonneg (by decide)]

theorem put_one {ns : List Int} {i : Nat} {x : Int} (h : i < ns.length) : ns.set i x = ns.take i ++ [x] ++ ns.drop (i + 1) := by
  rw [List.append_assoc, List.set_eq_take_append_cons_drop, if_pos h]
  rfl
theorem put_two {ns ns1 : List Int} {i m j : Nat} {x lo up : Int} (h1 : i ≤ m) (h2 : m ≤ j) (h3 : j ≤ ns.length) (hlo : lo = x % 4096 ^ (m - i)) (hup : up = x / 4096 ^ (m - i))
    (e : ns1 = ns.take i ++ dig lo (m - i) ++ ns.drop m) : ns1.take m ++ dig up (j - m) ++ ns1.drop j = ns.take i ++ dig x (j - i) ++ ns.drop j := by
  have e1 : j - i = (m - i) + (j - m) := by clear h3 hlo hup e; omega
  have l1 : (ns.take i).length = i := by rw [List.length_take]; exact Nat.min_eq_left (Nat.le_trans h1 (Nat.le_trans h2 h3))
  have l2 : (ns.take i ++ dig lo (m - i)).length = m := by rw [List.length_append, l1, dig_len]; exact Nat.add_sub_of_le h1
  have t1 : ns1.take m = ns.take i ++ dig lo (m - i) := by rw [e, List.take_left' l2]
  have t2 : ns1.drop j = ns.drop j := by
    rw [e, List.drop_append, List.drop_eq_nil_of_le (by rw [l2]; exact h2), List.nil_append, l2, List.drop_drop, Nat.add_sub_of_le h2]
  rw [t1, t2, e1, dig_add, hlo, hup, List.append_assoc, List.append_assoc, List.append_assoc, List.append_assoc]

theorem pow_12 (k : Int) (h : 0 ≤ k) : (2 : Int) ^ (k * 12).toNat = 4096 ^ k.toNat := by
  have e : (k * 12).toNat = 12 * k.toNat := by omega
  rw [e, Int.pow_mul]
  rfl

end Mine

namespace Mine
section
variable {prog : Program} {w : World} {A : Around} {E : Value → Shared → Prop} {s : Shared} {a b : Int} {t u : Tok} {Q : Value → Shared → Prop}
theorem rshift_12 {k : Int} (ha : 0 ≤ a) (hk : 0 ≤ k) (h : ∀ q : Int, q = a / 4096 ^ k.toNat → 0 ≤ q → q ≤ a → Q (.int q s.toks) { s with toks := s.toks + 1 }) : wpAny (model prog w) A (binaryOp .RShift (.int a t) (.int (k * 12) u)) Q E s := by
  refine rshift_int (by omega) ?_
  rw [pow_12 k hk, Int.fdiv_eq_ediv_of_nonneg _ (Int.le_of_lt (Int.pow_pos (by decide)))]
  exact h _ rfl (Int.ediv_nonneg ha (Int.le_of_lt (Int.pow_pos (by decide)))) (Int.ediv_le_self _ ha)
theorem lshift_12 {k : Int} (ha : 0 ≤ a ∧ a < 2 ^ 60) (hk : 0 ≤ k ∧ k ≤ 5) (h : ∀ q : Int, q = a * 4096 ^ k.toNat → Q (.int q s.toks) { s with toks := s.toks + 1 }) : wpAny (model prog w) A (binaryOp .LShift (.int a t) (.int (k * 12) u)) Q E s := by
  refine lshift_int_small (by omega) (by omega) (by omega) ?_
  rw [pow_12 k hk.1]
  exact h _ rfl
theorem xor_12 {x q : Int} {k : Nat} (hx : 0 ≤ x) (hq : q = x / 4096 ^ k) (hb : b = q * 4096 ^ k) (h : ∀ r : Int, r = x % 4096 ^ k → 0 ≤ r → Q (.int r s.toks) { s with toks := s.toks + 1 }) : wpAny (model prog w) A (binaryOp .BitXor (.int x t) (.int b u)) Q E s := by
  refine xor_int ?_
  have e : (4096 : Int) ^ k = 2 ^ (12 * k) := by rw [Int.pow_mul]; rfl
  rw [hb, hq, e, Mine.xor_low hx]
  rw [← e]
  exact h _ rfl (Int.emod_nonneg _ (Int.ne_of_gt (Int.pow_pos (by decide))))
end
theorem dig_lt {x : Int} {a b : Nat} (h0 : 0 ≤ x) (h : x < 4096 ^ (a + b)) : x / 4096 ^ a < 4096 ^ b := by
  rw [Int.pow_add] at h
  apply Int.ediv_lt_of_lt_mul (Int.pow_pos (by decide))
  rw [Int.mul_comm]; exact h
theorem pow_small {k : Nat} (h : k ≤ 5) : (4096 : Int) ^ k ≤ 2 ^ 60 := by
  have h6 : k = 0 ∨ k = 1 ∨ k = 2 ∨ k = 3 ∨ k = 4 ∨ k = 5 := by omega
  rcases h6 with e | e | e | e | e | e <;> rw [e] <;> decide
end Mine

namespace Mine
theorem bits_le60 {x : Int} (h : 1 ≤ x ∧ x < 2 ^ 60) : (Builtin.Int.intBits x : Int) ≤ 60 ∧ 1 ≤ (Builtin.Int.intBits x : Int) ∧ x < 2 ^ Builtin.Int.intBits x := by
  unfold Builtin.Int.intBits
  have hn : ¬ x = 0 := by omega
  have hp : x.natAbs ≠ 0 := by omega
  have h1 : x.natAbs < 2 ^ 60 := by omega
  have h2 : x.natAbs.log2 < 60 := (Nat.log2_lt hp).mpr h1
  have h3 : x.natAbs < 2 ^ (x.natAbs.log2 + 1) := Nat.lt_log2_self
  split
  · rename_i h0; simp at h0; omega
  · refine ⟨by omega, by omega, ?_⟩
    have e : ((2 : Int) ^ (x.natAbs.log2 + 1)) = ((2 ^ (x.natAbs.log2 + 1) : Nat) : Int) := by simp
    rw [e]; omega
section
variable {prog : Program} {w : World} {A : Around} {E : Value → Shared → Prop} {s : Shared} {a b : Int} {t u : Tok} {Q : Value → Shared → Prop}
theorem fdiv_bits {x : Int} (hx : 1 ≤ x ∧ x < 2 ^ 60) (h : ∀ q : Int, 1 ≤ q → q ≤ 5 → x < 4096 ^ q.toNat → Q (.int q s.toks) { s with toks := s.toks + 1 }) :
    wpAny (model prog w) A (binaryOp .FloorDiv (.int ((Builtin.Int.intBits x : Int) + 12 - 1) t) (.int 12 u)) Q E s := by
  have hb := bits_le60 hx
  refine floordiv_int (by decide) ?_ (Or.inl (PyProof.noPylong_small (by omega)))
  rw [Int.fdiv_eq_ediv_of_nonneg _ (by decide)]
  refine h _ (by omega) (by omega) (Int.lt_of_lt_of_le hb.2.2 ?_)
  have e : (4096 : Int) ^ (((Builtin.Int.intBits x : Int) + 12 - 1) / 12).toNat = 2 ^ (12 * (((Builtin.Int.intBits x : Int) + 12 - 1) / 12).toNat) := by rw [Int.pow_mul]; rfl
  rw [e]
  have hle : Builtin.Int.intBits x ≤ 12 * (((Builtin.Int.intBits x : Int) + 12 - 1) / 12).toNat := by omega
  have := Nat.pow_le_pow_right (n := 2) (by decide) hle
  have e1 : ∀ k : Nat, ((2 : Int) ^ k) = ((2 ^ k : Nat) : Int) := fun k => by simp
  rw [e1, e1]
  omega
end
end Mine

namespace Mine
section
variable {h₀ h : Heap} {L : Addr} {a b d : Addr × Obj} {r : List (Addr × Obj)}
theorem news_rot2 (N : News h₀ L h (a :: b :: d :: r)) : News h₀ L h (d :: a :: b :: r) := fun p hp => N p (by
  simp only [List.mem_cons] at hp ⊢
  rcases hp with h | h | h | h
  · exact .inr (.inr (.inl h))
  · exact .inl h
  · exact .inr (.inl h)
  · exact .inr (.inr (.inr h)))
theorem news_rot1 (N : News h₀ L h (a :: d :: r)) : News h₀ L h (d :: a :: r) := fun p hp => N p (by
  simp only [List.mem_cons] at hp ⊢
  rcases hp with h | h | h
  · exact .inr (.inl h)
  · exact .inl h
  · exact .inr (.inr h))
end
end Mine

namespace Mine
theorem i2d_start {x q : Int} {n : Nat} (h : x < 4096 ^ q.toNat) (hn : q = (n : Int)) : x < 4096 ^ ((n : Int) - 0).toNat := by
  have e : ((n : Int) - 0).toNat = q.toNat := by omega
  rw [e]; exact h
theorem i2d_x60 {x i j : Int} {ns : List Int} (hl : ns.length ≤ 5) (h : x < 4096 ^ (j - i).toNat) (hj : j ≤ ns.length ∧ 0 ≤ i) : x < 2 ^ 60 :=
  Int.lt_of_lt_of_le h (pow_small (by omega))
theorem i2d_low {x lo : Int} {k : Nat} {i m : Int} (h : lo = x % 4096 ^ k) (hk : k = (m - i).toNat) : lo < 4096 ^ (m - i).toNat := by
  rw [h, ← hk]; exact Int.emod_lt_of_pos _ (Int.pow_pos (by decide))
theorem i2d_up {x up i m j : Int} (h : up = x / 4096 ^ (m - i).toNat) (h1 : i ≤ m ∧ m ≤ j ∧ 0 ≤ x) (_h2 : True) (h3 : x < 4096 ^ (j - i).toNat) (_h4 : True) : up < 4096 ^ (j - m).toNat := by
  rw [h]
  refine dig_lt h1.2.2 ?_
  have e : (m - i).toNat + (j - m).toNat = (j - i).toNat := by omega
  rw [e]; exact h3
end Mine

namespace Mine
theorem all_at {P : Nat → Prop} (n : Nat) (h : ∀ n, P n) : P n := h n
end Mine

namespace Mine
theorem i2d_e1 {vs : List Value} {ns : List Int} {i j x : Int} {tx : Tok} (h : IntsAre (vs.set i.toNat (.int x tx)) (ns.set i.toNat x)) (hij : i + 1 = j) (h0 : 0 ≤ i ∧ j ≤ ns.length) (hx : 0 ≤ x) (hx' : x < 4096 ^ (j - i).toNat) :
    IntsAre (vs.set i.toNat (.int x tx)) (ns.take i.toNat ++ dig x (j.toNat - i.toNat) ++ ns.drop j.toNat) := by
  obtain ⟨h0, hj⟩ := h0
  subst hij
  have e2 : (i + 1).toNat = i.toNat + 1 := Int.toNat_add h0 (by decide)
  have e : (i + 1).toNat - i.toNat = 1 := by rw [e2, Nat.add_sub_cancel_left]
  have e1 : (i + 1 - i).toNat = 1 := by rw [Int.add_comm, Int.add_sub_cancel]; rfl
  have e3 : i.toNat < ns.length := by clear h hx hx' e2 e e1; omega
  rw [e1] at hx'
  rw [put_one e3] at h
  rw [e, dig_one hx (by simpa using hx'), e2]
  exact h
theorem i2d_e2 {vs2 : List Value} {ns ns1 ns2 : List Int} {i m j x lo up : Int} (h : IntsAre vs2 ns2) (e1 : ns1 = ns.take i.toNat ++ dig lo (m.toNat - i.toNat) ++ ns.drop m.toNat) (e2 : ns2 = ns1.take m.toNat ++ dig up (j.toNat - m.toNat) ++ ns1.drop j.toNat)
    (hlo : lo = x % 4096 ^ (m - i).toNat) (hup : up = x / 4096 ^ (m - i).toNat) (h0 : 0 ≤ i ∧ i ≤ m ∧ m ≤ j ∧ j ≤ ns.length) : IntsAre vs2 (ns.take i.toNat ++ dig x (j.toNat - i.toNat) ++ ns.drop j.toNat) := by
  obtain ⟨h0, h1, h2, h3⟩ := h0
  have e : (m - i).toNat = m.toNat - i.toNat := Int.toNat_sub'' (Int.le_trans h0 h1) h0
  rw [e] at hlo hup
  rw [← put_two (Int.toNat_le_toNat h1) (Int.toNat_le_toNat h2) (Int.toNat_le.mpr h3) hlo hup e1, ← e2]
  exact h
theorem i2d_all {ns0 ns : List Int} {x : Int} {n : Nat} (e : ns = ns0.take (0 : Int).toNat ++ dig x (((n : Int)).toNat - (0 : Int).toNat) ++ ns0.drop ((n : Int)).toNat) (hn : ns0.length = n) : ns = dig x ns.length := by
  have e1 : ns = dig x n := by
    rw [e]
    simp [← hn]
  rw [e1, dig_len]
end Mine

namespace Mine
theorem i2d_len {x q : Int} {n : Nat} (h : x < 4096 ^ q.toNat) (hn : q.toNat = n) : x < 4096 ^ n := hn ▸ h
theorem lt_tail4 {x y z v c : Nat} {l : List (Addr × Obj)} (h : @LT.lt Nat _ x c ∧ @LT.lt Nat _ y c ∧ @LT.lt Nat _ z c ∧ @LT.lt Nat _ v c ∧ AllLt c l) : ∀ p ∈ l, p.1 < c := of_allLt h.2.2.2.2
theorem lt_tail5 {x y z v u c : Nat} {l : List (Addr × Obj)} (h : @LT.lt Nat _ x c ∧ @LT.lt Nat _ y c ∧ @LT.lt Nat _ z c ∧ @LT.lt Nat _ v c ∧ @LT.lt Nat _ u c ∧ AllLt c l) : ∀ p ∈ l, p.1 < c := of_allLt h.2.2.2.2.2
end Mine
end
section
open PySem PySem.W PyProof.Rows
namespace Mine

theorem C_snoc (u r : List Nat) (a d : Nat) : C (u ++ [a]) (r ++ [d]) = C (u ++ [a]) r + if a = d then C u r else 0 := by
  induction r generalizing u with
  | nil =>
    cases u with
    | nil => simp [C]
    | cons b u =>
      rw [List.cons_append, List.nil_append]
      cases u with
      | nil => by_cases h : b = d <;> by_cases h' : a = d <;> simp [C]
      | cons b' u => by_cases h : b = d <;> by_cases h' : a = d <;> simp [C]
  | cons e r ih =>
    cases u with
    | nil =>
      have h0 := ih []
      rw [List.nil_append] at h0 ⊢
      have h1 : C [a] (e :: r) = C [a] r + if a = e then C [] r else 0 := rfl
      have h2 : C [a] (e :: (r ++ [d])) = C [a] (r ++ [d]) + if a = e then C [] (r ++ [d]) else 0 := rfl
      rw [List.cons_append, h2, h0, h1, C_nil, C_nil]
      simp only [C_nil]
      omega
    | cons b u =>
      have h1 := ih (b :: u)
      have h2 := ih u
      rw [List.cons_append] at h1 ⊢
      rw [List.cons_append, C, C, h1, C]
      split <;> split <;> simp_all <;> omega
theorem C_none {u : List Nat} (h : u ≠ []) : C u [] = 0 := by
  cases u with
  | nil => exact absurd rfl h
  | cons a u => rfl
theorem C_rev (u r : List Nat) : C u.reverse r.reverse = C u r := by
  induction r generalizing u with
  | nil =>
    cases u with
    | nil => rfl
    | cons a u => rw [List.reverse_nil, C_none (by simp), C_none (by simp)]
  | cons d r ih =>
    cases u with
    | nil => simp [C_nil]
    | cons a u =>
      rw [List.reverse_cons, List.reverse_cons, C_snoc, ih, C, ← List.reverse_cons, ih]

def bin : Nat → Nat → Nat
  | _, 0 => 1
  | 0, _ + 1 => 0
  | n + 1, k + 1 => bin n (k + 1) + bin n k
theorem C_bin (u r : List Nat) : C u r ≤ bin r.length u.length := by
  induction r generalizing u with
  | nil => cases u <;> simp [C, bin]
  | cons d r ih =>
    cases u with
    | nil => simp [C_nil, bin]
    | cons a u =>
      rw [C]
      have h1 := ih (a :: u)
      have h2 := ih u
      simp only [List.length_cons, bin] at h1 ⊢
      split <;> omega
theorem bin_small : ∀ n, n ≤ 16 → ∀ k, k ≤ 4 → bin n k < 4096 := by decide
theorem C_small {u r : List Nat} (hu : u.length ≤ 4) (hr : r.length ≤ 16) : C u r < 4096 :=
  Nat.lt_of_le_of_lt (C_bin u r) (bin_small _ hr _ hu)

def figs (X pre : List Nat) : List Int := (List.range (X.length + 1)).map fun j => (C (X.take j).reverse pre.reverse : Int)
theorem figs_len (X pre : List Nat) : (figs X pre).length = X.length + 1 := by simp [figs]
theorem figs_fig {X pre : List Nat} (hX : X.length ≤ 4) (hp : pre.length ≤ 16) : Fig (figs X pre) := by
  intro d hd
  obtain ⟨j, hj, rfl⟩ := List.mem_map.mp hd
  have := C_small (u := (X.take j).reverse) (r := pre.reverse) (by simp; omega) (by simpa using hp)
  omega
def msk (n : Nat) (X : List Nat) : List Int := X.map fun c => if c = n then 4095 else 0
theorem msk_fig (n : Nat) (X : List Nat) : Fig (msk n X) := by
  intro d hd
  obtain ⟨c, _, rfl⟩ := List.mem_map.mp hd
  split <;> omega

def pick : List Int → List Int → List Int := List.zipWith fun f m => if m = 4095 then f else 0

theorem and_12 (a b q r : Nat) (ha : a < 4096) (hb : b < 4096) : (a + 4096 * q) &&& (b + 4096 * r) = (a &&& b) + 4096 * (q &&& r) := by
  have h1 : ((a + 4096 * q) &&& (b + 4096 * r)) / 2 ^ 12 = q &&& r := by
    rw [Nat.and_div_two_pow, Nat.add_mul_div_left _ _ (by decide), Nat.add_mul_div_left _ _ (by decide), Nat.div_eq_of_lt ha, Nat.div_eq_of_lt hb, Nat.zero_add, Nat.zero_add]
  have h2 : ((a + 4096 * q) &&& (b + 4096 * r)) % 2 ^ 12 = a &&& b := by
    rw [Nat.and_mod_two_pow, Nat.add_mul_mod_self_left, Nat.add_mul_mod_self_left, Nat.mod_eq_of_lt ha, Nat.mod_eq_of_lt hb]
  have h3 := Nat.div_add_mod ((a + 4096 * q) &&& (b + 4096 * r)) (2 ^ 12)
  rw [h1, h2, Nat.add_comm] at h3
  exact h3.symm
theorem and_4095 {a : Nat} (h : a < 4096) : a &&& 4095 = a := by
  have := Nat.and_two_pow_sub_one_eq_mod a 12
  simp at this
  omega
theorem bitAnd_nat (a b : Nat) : Builtin.bitAnd (a : Int) (b : Int) = ((a &&& b : Nat) : Int) := by
  unfold Builtin.bitAnd
  rw [decide_eq_true (Int.natCast_nonneg a), decide_eq_true (Int.natCast_nonneg b)]
  show (((a : Int).toNat &&& (b : Int).toNat : Nat) : Int) = _
  rw [Int.toNat_natCast, Int.toNat_natCast]
theorem V_nat {ns : List Int} (h : Fig ns) : ∃ n : Nat, V ns = n := ⟨(V ns).toNat, by have := (V_bound h).1; omega⟩
theorem and_V {fs ms : List Int} (hf : Fig fs) (hm : Fig ms) (hv : ∀ m ∈ ms, m = 4095 ∨ m = 0) : Builtin.bitAnd (V fs) (V ms) = V (pick fs ms) := by
  induction ms generalizing fs with
  | nil =>
    obtain ⟨n, e⟩ := V_nat hf
    rw [e]
    show Builtin.bitAnd (n : Int) ((0 : Nat) : Int) = _
    rw [bitAnd_nat, Nat.and_zero]
    cases fs <;> rfl
  | cons m ms ih =>
    cases fs with
    | nil =>
      obtain ⟨n, e⟩ := V_nat hm
      rw [e]
      show Builtin.bitAnd ((0 : Nat) : Int) (n : Int) = _
      rw [bitAnd_nat, Nat.zero_and]
      rfl
    | cons f fs =>
      have hf' : Fig fs := fun x hx => hf x (.tail _ hx)
      have hm' : Fig ms := fun x hx => hm x (.tail _ hx)
      have ih' := ih hf' hm' fun x hx => hv x (.tail _ hx)
      obtain ⟨q, eq⟩ := V_nat hf'
      obtain ⟨r, er⟩ := V_nat hm'
      have b1 := hf f (.head _)
      have b2 := hm m (.head _)
      obtain ⟨a, rfl⟩ := Int.eq_ofNat_of_zero_le b1.1
      obtain ⟨b, rfl⟩ := Int.eq_ofNat_of_zero_le b2.1
      rw [eq, er, bitAnd_nat] at ih'
      have e1 : V ((a : Int) :: fs) = ((a + 4096 * q : Nat) : Int) := by rw [V, eq]; simp
      have e2 : V ((b : Int) :: ms) = ((b + 4096 * r : Nat) : Int) := by rw [V, er]; simp
      rw [e1, e2, bitAnd_nat, and_12 _ _ _ _ (by omega) (by omega)]
      show _ = (if (b : Int) = 4095 then (a : Int) else 0) + 4096 * V (pick fs ms)
      rw [← ih']
      rcases hv _ (.head _) with h | h
      · have hb : b = 4095 := by omega
        rw [if_pos h, hb, and_4095 (by omega)]
        simp
      · have hb : b = 0 := by omega
        rw [if_neg (by omega), hb, Nat.and_zero]
        simp
theorem V_add {a b : List Int} (h : a.length = b.length) : V (List.zipWith (· + ·) a b) = V a + V b := by
  induction a generalizing b with
  | nil => cases b with
    | nil => rfl
    | cons _ _ => simp at h
  | cons x a ih =>
    cases b with
    | nil => simp at h
    | cons y b =>
      rw [List.zipWith_cons_cons, V, V, V, ih (by simpa using h)]
      omega
theorem figs_step (X pre : List Nat) (n : Nat) : V (figs X pre) + 4096 * V (pick (figs X pre) (msk n X)) = V (figs X (pre ++ [n])) := by
  have e : 4096 * V (pick (figs X pre) (msk n X)) = V (0 :: pick (figs X pre) (msk n X)) := by rw [V]; omega
  have hl : (figs X pre).length = (0 :: pick (figs X pre) (msk n X)).length := by simp [figs, pick, msk]
  rw [e, ← V_add hl]
  congr 1
  apply List.ext_getElem
  · simp [figs, pick, msk]
  · intro j h1 h2
    have hj : j < X.length + 1 := by simpa [figs] using h2
    rw [List.getElem_zipWith]
    cases j with
    | zero => simp [figs, C_nil]
    | succ j =>
      have hj' : j < X.length := by omega
      rw [List.getElem_cons_succ]
      simp only [figs, pick, msk, List.getElem_map, List.getElem_range, List.getElem_zipWith]
      have et : (X.take (j + 1)).reverse = X[j] :: (X.take j).reverse := by
        rw [List.take_add_one, List.getElem?_eq_getElem hj']; simp
      rw [et]
      have er : (pre ++ [n]).reverse = n :: pre.reverse := by simp
      rw [er, C]
      by_cases hc : X[j] = n <;> simp [hc]
theorem V_top {a : List Int} {d : Int} (h : Fig a) : V (a ++ [d]) / 4096 ^ a.length = d := by
  have q := V_bound h
  rw [V_append, V, V, Int.mul_zero, Int.add_zero, Int.add_mul_ediv_left _ _ (Int.ne_of_gt (Int.pow_pos (by decide))), Int.ediv_eq_zero_of_lt q.1 q.2]
  omega
theorem figs_top {X Y : List Nat} (hX : X.length ≤ 4) (hY : Y.length ≤ 16) : V (figs X Y) / 4096 ^ X.length = (C X Y : Int) := by
  have e : figs X Y = (List.range X.length).map (fun j => (C (X.take j).reverse Y.reverse : Int)) ++ [(C X Y : Int)] := by
    unfold figs
    rw [List.range_succ, List.map_append]
    simp [C_rev]
  have hf := figs_fig hX hY
  have h2 : Fig ((List.range X.length).map (fun j => (C (X.take j).reverse Y.reverse : Int))) := fun d hd => hf d (by rw [e]; exact List.mem_append_left _ hd)
  have := V_top (d := (C X Y : Int)) h2
  rw [List.length_map, List.length_range] at this
  rw [e]; exact this
end Mine
end
section
open PySem PySem.W PyProof.Rows Mine
local macro_rules | `(tactic| walk_at $s:str) => `(tactic| k_extra $s)
local macro_rules | `(tactic| k_mem) => `(tactic| assumption)
local macro_rules | `(tactic| k_all) => `(tactic| first | assumption | (refine newsLt_ne (by assumption) ?_; (try dsimp only); omega))
section
open PySem PySem.W PyProof.Rows
namespace Mine
def InnerD (w : World) (p : Program) (loose : List Str) (mean : ExcName → Option Value) (mg mb : Str → Option Value) (led : List (Addr × Obj)) (f : Addr) (N : Nat) (ns : List Int) : Prop :=
  ∀ (i j : Int) (ti tj : Tok) (dp un : Nat) (gd : Option (List Code)) (cn : Str) (cs : Scope) (a : Addr) (ccd : Value) (cl : List (Str × Addr)) (outer : List Env) (A₀ : Around) (base h₀ : Heap) (L : Addr) (m : Str → Option Value) (s : Shared) (Q E : Value → Shared → Prop),
    0 ≤ i → i < j → j ≤ ns.length → (j - i).toNat < N →
    Below A₀ base outer h₀ → Fr h₀ L s.heap m → (hd.heap_39 w.params).In h₀ → News h₀ L s.heap led → Top p loose mean mg mb h₀ → cs.kind = .function →
    dp + N + 1 < recursionLimit → un + 8 * (N + 1) < cLine → CbRet h₀ L m led s Q (fun t => .int (V (seg ns i j)) t) →
      wpAny (model Challenge.rw_sh0023_01.row.prog w) (ktrTop dp un gd cn cs L a ccd cl outer) (call (.ref f) [.int i ti, .int j tj]) Q E s
theorem innerD_use {w : World} {p : Program} {loose : List Str} {mean : ExcName → Option Value} {mg mb : Str → Option Value} {led : List (Addr × Obj)} {f : Addr} {ns : List Int} {i j : Int} {ti tj : Tok} {dp un : Nat} {gd : Option (List Code)} {cn : Str} {cs : Scope} {a : Addr} {ccd : Value} {cl : List (Str × Addr)} {outer : List Env} {A₀ : Around} {base h₀ : Heap} {L : Addr} {m : Str → Option Value} {s : Shared} {Q E : Value → Shared → Prop}
    (N : Nat) (key : ∀ N, InnerD w p loose mean mg mb led f N ns) (h1 : 0 ≤ i) (h2 : i < j) (h3 : j ≤ ns.length) (h4 : (j - i).toNat < N)
    (hB : Below A₀ base outer h₀) (hF : Fr h₀ L s.heap m) (hX : (hd.heap_39 w.params).In h₀) (hN : News h₀ L s.heap led) (hT : Top p loose mean mg mb h₀) (hk : cs.kind = .function)
    (hd : dp + N + 1 < recursionLimit) (hu : un + 8 * (N + 1) < cLine) (hret : CbRet h₀ L m led s Q (fun t => .int (V (seg ns i j)) t)) :
    wpAny (model Challenge.rw_sh0023_01.row.prog w) (ktrTop dp un gd cn cs L a ccd cl outer) (call (.ref f) [.int i ti, .int j tj]) Q E s :=
  key N i j ti tj dp un gd cn cs a ccd cl outer A₀ base h₀ L m s Q E h1 h2 h3 h4 hB hF hX hN hT hk hd hu hret
theorem innerD_rec {w : World} {p : Program} {loose : List Str} {mean : ExcName → Option Value} {mg mb : Str → Option Value} {led : List (Addr × Obj)} {f : Addr} {ns : List Int} {i j : Int} {ti tj : Tok} {dp un : Nat} {gd : Option (List Code)} {cn : Str} {cs : Scope} {a : Addr} {ccd : Value} {cl : List (Str × Addr)} {outer : List Env} {A₀ : Around} {base h₀ : Heap} {L : Addr} {m : Str → Option Value} {s : Shared} {Q E : Value → Shared → Prop}
    {N : Nat} (key : InnerD w p loose mean mg mb led f N ns) (hF : Fr h₀ L s.heap m) (hN : News h₀ L s.heap led) (hB : Below A₀ base outer h₀) (hX : (hd.heap_39 w.params).In h₀) (hT : Top p loose mean mg mb h₀) (hk : cs.kind = .function)
    (hf : Fig ns) (h5 : ns.length ≤ 5) (h1 : 0 ≤ i ∧ i < j ∧ j ≤ ns.length ∧ (j - i).toNat < N)
    (hd : dp + N + 1 < recursionLimit) (hu : un + 8 * (N + 1) < cLine)
    (hret : ∀ (v : Int) (t : Tok) (h' : Heap) (tk' : Nat), v = V (seg ns i j) → (0 ≤ v ∧ v < 2 ^ 60) → Fr h₀ L h' m → News h₀ L h' led → Q (.int v t) { s with heap := h', toks := tk' }) :
    wpAny (model Challenge.rw_sh0023_01.row.prog w) (ktrTop dp un gd cn cs L a ccd cl outer) (call (.ref f) [.int i ti, .int j tj]) Q E s :=
  key i j ti tj dp un gd cn cs a ccd cl outer A₀ base h₀ L m s Q E h1.1 h1.2.1 h1.2.2.1 h1.2.2.2 hB hF hX hN hT hk hd hu fun t h' tk' F N => hret _ t h' tk' rfl (seg_small hf h5 i j) F N
section
variable {prog : Program} {w : World} {A : Around} {E : Value → Shared → Prop} {s : Shared} {a b : Int} {t u : Tok} {Q : Value → Shared → Prop}
theorem rshift_one (h : ∀ q : Int, 2 * q ≤ a → a < 2 * q + 2 → Q (.int q s.toks) { s with toks := s.toks + 1 }) : wpAny (model prog w) A (binaryOp .RShift (.int a t) (.int 1 u)) Q E s := by
  refine rshift_int (by decide) ?_
  rw [fdiv_two]
  exact h _ (by omega) (by omega)
theorem mul_twelve (h : Q (.int (a * 12) s.toks) { s with toks := s.toks + 1 }) : wpAny (model prog w) A (binaryOp .Mult (.int a t) (.int 12 u)) Q E s :=
  mul_int h (.of_right (by decide))
end

set_option maxRecDepth 100000 in
set_option maxHeartbeats 8000000 in
theorem d2iA (w : World) (p : Program) (loose : List Str) (mean : ExcName → Option Value) (mg mb : Str → Option Value) (l : Nat) (vs : List Value) (ns : List Int) (t u : Tok) (n : Nat) (news : List (Addr × Obj)) (hi : IntsAre vs ns) (hf : Fig ns) (h0 : 0 < ns.length) (h4 : ns.length ≤ 4)
   (hl : @Ne Nat l 40) (hne : ∀ p ∈ news, p.1 ≠ 40) :
   ∀ (dp un : Nat) (gd : Option (List Code)) (cn : Str) (cs : Scope) (a : Addr) (ccd : Value) (cl : List (Str × Addr)) (outer : List Env) (A₀ : Around) (base h₀ : Heap) (L : Addr) (m : Str → Option Value) (s : Shared) (Q E : Value → Shared → Prop),
    Below A₀ base outer h₀ → Fr h₀ L s.heap m → (hd.heap_39 w.params).In h₀ → CodeHd base 44 40 → News h₀ L s.heap ((l, listOf vs.toArray n) :: (40, tabObj #[]) :: news) → Top p loose mean mg mb h₀ → cs.kind = .function →
    dp + 20 < recursionLimit → un + 80 < cLine →
    (∀ (t : Tok) (h' : Heap) (tk' : Nat) (c' : Addr) (oc : Obj) (vs' : Array Value) (t' : Tok), Fr h₀ L h' m → News h₀ L h' ((c', oc) :: (l, listOf vs.toArray n) :: (40, tabObj #[rawInt 21, rawInt 4, .ref c']) :: news) →
      oc.data = .fields vs' → vs'[1]? = some (.str (Str.ofString "_digits2int.<locals>.inner") t') → (∀ p ∈ (l, listOf vs.toArray n) :: (40, tabObj #[]) :: news, p.1 < c') → Q (.int (V ns) t) { s with heap := h', toks := tk' }) →
      wpAny (model Challenge.rw_sh0023_01.row.prog w) (ktrTop dp un gd cn cs L a ccd cl outer) (call (.ref 45) [.ref l, .int 12 u]) Q E s := by
  w_top off
  k_with_none
  k_with "call ref" => (first | (k_dflt (refine' innerD_rec ?key ?F ?N ?B ?X ?T ?k ?hf ?h5 ?h ?d ?u ?_; (case key => with_reducible assumption); (case F => k_asm); (case N => k_asm); (case B => k_asm); (case X => k_asm); (case T => k_asm); (case k => exact rfl); (case hf => with_reducible assumption); (case h5 => omega); (case h => omega); (case d => (dsimp only; omega)); (case u => (dsimp only; omega))); intro v9 t9 h9 tk9 e9 hb9 F9 N9; (try k_fold)) | refine stop_in ?_)
  k_with "binaryOp RShift int int" => ((refine rshift_one ?_; intro q9 hq1 hq2))
  k_with "binaryOp Mult int int" => ((refine mul_twelve ?_))
  k_with "binaryOp LShift int int" => ((with_reducible refine lshift_int_small ?kb1 ?kb2 ?kb3 ?_; (case kb1 => omega); (case kb2 => omega); (case kb3 => omega)))
  k_fill
  intros
  rename_i hret
  have hvl := hi.length
  refine wpAny_call ?_
  k_dflt ((refine' code_defC ?k1 ?k2 ?k3 ?k4 ?k5 ?kA ?kF ?kK ?k6 ?k7 ?k8 ?k9 ?kB ?kD ?_ ?c2 ?c3 ?c4; (case kA => exact rfl); (case kF => exact rfl); (case kK => assumption); (case k1 => k_asm); (case k2 => k_asm); (case k3 => k_asm); (case k4 => k_asm); (case k5 => k_asm); (case k6 => k_is); (case k7 => k_is); (case k8 => ktr_room); (case k9 => exact BindsTo.of_eq rfl); (case kB => exact rfl); (case kD => decide +kernel); (case c2 => exact rfl); (case c3 => exact rfl); (case c4 => exact rfl); k_whole; intro g' L' h' tk' cells' FG' F' N' Y' B' X' T' l1; (have hNL := newsLt_tail (newsLt_tail (newsLt_mk l1))); (try k_lt l1); k_cells Y'; (try simp only [List.cons_append, List.nil_append] at N'); (try dsimp only); (try k_lift B'); (try k_fold)))
  k_steps
  refine stop_out ?_
  refine' innerD_use (ns := ns) 6 ?key ?h1 ?h2 ?h3 ?h4 ?hB ?hF ?hX ?hN ?hT ?hk ?hd ?hu ?hret
  case hB => k_asm
  case hF => k_asm
  case hX => k_asm
  case hN => k_asm
  case hT => k_asm
  case hk => exact rfl
  case h1 => omega
  case h2 => omega
  case h3 => omega
  case h4 => omega
  case hd => (dsimp only; omega)
  case hu => (dsimp only; omega)
  case key =>
    intro N
    induction N with
    | zero => unfold InnerD; intros; omega
    | succ N ih =>
      unfold InnerD
      intros
      rename_i hret'
      refine wpAny_call ?_
      k_dflt ((refine' code_nest ?k1 ?k2 ?k3 ?k4 ?k5 ?kA ?kF ?kK ?k6 ?k7 ?k8 ?k9 ?kB ?_ ?c2 ?c3 ?c4 ?c5; (case kA => exact rfl); (case kF => exact rfl); (case kK => assumption); (case k1 => k_asm); (case k2 => k_asm); (case k3 => k_asm); (case k4 => k_asm); (case k5 => k_asm); (case k6 => k_mem); (case k7 => exact codeRec_news (by k_asm) (by k_mem) (by assumption) (by assumption)); (case k8 => ktr_room); (case k9 => exact BindsTo.of_eq rfl); (case c5 => decide); (case kB => exact locs rfl); (case c2 => exact rfl); (case c3 => exact rfl); (case c4 => exact rfl); k_whole; intro g' L' h' FG' F' N' B' X' T'; (try dsimp only); (try k_lift B'); (try k_fold)))
      k_with "LeaveK" => refine stop_in ?_
      k_with "forall" => refine stop_in ?_
      k_steps
      all_goals refine stop_out ?_
      · (try dsimp only)
        refine' leaveK_ ?k1 ?k2 ?_
        case k1 => k_asm
        case k2 => k_asm
        intro kF kN
        dsimp only
        refine' cb_retI hret' ?ea kF kN
        exact (seg_one (by assumption) (by omega) (by assumption)).symm
      · (try dsimp only)
        refine' leaveK_ ?kc ?kd ?_
        case kc => k_asm
        case kd => k_asm
        intro kF kN
        dsimp only
        refine' cb_retI hret' ?eb kF kN
        subst_vars
        exact V_join (by omega) (by omega) (by omega) (by omega)
  dsimp only [CbRet]
  intro t2 h2 tk2 F2 N2
  refine' leaveK_ ?ke ?kf ?_
  case ke => k_asm
  case kf => k_asm
  intro kF kN
  dsimp only
  rw [seg_all]
  refine' hret _ _ _ _ _ _ _ kF ?N ?d ?v ?lt
  case d => assumption
  case v => assumption
  case N => (refine cb_drop kN ?cbS; kcj_all)
  case lt => exact lt_tail3 (l := (_, _) :: (_, _) :: news) (by assumption)
end Mine
end
section
open PySem PySem.W PyProof.Rows
namespace Mine
set_option maxRecDepth 100000 in
set_option maxHeartbeats 8000000 in
theorem d2iB (w : World) (p : Program) (loose : List Str) (mean : ExcName → Option Value) (mg mb : Str → Option Value) (l : Nat) (vs : List Value) (ns : List Int) (t u : Tok) (n : Nat) (news : List (Addr × Obj)) (hi : IntsAre vs ns) (hf : Fig ns) (h0 : 0 < ns.length) (h4 : ns.length ≤ 4)
   (c' : Addr) (oc : Obj) (vs' : Array Value) (t' : Tok) (hod : oc.data = .fields vs') (hov : vs'[1]? = some (.str (Str.ofString "_digits2int.<locals>.inner") t')) :
   ∀ (dp un : Nat) (gd : Option (List Code)) (cn : Str) (cs : Scope) (a : Addr) (ccd : Value) (cl : List (Str × Addr)) (outer : List Env) (A₀ : Around) (base h₀ : Heap) (L : Addr) (m : Str → Option Value) (s : Shared) (Q E : Value → Shared → Prop),
    Below A₀ base outer h₀ → Fr h₀ L s.heap m → (hd.heap_39 w.params).In h₀ → CodeHd base 44 40 → News h₀ L s.heap ((l, listOf vs.toArray n) :: (40, tabObj #[rawInt 21, rawInt 4, .ref c']) :: (c', oc) :: news) → Top p loose mean mg mb h₀ → cs.kind = .function →
    dp + 20 < recursionLimit → un + 80 < cLine →
    (∀ (t : Tok) (h' : Heap) (tk' : Nat), Fr h₀ L h' m → News h₀ L h' ((l, listOf vs.toArray n) :: (40, tabObj #[rawInt 21, rawInt 4, .ref c']) :: (c', oc) :: news) → Q (.int (V ns) t) { s with heap := h', toks := tk' }) →
      wpAny (model Challenge.rw_sh0023_01.row.prog w) (ktrTop dp un gd cn cs L a ccd cl outer) (call (.ref 45) [.ref l, .int 12 u]) Q E s := by
  w_top off
  k_with_none
  k_with "call ref" => (first | (k_dflt (refine' innerD_rec ?key ?F ?N ?B ?X ?T ?k ?hf ?h5 ?h ?d ?u ?_; (case key => with_reducible assumption); (case F => k_asm); (case N => k_asm); (case B => k_asm); (case X => k_asm); (case T => k_asm); (case k => exact rfl); (case hf => with_reducible assumption); (case h5 => omega); (case h => omega); (case d => (dsimp only; omega)); (case u => (dsimp only; omega))); intro v9 t9 h9 tk9 e9 hb9 F9 N9; (try k_fold)) | refine stop_in ?_)
  k_with "binaryOp RShift int int" => ((refine rshift_one ?_; intro q9 hq1 hq2))
  k_with "binaryOp Mult int int" => ((refine mul_twelve ?_))
  k_with "binaryOp LShift int int" => ((with_reducible refine lshift_int_small ?kb1 ?kb2 ?kb3 ?_; (case kb1 => omega); (case kb2 => omega); (case kb3 => omega)))
  k_fill
  intros
  rename_i hret
  have hvl := hi.length
  refine wpAny_call ?_
  k_dflt ((refine' code_defC ?k1 ?k2 ?k3 ?k4 ?k5 ?kA ?kF ?kK ?k6 ?k7 ?k8 ?k9 ?kB ?kD ?_ ?c2 ?c3 ?c4; (case kA => exact rfl); (case kF => exact rfl); (case kK => assumption); (case k1 => k_asm); (case k2 => k_asm); (case k3 => k_asm); (case k4 => k_asm); (case k5 => k_asm); (case k6 => k_is); (case k7 => k_is); (case k8 => ktr_room); (case k9 => exact BindsTo.of_eq rfl); (case kB => exact rfl); (case kD => decide +kernel); (case c2 => exact rfl); (case c3 => exact rfl); (case c4 => exact rfl); k_whole; intro g' L' h' tk' cells' FG' F' N' Y' B' X' T' l1; (have hNL := newsLt_tail (newsLt_tail (newsLt_tail (newsLt_mk l1)))); (try k_lt l1); k_cells Y'; (try simp only [List.cons_append, List.nil_append] at N'); (try dsimp only); (try k_lift B'); (try k_fold)))
  k_steps
  refine stop_out ?_
  refine' innerD_use (ns := ns) 6 ?key ?h1 ?h2 ?h3 ?h4 ?hB ?hF ?hX ?hN ?hT ?hk ?hd ?hu ?hret
  case hB => k_asm
  case hF => k_asm
  case hX => k_asm
  case hN => k_asm
  case hT => k_asm
  case hk => exact rfl
  case h1 => omega
  case h2 => omega
  case h3 => omega
  case h4 => omega
  case hd => (dsimp only; omega)
  case hu => (dsimp only; omega)
  case key =>
    intro N
    induction N with
    | zero => unfold InnerD; intros; omega
    | succ N ih =>
      unfold InnerD
      intros
      rename_i hret'
      refine wpAny_call ?_
      k_dflt ((refine' code_nest ?k1 ?k2 ?k3 ?k4 ?k5 ?kA ?kF ?kK ?k6 ?k7 ?k8 ?k9 ?kB ?_ ?c2 ?c3 ?c4 ?c5; (case kA => exact rfl); (case kF => exact rfl); (case kK => assumption); (case k1 => k_asm); (case k2 => k_asm); (case k3 => k_asm); (case k4 => k_asm); (case k5 => k_asm); (case k6 => k_mem); (case k7 => exact codeRec_news (by k_asm) (by k_mem) (by assumption) (by assumption)); (case k8 => ktr_room); (case k9 => exact BindsTo.of_eq rfl); (case c5 => decide); (case kB => exact locs rfl); (case c2 => exact rfl); (case c3 => exact rfl); (case c4 => exact rfl); k_whole; intro g' L' h' FG' F' N' B' X' T'; (try dsimp only); (try k_lift B'); (try k_fold)))
      k_with "LeaveK" => refine stop_in ?_
      k_with "forall" => refine stop_in ?_
      k_steps
      all_goals refine stop_out ?_
      · (try dsimp only)
        refine' leaveK_ ?k1 ?k2 ?_
        case k1 => k_asm
        case k2 => k_asm
        intro kF kN
        dsimp only
        refine' cb_retI hret' ?ea kF kN
        exact (seg_one (by assumption) (by omega) (by assumption)).symm
      · (try dsimp only)
        refine' leaveK_ ?kc ?kd ?_
        case kc => k_asm
        case kd => k_asm
        intro kF kN
        dsimp only
        refine' cb_retI hret' ?eb kF kN
        subst_vars
        exact V_join (by omega) (by omega) (by omega) (by omega)
  dsimp only [CbRet]
  intro t2 h2 tk2 F2 N2
  refine' leaveK_ ?ke ?kf ?_
  case ke => k_asm
  case kf => k_asm
  intro kF kN
  dsimp only
  rw [seg_all]
  refine' hret _ _ _ kF ?N
  case N => (refine cb_drop kN ?cbS; kcj_all)
end Mine
end
section
open PySem PySem.W PyProof.Rows
namespace Mine
def InnerI (w : World) (p : Program) (loose : List Str) (mean : ExcName → Option Value) (mg mb : Str → Option Value) (led : List (Addr × Obj)) (f l : Addr) (n : Nat) (N : Nat) : Prop :=
  ∀ (x i j : Int) (tx ti tj : Tok) (vs : List Value) (ns : List Int) (dp un : Nat) (gd : Option (List Code)) (cn : Str) (cs : Scope) (a : Addr) (ccd : Value) (cl : List (Str × Addr)) (outer : List Env) (A₀ : Around) (base h₀ : Heap) (L : Addr) (m : Str → Option Value) (s : Shared) (Q E : Value → Shared → Prop),
    IntsAre vs ns → ns.length ≤ 5 → 0 ≤ i → i < j → j ≤ ns.length → (j - i).toNat < N → 0 ≤ x → x < 4096 ^ (j - i).toNat →
    Below A₀ base outer h₀ → Fr h₀ L s.heap m → (hd.heap_39 w.params).In h₀ → News h₀ L s.heap ((l, listOf vs.toArray n) :: led) → Top p loose mean mg mb h₀ → cs.kind = .function →
    dp + N + 1 < recursionLimit → un + 8 * (N + 1) < cLine →
    (∀ (vs' : List Value) (h' : Heap) (tk' : Nat), IntsAre vs' (ns.take i.toNat ++ dig x (j.toNat - i.toNat) ++ ns.drop j.toNat) → Fr h₀ L h' m → News h₀ L h' ((l, listOf vs'.toArray n) :: led) → Q .none { s with heap := h', toks := tk' }) →
      wpAny (model Challenge.rw_sh0023_01.row.prog w) (ktrTop dp un gd cn cs L a ccd cl outer) (call (.ref f) [.int x tx, .int i ti, .int j tj]) Q E s
theorem innerI_rec {w : World} {p : Program} {loose : List Str} {mean : ExcName → Option Value} {mg mb : Str → Option Value} {led : List (Addr × Obj)} {f l : Addr} {n : Nat} {vs : List Value} {ns : List Int} {x i j : Int} {tx ti tj : Tok} {dp un : Nat} {gd : Option (List Code)} {cn : Str} {cs : Scope} {a : Addr} {ccd : Value} {cl : List (Str × Addr)} {outer : List Env} {A₀ : Around} {base h₀ : Heap} {L : Addr} {m : Str → Option Value} {s : Shared} {Q E : Value → Shared → Prop}
    {N : Nat} (key : InnerI w p loose mean mg mb led f l n N) (hF : Fr h₀ L s.heap m) (hN : News h₀ L s.heap ((l, listOf vs.toArray n) :: led)) (hB : Below A₀ base outer h₀) (hX : (hd.heap_39 w.params).In h₀) (hT : Top p loose mean mg mb h₀) (hk : cs.kind = .function)
    (hi : IntsAre vs ns) (h1 : ns.length ≤ 5 ∧ 0 ≤ i ∧ i < j ∧ j ≤ ns.length ∧ (j - i).toNat < N) (h2 : 0 ≤ x) (h3 : x < 4096 ^ (j - i).toNat)
    (hd : dp + N + 1 < recursionLimit) (hu : un + 8 * (N + 1) < cLine)
    (hret : ∀ (vs' : List Value) (ns' : List Int) (h' : Heap) (tk' : Nat), ns' = ns.take i.toNat ++ dig x (j.toNat - i.toNat) ++ ns.drop j.toNat → ns'.length = ns.length → IntsAre vs' ns' → Fr h₀ L h' m → News h₀ L h' ((l, listOf vs'.toArray n) :: led) → Q .none { s with heap := h', toks := tk' }) :
    wpAny (model Challenge.rw_sh0023_01.row.prog w) (ktrTop dp un gd cn cs L a ccd cl outer) (call (.ref f) [.int x tx, .int i ti, .int j tj]) Q E s :=
  key x i j tx ti tj vs ns dp un gd cn cs a ccd cl outer A₀ base h₀ L m s Q E hi h1.1 h1.2.1 h1.2.2.1 h1.2.2.2.1 h1.2.2.2.2 h2 h3 hB hF hX hN hT hk hd hu
    fun vs' h' tk' hi' F N => hret vs' _ h' tk' rfl (by simp only [List.length_append, List.length_take, List.length_drop, dig_len]; omega) hi' F N

set_option maxRecDepth 100000 in
set_option maxHeartbeats 8000000 in
theorem i2dA (w : World) (p : Program) (loose : List Str) (mean : ExcName → Option Value) (mg mb : Str → Option Value) (x : Int) (t u : Tok) (news : List (Addr × Obj)) (hx : 1 ≤ x ∧ x < 2 ^ 60) (hne : ∀ p ∈ news, p.1 ≠ 33) :
   ∀ (dp un : Nat) (gd : Option (List Code)) (cn : Str) (cs : Scope) (a : Addr) (ccd : Value) (cl : List (Str × Addr)) (outer : List Env) (A₀ : Around) (base h₀ : Heap) (L : Addr) (m : Str → Option Value) (s : Shared) (Q E : Value → Shared → Prop),
    Below A₀ base outer h₀ → Fr h₀ L s.heap m → (hd.heap_39 w.params).In h₀ → CodeHd base 37 33 → News h₀ L s.heap ((33, tabObj #[]) :: news) → Top p loose mean mg mb h₀ → cs.kind = .function →
    dp + 20 < recursionLimit → un + 80 < cLine →
    (∀ (D : Addr) (vs' : List Value) (ns' : List Int) (n : Nat) (h' : Heap) (tk' : Nat) (c' : Addr) (oc : Obj) (vc : Array Value) (tc : Tok), ns' = dig x ns'.length → x < 4096 ^ ns'.length → 1 ≤ ns'.length → ns'.length ≤ 5 → IntsAre vs' ns' → Fr h₀ L h' m →
      News h₀ L h' ((D, listOf vs'.toArray n) :: (c', oc) :: (33, tabObj #[rawInt 6, rawInt 4, .ref c']) :: news) → oc.data = .fields vc → vc[1]? = some (.str (Str.ofString "_int2digits.<locals>.inner") tc) →
      (∀ p ∈ (33, tabObj #[]) :: news, p.1 < c') → (∀ p ∈ (33, tabObj #[]) :: news, p.1 < D) → Q (.ref D) { s with heap := h', toks := tk' }) →
      wpAny (model Challenge.rw_sh0023_01.row.prog w) (ktrTop dp un gd cn cs L a ccd cl outer) (call (.ref 38) [.int x t, .int 12 u]) Q E s := by
  w_top off
  k_with_none
  k_with "call ref" => (first | (k_dflt (refine' innerI_rec ?key ?F ?N ?B ?X ?T ?k ?hi ?h1 ?h2 ?h3 ?d ?u ?_; (case key => with_reducible assumption); (case F => k_asm); (case N => k_asm); (case B => k_asm); (case X => k_asm); (case T => k_asm); (case k => exact rfl); (case hi => with_reducible assumption); (case h1 => omega); (case h2 => omega); (case h3 => first | exact i2d_low (by assumption) (by omega) | exact i2d_up (by assumption) (by omega) trivial (by assumption) trivial); (case d => (dsimp only; omega)); (case u => (dsimp only; omega))); intro vs9 ns9 h9 tk9 e9 el9 i9 F9 N9; (try k_fold)) | refine stop_in ?_)
  k_with "binaryOp RShift int int" => (first | (refine rshift_one ?_; intro q9 hq1 hq2) | (refine rshift_12 (by omega) (by omega) ?_; intro q8 hq8 hq8a hq8b))
  k_with "binaryOp LShift int int" => ((refine lshift_12 (by omega) (by omega) ?_; intro q7 hq7))
  k_with "binaryOp BitXor int int" => ((refine xor_12 (by omega) (by assumption) (by assumption) ?_; intro q6 hq6 hq6a))
  k_with "binaryOp Mult int int" => ((refine mul_twelve ?_))
  k_with "setItem ref int int" => ((k_dflt (refine' ksa_set ?k1 ?k2 ?k3 ?k4 ?k5 ?k6 ?k7 ?_; (case k1 => k_asm); (case k2 => k_asm); (case k3 => k_upd); (case k4 => with_reducible assumption); (case k5 => omega); (case k6 => omega); (case k7 => omega); k_whole); intro h' F' N' hi' hl' hs'; (try k_sweep)))
  k_with "binaryOp FloorDiv int int" => ((refine fdiv_bits (by assumption) ?_; intro q9 hq1 hq2 hq3))
  k_fill
  intros
  rename_i hret
  refine wpAny_call ?_
  k_dflt ((refine' code_defC ?k1 ?k2 ?k3 ?k4 ?k5 ?kA ?kF ?kK ?k6 ?k7 ?k8 ?k9 ?kB ?kD ?_ ?c2 ?c3 ?c4; (case kA => exact rfl); (case kF => exact rfl); (case kK => assumption); (case k1 => k_asm); (case k2 => k_asm); (case k3 => k_asm); (case k4 => k_asm); (case k5 => k_asm); (case k6 => k_is); (case k7 => k_is); (case k8 => ktr_room); (case k9 => exact BindsTo.of_eq rfl); (case kB => exact rfl); (case kD => decide +kernel); (case c2 => exact rfl); (case c3 => exact rfl); (case c4 => exact rfl); k_whole; intro g' L' h' tk' cells' FG' F' N' Y' B' X' T' l1; (have hNL := newsLt_tail (newsLt_mk l1)); (try k_lt l1); k_cells Y'; (try simp only [List.cons_append, List.nil_append] at N'); (try dsimp only); (try k_lift B'); (try k_fold)))
  k_steps
  · refine stop_out ?_
    refine' innerI_rec (N := 6) (all_at 6 ?key) ?F (news_rot2 ?N) ?B ?X ?T ?k ?hi ?h1 ?h2 ?h3 ?d ?u ?_
    case N => k_asm
    case F => k_asm
    case B => k_asm
    case X => k_asm
    case T => k_asm
    case k => exact rfl
    case hi => assumption
    case d => (dsimp only; omega)
    case u => (dsimp only; omega)
    case h1 => omega
    case h2 => omega
    case h3 => exact i2d_start (by assumption) (by omega)
    case key =>
      intro N
      induction N with
      | zero => unfold InnerI; intros; omega
      | succ N ih =>
        unfold InnerI
        intros
        rename_i hret'
        have hb60 := i2d_x60 (by with_reducible assumption) (by with_reducible assumption) (by omega)
        refine wpAny_call ?_
        k_dflt ((refine' code_nest ?k1 ?k2 ?k3 ?k4 ?k5 ?kA ?kF ?kK ?k6 ?k7 ?k8 ?k9 ?kB ?_ ?c2 ?c3 ?c4 ?c5; (case kA => exact rfl); (case kF => exact rfl); (case kK => assumption); (case k1 => k_asm); (case k2 => k_asm); (case k3 => k_asm); (case k4 => k_asm); (case k5 => k_asm); (case k6 => k_mem); (case k7 => exact codeRec_news (by k_asm) (by k_mem) (by assumption) (by assumption)); (case k8 => ktr_room); (case k9 => exact BindsTo.of_eq rfl); (case c5 => decide); (case kB => exact locs rfl); (case c2 => exact rfl); (case c3 => exact rfl); (case c4 => exact rfl); k_whole; intro g' L' h' FG' F' N' B' X' T'; (try dsimp only); (try k_lift B'); (try k_fold)))
        k_with "LeaveK" => refine stop_in ?_
        k_with "forall" => refine stop_in ?_
        k_steps
        all_goals refine stop_out ?_
        · (try dsimp only)
          refine' leaveK_ ?kc ?kd ?_
          case kc => k_asm
          case kd => k_asm
          intro kF kN
          (try dsimp only)
          refine' hret' _ _ _ ?ki kF kN
          case ki => exact i2d_e1 (by with_reducible assumption) (by omega) (by omega) (by omega) (by with_reducible assumption)
        · (try dsimp only)
          refine' leaveK_ ?ke ?kf ?_
          case ke => k_asm
          case kf => k_asm
          intro kF kN
          (try dsimp only)
          refine' hret' _ _ _ ?kj kF kN
          case kj => exact i2d_e2 (by with_reducible assumption) (by with_reducible assumption) (by with_reducible assumption) (by with_reducible assumption) (by with_reducible assumption) (by omega)
    intro vs9 ns9 h9 tk9 e9 el9 i9 F9 N9
    k_with_none
    k_with "call ref" => (first | (k_dflt (refine' innerI_rec ?key ?F ?N ?B ?X ?T ?k ?hi ?h1 ?h2 ?h3 ?d ?u ?_; (case key => with_reducible assumption); (case F => k_asm); (case N => k_asm); (case B => k_asm); (case X => k_asm); (case T => k_asm); (case k => exact rfl); (case hi => with_reducible assumption); (case h1 => omega); (case h2 => omega); (case h3 => first | exact i2d_low (by assumption) (by omega) | exact i2d_up (by assumption) (by omega) trivial (by assumption) trivial); (case d => (dsimp only; omega)); (case u => (dsimp only; omega))); intro vs9 ns9 h9 tk9 e9 el9 i9 F9 N9; (try k_fold)) | refine stop_in ?_)
    k_with "binaryOp RShift int int" => (first | (refine rshift_one ?_; intro q9 hq1 hq2) | (refine rshift_12 (by omega) (by omega) ?_; intro q8 hq8 hq8a hq8b))
    k_with "binaryOp LShift int int" => ((refine lshift_12 (by omega) (by omega) ?_; intro q7 hq7))
    k_with "binaryOp BitXor int int" => ((refine xor_12 (by omega) (by assumption) (by assumption) ?_; intro q6 hq6 hq6a))
    k_with "binaryOp Mult int int" => ((refine mul_twelve ?_))
    k_with "setItem ref int int" => ((k_dflt (refine' ksa_set ?k1 ?k2 ?k3 ?k4 ?k5 ?k6 ?k7 ?_; (case k1 => k_asm); (case k2 => k_asm); (case k3 => k_upd); (case k4 => with_reducible assumption); (case k5 => omega); (case k6 => omega); (case k7 => omega); k_whole); intro h' F' N' hi' hl' hs'; (try k_sweep)))
    k_with "binaryOp FloorDiv int int" => ((refine fdiv_bits (by assumption) ?_; intro q9 hq1 hq2 hq3))
    k_with "LeaveK" => refine stop_in ?_
    k_steps
    refine stop_out ?_
    (try dsimp only)
    refine' leaveK_ ?kg ?kh ?_
    case kg => k_asm
    case kh => k_asm
    intro kF kN
    (try dsimp only)
    refine' hret _ _ _ _ _ _ _ _ _ _ (i2d_all e9 ?ln) ?lx ?l1 ?l5 i9 kF ?N ?d ?v ?lt ?lD
    case ln => assumption
    case lx => rw [el9]; exact i2d_len (by with_reducible assumption) (by omega)
    case l1 => omega
    case l5 => omega
    case d => assumption
    case v => assumption
    case N => (refine cb_drop kN ?cbS; kcj_all)
    case lt => exact lt_tail5 (l := (_, _) :: news) (by assumption)
    case lD => exact lt_tail4 (l := (_, _) :: news) (by assumption)
  · skip
    exfalso
    omega
end Mine
end
section
open PySem PySem.W PyProof.Rows
namespace Mine
set_option maxRecDepth 100000 in
set_option maxHeartbeats 8000000 in
theorem i2dB (w : World) (p : Program) (loose : List Str) (mean : ExcName → Option Value) (mg mb : Str → Option Value) (x : Int) (t u : Tok) (news : List (Addr × Obj)) (hx : 1 ≤ x ∧ x < 2 ^ 60) (c' : Addr) (oc : Obj) (vs' : Array Value) (t' : Tok) (hod : oc.data = .fields vs') (hov : vs'[1]? = some (.str (Str.ofString "_int2digits.<locals>.inner") t')) :
   ∀ (dp un : Nat) (gd : Option (List Code)) (cn : Str) (cs : Scope) (a : Addr) (ccd : Value) (cl : List (Str × Addr)) (outer : List Env) (A₀ : Around) (base h₀ : Heap) (L : Addr) (m : Str → Option Value) (s : Shared) (Q E : Value → Shared → Prop),
    Below A₀ base outer h₀ → Fr h₀ L s.heap m → (hd.heap_39 w.params).In h₀ → CodeHd base 37 33 → News h₀ L s.heap ((33, tabObj #[rawInt 6, rawInt 4, .ref c']) :: (c', oc) :: news) → Top p loose mean mg mb h₀ → cs.kind = .function →
    dp + 20 < recursionLimit → un + 80 < cLine →
    (∀ (D : Addr) (vs' : List Value) (ns' : List Int) (n : Nat) (h' : Heap) (tk' : Nat), ns' = dig x ns'.length → x < 4096 ^ ns'.length → 1 ≤ ns'.length → ns'.length ≤ 5 → IntsAre vs' ns' → Fr h₀ L h' m →
      News h₀ L h' ((D, listOf vs'.toArray n) :: (33, tabObj #[rawInt 6, rawInt 4, .ref c']) :: (c', oc) :: news) →
      (∀ p ∈ (33, tabObj #[rawInt 6, rawInt 4, .ref c']) :: (c', oc) :: news, p.1 < D) → Q (.ref D) { s with heap := h', toks := tk' }) →
      wpAny (model Challenge.rw_sh0023_01.row.prog w) (ktrTop dp un gd cn cs L a ccd cl outer) (call (.ref 38) [.int x t, .int 12 u]) Q E s := by
  w_top off
  k_with_none
  k_with "call ref" => (first | (k_dflt (refine' innerI_rec ?key ?F ?N ?B ?X ?T ?k ?hi ?h1 ?h2 ?h3 ?d ?u ?_; (case key => with_reducible assumption); (case F => k_asm); (case N => k_asm); (case B => k_asm); (case X => k_asm); (case T => k_asm); (case k => exact rfl); (case hi => with_reducible assumption); (case h1 => omega); (case h2 => omega); (case h3 => first | exact i2d_low (by assumption) (by omega) | exact i2d_up (by assumption) (by omega) trivial (by assumption) trivial); (case d => (dsimp only; omega)); (case u => (dsimp only; omega))); intro vs9 ns9 h9 tk9 e9 el9 i9 F9 N9; (try k_fold)) | refine stop_in ?_)
  k_with "binaryOp RShift int int" => (first | (refine rshift_one ?_; intro q9 hq1 hq2) | (refine rshift_12 (by omega) (by omega) ?_; intro q8 hq8 hq8a hq8b))
  k_with "binaryOp LShift int int" => ((refine lshift_12 (by omega) (by omega) ?_; intro q7 hq7))
  k_with "binaryOp BitXor int int" => ((refine xor_12 (by omega) (by assumption) (by assumption) ?_; intro q6 hq6 hq6a))
  k_with "binaryOp Mult int int" => ((refine mul_twelve ?_))
  k_with "setItem ref int int" => ((k_dflt (refine' ksa_set ?k1 ?k2 ?k3 ?k4 ?k5 ?k6 ?k7 ?_; (case k1 => k_asm); (case k2 => k_asm); (case k3 => k_upd); (case k4 => with_reducible assumption); (case k5 => omega); (case k6 => omega); (case k7 => omega); k_whole); intro h' F' N' hi' hl' hs'; (try k_sweep)))
  k_with "binaryOp FloorDiv int int" => ((refine fdiv_bits (by assumption) ?_; intro q9 hq1 hq2 hq3))
  k_fill
  intros
  rename_i hret
  refine wpAny_call ?_
  k_dflt ((refine' code_defC ?k1 ?k2 ?k3 ?k4 ?k5 ?kA ?kF ?kK ?k6 ?k7 ?k8 ?k9 ?kB ?kD ?_ ?c2 ?c3 ?c4; (case kA => exact rfl); (case kF => exact rfl); (case kK => assumption); (case k1 => k_asm); (case k2 => k_asm); (case k3 => k_asm); (case k4 => k_asm); (case k5 => k_asm); (case k6 => k_is); (case k7 => k_is); (case k8 => ktr_room); (case k9 => exact BindsTo.of_eq rfl); (case kB => exact rfl); (case kD => decide +kernel); (case c2 => exact rfl); (case c3 => exact rfl); (case c4 => exact rfl); k_whole; intro g' L' h' tk' cells' FG' F' N' Y' B' X' T' l1; (have hNL := newsLt_tail (newsLt_tail (newsLt_mk l1))); (try k_lt l1); k_cells Y'; (try simp only [List.cons_append, List.nil_append] at N'); (try dsimp only); (try k_lift B'); (try k_fold)))
  k_steps
  · refine stop_out ?_
    refine' innerI_rec (N := 6) (all_at 6 ?key) ?F (news_rot1 ?N) ?B ?X ?T ?k ?hi ?h1 ?h2 ?h3 ?d ?u ?_
    case N => k_asm
    case F => k_asm
    case B => k_asm
    case X => k_asm
    case T => k_asm
    case k => exact rfl
    case hi => assumption
    case d => (dsimp only; omega)
    case u => (dsimp only; omega)
    case h1 => omega
    case h2 => omega
    case h3 => exact i2d_start (by assumption) (by omega)
    case key =>
      intro N
      induction N with
      | zero => unfold InnerI; intros; omega
      | succ N ih =>
        unfold InnerI
        intros
        rename_i hret'
        have hb60 := i2d_x60 (by with_reducible assumption) (by with_reducible assumption) (by omega)
        refine wpAny_call ?_
        k_dflt ((refine' code_nest ?k1 ?k2 ?k3 ?k4 ?k5 ?kA ?kF ?kK ?k6 ?k7 ?k8 ?k9 ?kB ?_ ?c2 ?c3 ?c4 ?c5; (case kA => exact rfl); (case kF => exact rfl); (case kK => assumption); (case k1 => k_asm); (case k2 => k_asm); (case k3 => k_asm); (case k4 => k_asm); (case k5 => k_asm); (case k6 => k_mem); (case k7 => exact codeRec_news (by k_asm) (by k_mem) (by assumption) (by assumption)); (case k8 => ktr_room); (case k9 => exact BindsTo.of_eq rfl); (case c5 => decide); (case kB => exact locs rfl); (case c2 => exact rfl); (case c3 => exact rfl); (case c4 => exact rfl); k_whole; intro g' L' h' FG' F' N' B' X' T'; (try dsimp only); (try k_lift B'); (try k_fold)))
        k_with "LeaveK" => refine stop_in ?_
        k_with "forall" => refine stop_in ?_
        k_steps
        all_goals refine stop_out ?_
        · (try dsimp only)
          refine' leaveK_ ?kc ?kd ?_
          case kc => k_asm
          case kd => k_asm
          intro kF kN
          (try dsimp only)
          refine' hret' _ _ _ ?ki kF kN
          case ki => exact i2d_e1 (by with_reducible assumption) (by omega) (by omega) (by omega) (by with_reducible assumption)
        · (try dsimp only)
          refine' leaveK_ ?ke ?kf ?_
          case ke => k_asm
          case kf => k_asm
          intro kF kN
          (try dsimp only)
          refine' hret' _ _ _ ?kj kF kN
          case kj => exact i2d_e2 (by with_reducible assumption) (by with_reducible assumption) (by with_reducible assumption) (by with_reducible assumption) (by with_reducible assumption) (by omega)
    intro vs9 ns9 h9 tk9 e9 el9 i9 F9 N9
    k_with_none
    k_with "call ref" => (first | (k_dflt (refine' innerI_rec ?key ?F ?N ?B ?X ?T ?k ?hi ?h1 ?h2 ?h3 ?d ?u ?_; (case key => with_reducible assumption); (case F => k_asm); (case N => k_asm); (case B => k_asm); (case X => k_asm); (case T => k_asm); (case k => exact rfl); (case hi => with_reducible assumption); (case h1 => omega); (case h2 => omega); (case h3 => first | exact i2d_low (by assumption) (by omega) | exact i2d_up (by assumption) (by omega) trivial (by assumption) trivial); (case d => (dsimp only; omega)); (case u => (dsimp only; omega))); intro vs9 ns9 h9 tk9 e9 el9 i9 F9 N9; (try k_fold)) | refine stop_in ?_)
    k_with "binaryOp RShift int int" => (first | (refine rshift_one ?_; intro q9 hq1 hq2) | (refine rshift_12 (by omega) (by omega) ?_; intro q8 hq8 hq8a hq8b))
    k_with "binaryOp LShift int int" => ((refine lshift_12 (by omega) (by omega) ?_; intro q7 hq7))
    k_with "binaryOp BitXor int int" => ((refine xor_12 (by omega) (by assumption) (by assumption) ?_; intro q6 hq6 hq6a))
    k_with "binaryOp Mult int int" => ((refine mul_twelve ?_))
    k_with "setItem ref int int" => ((k_dflt (refine' ksa_set ?k1 ?k2 ?k3 ?k4 ?k5 ?k6 ?k7 ?_; (case k1 => k_asm); (case k2 => k_asm); (case k3 => k_upd); (case k4 => with_reducible assumption); (case k5 => omega); (case k6 => omega); (case k7 => omega); k_whole); intro h' F' N' hi' hl' hs'; (try k_sweep)))
    k_with "binaryOp FloorDiv int int" => ((refine fdiv_bits (by assumption) ?_; intro q9 hq1 hq2 hq3))
    k_with "LeaveK" => refine stop_in ?_
    k_steps
    refine stop_out ?_
    (try dsimp only)
    refine' leaveK_ ?kg ?kh ?_
    case kg => k_asm
    case kh => k_asm
    intro kF kN
    (try dsimp only)
    refine' hret _ _ _ _ _ _ (i2d_all e9 ?ln) ?lx ?l1 ?l5 i9 kF ?N ?lD
    case ln => assumption
    case lx => rw [el9]; exact i2d_len (by with_reducible assumption) (by omega)
    case l1 => omega
    case l5 => omega
    case N => (refine cb_drop kN ?cbS; kcj_all)
    case lD => exact lt_tail4 (l := (_, _) :: (_, _) :: news) (by assumption)
  · skip
    exfalso
    omega
end Mine
end
end
section
open PySem PySem.W PyProof.Rows
namespace Mine
def St (line col : Int) (qual : Str) (ps : Array Value) (cd : List (Addr × Obj)) : Prop :=
  (ps = #[] ∧ cd = []) ∨ ∃ (c' : Addr) (oc : Obj) (vs : Array Value) (t : Tok), ps = #[rawInt line, rawInt col, .ref c'] ∧ cd = [(c', oc)] ∧ oc.data = .fields vs ∧ vs[1]? = some (.str qual t)
def TabsLed (T : List (Addr × Obj)) : Prop := ∃ ps qs cd ce, T = (40, tabObj ps) :: (33, tabObj qs) :: (cd ++ ce) ∧ St 21 4 (Str.ofString "_digits2int.<locals>.inner") ps cd ∧ St 6 4 (Str.ofString "_int2digits.<locals>.inner") qs ce ∧ ∀ p ∈ cd ++ ce, @LT.lt Nat _ 40 p.1
def Apart (T rest : List (Addr × Obj)) : Prop := ∀ p ∈ rest, ∀ q ∈ T, q.1 ≠ p.1

theorem tabs_start : TabsLed [(40, tabObj #[]), (33, tabObj #[])] := ⟨#[], #[], [], [], rfl, .inl ⟨rfl, rfl⟩, .inl ⟨rfl, rfl⟩, fun _ h => nomatch h⟩

section
variable {w : World} {p : Program} {loose : List Str} {mean : ExcName → Option Value} {mg mb : Str → Option Value} {T rest : List (Addr × Obj)}
  {dp un : Nat} {gd : Option (List Code)} {cn : Str} {cs : Scope} {a : Addr} {ccd : Value} {cl : List (Str × Addr)} {outer : List Env} {A₀ : Around} {base h₀ : Heap} {L : Addr} {m : Str → Option Value} {s : Shared} {Q E : Value → Shared → Prop}
theorem d2iT {l : Nat} {vs : List Value} {ns : List Int} {n : Nat} {u : Tok} (hT : TabsLed T) (hA : Apart T rest) (hm : ((l : Addr), listOf vs.toArray n) ∈ rest) (hl : @Ne Nat l 40) (hi : IntsAre vs ns) (hf : Fig ns) (h0 : 0 < ns.length) (h4 : ns.length ≤ 4)
    (hB : Below A₀ base outer h₀) (hF : Fr h₀ L s.heap m) (hX : (hd.heap_39 w.params).In h₀) (hC : CodeHd base 44 40) (hN : News h₀ L s.heap (T ++ rest)) (hTop : Top p loose mean mg mb h₀) (hk : cs.kind = .function)
    (hd : dp + 20 < recursionLimit) (hu : un + 80 < cLine)
    (hret : ∀ (T' : List (Addr × Obj)) (v : Int) (t : Tok) (h' : Heap) (tk' : Nat), v = V ns → TabsLed T' → Apart T' rest → Fr h₀ L h' m → News h₀ L h' (T' ++ rest) → Q (.int v t) { s with heap := h', toks := tk' }) :
    wpAny (model Challenge.rw_sh0023_01.row.prog w) (ktrTop dp un gd cn cs L a ccd cl outer) (call (.ref 45) [.ref l, .int 12 u]) Q E s := by
  obtain ⟨ps, qs, cd, ce, rfl, h1, h2, h3⟩ := hT
  rcases h1 with ⟨rfl, rfl⟩ | ⟨c', oc, vs', t', rfl, rfl, hod, hov⟩
  · refine d2iA w p loose mean mg mb l vs ns 0 u n ((33, tabObj qs) :: (ce ++ rest)) hi hf h0 h4 hl ?_ dp un gd cn cs a ccd cl outer A₀ base h₀ L m s Q E hB hF hX hC ?_ hTop hk hd hu ?_
    · intro q hq
      rcases List.mem_cons.mp hq with rfl | hq
      · show (33 : Nat) ≠ 40; decide
      · rcases List.mem_append.mp hq with hq | hq
        · exact Nat.ne_of_gt (h3 q (by simpa using hq))
        · exact (hA q hq _ (.head _)).symm
    · intro q hq
      rcases List.mem_cons.mp hq with rfl | hq
      · exact hN _ (List.mem_append_right _ hm)
      · exact hN q (by simpa using hq)
    · intro t h' tk' c' oc vc tc F N hd1 hd2 hlt
      have hr : ∀ q ∈ rest, q.1 < c' := fun q hq => hlt q (.tail _ (.tail _ (.tail _ (List.mem_append_right _ hq))))
      refine hret ((40, tabObj #[rawInt 21, rawInt 4, .ref c']) :: (33, tabObj qs) :: ([(c', oc)] ++ ce)) _ t h' tk' rfl ⟨_, _, _, _, rfl, .inr ⟨c', oc, vc, tc, rfl, rfl, hd1, hd2⟩, h2, ?_⟩ ?_ F ?_
      · intro q hq
        rcases List.mem_cons.mp hq with rfl | hq
        · exact hlt (40, tabObj #[]) (.tail _ (.head _))
        · exact h3 q (by simpa using hq)
      · intro q hq r hr'
        rcases List.mem_cons.mp hr' with rfl | hr'
        · exact hA q hq (40, tabObj #[]) (.head _)
        · rcases List.mem_cons.mp hr' with rfl | hr'
          · exact hA q hq (33, _) (.tail _ (.head _))
          · rcases List.mem_cons.mp hr' with rfl | hr'
            · exact Nat.ne_of_gt (hr q hq)
            · exact hA q hq r (.tail _ (.tail _ (List.mem_append_right _ hr')))
      · intro q hq
        refine N q ?_
        simp only [List.cons_append, List.nil_append, List.mem_cons, List.mem_append] at hq ⊢
        rcases hq with h | h | h | h | h
        · exact .inr (.inr (.inl h))
        · exact .inr (.inr (.inr (.inl h)))
        · exact .inl h
        · exact .inr (.inr (.inr (.inr (.inl h))))
        · exact .inr (.inr (.inr (.inr (.inr h))))
  · refine d2iB w p loose mean mg mb l vs ns 0 u n ((33, tabObj qs) :: (ce ++ rest)) hi hf h0 h4 c' oc vs' t' hod hov dp un gd cn cs a ccd cl outer A₀ base h₀ L m s Q E hB hF hX hC ?_ hTop hk hd hu ?_
    · intro q hq
      rcases List.mem_cons.mp hq with rfl | hq
      · exact hN _ (List.mem_append_right _ hm)
      · refine hN q ?_
        simp only [List.cons_append, List.nil_append, List.mem_cons, List.mem_append] at hq ⊢
        rcases hq with h | h | h | h | h
        · exact .inl h
        · exact .inr (.inr (.inl h))
        · exact .inr (.inl h)
        · exact .inr (.inr (.inr (.inl h)))
        · exact .inr (.inr (.inr (.inr h)))
    · intro t h' tk' F N
      refine hret ((40, tabObj #[rawInt 21, rawInt 4, .ref c']) :: (33, tabObj qs) :: ([(c', oc)] ++ ce)) _ t h' tk' rfl ⟨_, _, _, _, rfl, .inr ⟨c', oc, vs', t', rfl, rfl, hod, hov⟩, h2, h3⟩ hA F ?_
      intro q hq
      refine N q ?_
      simp only [List.cons_append, List.nil_append, List.mem_cons, List.mem_append] at hq ⊢
      rcases hq with h | h | h | h | h
      · exact .inr (.inl h)
      · exact .inr (.inr (.inr (.inl h)))
      · exact .inr (.inr (.inl h))
      · exact .inr (.inr (.inr (.inr (.inl h))))
      · exact .inr (.inr (.inr (.inr (.inr h))))
theorem i2dT {x : Int} {t u : Tok} (hT : TabsLed T) (hA : Apart T rest) (hx : 1 ≤ x ∧ x < 2 ^ 60)
    (hB : Below A₀ base outer h₀) (hF : Fr h₀ L s.heap m) (hX : (hd.heap_39 w.params).In h₀) (hC : CodeHd base 37 33) (hN : News h₀ L s.heap (T ++ rest)) (hTop : Top p loose mean mg mb h₀) (hk : cs.kind = .function)
    (hd : dp + 20 < recursionLimit) (hu : un + 80 < cLine)
    (hret : ∀ (T' : List (Addr × Obj)) (D : Addr) (vs' : List Value) (ns' : List Int) (n : Nat) (h' : Heap) (tk' : Nat), ns' = dig x ns'.length → x < 4096 ^ ns'.length → 1 ≤ ns'.length → ns'.length ≤ 5 → IntsAre vs' ns' → TabsLed T' → Apart T' rest → Fr h₀ L h' m →
      News h₀ L h' ((D, listOf vs'.toArray n) :: (T' ++ rest)) → Q (.ref D) { s with heap := h', toks := tk' }) :
    wpAny (model Challenge.rw_sh0023_01.row.prog w) (ktrTop dp un gd cn cs L a ccd cl outer) (call (.ref 38) [.int x t, .int 12 u]) Q E s := by
  obtain ⟨ps, qs, cd, ce, rfl, h1, h2, h3⟩ := hT
  rcases h2 with ⟨rfl, rfl⟩ | ⟨c', oc, vs', t', rfl, rfl, hod, hov⟩
  · refine i2dA w p loose mean mg mb x t u ((40, tabObj ps) :: (cd ++ rest)) hx ?_ dp un gd cn cs a ccd cl outer A₀ base h₀ L m s Q E hB hF hX hC ?_ hTop hk hd hu ?_
    · intro q hq
      rcases List.mem_cons.mp hq with rfl | hq
      · show (40 : Nat) ≠ 33; decide
      · rcases List.mem_append.mp hq with hq | hq
        · have := h3 q (List.mem_append_left _ hq)
          exact Nat.ne_of_gt (Nat.lt_trans (by decide) this)
        · exact (hA q hq (33, tabObj #[]) (.tail _ (.head _))).symm
    · intro q hq
      refine hN q ?_
      simp only [List.cons_append, List.nil_append, List.append_nil, List.mem_cons, List.mem_append] at hq ⊢
      rcases hq with h | h | h | h
      · exact .inr (.inl h)
      · exact .inl h
      · exact .inr (.inr (.inl h))
      · exact .inr (.inr (.inr h))
    · intro D vs' ns' n h' tk' c' oc vc tc e1 e2 e3 e4 hi F N hd1 hd2 hlt _
      have hr : ∀ q ∈ rest, q.1 < c' := fun q hq => hlt q (.tail _ (.tail _ (List.mem_append_right _ hq)))
      refine hret ((40, tabObj ps) :: (33, tabObj #[rawInt 6, rawInt 4, .ref c']) :: (cd ++ [(c', oc)])) D vs' ns' n h' tk' e1 e2 e3 e4 hi ⟨_, _, _, _, rfl, h1, .inr ⟨c', oc, vc, tc, rfl, rfl, hd1, hd2⟩, ?_⟩ ?_ F ?_
      · intro q hq
        rcases List.mem_append.mp hq with hq | hq
        · exact h3 q (List.mem_append_left _ hq)
        · rw [List.mem_singleton.mp hq]
          exact hlt (40, tabObj ps) (.tail _ (.head _))
      · intro q hq r hr'
        rcases List.mem_cons.mp hr' with rfl | hr'
        · exact hA q hq (40, _) (.head _)
        · rcases List.mem_cons.mp hr' with rfl | hr'
          · exact hA q hq (33, tabObj #[]) (.tail _ (.head _))
          · rcases List.mem_append.mp hr' with hr' | hr'
            · exact hA q hq r (.tail _ (.tail _ (List.mem_append_left _ hr')))
            · rw [List.mem_singleton.mp hr']
              exact Nat.ne_of_gt (hr q hq)
      · intro q hq
        refine N q ?_
        simp only [List.cons_append, List.nil_append, List.append_assoc, List.mem_cons, List.mem_append] at hq ⊢
        rcases hq with h | h | h | h | h | h
        · exact .inl h
        · exact .inr (.inr (.inr (.inl h)))
        · exact .inr (.inr (.inl h))
        · exact .inr (.inr (.inr (.inr (.inl h))))
        · exact .inr (.inl h)
        · exact .inr (.inr (.inr (.inr (.inr h))))
  · refine i2dB w p loose mean mg mb x t u ((40, tabObj ps) :: (cd ++ rest)) hx c' oc vs' t' hod hov dp un gd cn cs a ccd cl outer A₀ base h₀ L m s Q E hB hF hX hC ?_ hTop hk hd hu ?_
    · intro q hq
      refine hN q ?_
      simp only [List.cons_append, List.nil_append, List.append_assoc, List.mem_cons, List.mem_append] at hq ⊢
      rcases hq with h | h | h | h | h
      · exact .inr (.inl h)
      · exact .inr (.inr (.inr (.inl h)))
      · exact .inl h
      · exact .inr (.inr (.inl h))
      · exact .inr (.inr (.inr (.inr h)))
    · intro D vs9 ns' n h' tk' e1 e2 e3 e4 hi F N _
      refine hret ((40, tabObj ps) :: (33, tabObj #[rawInt 6, rawInt 4, .ref c']) :: (cd ++ [(c', oc)])) D vs9 ns' n h' tk' e1 e2 e3 e4 hi ⟨_, _, _, _, rfl, h1, .inr ⟨c', oc, vs', t', rfl, rfl, hod, hov⟩, h3⟩ hA F ?_
      intro q hq
      refine N q ?_
      simp only [List.cons_append, List.nil_append, List.append_assoc, List.mem_cons, List.mem_append] at hq ⊢
      rcases hq with h | h | h | h | h | h
      · exact .inl h
      · exact .inr (.inr (.inr (.inl h)))
      · exact .inr (.inl h)
      · exact .inr (.inr (.inr (.inr (.inl h))))
      · exact .inr (.inr (.inl h))
      · exact .inr (.inr (.inr (.inr (.inr h))))
end
end Mine
end
section
open PySem PySem.W PyProof.Rows
namespace Mine
def AB (x : Str) : Prop := ∀ c ∈ cs x, c = 97 ∨ c = 98
theorem ways_ints {hp₀ : Heap} {D : Addr} {news : List (Addr × Obj)} {ys : List Value} {x : Str} (P : NewPlain hp₀ news D ys.toArray)
    (h : CarriedAll ys (List.map (fun a => if (a == Str.ofString "a") = true then PyData.int 4095 else PyData.int 0) (List.filter (fun _ => true) (signs x)))) : IntsAre ys (msk 97 (cs x)) := by
  refine (gn_intsOf P (as := cs x) (f := fun c => if c = 97 then 4095 else 0) ?_)
  have e : List.filter (fun _ => true) (signs x) = (cs x).map fun n => (⟨#[n]⟩ : Str) := by simp [signs, cs]
  rw [e, List.map_map] at h
  have e2 : (cs x).map ((fun a => if (a == Str.ofString "a") = true then PyData.int 4095 else PyData.int 0) ∘ fun n => (⟨#[n]⟩ : Str)) = (cs x).map fun c => PyData.int (if c = 97 then 4095 else 0) := by
    refine List.map_congr_left fun c _ => ?_
    show (if ((⟨#[c]⟩ : Str) == Str.ofString "a") = true then PyData.int 4095 else PyData.int 0) = _
    have ha : Str.ofString "a" = ⟨#[97]⟩ := by decide +kernel
    rw [ha]
    by_cases h : c = 97
    · subst h; rfl
    · have : ¬ (((⟨#[c]⟩ : Str) == ⟨#[97]⟩) = true) := by
        intro q
        have := eq_of_beq q
        simp at this
        exact h this
      rw [if_neg this, if_neg h]
  rw [e2] at h
  exact h
theorem msk_len (n : Nat) (X : List Nat) : (msk n X).length = X.length := by simp [msk]
theorem msk_other {x : Str} (hx : AB x) : (4096 : Int) ^ (cs x).length - 1 - V (msk 97 (cs x)) = V (msk 98 (cs x)) := by
  unfold AB at hx
  generalize cs x = X at hx
  induction X with
  | nil => rfl
  | cons c X ih =>
    have ih' := ih fun d hd => hx d (.tail _ hd)
    show (4096 : Int) ^ (X.length + 1) - 1 - ((if c = 97 then 4095 else 0) + 4096 * V (msk 97 X)) = (if c = 98 then 4095 else 0) + 4096 * V (msk 98 X)
    rw [Int.pow_succ]
    rcases hx c (.head _) with rfl | rfl <;> simp <;> omega
end Mine

namespace Mine
section
variable {prog : Program} {w : World} {A : Around} {E : Value → Shared → Prop} {s : Shared} {st mk : Int} {t u : Tok} {Q : Value → Shared → Prop} {x y : Str} {pre post : List Int} {n : Nat}
theorem pre_len (h : KStt.codes y = pre ++ (n : Int) :: post) (hy : y.length ≤ 16) : (pre.map Int.toNat).length < 16 ∧ n ∈ cs y := by
  have h1 := congrArg List.length h
  rw [KStt.codes_length] at h1
  simp at h1
  refine ⟨by simp; omega, ?_⟩
  have h2 : (n : Int) ∈ KStt.codes y := by rw [h]; simp
  unfold KStt.codes at h2
  obtain ⟨c, hc, e⟩ := List.mem_map.mp h2
  have : c = n := by omega
  subst this
  exact hc
theorem and_mask {k : Nat} (hx : x.length ≤ 4) (hy : y.length ≤ 16) (hk : KStt.codes y = pre ++ (n : Int) :: post) (hs : st = V (figs (cs x) (pre.map Int.toNat))) (hm : mk = V (msk k (cs x)))
    (h : ∀ r : Int, r = V (pick (figs (cs x) (pre.map Int.toNat)) (msk k (cs x))) → (0 ≤ r ∧ r < 2 ^ 60) → Q (.int r s.toks) { s with toks := s.toks + 1 }) :
    wpAny (model prog w) A (binaryOp .BitAnd (.int st t) (.int mk u)) Q E s := by
  refine and_int ?_
  have hp := (pre_len hk hy).1
  have hf := figs_fig (X := cs x) (pre := pre.map Int.toNat) (by rw [cs_len]; exact hx) (by omega)
  have e := and_V hf (msk_fig k (cs x)) (fun m hm => by
    obtain ⟨c, _, rfl⟩ := List.mem_map.mp hm
    split
    · exact .inl rfl
    · exact .inr rfl)
  rw [hs, hm, e]
  refine h _ rfl (V_small ?_ ?_)
  · intro d hd
    obtain ⟨i, hi, rfl⟩ := List.mem_iff_getElem.mp hd
    simp only [pick, List.getElem_zipWith]
    split
    · exact hf _ (List.getElem_mem _)
    · omega
  · simp [pick, msk, cs_len]; omega
end
theorem ways_turn {x : Str} {pre : List Int} {n : Nat} {st r : Int} (hs : st = V (figs (cs x) (pre.map Int.toNat))) (hr : r = V (pick (figs (cs x) (pre.map Int.toNat)) (msk n (cs x)))) :
    st + r * 2 ^ (12 : Int).toNat = V (figs (cs x) ((pre ++ [(n : Int)]).map Int.toNat)) := by
  have e : (pre ++ [(n : Int)]).map Int.toNat = pre.map Int.toNat ++ [n] := by simp
  rw [e, ← figs_step, hs, hr]
  have : (2 : Int) ^ (12 : Int).toNat = 4096 := by decide
  rw [this]; omega
theorem sign_a {n : Nat} (h : ((⟨#[n]⟩ : Str) == Str.ofString "a") = true) : n = 97 := by
  have ha : Str.ofString "a" = ⟨#[97]⟩ := by decide +kernel
  rw [ha] at h
  have := eq_of_beq h
  simpa using this
theorem sign_b {n : Nat} {y : Str} {pre post : List Int} (h : ((⟨#[n]⟩ : Str) == Str.ofString "a") = false) (hy : AB y) (hl : y.length ≤ 16) (hk : KStt.codes y = pre ++ (n : Int) :: post) : n = 98 := by
  have hn := hy n (pre_len hk hl).2
  rcases hn with rfl | rfl
  · have ha : Str.ofString "a" = ⟨#[97]⟩ := by decide +kernel
    rw [ha] at h
    simp at h
  · rfl
theorem ways_turn_a {x : Str} {pre : List Int} {n : Nat} {st r : Int} (hs : st = V (figs (cs x) (pre.map Int.toNat))) (hr : r = V (pick (figs (cs x) (pre.map Int.toNat)) (msk 97 (cs x)))) (h : ((⟨#[n]⟩ : Str) == Str.ofString "a") = true) :
    st + r * 2 ^ (12 : Int).toNat = V (figs (cs x) ((pre ++ [(n : Int)]).map Int.toNat)) := by
  have := sign_a h
  subst this
  exact ways_turn hs hr
theorem ways_turn_b {x y : Str} {pre post : List Int} {n : Nat} {st r : Int} (hs : st = V (figs (cs x) (pre.map Int.toNat))) (hr : r = V (pick (figs (cs x) (pre.map Int.toNat)) (msk 98 (cs x)))) (h : ((⟨#[n]⟩ : Str) == Str.ofString "a") = false) (hy : AB y) (hl : y.length ≤ 16) (hk : KStt.codes y = pre ++ (n : Int) :: post) :
    st + r * 2 ^ (12 : Int).toNat = V (figs (cs x) ((pre ++ [(n : Int)]).map Int.toNat)) := by
  have := sign_b h hy hl hk
  subst this
  exact ways_turn hs hr
theorem ways_start (x : Str) : (1 : Int) = V (figs (cs x) (([] : List Int).map Int.toNat)) := by
  have e : figs (cs x) [] = 1 :: (msk 0 (cs x)).map fun _ => 0 := by
    apply List.ext_getElem
    · simp [figs, msk]
    · intro j h1 h2
      cases j with
      | zero => simp [figs, C_nil]
      | succ j =>
        have hj : j < (cs x).length := by simpa [figs] using h1
        simp only [figs, List.getElem_map, List.getElem_range, List.getElem_cons_succ, List.reverse_nil]
        rw [C_none]
        · rfl
        · intro h
          have h' := congrArg List.length h
          rw [List.length_reverse, List.length_take, List.length_nil] at h'
          omega
  show (1 : Int) = V (figs (cs x) [])
  rw [e, V]
  have : V ((msk 0 (cs x)).map fun _ => 0) = 0 := by
    generalize msk 0 (cs x) = l
    induction l with
    | nil => rfl
    | cons d l ih => rw [List.map_cons, V, ih]; rfl
  rw [this]; rfl
theorem codes_nat (y : Str) : (KStt.codes y).map Int.toNat = cs y := by
  unfold KStt.codes cs
  rw [List.map_map]
  exact (List.map_congr_left (g := _root_.id) fun c _ => Int.toNat_natCast c).trans (List.map_id _)
theorem ways_st {x y : Str} {st : Int} (hs : st = V (figs (cs x) ((KStt.codes y).map Int.toNat))) (hx : x.length ≤ 4) (hy : y.length ≤ 16) : 1 ≤ st ∧ st < 2 ^ 60 := by
  rw [codes_nat] at hs
  have hf := figs_fig (X := cs x) (pre := cs y) (by rw [cs_len]; exact hx) (by rw [cs_len]; exact hy)
  have h1 := V_small hf (by rw [figs_len, cs_len]; omega)
  refine ⟨?_, hs ▸ h1.2⟩
  have e : ∃ l, figs (cs x) (cs y) = 1 :: l := by
    unfold figs
    rw [List.range_succ_eq_map, List.map_cons]
    refine ⟨((List.range (cs x).length).map Nat.succ).map fun j => (C ((cs x).take j).reverse (cs y).reverse : Int), ?_⟩
    rw [List.take_zero, List.reverse_nil, C_nil]
    rfl
  obtain ⟨l, e⟩ := e
  have h2 : Fig l := fun d hd => hf d (by rw [e]; exact .tail _ hd)
  have h3 := (V_bound h2).1
  rw [hs, e, V]
  omega
theorem ways_end1 {x y : Str} {st : Int} {ns : List Int} (hs : st = V (figs (cs x) ((KStt.codes y).map Int.toNat))) (hx : x.length ≤ 4) (hy : y.length ≤ 16) (hn : ns = dig st ns.length) (h : x.length < ns.length) :
    ns.getD x.length 0 = (C (cs x) (cs y) : Int) := by
  rw [codes_nat] at hs
  rw [hn, dig_getD _ _ _ h, hs]
  have := figs_top (X := cs x) (Y := cs y) (by rw [cs_len]; exact hx) (by rw [cs_len]; exact hy)
  rw [cs_len] at this
  rw [this]
  have hc := C_small (u := cs x) (r := cs y) (by rw [cs_len]; exact hx) (by rw [cs_len]; exact hy)
  omega
theorem ways_end0 {x y : Str} {st : Int} {n : Nat} (hs : st = V (figs (cs x) ((KStt.codes y).map Int.toNat))) (hx : x.length ≤ 4) (hy : y.length ≤ 16) (hn : st < 4096 ^ n) (h : n ≤ x.length) :
    (0 : Int) = (C (cs x) (cs y) : Int) := by
  have h0 := (ways_st hs hx hy).1
  rw [codes_nat] at hs
  have := figs_top (X := cs x) (Y := cs y) (by rw [cs_len]; exact hx) (by rw [cs_len]; exact hy)
  rw [cs_len, ← hs] at this
  rw [← this]
  refine (Int.ediv_eq_zero_of_lt (by omega) (Int.lt_of_lt_of_le hn ?_)).symm
  have e1 : ∀ k : Nat, ((4096 : Int) ^ k) = ((4096 ^ k : Nat) : Int) := fun k => by simp
  rw [e1, e1]
  have := Nat.pow_le_pow_right (n := 4096) (by decide) h
  omega
theorem ways_other {x : Str} {v : Int} (hx : AB x) (h : v = V (msk 97 (cs x))) : (2 : Int) ^ (12 * (x.length : Int)).toNat - 1 - v = V (msk 98 (cs x)) := by
  have e : (12 * (x.length : Int)).toNat = 12 * (cs x).length := by rw [cs_len]; omega
  rw [e, Int.pow_mul, h]
  exact msk_other hx
end Mine
end
section
open PySem PySem.W PyProof.Rows
namespace Mine
local macro_rules | `(tactic| walk_at "no such key") => `(tactic| skip)
local macro_rules | `(tactic| walk_at "call ref") => `(tactic| refine stop_in ?_)
set_option maxRecDepth 100000 in
set_option maxHeartbeats 8000000 in
theorem waysC (w : World) (p : Program) (loose : List Str) (mean : ExcName → Option Value) (mg mb : Str → Option Value) (x y : Str) (tx ty : Tok) (T rest : List (Addr × Obj)) (hT : TabsLed T) (hA : Apart T rest) (hx : 1 ≤ x.length ∧ x.length ≤ 4) (hy : y.length ≤ 16) (hxa : AB x) (hya : AB y) :
   ∀ (dp un : Nat) (gd : Option (List Code)) (cn : Str) (cs' : Scope) (a : Addr) (ccd : Value) (cl : List (Str × Addr)) (outer : List Env) (A₀ : Around) (base h₀ : Heap) (L : Addr) (m : Str → Option Value) (s : Shared) (Q E : Value → Shared → Prop),
    Below A₀ base outer h₀ → Fr h₀ L s.heap m → (hd.heap_39 w.params).In h₀ → CodeHd base 44 40 → CodeHd base 37 33 → News h₀ L s.heap (T ++ rest) → Top p loose mean mg mb h₀ → cs'.kind = .function →
    dp + 30 < recursionLimit → un + 120 < cLine →
    (∀ (T' : List (Addr × Obj)) (t : Tok) (h' : Heap) (tk' : Nat), TabsLed T' → Apart T' rest → Fr h₀ L h' m → News h₀ L h' (T' ++ rest) → Q (.int (C (cs x) (cs y)) t) { s with heap := h', toks := tk' }) →
      wpAny (model Challenge.rw_sh0023_01.row.prog w) (ktrTop dp un gd cn cs' L a ccd cl outer) (call (.ref 93) [.str x tx, .str y ty]) Q E s := by
  w_top off
  k_with_none
  k_fill
  intros
  rename_i hC1 hC2 _ _ _ _ _ hret
  refine wpAny_call ?_
  k_dflt cell_enter
  k_steps
  refine stop_out ?_
  rename NewPlain _ _ _ _ => hP
  have hne := hP.2
  have hI := ways_ints hP (by assumption)
  obtain ⟨n0, N0⟩ := made_enters hP (by assumption) (by assumption) (by assumption)
  refine' d2iT (rest := (_, _) :: rest) hT ?hA2 (List.Mem.head _) ?hl hI (msk_fig _ _) ?h0 ?h4 ?hB ?hF ?hX ?hC ?hN ?hTop ?hk ?hd ?hu ?_
  case hN =>
    intro q hq
    refine N0 q ?_
    simp only [List.mem_append, List.mem_cons] at hq ⊢
    rcases hq with h | h | h
    · exact .inr (.inl h)
    · exact .inl h
    · exact .inr (.inr h)
  case hF => assumption
  case hB => k_asm
  case hX => k_asm
  case hTop => k_asm
  case hk => exact rfl
  case hd => (dsimp only; omega)
  case hu => (dsimp only; omega)
  case hC => exact hC1
  case h0 => rw [msk_len, cs_len]; omega
  case h4 => rw [msk_len, cs_len]; omega
  case hA2 =>
    intro q hq r hr
    rcases List.mem_cons.mp hq with rfl | hq
    · exact hne r (List.mem_append_left _ hr)
    · exact hA q hq r hr
  case hl =>
    obtain ⟨ps, qs, cd, ce, rfl, _⟩ := id hT
    exact (hne (40, _) (.head _)).symm
  clear hP N0 hI
  intro T2 v2 t2 h2 tk2 e2 hT2 hA2 F2 N2
  replace hA2 : Apart T2 rest := fun q hq => hA2 q (.tail _ hq)
  replace N2 : News _ _ h2 (T2 ++ rest) := fun q hq => N2 q (by
    rcases List.mem_append.mp hq with h | h
    · exact List.mem_append_left _ h
    · exact List.mem_append_right _ (.tail _ h))
  (try dsimp only)
  (try k_fold)
  k_sweep
  have e3 := ways_other hxa e2
  k_with "pyIter str" => k_state (fun pre st => st = V (figs (cs x) (pre.map Int.toNat))) "state"
  k_with "state" => first
    | exact ways_start x
    | exact ways_turn_a (by with_reducible assumption) (by with_reducible assumption) (by with_reducible assumption)
    | exact ways_turn_b (by with_reducible assumption) (by with_reducible assumption) (by with_reducible assumption) hya hy (by with_reducible assumption)
  k_with "binaryOp BitAnd int int" => first
    | (refine and_mask (k := 97) hx.2 hy (by with_reducible assumption) (by with_reducible assumption) (by with_reducible assumption) ?_; intro r9 hr9 hb9)
    | (refine and_mask (k := 98) hx.2 hy (by with_reducible assumption) (by with_reducible assumption) (by with_reducible assumption) ?_; intro r9 hr9 hb9)
  k_with "binaryOp LShift int int" => (with_reducible refine lshift_int_small ?kb1 ?kb2 ?kb3 ?_; (case kb1 => omega); (case kb2 => omega); (case kb3 => omega))
  k_with "InvEndN" => refine stop_in ?_
  k_steps
  all_goals refine stop_out ?_
  · kst_close
  · kst_close
  refine' i2dT hT2 hA2 ?hx9 ?hB ?hF ?hX ?hC ?hN ?hTop ?hk ?hd ?hu ?_
  case hF => k_asm
  case hN => k_asm
  case hB => k_asm
  case hX => k_asm
  case hTop => k_asm
  case hk => exact rfl
  case hd => (dsimp only; omega)
  case hu => (dsimp only; omega)
  case hC => exact hC2
  case hx9 => exact ways_st (by with_reducible assumption) hx.2 hy
  intro T3 D3 vs3 ns3 n3 h3 tk3 e3a e3b e3c e3d i3 hT3 hA3 F3 N3
  have l3 := i3.length
  (try dsimp only)
  (try k_fold)
  k_sweep
  k_with "LeaveK" => refine stop_in ?_
  k_steps
  all_goals refine stop_out ?_
  · refine' leaveK_ ?ka ?kb ?_
    case ka => k_asm
    case kb => k_asm
    intro kF kN
    (try dsimp only)
    rw [Int.toNat_natCast, ways_end1 kInv hx.2 hy e3a (by omega)]
    exact hret T3 _ _ _ hT3 hA3 kF fun q hq => kN q (.tail _ hq)
  · refine' leaveK_ ?kc ?kd ?_
    case kc => k_asm
    case kd => k_asm
    intro kF kN
    (try dsimp only)
    rw [ways_end0 kInv hx.2 hy e3b (by omega)]
    exact hret T3 _ _ _ hT3 hA3 kF fun q hq => kN q (.tail _ hq)
end Mine
end
section
open PySem PySem.W PyProof.Rows
namespace Mine
set_option maxRecDepth 100000 in
set_option maxHeartbeats 8000000 in
theorem backC (w : World) (p : Program) (loose : List Str) (mean : ExcName → Option Value) (mg mb : Str → Option Value) (x y : Str) (t u : Tok) (news : List (Addr × Obj)) (hx : x.length ≤ 4) (hy : y.length ≤ 16) :
    CbClaim Challenge.rw_sh0023_01.row.prog w (hd.heap_39 w.params) p loose mean mg mb 100 news [] True [.str x t, .str y u] (fun t => .int (C (cs x) (cs y)) t) := by
  w_top off
  k_with_none
  k_fill
  dsimp only [CbClaim, CbLists, CbRet]; intros; rename_i hret; have cbI : CbIn 100 := CbIn.mk
  refine wpAny_call ?_
  k_dflt cell_enter
  k_with "pyIter ref" => (k_of "i" => k_state (fun pre ws => ws = bk (cs x) (cs y) pre.length ∧ ws.length = x.length + 1) "ways")
  k_with "pyIter ref" => (k_of "j" => k_state_given ["i"] (fun i pre ws => ws = bkI (cs x) (cs y) i.toNat pre.length ∧ ws.length = x.length + 1) "ways")
  k_with "state" => first
    | exact back1 x y
    | exact back2 (by assumption) (by assumption) (by assumption)
    | exact back3 (by assumption) (by assumption) (by assumption) (by assumption) _ (by assumption) (by assumption) (by assumption)
    | exact back3' (by assumption) (by assumption) (by assumption) (by assumption) _ (by assumption) (by assumption) (by assumption)
    | exact back4 (n := (downKs (x.length : Int) ((x.length : Int) - 0).toNat).length) (by assumption) (by simp [downKs]) (by assumption) (by assumption)
  k_with "subscriptTail Name Name ref int" => ((with_unfolding_all refine' item_list_ints ?k1 ?k2 ?k3 ?k4 ?k5 ?_; (case k1 => is_list); (case k2 => l_ints); (case k3 => omega); (case k4 => omega); (case k5 => omega); k_whole); intro _)
  k_with "subscriptTail Name UnaryOp ref int" => refine stop_in ?_
  k_with "subscriptTail Name BinOp ref int" => ((with_unfolding_all refine' item_list_ints ?k1 ?k2 ?k3 ?k4 ?k5 ?_; (case k1 => is_list); (case k2 => l_ints); (case k3 => omega); (case k4 => omega); (case k5 => omega); k_whole); intro _)
  k_with "setItem ref int int" => (k_dflt (refine' ksa_set ?k1 ?k2 ?k3 ?k4 ?k5 ?k6 ?k7 ?_; (case k1 => k_asm); (case k2 => k_asm); (case k3 => k_upd); (case k4 => with_reducible assumption); (case k5 => omega); (case k6 => omega); (case k7 => omega); k_whole); intro h' F' N' hi' hl' hs'; (try k_sweep))
  k_with "InvEndN" => refine stop_in ?_
  k_steps
  all_goals refine stop_out ?_
  · kst_close
  · kst_close
  · kst_close
  with_unfolding_all refine' item_list_ints_negR ?k1 ?k2 ?k3 ?k4 ?k5 ?_
  case k1 => is_list
  case k2 => l_ints
  case k3 => omega
  case k4 => omega
  case k5 => omega
  intro t'
  dsimp only
  k_unfold
  dsimp only
  refine' leaveK_ ?k1 ?k2 ?_
  case k1 => k_asm
  case k2 => k_asm
  intro kF kN
  dsimp only
  refine' cb_retI hret ?e1 kF ?e3
  case e3 => (refine cb_drop kN ?cbS; kcj_all)
  with_reducible refine back6 ?_ ?_ <;> assumption
end Mine
#print axioms Mine.backC
end
section
open PySem PySem.W PyProof.Rows PySem.Builtin PySem.Builtin.Str
namespace Mine
open StrLaws in
theorem occ_full (s sub : Str) (hi : Nat) (a : Nat) : ∀ (l : List Nat) (f : Nat), (forIn l ((#[a] : Array Nat), f) (occBody s sub hi 1)).run.fst = #[a]
  | [], _ => by simp
  | b :: l, f => by
    rw [List.forIn_cons]
    unfold occBody
    rw [if_neg (by simp)]
    exact occ_full s sub hi a l f
open StrLaws in
theorem occ_first (s sub : Str) (hi : Nat) : ∀ (l : List Nat) (f : Nat), (∀ i ∈ l, f ≤ i) →
    (forIn l ((#[] : Array Nat), f) (occBody s sub hi 1)).run.fst.toList = (l.find? fun i => decide (i + sub.length ≤ hi) && subAt s sub i).toList
  | [], f, _ => by simp
  | a :: l, f, hf => by
    rw [List.forIn_cons, List.find?_cons]
    unfold occBody
    have ha : f ≤ a := hf a (List.mem_cons_self ..)
    by_cases hc : a + sub.length ≤ hi ∧ subAt s sub a = true
    · rw [if_pos ⟨⟨⟨by simp, ha⟩, hc.1⟩, hc.2⟩, decide_eq_true hc.1, hc.2]
      have := occ_full s sub hi a l (a + sub.length)
      show (forIn l (((#[] : Array Nat).push a), a + sub.length) (occBody s sub hi 1)).run.fst.toList = _
      rw [show (#[] : Array Nat).push a = #[a] from rfl, this]
      rfl
    · rw [if_neg (fun h => hc ⟨h.1.2, h.2⟩)]
      have e : (decide (a + sub.length ≤ hi) && subAt s sub a) = false := by
        rw [Bool.and_eq_false_iff]
        by_cases h1 : a + sub.length ≤ hi
        · right
          cases h2 : subAt s sub a with
          | false => rfl
          | true => exact absurd ⟨h1, h2⟩ hc
        · left; exact decide_eq_false h1
      rw [e]
      exact occ_first s sub hi l f fun i hi' => hf i (List.mem_cons_of_mem _ hi')
theorem occ_find (s sub : Str) (lo : Nat) : occurrences s sub lo s.length 1 = ((List.range' lo (s.length + 1 - lo)).find? fun i => decide (i + sub.length ≤ s.length) && subAt s sub i).toList := by
  rw [StrLaws.occ_eq]
  exact occ_first s sub s.length _ lo fun i hi => (List.mem_range'.mp hi).elim fun k hk => by omega
theorem subAt_one {y : Str} {c i : Nat} (h : i < (cs y).length) : subAt y ⟨#[c]⟩ i = true ↔ (cs y)[i] = c := by
  unfold subAt
  have hi : i < y.cps.size := by simpa [cs] using h
  have e : (y.cps.extract i (i + Str.length ⟨#[c]⟩)) = #[y.cps[i]] := by
    apply Array.ext
    · simp [Str.length]; omega
    · intro j h1 h2
      simp at h2
      subst h2
      simp
  rw [e]
  simp [cs]
theorem subAt_drop {y : Str} {c i : Nat} (h : i < (cs y).length) : ∃ d, (cs y).drop i = d :: (cs y).drop (i + 1) ∧ (subAt y ⟨#[c]⟩ i = true ↔ d = c) := ⟨_, List.drop_eq_getElem_cons h, subAt_one h⟩
theorem sub_skip {c d : Nat} {u l : List Nat} (hc : ¬ d = c) : (c :: u).Sublist (d :: l) ↔ (c :: u).Sublist l := by
  constructor
  · intro h
    cases h with
    | cons _ h => exact h
    | cons_cons _ h => exact absurd rfl hc
  · exact fun h => h.cons _
def Found (y : Str) (c i : Nat) : Option Nat → Prop
  | none => ∀ u, ¬ (c :: u).Sublist ((cs y).drop i)
  | some k => i ≤ k ∧ k < y.length ∧ ∀ u, (c :: u).Sublist ((cs y).drop i) ↔ u.Sublist ((cs y).drop (k + 1))
theorem find_spec (y : Str) (c : Nat) : ∀ (n i : Nat), i + n = y.length →
    Found y c i ((List.range' i (n + 1)).find? (fun i => decide (i + Str.length ⟨#[c]⟩ ≤ y.length) && subAt y ⟨#[c]⟩ i))
  | 0, i, h => by
    have h1 : ¬ i + Str.length ⟨#[c]⟩ ≤ y.length := by simp [Str.length] at h ⊢; omega
    have h2 : (cs y).drop i = [] := by rw [List.drop_eq_nil_iff, cs_len]; omega
    rw [List.range'_succ, List.range'_zero, List.find?_cons, decide_eq_false h1, Bool.false_and]
    show ∀ u, ¬ (c :: u).Sublist ((cs y).drop i)
    rw [h2]
    intro u hu
    simp at hu
  | n + 1, i, h => by
    have hlt : i < (cs y).length := by rw [cs_len]; omega
    have h1 : i + Str.length ⟨#[c]⟩ ≤ y.length := by simp [Str.length] at h ⊢; omega
    rw [List.range'_succ, List.find?_cons, decide_eq_true h1, Bool.true_and]
    obtain ⟨d, ed, hd⟩ := subAt_drop (c := c) hlt
    by_cases hc : d = c
    · rw [hd.mpr hc]
      refine ⟨Nat.le_refl _, by omega, fun u => ?_⟩
      rw [ed, hc, List.cons_sublist_cons]
    · rw [Bool.eq_false_iff.mpr (fun q => hc (hd.mp q))]
      have ih := find_spec y c n (i + 1) (by omega)
      show Found y c i ((List.range' (i + 1) (n + 1)).find? (fun i => decide (i + Str.length ⟨#[c]⟩ ≤ y.length) && subAt y ⟨#[c]⟩ i))
      generalize (List.range' (i + 1) (n + 1)).find? (fun i => decide (i + Str.length ⟨#[c]⟩ ≤ y.length) && subAt y ⟨#[c]⟩ i) = r at ih
      cases r with
      | none =>
        intro u hu
        rw [ed, sub_skip hc] at hu
        exact ih u hu
      | some k =>
        refine ⟨by have := ih.1; omega, ih.2.1, fun u => ?_⟩
        rw [ed, sub_skip hc]
        exact ih.2.2 u
theorem find_nil (y : Str) (i : Nat) (h : i ≤ y.length) : occurrences y ⟨#[]⟩ i y.length 1 = [i] := by
  rw [occ_find]
  have e : y.length + 1 - i = (y.length - i) + 1 := by omega
  rw [e, List.range'_succ, List.find?_cons]
  have h1 : i + Str.length ⟨#[]⟩ ≤ y.length := by simp [Str.length] at h ⊢; omega
  have h2 : subAt y ⟨#[]⟩ i = true := by
    unfold subAt
    simp [Str.length]
    exact Nat.min_le_left _ _
  rw [decide_eq_true h1, h2]
  rfl
theorem gives_find4 (x y : Str) (i j : Int) (t u v v' : Tok) : Gives («str.find» ⟨[.str x t, .str y u, .int i v, .int j v'], []⟩) (.int (match occurrences x y (fromIndex x.length i) (min (fromIndex x.length j) x.length) 1 with | k :: _ => (k : Int) | [] => -1)) := by
  show Gives (match occurrences x y (fromIndex x.length i) (min (fromIndex x.length j) x.length) 1 with | k :: _ => retInt k | [] => (do rule "str.find.not-found"; retInt (-1))) _
  cases occurrences x y (fromIndex x.length i) (min (fromIndex x.length j) x.length) 1 with
  | nil => exact .rule (.of_eq rfl)
  | cons k _ => exact .of_eq rfl
theorem fromIndex_nat {n : Nat} {i : Int} (h : 0 ≤ i) : fromIndex n i = i.toNat := by
  unfold fromIndex
  rw [if_neg (by omega)]
  omega
section
variable {prog : Program} {w : World} {A : Around} {E : Value → Shared → Prop} {s : Shared} {y : Str} {t u v v' : Tok} {i j : Int} {Q : Value → Shared → Prop}
theorem find4_nil (hi : 0 ≤ i ∧ i ≤ y.length) (hj : j = y.length) (hq : Q (.int i s.toks) { s with toks := s.toks + 1 }) :
    wpAny (model prog w) A (call (.builtin "str.find") [.str y t, .str ⟨#[]⟩ u, .int i v, .int j v']) Q E s := by
  refine call_gives F.slot_str_find (typeIs_str _ _ _) F.entry_str_find (F.args_str_find_4 _ _ _ _) (gives_find4 y ⟨#[]⟩ i j t u v v') ?_
  rw [hj, fromIndex_nat hi.1, fromIndex_nat (by omega), Int.toNat_natCast, Nat.min_self, find_nil y _ (by omega)]
  have e : ((i.toNat : Nat) : Int) = i := by omega
  show Q (.int (i.toNat : Int) s.toks) _
  rw [e]
  exact hq
theorem find4_one {c : Nat} (hi : 0 ≤ i ∧ i ≤ y.length) (hj : j = y.length)
    (h0 : (∀ u, ¬ (c :: u).Sublist ((cs y).drop i.toNat)) → Q (.int (-1) s.toks) { s with toks := s.toks + 1 })
    (h1 : ∀ k : Int, i ≤ k → k < y.length → (∀ u, (c :: u).Sublist ((cs y).drop i.toNat) ↔ u.Sublist ((cs y).drop (k + 1).toNat)) → Q (.int k s.toks) { s with toks := s.toks + 1 }) :
    wpAny (model prog w) A (call (.builtin "str.find") [.str y t, .str ⟨#[c]⟩ u, .int i v, .int j v']) Q E s := by
  refine call_gives F.slot_str_find (typeIs_str _ _ _) F.entry_str_find (F.args_str_find_4 _ _ _ _) (gives_find4 y ⟨#[c]⟩ i j t u v v') ?_
  rw [hj, fromIndex_nat hi.1, fromIndex_nat (by omega), Int.toNat_natCast, Nat.min_self, occ_find]
  have e : y.length + 1 - i.toNat = (y.length - i.toNat) + 1 := by omega
  have hs := find_spec y c (y.length - i.toNat) i.toNat (by omega)
  rw [e]
  generalize (List.range' i.toNat (y.length - i.toNat + 1)).find? (fun i => decide (i + Str.length ⟨#[c]⟩ ≤ y.length) && subAt y ⟨#[c]⟩ i) = r at hs
  cases r with
  | none => exact h0 hs
  | some k =>
    refine h1 (k : Int) (by have := hs.1; omega) (by have := hs.2.1; omega) fun u => ?_
    have e2 : ((k : Int) + 1).toNat = k + 1 := by omega
    rw [e2]
    exact hs.2.2 u
end
theorem map_one {l : List (Str × Tok)} {a : Str} {r : List Str} (h : l.map (·.1) = a :: r) : ∃ t l', l = (a, t) :: l' ∧ l'.map (·.1) = r := by
  cases l with
  | nil => cases h
  | cons p l =>
    obtain ⟨b, t⟩ := p
    rw [List.map_cons] at h
    injection h with h1 h2
    exact ⟨t, l, by rw [show b = a from h1], h2⟩
theorem map_nil {l : List (Str × Tok)} (h : l.map (·.1) = []) : l = [] := List.map_eq_nil_iff.mp h
end Mine
end
section
open PySem PySem.W PyProof.Rows
namespace Mine
def End1 (h₀ : Heap) (L : Addr) (x y : Str) (m₀ : Str → Option Value) (all : List (Addr × Obj)) (I : Int → Prop) (s s₂ : Shared) : Prop :=
  ∃ h' tk m' news' p' tp', s₂ = { s with heap := h', toks := tk } ∧ Fr h₀ L h' m' ∧ News h₀ L h' news' ∧ (∀ q ∈ all, q ∈ news') ∧ m' y = some (.int p' tp') ∧ (∀ z, z ≠ x → z ≠ y → m' z = m₀ z) ∧ I p'
def Post1 (h₀ : Heap) (L : Addr) (x y : Str) (m₀ : Str → Option Value) (all : List (Addr × Obj)) (I : Int → Prop) (Q : Flow → Shared → Prop) (s : Shared) (f : Flow) (s₂ : Shared) : Prop :=
  match f with
  | .ret v => Q (.ret v) s₂
  | .brk => Q .next s₂
  | _ => End1 h₀ L x y m₀ all I s s₂
section
variable {prog : Program} {w : World} {A : Around} {E : Value → Shared → Prop} {s : Shared} {env : Env} {h₀ : Heap} {x y : Str} {body : List Stmt} {Q : Flow → Shared → Prop}
theorem loop_one {l : Addr} {vs : List Value} {nn : Nat} {m₀ : Str → Option Value} {news : List (Addr × Obj)} (hyx : y ≠ x) (I : Nat → Int → Prop) (p₀ : Int) (t₀ : Tok)
    (hh : A.handled = none) (hl : (l, listOf vs.toArray nn) ∈ news) (F : Fr h₀ env.locals s.heap m₀) (N : News h₀ env.locals s.heap news) (hm : m₀ y = some (.int p₀ t₀)) (hI : I 0 p₀)
    (turn : ∀ i v p tp h tk own, vs[i]? = some v → OwnOff own (news.map (·.1)) → I i p → Fr h₀ env.locals h (fun z => if z = x then some v else if z = y then some (.int p tp) else m₀ z) → News h₀ env.locals h (news ++ own) →
      wpAny (model prog w) A (execs body env) (Post1 h₀ env.locals x y m₀ (news ++ own) (I (i + 1)) Q { s with heap := h, toks := tk }) E { s with heap := h, toks := tk })
    (done : ∀ (u : Str → Option Value) p tp h tk, I vs.length p → Fr h₀ env.locals h (fun z => if z = x then u z else if z = y then some (.int p tp) else m₀ z) → News h₀ env.locals h news → Q .next { s with heap := h, toks := tk }) :
    wpAny (model prog w) A (pyIter (.ref l)) (fun it s₂ => LoopAtV prog w A h₀ env x body Q E it s₂) E s := by
  refine kdl_iter (fun i m nx => nx = news ∧ ∃ p tp, m y = some (.int p tp) ∧ (∀ z, z ≠ x → z ≠ y → m z = m₀ z) ∧ I i p) hh hl F N ⟨rfl, p₀, t₀, hm, fun _ _ _ => rfl, hI⟩ ?_ ?_
  · rintro i v m₁ nx h tk own hv hoff hln ⟨rfl, p, tp, h1, h2, h3⟩ F₁ N₁
    have e : (fun z => if z = x then some v else m₁ z) = fun z => if z = x then some v else if z = y then some (.int p tp) else m₀ z := by
      funext z
      by_cases hz : z = x
      · rw [if_pos hz, if_pos hz]
      · rw [if_neg hz, if_neg hz]
        by_cases hz2 : z = y
        · rw [if_pos hz2, hz2]; exact h1
        · rw [if_neg hz2]; exact h2 z hz hz2
    rw [e] at F₁
    refine wpAny_mono (turn i v p tp h tk own hv hoff h3 F₁ N₁) (fun f s₂ q => ?_) fun _ _ q => q
    have fin : End1 h₀ env.locals x y m₀ (nx ++ own) (I (i + 1)) { s with heap := h, toks := tk } s₂ → InvEndG h₀ env.locals (fun m' nx' => (l, listOf vs.toArray nn) ∈ nx' ∧ nx' = nx ∧ ∃ p tp, m' y = some (.int p tp) ∧ (∀ z, z ≠ x → z ≠ y → m' z = m₀ z) ∧ I (i + 1) p) own { s with heap := h, toks := tk } s₂ := by
      rintro ⟨h', tk', m', news', p', tp', e, F', N', hs, g1, g2, g3⟩
      exact ⟨h', tk', m', news', nx, e, F', N', fun q hq => hs q (List.mem_append_left _ hq), fun q hq => hs q (List.mem_append_right _ hq), hoff, hln, rfl, p', tp', g1, g2, g3⟩
    cases f with
    | ret v => exact q
    | brk => exact q
    | next => exact fin q
    | cont => exact fin q
  · rintro m₁ nx h tk ⟨rfl, p, tp, h1, h2, h3⟩ F₁ N₁
    refine done m₁ p tp h tk h3 ?_ N₁
    have e : (fun z => if z = x then m₁ z else if z = y then some (Value.int p tp) else m₀ z) = m₁ := by
      funext z
      by_cases hz : z = x
      · rw [if_pos hz]
      · rw [if_neg hz]
        by_cases hz2 : z = y
        · rw [if_pos hz2, hz2]; exact h1.symm
        · rw [if_neg hz2]; exact (h2 z hz hz2).symm
    rw [e]; exact F₁
end
end Mine

namespace Mine
def single (c : Nat) : Str := ⟨#[c]⟩
theorem map_wrap {l : List (Str × Tok)} {X : List Nat} (h : l.map (·.1) = ⟨#[]⟩ :: (X.map single ++ [⟨#[]⟩])) :
    ∃ s0 l1 s9, l = ((⟨#[]⟩ : Str), s0) :: (l1 ++ [((⟨#[]⟩ : Str), s9)]) ∧ l1.map (·.1) = X.map single := by
  obtain ⟨s0, l', rfl, e⟩ := map_one h
  obtain ⟨a, b, rfl, e1, e2⟩ := List.map_eq_append_iff.mp e
  obtain ⟨s9, b', rfl, e3⟩ := map_one e2
  have := map_nil e3
  subst this
  exact ⟨s0, a, s9, rfl, e1⟩
section
variable {prog : Program} {w : World} {A : Around} {E : Value → Shared → Prop} {s : Shared}
theorem item_last {value slice : Expr} {l : Addr} {items : Array Value} {u : Tok} {x : Value} {Q : Value → Shared → Prop} (hl : s.heap.IsList l items)
    (hx : items[items.size - 1]? = some x) (h : Q x s)
    (hs : subscripted slice false (.ref l) (.int (-1) u) = operate [.ref l, .int (-1) u] (getItem (.ref l) (.int (-1) u)) := by with_unfolding_all rfl) :
    wpAny (model prog w) A (subscriptTail value slice (.ref l) (.int (-1) u)) Q E s := by
  have hsz : 0 < items.size := by
    cases hz : items.size with
    | zero => rw [hz] at hx; simp [Array.getElem?_eq_none (Nat.le_of_eq hz)] at hx
    | succ n => omega
  have e : (-1 + (items.size : Int)).toNat = items.size - 1 := by omega
  exact subscriptTail_builtinR hl.typeIs slot_list_getitem.lookup (wpAny_getItem_list_neg (Q := fun r s' => r = x ∧ Q r s') hl (by decide) (by omega) (by decide) (by rw [e]; exact hx) ⟨rfl, h⟩) hs
end
def rem (l : List (Str × Tok)) (i : Nat) : List Nat := (l.drop i).flatMap fun q => cs q.1
theorem rem_step {l : List (Str × Tok)} {i : Nat} {q : Str × Tok} (h : l[i]? = some q) : rem l i = cs q.1 ++ rem l (i + 1) := by
  obtain ⟨hi, rfl⟩ := List.getElem?_eq_some_iff.mp h
  unfold rem
  rw [List.drop_eq_getElem_cons hi, List.flatMap_cons]
theorem rem_end (l : List (Str × Tok)) : rem l l.length = [] := by simp [rem]
theorem rem_start {s0 s9 : Tok} {l1 : List (Str × Tok)} {X : List Nat} (h : l1.map (·.1) = X.map single) : rem (((⟨#[]⟩ : Str), s0) :: (l1 ++ [((⟨#[]⟩ : Str), s9)])) 0 = X := by
  have e : (l1.flatMap fun q => cs q.1) = X := by
    have e1 : (l1.flatMap fun q => cs q.1) = (l1.map (·.1)).flatMap cs := by rw [List.flatMap_map]
    rw [e1, h, List.flatMap_map]
    have : ∀ X : List Nat, X.flatMap (fun c => cs (single c)) = X := fun X => by
      induction X with
      | nil => rfl
      | cons c X ih => rw [List.flatMap_cons, ih]; rfl
    exact this X
  unfold rem
  rw [List.drop_zero, List.flatMap_cons, List.flatMap_append, e]
  simp [cs]
theorem kinds {s0 s9 : Tok} {l1 : List (Str × Tok)} {X : List Nat} (h : l1.map (·.1) = X.map single) {i : Nat} {q : Str × Tok} (hq : (((⟨#[]⟩ : Str), s0) :: (l1 ++ [((⟨#[]⟩ : Str), s9)]))[i]? = some q) : q.1 = ⟨#[]⟩ ∨ ∃ c, q.1 = ⟨#[c]⟩ := by
  have hm := List.mem_of_getElem? hq
  rcases List.mem_cons.mp hm with rfl | hm
  · exact .inl rfl
  · rcases List.mem_append.mp hm with hm | hm
    · have h2 : q.1 ∈ X.map single := by rw [← h]; exact List.mem_map_of_mem hm
      obtain ⟨c, _, e⟩ := List.mem_map.mp h2
      exact .inr ⟨c, e.symm⟩
    · rw [List.mem_singleton.mp hm]; exact .inl rfl
theorem strVal_at {l : List (Str × Tok)} {i : Nat} {v : Value} (h : (strValues l)[i]? = some v) : ∃ q, l[i]? = some q ∧ v = .str q.1 q.2 := by
  unfold strValues at h
  rw [List.getElem?_map] at h
  cases hq : l[i]? with
  | none => rw [hq] at h; cases h
  | some q => rw [hq] at h; exact ⟨q, rfl, (Option.some.inj h).symm⟩
def EllI (X Y : List Nat) (n : Nat) (l : List (Str × Tok)) (i : Nat) (p : Int) : Prop := 0 ≤ p ∧ p ≤ n ∧ (X.Sublist Y ↔ (rem l i).Sublist (Y.drop p.toNat))
end Mine

namespace Mine
theorem end1_mk {h₀ : Heap} {L : Addr} {x y : Str} {m₀ m' : Str → Option Value} {all news' : List (Addr × Obj)} {I : Int → Prop} {Q : Flow → Shared → Prop} {s : Shared} {h' : Heap} {tk : Nat} {p' : Int} {tp' : Tok}
    (F : Fr h₀ L h' m') (N : News h₀ L h' news') (hs : ∀ q ∈ all, q ∈ news') (hy : m' y = some (.int p' tp')) (hz : ∀ z, z ≠ x → z ≠ y → m' z = m₀ z) (hI : I p') :
    Post1 h₀ L x y m₀ all I Q s .next { s with heap := h', toks := tk } := ⟨h', tk, m', news', p', tp', rfl, F, N, hs, hy, hz, hI⟩
theorem ell_nil {X Y : List Nat} {n i : Nat} {l : List (Str × Tok)} {p : Int} {tk : Tok} (h : EllI X Y n l i p) (hq : l[i]? = some ((⟨#[]⟩ : Str), tk)) : EllI X Y n l (i + 1) (p + ((⟨#[]⟩ : Str).length : Int)) := by
  obtain ⟨h0, h1, h2⟩ := h
  have e : p + ((⟨#[]⟩ : Str).length : Int) = p := by simp [Str.length]
  rw [e]
  refine ⟨h0, h1, ?_⟩
  rw [h2, rem_step hq]
  show ([] ++ rem l (i + 1)).Sublist _ ↔ _
  rw [List.nil_append]
theorem ell_one {X Y : List Nat} {n i c : Nat} {l : List (Str × Tok)} {p k : Int} {tk : Tok} (h : EllI X Y n l i p) (hq : l[i]? = some ((⟨#[c]⟩ : Str), tk)) (hp : p ≤ k) (hk : k < n) (hs : ∀ u, (c :: u).Sublist (Y.drop p.toNat) ↔ u.Sublist (Y.drop (k + 1).toNat)) :
    EllI X Y n l (i + 1) (k + ((⟨#[c]⟩ : Str).length : Int)) := by
  obtain ⟨h0, h1, h2⟩ := h
  have e : k + ((⟨#[c]⟩ : Str).length : Int) = k + 1 := by simp [Str.length]
  rw [e]
  refine ⟨by omega, by omega, ?_⟩
  rw [h2, rem_step hq]
  exact hs _
theorem ell_no {X Y : List Nat} {n i c : Nat} {l : List (Str × Tok)} {p : Int} {tk : Tok} {b : Bool} (h : EllI X Y n l i p) (hq : l[i]? = some ((⟨#[c]⟩ : Str), tk)) (hs : ∀ u, ¬ (c :: u).Sublist (Y.drop p.toNat)) (hb : b = true ↔ X.Sublist Y) : false = b := by
  obtain ⟨h0, h1, h2⟩ := h
  cases b with
  | false => rfl
  | true =>
    have := h2.mp (hb.mp rfl)
    rw [rem_step hq] at this
    exact absurd this (hs _)
theorem ell_yes {X Y : List Nat} {n : Nat} {l : List (Str × Tok)} {k : Nat} {p : Int} {b : Bool} (h : EllI X Y n l k p) (hk : k = l.length) (hb : b = true ↔ X.Sublist Y) : true = b := by
  obtain ⟨h0, h1, h2⟩ := h
  rw [hk, rem_end] at h2
  exact (hb.mpr (h2.mpr (List.nil_sublist _))).symm
end Mine

namespace Mine
theorem post1_ret {h₀ : Heap} {L : Addr} {x y : Str} {m₀ : Str → Option Value} {all : List (Addr × Obj)} {I : Int → Prop} {Q : Flow → Shared → Prop} {s s₂ : Shared} {v : Value} (h : Q (.ret v) s₂) : Post1 h₀ L x y m₀ all I Q s (.ret v) s₂ := h
end Mine

namespace Mine
theorem len_empty {prog : Program} {w : World} {A : Around} {E : Value → Shared → Prop} {s : Shared} {t : Tok} {Q : Value → Shared → Prop} (h : Q (.int ((⟨#[]⟩ : Str).length : Int) (s.toks + 1)) { s with toks := s.toks + 1 + 1 }) :
    wpAny (model prog w) A (call (.builtin "len") [.str ⟨#[]⟩ t]) Q E s := PySem.P.len_str (by simp [Str.length]) h
end Mine
end
section
open PySem PySem.W PyProof.Rows
namespace Mine
local macro_rules | `(tactic| walk_at "call builtin:len") => `(tactic| (with_reducible refine len_empty ?_))
set_option maxRecDepth 100000 in
set_option maxHeartbeats 8000000 in
theorem ellC (w : World) (p : Program) (loose : List Str) (mean : ExcName → Option Value) (mg mb : Str → Option Value) (x y : Str) (tx ty : Tok) (news : List (Addr × Obj)) (X : List Nat) (b : Bool)
   (hx : x.length ≤ 40) (hy : y.length ≤ 16) (h1 : (Builtin.Str.occurrences x (Str.ofString "...") 0 x.length 1).isEmpty = false) (h2 : Txt.split x (Str.ofString "...") = ⟨#[]⟩ :: (X.map single ++ [⟨#[]⟩])) (hX : X.length ≤ 4)
   (hb : b = true ↔ X.Sublist (cs y)) :
    CbClaim Challenge.rw_sh0023_01.row.prog w (hd.heap_39 w.params) p loose mean mg mb 52 news [] True [.str x tx, .str y ty] (fun _ => .bool b) := by
  w_top off
  k_with_none
  k_fill
  dsimp only [CbClaim, CbLists, CbRet]; intros; rename_i hret; have cbI : CbIn 52 := CbIn.mk
  refine wpAny_call ?_
  k_dflt cell_enter
  k_with "call builtin:str.split" => refine stop_in ?_
  k_steps
  refine stop_out ?_
  rename Fr _ _ _ _ => F0
  rename News _ _ _ _ => N0
  refine splitN1A F0 N0 (by decide +kernel) ?_ (by simp only [PySem.sizeLine_eq]; omega)
  intro l h9 tk9 e9 _ _ _ F9 N9
  rw [h2] at e9
  obtain ⟨s0, l1, s9, hl, e1⟩ := map_wrap e9
  have hlen : l1.length = X.length := by have := congrArg List.length e1; simpa using this
  have hv0 : (strValues l)[0]? = some (.str ⟨#[]⟩ s0) := by rw [hl]; rfl
  have hsz : (strValues l).toArray.size = X.length + 2 := by rw [hl]; simp [strValues, hlen]
  have hv9 : (strValues l).toArray[(strValues l).toArray.size - 1]? = some (.str ⟨#[]⟩ s9) := by rw [hsz, hl]; simp [strValues, hlen]
  have l9 := allLt_of (fun p hp => Heap.lt_size (N0 p hp).1)
  have hkinds := @kinds s0 s9 l1 X e1
  have hstart := @rem_start s0 s9 l1 X e1
  rw [← hl] at hkinds hstart
  clear F0 N0 e9 hl
  (try dsimp only)
  (try k_fold)
  k_with "subscriptTail Name Constant ref int" => (k_dflt (refine' item_listR (items := (strValues l).toArray) ?ka ?kb ?kc ?kd ?_; (case ka => is_list); (case kb => decide); (case kc => decide); (case kd => simpa using hv0)))
  k_with "subscriptTail Name UnaryOp ref int" => (k_dflt (refine' item_last (items := (strValues l).toArray) ?ka ?kd ?_; (case ka => is_list); (case kd => exact hv9)))
  k_with "exec For Name Name cons nil" => ((rename Fr _ _ _ _ => lF'); (with_unfolding_all refine' For_invVF lF' ?k1 ?k2 ?_; (case k1 => exact rfl); (case k2 => exact rfl); k_whole))
  k_with "pyIter ref" => refine stop_in ?_
  k_steps
  refine stop_out ?_
  rename Fr _ _ _ _ => lF'
  rename News _ _ _ _ => lN'
  with_unfolding_all refine' loop_one (y := Str.ofString "startpos") (vs := strValues l) (nn := 0) ?hyx (EllI X (cs y) y.length l) 0 _ ?hh ?hl ?F ?N ?hm ?hI ?turn ?done
  case F => exact lF'
  case N => exact lN'
  case hyx => decide
  case hh => rfl
  case hl => k_mem
  case hm => rfl
  case hI => exact ⟨by decide, by omega, by rw [hstart]; simp⟩
  case turn =>
    intro i v p9 tp h tk own hv hoff hI F1 N1
    obtain ⟨⟨st, tkq⟩, hq, rfl⟩ := strVal_at hv
    have hI2 := hI
    obtain ⟨hp0, hp1, _⟩ := hI2
    rcases hkinds hq with h | ⟨c, h⟩
    · dsimp only at h
      subst h
      k_with "call builtin:str.find" => (refine find4_nil ⟨by omega, by omega⟩ (by rfl) ?_)
      k_steps
      rename Fr _ _ _ _ => F2
      rename News _ _ _ _ => N2
      refine' end1_mk F2 N2 ?s1 ?y1 ?z1 (ell_nil hI hq)
      case s1 => exact fun q hq => hq
      case y1 => rfl
      case z1 => (intro z hz1 hz2; simp only [if_neg hz1, if_neg hz2])
    · dsimp only at h
      subst h
      k_with_none
      k_with "call builtin:str.find" => (refine find4_one ⟨by omega, by omega⟩ (by rfl) ?_ ?_ <;> intros)
      k_with "LeaveK" => refine stop_in ?_
      k_steps
      · dsimp only
        refine post1_ret ?_
        k_steps
        refine stop_out ?_
        (try dsimp only)
        refine' leaveK_ ?ka ?kb ?_
        case ka => k_asm
        case kb => k_asm
        intro kF kN
        (try dsimp only)
        refine' cb_retB hret ?ke kF ?kd
        case kd => (refine cb_drop kN ?cbS; kcj_all)
        exact ell_no hI hq (by assumption) hb
      · rename Fr _ _ _ _ => F2
        rename News _ _ _ _ => N2
        refine' end1_mk F2 N2 ?s2 ?y2 ?z2 (ell_one hI hq (by assumption) (by assumption) (by assumption))
        case s2 => exact fun q hq => hq
        case y2 => rfl
        case z2 => (intro z hz1 hz2; simp only [if_neg hz1, if_neg hz2])
  case done =>
    intro u p9 tp h tk hI F1 N1
    (try dsimp only)
    k_steps
    refine stop_out ?_
    (try dsimp only)
    refine' leaveK_ ?kx ?ky ?_
    case kx => k_asm
    case ky => k_asm
    intro kF kN
    (try dsimp only)
    refine' cb_retB hret ?kg kF ?kz
    case kz => (refine cb_drop kN ?cbT; kcj_all)
    exact ell_yes hI (by simp [strValues]) hb
end Mine
end
section
open PySem PySem.W PyProof.Rows
namespace Mine
theorem sub_snoc {u v : List Nat} {a b : Nat} : (u ++ [a]).Sublist (v ++ [b]) ↔ (u ++ [a]).Sublist v ∨ (a = b ∧ u.Sublist v) := by
  rw [← List.reverse_sublist, List.reverse_append, List.reverse_append]
  show (a :: u.reverse).Sublist (b :: v.reverse) ↔ _
  constructor
  · intro h
    cases h with
    | cons _ h => left; rw [← List.reverse_sublist, List.reverse_append]; exact h
    | cons_cons _ h => right; exact ⟨rfl, List.reverse_sublist.mp h⟩
  · rintro (h | ⟨rfl, h⟩)
    · rw [← List.reverse_sublist, List.reverse_append] at h
      exact h.cons _
    · exact (List.reverse_sublist.mpr h).cons_cons _
def Cell (A B : List Nat) (i j : Nat) (v : Int) : Prop := 2 * ((j : Int) - i) ≤ v ∧ (v = 2 * ((j : Int) - i) ↔ (A.take i).Sublist (B.take j))
theorem cell_min {r o c d v : Int} (hv : v = min (min r o + 2) (d + c)) : v ≤ o + 2 ∧ v ≤ d + c ∧ (v = r + 2 ∨ v = o + 2 ∨ v = d + c) := by
  omega
theorem cell_num {t d r o c v : Int} (d1 : t ≤ d) (hr : t ≤ r) (o1 : t - 2 ≤ o) (hv : v = min (min r o + 2) (d + c)) (hc : 0 ≤ c) : t ≤ v ∧ (v = t ↔ o = t - 2 ∨ (c = 0 ∧ d = t)) := by
  obtain ⟨m1, m2, m3⟩ := cell_min hv
  clear hv
  refine ⟨by omega, fun e => ?_, fun e => ?_⟩
  · rcases m3 with h | h | h
    · omega
    · left; omega
    · right; clear m1 m2; omega
  · rcases e with h | ⟨h, h'⟩
    · clear m2; omega
    · clear m1; omega
theorem cell_e1 (i j : Nat) : 2 * (((j + 1 : Nat) : Int) - ((i + 1 : Nat) : Int)) = 2 * ((j : Int) - i) := by omega
theorem cell_e2 (i j : Nat) : 2 * ((j : Int) - ((i + 1 : Nat) : Int)) = 2 * ((j : Int) - i) - 2 := by omega
theorem cell_pos {c : Int} {P Q : Prop} (h : (c = 0 ∧ P) ∨ (0 < c ∧ Q)) : 0 ≤ c := by
  rcases h with ⟨h, _⟩ | ⟨h, _⟩
  · rw [h]; decide
  · exact Int.le_of_lt h
theorem cell_step {A B : List Nat} {i j : Nat} {d r o c v : Int} (hi : i < A.length) (hj : j < B.length) (hd : Cell A B i j d) (hr : 2 * ((j : Int) - i) ≤ r) (ho : Cell A B (i + 1) j o)
    (hc : (c = 0 ∧ A.getD i 0 = B.getD j 0) ∨ (0 < c ∧ A.getD i 0 ≠ B.getD j 0)) (hv : v = min (min r o + 2) (d + c)) : Cell A B (i + 1) (j + 1) v := by
  have ea : A.take (i + 1) = A.take i ++ [A.getD i 0] := by
    rw [List.take_add_one, List.getElem?_eq_getElem hi, List.getD_eq_getElem?_getD, List.getElem?_eq_getElem hi]; rfl
  have eb : B.take (j + 1) = B.take j ++ [B.getD j 0] := by
    rw [List.take_add_one, List.getElem?_eq_getElem hj, List.getD_eq_getElem?_getD, List.getElem?_eq_getElem hj]; rfl
  obtain ⟨d1, d2⟩ := hd
  obtain ⟨o1, o2⟩ := ho
  unfold Cell
  rw [ea, eb, sub_snoc, ← ea]
  rw [cell_e2] at o1 o2
  rw [cell_e1, ← o2, ← d2]
  obtain ⟨n1, n2⟩ := cell_num d1 hr o1 hv (cell_pos hc)
  refine ⟨n1, n2.trans ⟨?_, ?_⟩⟩
  · rintro (h | ⟨h1, h2⟩)
    · exact .inl h
    · rcases hc with ⟨_, e⟩ | ⟨h, _⟩
      · exact .inr ⟨e, h2⟩
      · rw [h1] at h; exact absurd h (by decide)
  · rintro (h | ⟨h1, h2⟩)
    · exact .inl h
    · rcases hc with ⟨h, _⟩ | ⟨_, h⟩
      · exact .inr ⟨h, h2⟩
      · exact absurd h1 h
def RowInv (A B : List Nat) (j : Nat) (row : List Int) : Prop :=
  row.length = A.length ∧ (∀ i, i < A.length → Cell A B (i + 1) j (row.getD i 0)) ∧ (1 ≤ j → row.getD 0 0 ≤ 2 * (j : Int))
def InnerInv (A B : List Nat) (j i : Nat) (d r mn : Int) (row : List Int) : Prop :=
  row.length = A.length ∧ (∀ k, k < i → Cell A B (k + 1) (j + 1) (row.getD k 0)) ∧ (∀ k, i ≤ k → k < A.length → Cell A B (k + 1) j (row.getD k 0)) ∧ Cell A B i j d ∧ 2 * ((j : Int) - i) ≤ r ∧
    (0 < i → r = row.getD (i - 1) 0 ∧ row.getD 0 0 ≤ 2 * ((j : Int) + 1)) ∧ (i = 0 → d = 2 * (j : Int)) ∧ (∀ k, k < i → mn ≤ row.getD k 0)
theorem row_start {A B : List Nat} {row : List Int} (hl : row.length = A.length) (h : ∀ i, i < A.length → row.getD i 0 = 2 * ((i : Int) + 1)) : RowInv A B 0 row := by
  refine ⟨hl, fun i hi => ?_, fun h => by omega⟩
  rw [h i hi]
  refine ⟨by omega, ⟨fun q => by omega, fun q => ?_⟩⟩
  rw [List.take_zero, List.sublist_nil] at q
  have := congrArg List.length q
  rw [List.length_take, List.length_nil] at this
  omega
theorem inner_start {A B : List Nat} {j : Nat} {row : List Int} {mn : Int} (h : RowInv A B j row) : InnerInv A B j 0 (2 * (j : Int)) (2 * (j : Int)) mn row := by
  refine ⟨h.1, fun k hk => by omega, fun k _ hk => h.2.1 k hk, ⟨by omega, ⟨fun _ => by rw [List.take_zero]; exact List.nil_sublist _, fun _ => by omega⟩⟩, by omega, fun q => by omega, fun _ => rfl, fun k hk => by omega⟩
theorem inner_step {A B : List Nat} {j i : Nat} {d r mn c v mn' : Int} {row : List Int} (h : InnerInv A B j i d r mn row) (hi : i < A.length) (hj : j < B.length)
    (hc : (c = 0 ∧ A.getD i 0 = B.getD j 0) ∨ (0 < c ∧ A.getD i 0 ≠ B.getD j 0)) (hc2 : c ≤ 2) (hv : v = min (min r (row.getD i 0) + 2) (d + c)) (hm : mn' = min mn v) :
    InnerInv A B j (i + 1) (row.getD i 0) v mn' (row.set i v) := by
  obtain ⟨h1, h2, h3, h4, h5, h6, h7, h8⟩ := h
  have hl : i < row.length := by rw [h1]; exact hi
  have hnew := cell_step hi hj h4 h5 (h3 i (Nat.le_refl _) hi) hc hv
  have g1 : ∀ k, k ≠ i → (row.set i v).getD k 0 = row.getD k 0 := fun k hk => by
    rw [List.getD_eq_getElem?_getD, List.getElem?_set, if_neg (Ne.symm hk), ← List.getD_eq_getElem?_getD]
  have g2 : (row.set i v).getD i 0 = v := by
    rw [List.getD_eq_getElem?_getD, List.getElem?_set, if_pos rfl, if_pos hl]; rfl
  have h3i := h3 i (Nat.le_refl _) hi
  refine ⟨by rw [List.length_set]; exact h1, fun k hk => ?_, fun k hk hk2 => ?_, h3i, ?_, fun _ => ⟨?_, ?_⟩, fun q => absurd q (Nat.succ_ne_zero _), fun k hk => ?_⟩
  · by_cases e : k = i
    · rw [e, g2]; exact hnew
    · rw [g1 k e]; exact h2 k (Nat.lt_of_le_of_ne (Nat.le_of_lt_succ hk) e)
  · rw [g1 k (Nat.ne_of_gt hk)]; exact h3 k (Nat.le_of_lt hk) hk2
  · have := hnew.1; clear hnew h2 h3 h4 h5 h6 h7 h8 g1 g2 h3i hc hc2 hv hm hi hj hl h1; omega
  · rw [Nat.add_sub_cancel, g2]
  · by_cases e : i = 0
    · have hd := h7 e
      subst e
      rw [g2]
      have hv2 : v ≤ d + c := by rw [hv]; exact Int.min_le_right _ _
      rw [hd] at hv2
      exact Int.le_trans hv2 (Int.le_trans (Int.add_le_add_left hc2 _) (by rw [Int.mul_add]; exact Int.le_refl _))
    · rw [g1 0 (fun q => e q.symm)]; exact (h6 (Nat.pos_of_ne_zero e)).2
  · by_cases e : k = i
    · rw [e, g2, hm]; exact Int.min_le_right _ _
    · rw [g1 k e, hm]; exact Int.le_trans (Int.min_le_left _ _) (h8 k (Nat.lt_of_le_of_ne (Nat.le_of_lt_succ hk) e))
theorem inner_end {A B : List Nat} {j : Nat} {d r mn : Int} {row : List Int} (h : InnerInv A B j A.length d r mn row) (hA : 0 < A.length) : RowInv A B (j + 1) row ∧ r = row.getD (A.length - 1) 0 ∧ ∀ k, k < A.length → mn ≤ row.getD k 0 := by
  obtain ⟨h1, h2, h3, h4, h5, h6, h7, h8⟩ := h
  exact ⟨⟨h1, h2, fun _ => by have := (h6 hA).2; omega⟩, (h6 hA).1, h8⟩
theorem row_final {A B : List Nat} {row : List Int} {r : Int} (h : RowInv A B B.length row) (hA : 0 < A.length) (hr : r = row.getD (A.length - 1) 0) : r = 2 * ((B.length : Int) - A.length) ↔ A.Sublist B := by
  have := (h.2.1 (A.length - 1) (by omega)).2
  have e : A.length - 1 + 1 = A.length := by omega
  rw [e, List.take_length, List.take_length, ← hr] at this
  exact this
theorem row_early {A B : List Nat} {j : Nat} {row : List Int} {mn : Int} (h : RowInv A B (j + 1) row) (hA : 0 < A.length) (hj : j < B.length) (hm : ∀ k, k < A.length → mn ≤ row.getD k 0) (hs : A.Sublist B) : mn ≤ 2 * ((B.length : Int) - A.length) := by
  have hB : B = B.take (j + 1) ++ B.drop (j + 1) := (List.take_append_drop _ _).symm
  rw [hB] at hs
  obtain ⟨u, v, e, hu, hv⟩ := List.sublist_append_iff.mp hs
  have hul : u.length ≤ j + 1 := by
    have := hu.length_le
    rw [List.length_take] at this
    omega
  have hvl := hv.length_le
  rw [List.length_drop] at hvl
  have hlen : A.length = u.length + v.length := by rw [e, List.length_append]
  cases hz : u.length with
  | zero =>
    have h0 := h.2.2 (by omega)
    have h1 := hm 0 hA
    omega
  | succ k =>
    have hk : k < A.length := by omega
    have hc := (h.2.1 k hk).2
    have et : A.take (k + 1) = u := by rw [e, ← hz]; simp
    rw [et] at hc
    have := hc.mpr hu
    have := hm k hk
    omega
end Mine
end
section
open PySem PySem.W PyProof.Rows
namespace Mine
def EndW (h₀ : Heap) (L : Addr) (y : Str) (m₀ : Str → Option Value) (all : List (Addr × Obj)) (I : Int → Prop) (s s₂ : Shared) : Prop :=
  ∃ h' tk m' news' p' tp', s₂ = { s with heap := h', toks := tk } ∧ Fr h₀ L h' m' ∧ News h₀ L h' news' ∧ (∀ q ∈ all, q ∈ news') ∧ m' y = some (.int p' tp') ∧ (∀ z, z ≠ y → m' z = m₀ z) ∧ I p'
def PostW1 (h₀ : Heap) (L : Addr) (y : Str) (m₀ : Str → Option Value) (all : List (Addr × Obj)) (I : Int → Prop) (Q : Flow → Shared → Prop) (s : Shared) (f : Flow) (s₂ : Shared) : Prop :=
  match f with
  | .ret v => Q (.ret v) s₂
  | .brk => Q .next s₂
  | _ => EndW h₀ L y m₀ all I s s₂
theorem endW_mk {h₀ : Heap} {L : Addr} {y : Str} {m₀ m' : Str → Option Value} {all news' : List (Addr × Obj)} {I : Int → Prop} {Q : Flow → Shared → Prop} {s : Shared} {h' : Heap} {tk : Nat} {p' : Int} {tp' : Tok}
    (F : Fr h₀ L h' m') (N : News h₀ L h' news') (hs : ∀ q ∈ all, q ∈ news') (hy : m' y = some (.int p' tp')) (hz : ∀ z, z ≠ y → m' z = m₀ z) (hI : I p') :
    PostW1 h₀ L y m₀ all I Q s .next { s with heap := h', toks := tk } := ⟨h', tk, m', news', p', tp', rfl, F, N, hs, hy, hz, hI⟩
section
variable {prog : Program} {w : World} {A : Around} {E : Value → Shared → Prop} {Q : Flow → Shared → Prop} {s : Shared} {env : Env} {h₀ : Heap} {L : Addr}
theorem while_one {test : Expr} {body : List Stmt} {pos : Pos} {m₀ : Str → Option Value} {news : List (Addr × Obj)} (y : Str) (I : Int → Prop) (μ : Int → Nat) (p₀ : Int) (t₀ : Tok)
    (F : Fr h₀ L s.heap m₀) (N : News h₀ L s.heap news) (hm : m₀ y = some (.int p₀ t₀)) (hI : I p₀)
    (turn : ∀ p tp h tk, I p → Fr h₀ L h (fun z => if z = y then some (.int p tp) else m₀ z) → News h₀ L h news →
      wpAny (model prog w) A (isTrue test env (eval test env)) (fun b s₂ =>
        if b = true then wpAny (model prog w) A (execs body env) (PostW1 h₀ L y m₀ news (fun p' => I p' ∧ μ p' < μ p) Q s) E s₂ else Q .next s₂) E { s with heap := h, toks := tk })
    (hE : PassesOwn (model prog w) A env E) :
    wpAny (model prog w) A (exec (.While test body [] pos) env) Q E s := by
  refine ksw_while (σ := Int × Tok) (fun _ => news) (fun c => [(y, .int c.1 c.2)]) (fun _ => True) [] (fun c => I c.1) (fun c => μ c.1) (p₀, t₀) F N trivial ?_ hI ?_ hE
  · intro q hq
    rw [List.mem_singleton.mp hq]
    exact hm
  · rintro ⟨p, tp⟩ u h tk _ hp F₁ N₁
    refine wpAny_mono (turn p tp h tk hp F₁ N₁) (fun b s₂ q => ?_) fun _ _ x => x
    cases b with
    | false => exact q
    | true =>
      simp only [if_true] at q ⊢
      refine wpAny_mono q (fun f s₃ r => ?_) fun _ _ x => x
      have fin : EndW h₀ L y m₀ news (fun p' => I p' ∧ μ p' < μ p) s s₃ → KswEnd h₀ L s (fun _ : Int × Tok => news) (fun c => [(y, .int c.1 c.2)]) (fun _ => True) [] m₀ (fun c => I c.1) (fun c => μ c.1) (p, tp) s₃ := by
        rintro ⟨h', tk', m', news', p', tp', e, F', N', hs, g1, g2, g3, g4⟩
        refine ⟨(p', tp'), h', tk', m', news', e, F', N', hs, trivial, ?_, fun z hz _ => g2 z (hz _ (.head _)), g3, g4⟩
        intro q hq
        rw [List.mem_singleton.mp hq]
        exact g1
      cases f with
      | ret v => exact r
      | brk => exact r
      | next => exact fin r
      | cont => exact fin r
end
theorem strip_pre {A B : List Nat} {p : Nat} (h : A.take p = B.take p) : (A.drop p).Sublist (B.drop p) ↔ A.Sublist B := by
  have e1 : A = A.take p ++ A.drop p := (List.take_append_drop _ _).symm
  have e2 : B = A.take p ++ B.drop p := by rw [h]; exact (List.take_append_drop _ _).symm
  conv => rhs; rw [e1, e2]
  exact (List.append_sublist_append_left _).symm
theorem strip_post {A B : List Nat} {a b : Nat} (h : A.drop a = B.drop b) : (A.take a).Sublist (B.take b) ↔ A.Sublist B := by
  have e1 : A = A.take a ++ A.drop a := (List.take_append_drop _ _).symm
  have e2 : B = B.take b ++ A.drop a := by rw [h]; exact (List.take_append_drop _ _).symm
  conv => rhs; rw [e1, e2]
  exact (List.append_sublist_append_right _).symm
end Mine
namespace Mine
theorem endW_done {h₀ : Heap} {L : Addr} {y : Str} {m₀ m' : Str → Option Value} {all news' : List (Addr × Obj)} {I : Int → Prop} {s : Shared} {h' : Heap} {tk : Nat} {p' : Int} {tp' : Tok}
    (F : Fr h₀ L h' m') (N : News h₀ L h' news') (hs : ∀ q ∈ all, q ∈ news') (hy : m' y = some (.int p' tp')) (hz : ∀ z, z ≠ y → m' z = m₀ z) (hI : I p') :
    EndW h₀ L y m₀ all I s { s with heap := h', toks := tk } := ⟨h', tk, m', news', p', tp', rfl, F, N, hs, hy, hz, hI⟩
section
variable {prog : Program} {w : World} {A : Around} {E : Value → Shared → Prop} {Q : Flow → Shared → Prop} {s : Shared} {env : Env} {h₀ : Heap} {L : Addr}
theorem while_two {test : Expr} {body : List Stmt} {pos : Pos} {m₀ : Str → Option Value} {news : List (Addr × Obj)} (y : Str) (I : Int → Prop) (μ : Int → Nat) (p₀ : Int) (t₀ : Tok)
    (F : Fr h₀ L s.heap m₀) (N : News h₀ L s.heap news) (hm : m₀ y = some (.int p₀ t₀)) (hI : I p₀)
    (turn : ∀ p tp h tk, I p → Fr h₀ L h (fun z => if z = y then some (.int p tp) else m₀ z) → News h₀ L h news →
      wpAny (model prog w) A (isTrue test env (eval test env)) (fun b s₂ =>
        if b = true then wpAny (model prog w) A (execs body env) (PostW1 h₀ L y m₀ news (fun p' => I p' ∧ μ p' < μ p) Q s) E s₂ else EndW h₀ L y m₀ news I s s₂) E { s with heap := h, toks := tk })
    (done : ∀ p tp h tk, I p → Fr h₀ L h (fun z => if z = y then some (.int p tp) else m₀ z) → News h₀ L h news → Q .next { s with heap := h, toks := tk })
    (hE : PassesOwn (model prog w) A env E) :
    wpAny (model prog w) A (exec (.While test body [] pos) env) Q E s := by
  refine while_one y I μ p₀ t₀ F N hm hI ?_ hE
  intro p tp h tk hp F₁ N₁
  refine wpAny_mono (turn p tp h tk hp F₁ N₁) (fun b s₂ q => ?_) fun _ _ x => x
  cases b with
  | true => exact q
  | false =>
    obtain ⟨h', tk', m', news', p', tp', e, F', N', hs, g1, g2, g3⟩ := q
    have em : m' = fun z => if z = y then some (.int p' tp') else m₀ z := by
      funext z
      by_cases hz : z = y
      · rw [if_pos hz, hz]; exact g1
      · rw [if_neg hz]; exact g2 z hz
    rw [em] at F'
    show Q .next s₂
    rw [e]
    exact done p' tp' h' tk' g3 F' (fun q hq => N' q (hs q hq))
end
end Mine
end
section
open PySem PySem.W PyProof.Rows
namespace Mine
theorem cut_from {x : Str} {i : Int} (h0 : 0 ≤ i) (h1 : i ≤ x.length) : cs (Txt.slice x (some i) none) = (cs x).drop i.toNat := by
  have e : Txt.slice x (some i) none = StrLaws.sliceText x (some i) none := rfl
  have hl : x.cps.toList.length = x.length := by simp [Str.length]
  rw [e, StrLaws.sliceText_from ⟨h0, by omega⟩]
  unfold cs
  rw [List.toList_toArray]
  rw [List.take_of_length_le]
  rw [List.length_drop]
  omega
theorem cut_to_neg {x : Str} {j : Int} (h0 : j < 0) (h1 : -(x.length : Int) ≤ j) : cs (Txt.slice x none (some j)) = (cs x).take (j + x.length).toNat := by
  have e : Txt.slice x none (some j) = StrLaws.sliceText x none (some j) := rfl
  rw [e, StrLaws.sliceText_to_neg h0 h1]
  unfold cs
  rw [List.toList_toArray, List.drop_zero]
  congr 1
  omega
theorem cut_nn {x : Str} : Txt.slice x none none = x := by
  unfold Txt.slice
  rw [if_pos]
  have : (Builtin.Str.strSliceIndices none none 1 x.length).length = x.length := by
    simp [Builtin.Str.strSliceIndices, sliceRange]
    omega
  simp [this]
theorem len_of_cs {x : Str} {l : List Nat} (h : cs x = l) : x.length = l.length := by rw [← h, cs_len]
section
variable {prog : Program} {w : World} {A : Around} {E : Value → Shared → Prop} {s : Shared} {h₀ : Heap} {L : Addr} {m : Str → Option Value} {news : List (Addr × Obj)} {x : Str} {t : Tok} {Q : Value → Shared → Prop} {value slice : Expr}
theorem cutN_from {i : Int} {ui : Tok} (h0 : 0 ≤ i) (h1 : i ≤ x.length) (hz : x.length ≤ 100) (hF : Fr h₀ L s.heap m) (hN : News h₀ L s.heap news)
    (h : ∀ y h' t' k, cs y = (cs x).drop i.toNat → (y.length : Int) = x.length - i → Fr h₀ L h' m → News h₀ L h' news → Q (.str y t') { s with heap := h', toks := k })
    (hs : subscripted slice false (.str x t) (.ref s.heap.objs.size) = operate [.ref s.heap.objs.size, .str x t] (getItem (.str x t) (.ref s.heap.objs.size)) := by with_unfolding_all rfl)
    (ht : ∀ r, letTemporaryGo value (.str x t) r = pure () := by intro _; with_unfolding_all rfl) :
    wpAny (model prog w) A (subscriptTail value slice (.str x t) (.ref s.heap.objs.size)) Q E { s with heap := s.heap.push { cls := .type "slice", data := .fields #[.int i ui, .none, .none] } } :=
  slice_strN_sn hF hN (fun h' t' k a b => h _ h' t' k (cut_from h0 h1) (by rw [len_of_cs (cut_from h0 h1), List.length_drop, cs_len]; clear h hN hF hz hs ht a b; omega) a b) hs ht (by simp only [PySem.sizeLine_eq]; omega)
theorem cutN_to {j : Int} {uj : Tok} (h0 : j < 0) (h1 : -(x.length : Int) ≤ j) (hz : x.length ≤ 100) (hF : Fr h₀ L s.heap m) (hN : News h₀ L s.heap news)
    (h : ∀ y h' t' k, cs y = (cs x).take (j + x.length).toNat → (y.length : Int) = j + x.length → Fr h₀ L h' m → News h₀ L h' news → Q (.str y t') { s with heap := h', toks := k })
    (hs : subscripted slice false (.str x t) (.ref s.heap.objs.size) = operate [.ref s.heap.objs.size, .str x t] (getItem (.str x t) (.ref s.heap.objs.size)) := by with_unfolding_all rfl)
    (ht : ∀ r, letTemporaryGo value (.str x t) r = pure () := by intro _; with_unfolding_all rfl) :
    wpAny (model prog w) A (subscriptTail value slice (.str x t) (.ref s.heap.objs.size)) Q E { s with heap := s.heap.push { cls := .type "slice", data := .fields #[.none, .int j uj, .none] } } :=
  slice_strN_ns hF hN (fun h' t' k a b => h _ h' t' k (cut_to_neg h0 h1) (by rw [len_of_cs (cut_to_neg h0 h1), List.length_take, cs_len]; clear h hN hF hz hs ht a b; omega) a b) hs ht (by simp only [PySem.sizeLine_eq]; omega)
theorem cutN_nn (hz : x.length ≤ 100) (hF : Fr h₀ L s.heap m) (hN : News h₀ L s.heap news)
    (h : ∀ h' t' k, Fr h₀ L h' m → News h₀ L h' news → Q (.str x t') { s with heap := h', toks := k })
    (hs : subscripted slice false (.str x t) (.ref s.heap.objs.size) = operate [.ref s.heap.objs.size, .str x t] (getItem (.str x t) (.ref s.heap.objs.size)) := by with_unfolding_all rfl)
    (ht : ∀ r, letTemporaryGo value (.str x t) r = pure () := by intro _; with_unfolding_all rfl) :
    wpAny (model prog w) A (subscriptTail value slice (.str x t) (.ref s.heap.objs.size)) Q E { s with heap := s.heap.push { cls := .type "slice", data := .fields #[.none, .none, .none] } } :=
  slice_strN_nn hF hN (fun h' t' k a b => by rw [cut_nn]; exact h h' t' k a b) hs ht (by simp only [PySem.sizeLine_eq]; omega)
end
end Mine
end
section
open PySem PySem.W PyProof.Rows
namespace Mine
theorem item_pos {x : Str} {j : Int} (h0 : 0 ≤ j) (h1 : j < x.length) : Txt.item x j = ⟨#[(cs x).getD j.toNat 0]⟩ := by
  have h' := eq_of_beq (item_closes (x := x) (i := j) ⟨h0, h1⟩)
  rw [h']
  simp [cs, Array.getD_eq_getD_getElem?, List.getD_eq_getElem?_getD]
def PreI (x y : Str) (p : Int) : Prop := 0 ≤ p ∧ p ≤ x.length ∧ p ≤ y.length ∧ (cs x).take p.toNat = (cs y).take p.toNat
theorem take_getD {l : List Nat} {n : Nat} (h : n < l.length) : l.take (n + 1) = l.take n ++ [l.getD n 0] := by
  rw [List.take_add_one, List.getElem?_eq_getElem h, List.getD_eq_getElem?_getD, List.getElem?_eq_getElem h]; rfl
theorem drop_getD {l : List Nat} {n : Nat} (h : n < l.length) : l.drop n = l.getD n 0 :: l.drop (n + 1) := by
  rw [List.drop_eq_getElem_cons h, List.getD_eq_getElem?_getD, List.getElem?_eq_getElem h]; rfl
theorem pre_step {x y : Str} {p : Int} (h : PreI x y p) (hx : p < x.length) (hy : p < y.length) (he : (Txt.item x p == Txt.item y p) = true) : PreI x y (p + 1) := by
  obtain ⟨h0, h1, h2, h3⟩ := h
  rw [item_pos h0 hx, item_pos h0 hy] at he
  have e : (cs x).getD p.toNat 0 = (cs y).getD p.toNat 0 := by simpa using he
  have ep : (p + 1).toNat = p.toNat + 1 := by omega
  refine ⟨by omega, by omega, by omega, ?_⟩
  rw [ep, take_getD (by rw [cs_len]; omega), take_getD (by rw [cs_len]; omega), h3, e]
def PostI (x y : Str) (q : Int) : Prop := q ≤ 0 ∧ 0 ≤ x.length + q ∧ 0 ≤ y.length + q ∧ (cs x).drop (q + x.length).toNat = (cs y).drop (q + y.length).toNat
theorem post_step {x y : Str} {q : Int} (h : PostI x y q) (hx : 0 < x.length + q) (hy : 0 < y.length + q) (he : (Txt.item x (q - 1) == Txt.item y (q - 1)) = true) : PostI x y (q - 1) := by
  obtain ⟨h0, h1, h2, h3⟩ := h
  have e0 : q - 1 = -(1 - q) := (Int.neg_sub 1 q).symm
  have g0 : 1 ≤ 1 - q := by clear h1 h2 h3 hx hy he e0; omega
  have gx : 1 - q ≤ x.length := by clear h1 h2 h3 hy he e0 g0; omega
  have gy : 1 - q ≤ y.length := by clear h1 h2 h3 hx he e0 g0 gx; omega
  rw [e0, item_neg_eq g0 gx g0 gy] at he
  have e := of_decide_eq_true he
  refine ⟨Int.le_trans (Int.sub_le_self _ (by decide)) h0, by clear h1 h2 h3 hy he e0 g0 gy e; omega, by clear h1 h2 h3 hx he e0 g0 gx e; omega, ?_⟩
  clear he e0 g0 gx gy h1 h2
  have f (x : Str) (hx : 0 < x.length + q) : (cs x).drop (q - 1 + x.length).toNat = (cs x).getD (x.length - (1 - q).toNat) 0 :: (cs x).drop (q + x.length).toNat := by
    have e1 : (q - 1 + x.length).toNat = x.length - (1 - q).toNat := by clear h3 e hy; omega
    have e2 : (q + x.length).toNat = x.length - (1 - q).toNat + 1 := by clear h3 e hy; omega
    rw [e1, e2]
    exact drop_getD (by rw [cs_len]; clear h3 e hy e1 e2; omega)
  rw [f x hx, f y hy, h3, e]
end Mine
namespace Mine
def PostJ (x y : Str) (p : Int) (a b : Str) (q : Int) : Prop := PostI a b q ∧ cs a = (cs x).drop p.toNat ∧ cs b = (cs y).drop p.toNat
theorem post_start {x y a b : Str} {p : Int} (ha : cs a = (cs x).drop p.toNat) (hb : cs b = (cs y).drop p.toNat) : PostJ x y p a b 0 := by
  refine ⟨⟨by decide, by omega, by omega, ?_⟩, ha, hb⟩
  rw [List.drop_of_length_le (by rw [cs_len]; omega), List.drop_of_length_le (by rw [cs_len]; omega)]
end Mine
namespace Mine
def OrV (q : Int) (B : Value) : Prop := (q = 0 ∧ B = .none) ∨ (q ≠ 0 ∧ ∃ u, B = .int q u)
section
variable {prog : Program} {w : World} {A : Around} {E : Value → Shared → Prop} {s : Shared} {h₀ : Heap} {L : Addr} {m : Str → Option Value} {news : List (Addr × Obj)} {x : Str} {t : Tok} {Q : Value → Shared → Prop} {value slice : Expr}
theorem cutN_or {q : Int} {B : Value} (hB : OrV q B) (h0 : q ≤ 0) (h1 : 0 ≤ x.length + q) (hz : x.length ≤ 100) (hF : Fr h₀ L s.heap m) (hN : News h₀ L s.heap news)
    (h : ∀ y h' t' k, cs y = (cs x).take (q + x.length).toNat → (y.length : Int) = q + x.length → Fr h₀ L h' m → News h₀ L h' news → Q (.str y t') { s with heap := h', toks := k })
    (hs : subscripted slice false (.str x t) (.ref s.heap.objs.size) = operate [.ref s.heap.objs.size, .str x t] (getItem (.str x t) (.ref s.heap.objs.size)) := by with_unfolding_all rfl)
    (ht : ∀ r, letTemporaryGo value (.str x t) r = pure () := by intro _; with_unfolding_all rfl) :
    wpAny (model prog w) A (subscriptTail value slice (.str x t) (.ref s.heap.objs.size)) Q E { s with heap := s.heap.push { cls := .type "slice", data := .fields #[.none, B, .none] } } := by
  rcases hB with ⟨e, rfl⟩ | ⟨e, u, rfl⟩
  · refine cutN_nn hz hF hN (fun h' t' k a b => h x h' t' k ?_ (by rw [e, Int.zero_add]) a b) hs ht
    rw [List.take_of_length_le]
    rw [cs_len, e, Int.zero_add]; exact Nat.le_refl _
  · exact cutN_to (by omega) (by omega) hz hF hN h hs ht
end
end Mine
namespace Mine
theorem orV_step {M : Model} {A : Around} {E : Value → Shared → Prop} {P : Sem Value} {Q : Value → Shared → Prop} {s : Shared} (q : Int)
    (h : wpAny M A P (fun B s₂ => OrV q B ∧ ∃ k, s₂ = { s with toks := k }) E s) (h2 : ∀ B k, OrV q B → Q B { s with toks := k }) : wpAny M A P Q E s := by
  refine wpAny_mono h ?_ fun _ _ x => x
  rintro B s₂ ⟨h1, k, rfl⟩
  exact h2 B k h1
end Mine
namespace Mine
theorem lev_sub {x y a b a2 b2 : Str} {p q : Int} (h3 : (cs x).take p.toNat = (cs y).take p.toNat) (h4 : cs a = (cs x).drop p.toNat) (h5 : cs b = (cs y).drop p.toNat)
    (h6 : (cs a).drop (q + a.length).toNat = (cs b).drop (q + b.length).toNat) (h7 : cs a2 = (cs a).take (q + a.length).toNat) (h8 : cs b2 = (cs b).take (q + b.length).toNat) :
    (cs a2).Sublist (cs b2) ↔ (cs x).Sublist (cs y) := by
  rw [h7, h8, strip_post h6, h4, h5, strip_pre h3]
theorem lev_empty {x y a2 b2 : Str} {n : Int} (h : (cs a2).Sublist (cs b2) ↔ (cs x).Sublist (cs y)) (hl : (y.length : Int) - x.length = b2.length - a2.length) (hn : n = 2 * ((y.length : Int) - x.length))
    (h0 : (a2.length : Int) = 0) : 2 * ((a2.length : Int) + b2.length) = n ↔ (cs x).Sublist (cs y) := by
  constructor
  · intro _
    rw [← h]
    have : cs a2 = [] := List.length_eq_zero_iff.mp (by rw [cs_len]; omega)
    rw [this]
    exact List.nil_sublist _
  · intro _
    omega
end Mine
end
section
open PySem PySem.W PyProof.Rows
namespace Mine
theorem ints_of : ∀ (vs : List Value) (ns : List Int), vs.length = ns.length → (∀ (j : Nat) (v : Value), vs[j]? = some v → ∃ t, v = .int (ns.getD j 0) t) → IntsAre vs ns
  | [], [], _, _ => IntsAre.nil
  | [], _ :: _, e, _ => by cases e
  | _ :: _, [], e, _ => by cases e
  | v :: r, n :: ns, e, h => by
    obtain ⟨t, ht⟩ := h 0 v rfl
    subst ht
    exact IntsAre.cons _ _ (ints_of r ns (Nat.succ.inj e) fun j v hj => h (j + 1) v hj)
def evens (m : Nat) : List Int := (List.range m).map fun (i : Nat) => 2 * ((i : Int) + 1)
theorem evens_len (m : Nat) : (evens m).length = m := by simp [evens]
theorem evens_at {m i : Nat} (h : i < m) : (evens m).getD i 0 = 2 * ((i : Int) + 1) := by
  unfold evens
  rw [List.getD_eq_getElem?_getD, List.getElem?_map, List.getElem?_range h]
  rfl
section
variable {prog : Program} {w : World} {A : Around} {E : Value → Shared → Prop} {s : Shared} {h₀ : Heap} {L r : Addr} {m : Str → Option Value} {news : List (Addr × Obj)} {t₀ u₀ v₀ : Tok} {b : Int} {k : Nat} {Q : Value → Shared → Prop}
set_option maxRecDepth 100000 in
theorem evens_list (hh : A.handled = none) (F : Fr h₀ L s.heap m) (N : News h₀ L s.heap news) (hr : IsRange s.heap r 2 b 2 t₀ u₀ v₀) (hb : b = 2 * ((k : Int) + 1)) (hk4 : k ≤ 4)
    (h : ∀ D us c h' tk, Fr h₀ L h' m → News h₀ L h' ((D, listOf (List.toArray us) c) :: news) → (∀ p ∈ news, p.1 < D) → IntsAre us (evens k) → Q (.ref D) { s with heap := h', toks := tk }) :
    wpAny (model prog w) A (call (.type "list") [.ref r]) Q E s := by
  subst hb
  have hk24 : k ≤ 2 ^ 24 := Nat.le_trans hk4 (Nat.le_of_ble_eq_true rfl)
  have hsmall : Builtin.Range.small 2 (2 * ((k : Int) + 1)) 2 = true := by
    rcases k with _ | _ | _ | _ | _ | k <;> first | decide | omega
  have hn : Builtin.Range.rangeSize 2 (2 * ((k : Int) + 1)) 2 = (k : Int) := by
    rcases k with _ | _ | _ | _ | _ | k <;> first | decide | omega
  generalize 2 * ((k : Int) + 1) = b9 at *
  refine call_list_range (n := k) hh hr hsmall hn hk24 fun h' tk acc c hk hD hI => ?_
  have hD' : h'.get? s.heap.objs.size = some (listOf (List.toArray acc.toList) c) := by
    rw [Array.toArray_toList]
    exact hD
  refine h _ acc.toList c h' tk (F.keeps hk) (news_pushed F N hk hD' rfl) (fun p hp => Heap.lt_size (N p hp).1) (ints_of _ _ (by rw [Array.length_toList, evens_len]; exact hI.1) fun j v hj => ?_)
  have hj1 : j < k := by
    have := (List.getElem?_eq_some_iff.mp hj).1
    rw [Array.length_toList] at this
    have := hI.1
    omega
  obtain ⟨t, e⟩ := hI.2 j v (by rw [← hj, Array.getElem?_toList])
  refine ⟨t, ?_⟩
  rw [e, evens_at hj1]
  congr 1
  omega
end
end Mine
end
section
open PySem PySem.W PyProof.Rows
namespace Mine
theorem lower_ab : ∀ c, c = 97 ∨ c = 98 → Txt.lower (⟨#[c]⟩ : Str) = ⟨#[c]⟩ := by
  rintro c (rfl | rfl) <;> decide +kernel
section
variable {prog : Program} {w : World} {A : Around} {E : Value → Shared → Prop} {s : Shared} {t : Tok} {Q : Value → Shared → Prop}
theorem call_lower_ab {c : Nat} (hc : c = 97 ∨ c = 98) (h : ∀ t', Q (.str ⟨#[c]⟩ t') { s with toks := s.toks + 1 }) :
    wpAny (model prog w) A (call (.builtin "str.lower") [.str ⟨#[c]⟩ t]) Q E s := by
  refine SCL.lower ?_ ?_
  · show (1 : Nat) ≤ 5592405
    decide
  · intro _
    rw [lower_ab c hc]
    exact h _
end
def SubR (c d : Nat) (r : Int) : Prop := (r = 0 ∧ c = d) ∨ (r = 2 ∧ c ≠ d)
theorem sub_same {c d : Nat} {r : Int} (hr : SubR c d r) (h : ((⟨#[c]⟩ : Str) == ⟨#[d]⟩) = true) : 0 = r := by
  have e : c = d := by simpa using h
  rcases hr with h | h
  · exact h.1.symm
  · exact absurd e h.2
theorem sub_other {c d : Nat} {r : Int} (hr : SubR c d r) (h : ((⟨#[c]⟩ : Str) == ⟨#[d]⟩) = false) : 2 = r := by
  have e : c ≠ d := fun q => by simp [q] at h
  rcases hr with h | h
  · exact absurd h.2 e
  · exact h.1.symm
theorem sub_no {c d : Nat} (h : ((⟨#[c]⟩ : Str) == ⟨#[d]⟩) = true) (h' : ((⟨#[c]⟩ : Str) == ⟨#[d]⟩) = false) : False := by rw [h] at h'; cases h'
set_option maxRecDepth 100000 in
set_option maxHeartbeats 8000000 in
theorem subC (w : World) (p : Program) (loose : List Str) (mean : ExcName → Option Value) (mg mb : Str → Option Value) (c d : Nat) (t u : Tok) (news : List (Addr × Obj)) (hc : c = 97 ∨ c = 98) (hd' : d = 97 ∨ d = 98) (r : Int) (hr : SubR c d r) :
    CbClaim Challenge.rw_sh0023_01.row.prog w (hd.heap_39 w.params) p loose mean mg mb 76 news [] True [.str ⟨#[c]⟩ t, .str ⟨#[d]⟩ u] (fun t => .int r t) := by
  w_top off
  k_with_none
  k_fill
  dsimp only [CbClaim, CbLists, CbRet]; intros; rename_i hret; have cbI : CbIn 76 := CbIn.mk
  refine wpAny_call ?_
  k_dflt cell_enter
  k_with "call builtin:str.lower" => (refine call_lower_ab (by assumption) ?_; intro _)
  k_with "LeaveK" => refine stop_in ?_
  k_steps
  all_goals (refine stop_out ?_; (try dsimp only))
  all_goals (refine leaveK_ (by k_asm) (by k_asm) ?_; intro kF kN; (try dsimp only); refine cb_retI hret ?_ kF (by refine cb_drop kN ?_; kcj_all))
  all_goals first
    | exact sub_same hr (by assumption)
    | exact sub_other hr (by assumption)
    | (exfalso; exact sub_no (by assumption) (by assumption))
end Mine
end
section
open PySem PySem.W PyProof.Rows
namespace Mine
theorem ab_cut {x a a2 : Str} {n k : Nat} (hx : AB x) (h1 : cs a = (cs x).drop n) (h2 : cs a2 = (cs a).take k) : AB a2 := by
  intro c hc
  rw [h2, h1] at hc
  exact hx c (List.mem_of_mem_drop (List.mem_of_mem_take hc))
def LevOut (A B : List Nat) (j : Nat) (res : Int) (row : List Int) : Prop := RowInv A B j row ∧ (0 < j → res = row.getD (A.length - 1) 0)
theorem lev1 (a : Str) (B : List Nat) : LevOut (cs a) B ([] : List Int).length 0 (evens a.length) := by
  refine ⟨row_start (by rw [evens_len, cs_len]) fun i hi => evens_at (by rw [cs_len] at hi; exact hi), fun h => absurd h (Nat.lt_irrefl 0)⟩
theorem lev2 {A B : List Nat} {pre : List Int} {j res mn : Int} {row : List Int} (h : LevOut A B pre.length res row) (hj : j = 0 + (pre.length : Int)) : InnerInv A B j.toNat ([] : List Int).length (j * 2) (j * 2) mn row := by
  have e : j.toNat = pre.length := by omega
  have e2 : j * 2 = 2 * ((pre.length : Nat) : Int) := by omega
  rw [e, e2]
  exact inner_start h.1
theorem inner_len {a : Str} {B : List Nat} {j i : Nat} {d r mn : Int} {row : List Int} (h : InnerInv (cs a) B j i d r mn row) : row.length = a.length := h.1.trans (cs_len a)
theorem lev_len {a : Str} {B : List Nat} {j : Nat} {r : Int} {row : List Int} (h : LevOut (cs a) B j r row) : row.length = a.length := h.1.1.trans (cs_len a)
def vNew (d r o c : Int) : Int := if d + c < (if o < r then o else r) + 2 then d + c else (if o < r then o else r) + 2
theorem vNew_min (d r o c : Int) : vNew d r o c = min (min r o + 2) (d + c) := by
  have e1 : (if o < r then o else r) = min r o := by
    by_cases h : o < r
    · rw [if_pos h, Int.min_eq_right (Int.le_of_lt h)]
    · rw [if_neg h, Int.min_eq_left (Int.not_lt.mp h)]
  unfold vNew
  rw [e1]
  by_cases h : d + c < min r o + 2
  · rw [if_pos h, Int.min_eq_right (Int.le_of_lt h)]
  · rw [if_neg h, Int.min_eq_left (Int.not_lt.mp h)]
theorem lev3a {a b : Str} {pre pre' : List Int} {j k d r mn mn' c v : Int} {row : List Int} (h : InnerInv (cs a) (cs b) j.toNat pre.length d r mn row) (hk : k = 0 + (pre.length : Int)) (hi : pre.length < ((a.length : Int) - 0).toNat)
    (hc : SubR ((cs b).getD j.toNat 0) ((cs a).getD k.toNat 0) c) (hj : j = 0 + (pre'.length : Int)) (hj' : pre'.length < ((b.length : Int) - 0).toNat) (hv : v = vNew d r (row.getD k.toNat 0) c) (hm : mn' = min mn v) :
    InnerInv (cs a) (cs b) j.toNat (pre ++ [k]).length (row.getD k.toNat 0) v mn' (row.set k.toNat v) := by
  have e : k.toNat = pre.length := by rw [hk, Int.zero_add]; rfl
  have e' : j.toNat = pre'.length := by rw [hj, Int.zero_add]; rfl
  rw [Int.sub_zero] at hi hj'
  rw [vNew_min] at hv
  rw [e] at hc hv ⊢
  have el : (pre ++ [k]).length = pre.length + 1 := List.length_append
  rw [el]
  refine inner_step h (by rw [cs_len]; exact hi) (by rw [cs_len, e']; exact hj') ?_ ?_ hv hm
  · rcases hc with ⟨h1, h2⟩ | ⟨h1, h2⟩
    · exact .inl ⟨h1, h2.symm⟩
    · exact .inr ⟨by rw [h1]; decide, fun q => h2 q.symm⟩
  · rcases hc with ⟨h1, _⟩ | ⟨h1, _⟩ <;> rw [h1] <;> decide
theorem lev3 {a b : Str} {pre pre' : List Int} {j k d r mn c : Int} {row : List Int} (h : InnerInv (cs a) (cs b) j.toNat pre.length d r mn row) (hk : k = 0 + (pre.length : Int)) (hi : pre.length < ((a.length : Int) - 0).toNat)
    (hc : SubR ((cs b).getD j.toNat 0) ((cs a).getD k.toNat 0) c) (hj : j = 0 + (pre'.length : Int)) (hj' : pre'.length < ((b.length : Int) - 0).toNat) (hm : vNew d r (row.getD k.toNat 0) c < mn) :
    InnerInv (cs a) (cs b) j.toNat (pre ++ [k]).length (row.getD k.toNat 0) (vNew d r (row.getD k.toNat 0) c) (vNew d r (row.getD k.toNat 0) c) (row.set k.toNat (vNew d r (row.getD k.toNat 0) c)) :=
  lev3a h hk hi hc hj hj' rfl (by omega)
theorem lev3' {a b : Str} {pre pre' : List Int} {j k d r mn c : Int} {row : List Int} (h : InnerInv (cs a) (cs b) j.toNat pre.length d r mn row) (hk : k = 0 + (pre.length : Int)) (hi : pre.length < ((a.length : Int) - 0).toNat)
    (hc : SubR ((cs b).getD j.toNat 0) ((cs a).getD k.toNat 0) c) (hj : j = 0 + (pre'.length : Int)) (hj' : pre'.length < ((b.length : Int) - 0).toNat) (hm : ¬ vNew d r (row.getD k.toNat 0) c < mn) :
    InnerInv (cs a) (cs b) j.toNat (pre ++ [k]).length (row.getD k.toNat 0) (vNew d r (row.getD k.toNat 0) c) mn (row.set k.toNat (vNew d r (row.getD k.toNat 0) c)) :=
  lev3a h hk hi hc hj hj' rfl (by omega)
theorem lev4 {a b : Str} {pre : List Int} {j d r mn : Int} {row : List Int} {n : Nat} (h : InnerInv (cs a) (cs b) j.toNat n d r mn row) (hn : n = a.length) (ha : (a.length : Int) ≠ 0) (hj : j = 0 + (pre.length : Int)) : LevOut (cs a) (cs b) (pre ++ [j]).length r row := by
  have e : n = (cs a).length := by rw [cs_len, hn]
  subst e
  have q := inner_end h (by rw [cs_len]; omega)
  have e2 : (pre ++ [j]).length = j.toNat + 1 := by simp; omega
  rw [e2]
  exact ⟨q.1, fun _ => q.2.1⟩
theorem lev5 {a b : Str} {pre : List Int} {j d r mn N : Int} {row : List Int} {n : Nat} {S : Prop} (h : InnerInv (cs a) (cs b) j.toNat n d r mn row) (hn : n = a.length) (ha : (a.length : Int) ≠ 0) (hj : j = 0 + (pre.length : Int)) (hj' : pre.length < ((b.length : Int) - 0).toNat)
    (hN : N = 2 * ((b.length : Int) - a.length)) (hm : N < mn) (hS : (cs a).Sublist (cs b) ↔ S) : N + 1 = N ↔ S := by
  have e : n = (cs a).length := by rw [cs_len, hn]
  subst e
  have q := inner_end h (by rw [cs_len]; omega)
  rw [← hS]
  refine ⟨fun h => by omega, fun hs => ?_⟩
  have := row_early q.1 (by rw [cs_len]; omega) (by rw [cs_len]; omega) q.2.2 hs
  rw [cs_len, cs_len] at this
  omega
theorem lev6 {a b : Str} {r N : Int} {row : List Int} {n : Nat} {S : Prop} (h : LevOut (cs a) (cs b) n r row) (hn : n = b.length) (ha : (a.length : Int) ≠ 0) (hb : (b.length : Int) ≠ 0) (hN : N = 2 * ((b.length : Int) - a.length)) (hS : (cs a).Sublist (cs b) ↔ S) : r = N ↔ S := by
  have e : n = (cs b).length := by rw [cs_len, hn]
  subst e
  have hr := h.2 (by rw [cs_len]; omega)
  have := row_final h.1 (by rw [cs_len]; omega) hr
  rw [cs_len, cs_len] at this
  rw [← hS, ← this, hN]
theorem lev_price {a b x y : Str} {N : Int} (_ : (cs a).Sublist (cs b) ↔ (cs x).Sublist (cs y)) (hn : N = 2 * ((y.length : Int) - x.length)) (ha : (a.length : Int) ≠ 0) (hb : (b.length : Int) ≠ 0) (hl : (y.length : Int) - x.length = b.length - a.length) :
    (a.length : Int) ≠ 0 ∧ (b.length : Int) ≠ 0 ∧ N = 2 * ((b.length : Int) - a.length) := ⟨ha, hb, by omega⟩
theorem lev_lens {a b : Str} {S : Prop} (_ : (cs a).Sublist (cs b) ↔ S) (ha : a.length ≤ 4) (hb : b.length ≤ 16) : a.length ≤ 4 ∧ b.length ≤ 16 := ⟨ha, hb⟩
theorem lev_same {x y : Str} (h : (x == y) = true) (hl : x.length < y.length) : False := by
  have e : x = y := by simpa using h
  subst e
  exact Nat.lt_irrefl _ hl
theorem rk_len (n : Nat) : (rangeKs 0 ((n : Int) - 0).toNat).length = n := by rw [rangeKs_length]; omega
section
variable {w : World} {p : Program} {loose : List Str} {mean : ExcName → Option Value} {mg mb : Str → Option Value} {news : List (Addr × Obj)}
  {dp un : Nat} {gd : Option (List Code)} {cn : Str} {cs' : Scope} {ad : Addr} {ccd : Value} {cl : List (Str × Addr)} {outer : List Env} {A₀ : Around} {base h₀ : Heap} {L : Addr} {m : Str → Option Value} {s : Shared} {Q E : Value → Shared → Prop}
theorem sub_call {a b : Str} {i j : Int} {t u : Tok} (hA : AB a) (hB : AB b) (hj : 0 ≤ j ∧ j < b.length) (hi : 0 ≤ i ∧ i < a.length)
    (hBl : Below A₀ base outer h₀) (hF : Fr h₀ L s.heap m) (hX : (hd.heap_39 w.params).In h₀) (hN : News h₀ L s.heap news) (hTop : Top p loose mean mg mb h₀) (hk : cs'.kind = .function)
    (hd : dp + 1 < recursionLimit) (hu : un + 8 < cLine)
    (h : ∀ r t h' tk', SubR ((cs b).getD j.toNat 0) ((cs a).getD i.toNat 0) r → Fr h₀ L h' m → News h₀ L h' news → Q (.int r t) { s with heap := h', toks := tk' }) :
    wpAny (model Challenge.rw_sh0023_01.row.prog w) (ktrTop dp un gd cn cs' L ad ccd cl outer) (call (.ref 76) [.str (Txt.item b j) t, .str (Txt.item a i) u]) Q E s := by
  have g : ∀ (x : Str) (i : Int), AB x → 0 ≤ i ∧ i < x.length → (cs x).getD i.toNat 0 = 97 ∨ (cs x).getD i.toNat 0 = 98 := fun x i hx hi => by
    have hl : i.toNat < (cs x).length := by rw [cs_len]; omega
    rw [List.getD_eq_getElem?_getD, List.getElem?_eq_getElem hl]
    exact hx _ (List.getElem_mem hl)
  rw [item_pos hj.1 hj.2, item_pos hi.1 hi.2]
  have hr : ∃ r, SubR ((cs b).getD j.toNat 0) ((cs a).getD i.toNat 0) r := by
    by_cases e : (cs b).getD j.toNat 0 = (cs a).getD i.toNat 0
    · exact ⟨0, .inl ⟨rfl, e⟩⟩
    · exact ⟨2, .inr ⟨rfl, e⟩⟩
  obtain ⟨r, hr⟩ := hr
  exact subC w p loose mean mg mb _ _ t u news (g b j hB hj) (g a i hA hi) r hr dp un gd cn cs' ad ccd cl outer A₀ base h₀ L m s Q E hBl hF hX hN hTop hk trivial hd hu (fun t h' tk' F N => h r t h' tk' hr F N)
end
end Mine
end
section
open PySem PySem.W PyProof.Rows Mine
local macro_rules | `(tactic| walk_at $s:str) => `(tactic| k_extra $s)
section
open PySem PySem.W PyProof.Rows
namespace Mine
local macro_rules | `(tactic| kst_in) => `(tactic| kst_inAny)
local macro_rules | `(tactic| kcj_all) => `(tactic| (intro q hq; simp only [List.mem_cons, List.mem_append, hq, true_or, or_true]))
set_option maxRecDepth 100000 in
set_option maxHeartbeats 8000000 in
theorem levC (w : World) (p : Program) (loose : List Str) (mean : ExcName → Option Value) (mg mb : Str → Option Value) (x y : Str) (t u : Tok) (n : Int) (v : Tok) (news : List (Addr × Obj)) (hx0 : 1 ≤ x.length) (hx : x.length ≤ 4) (hy : y.length ≤ 16) (hlt : x.length < y.length) (hn : n = 2 * ((y.length : Int) - x.length)) (hxa : AB x) (hya : AB y) :
   ∀ (dp un : Nat) (gd : Option (List Code)) (cn : Str) (cs' : Scope) (a : Addr) (ccd : Value) (cl : List (Str × Addr)) (outer : List Env) (A₀ : Around) (base h₀ : Heap) (L : Addr) (m : Str → Option Value) (s : Shared) (Q E : Value → Shared → Prop),
    Below A₀ base outer h₀ → Fr h₀ L s.heap m → (hd.heap_39 w.params).In h₀ → News h₀ L s.heap news → Top p loose mean mg mb h₀ → cs'.kind = .function →
    dp + 10 < recursionLimit → un + 40 < cLine →
    (∀ (R : Int) (t : Tok) (h' : Heap) (tk' : Nat), (R = n ↔ (cs x).Sublist (cs y)) → Fr h₀ L h' m → News h₀ L h' news → Q (.int R t) { s with heap := h', toks := tk' }) →
      wpAny (model Challenge.rw_sh0023_01.row.prog w) (ktrTop dp un gd cn cs' L a ccd cl outer) (call (.ref 83) [.str x t, .str y u, .int n v]) Q E s := by
  w_top off
  k_with_none
  k_with "exec While BoolOp" => (refine stop_in ?_)
  k_with "exec While" => (refine stop_in ?_)
  k_with "subscriptTail Name Slice str ref" => (((with_reducible rename Fr _ _ _ _ => cF'); (with_reducible rename News _ _ _ _ => cN'); (first | (with_reducible refine cutN_or (s := ⟨_, _, _, _, _⟩) (by assumption) ?c0 ?c1 ?c2 cF' cN' ?_; (case c0 => omega); (case c1 => omega); (case c2 => omega); intro _ _ _ _ _ _ _ _) | (with_reducible refine cutN_from (s := ⟨_, _, _, _, _⟩) ?c0 ?c1 ?c2 cF' cN' ?_; (case c0 => omega); (case c1 => omega); (case c2 => omega); intro _ _ _ _ _ _ _ _) | (with_reducible refine cutN_to (s := ⟨_, _, _, _, _⟩) ?c0 ?c1 ?c2 cF' cN' ?_; (case c0 => omega); (case c1 => omega); (case c2 => omega); intro _ _ _ _ _ _ _ _) | (with_reducible refine cutN_nn (s := ⟨_, _, _, _, _⟩) ?c2 cF' cN' ?_; (case c2 => omega); intro _ _ _ _ _))))
  k_with "subscriptTail Name BinOp str int" => (((refine item_str (fitsSsize_of (N := 9223372036854775808) (by omega) (by omega) (Int.le_refl _)) (by omega) (by omega) ?_; intro _)))
  k_with "execs cons" => (((with_reducible refine wpAny_execs_cons ?_); try dsimp only))
  k_with "call type:list" => (((rename IsRange _ _ _ _ _ _ _ _ => rgX); (with_unfolding_all refine' evens_list ?k0 ?k1 ?k2 ?k3 ?k4 ?k5 ?_; (case k0 => rfl); (case k1 => k_asm); (case k2 => k_asm); (case k3 => exact rgX); (case k4 => (with_reducible rfl)); (case k5 => omega); k_whole); intro D' vs' c' h' tk' F' N' l1 hI'; (try k_lt l1); (try k_sweep)))
  k_with "subscriptTail Name Name str int" => (((refine item_str (fitsSsize_of (N := 9223372036854775808) (by omega) (by omega) (Int.le_refl _)) (by omega) (by omega) ?_; intro _)))
  k_fill
  intros
  rename_i hret
  refine wpAny_call ?_
  k_dflt cell_enter
  k_with "LeaveK" => refine stop_in ?_
  k_steps
  · exact (lev_same (by assumption) hlt).elim
  refine stop_out ?_
  rename Fr _ _ _ _ => F0
  rename News _ _ _ _ => N0
  refine' while_two (Str.ofString "pre") (PreI x y) (fun p => x.length - p.toNat) 0 ?t0 F0 N0 ?h1 ?h2 ?turn ?done ?hE
  case h1 => rfl
  case h2 => exact ⟨by decide, by omega, by omega, by simp⟩
  case hE => passes_own
  case turn =>
    clear F0 N0
    intro p9 tp9 h9 tk9 hI F1 N1
    have hI2 := hI
    obtain ⟨hp0, hp1, hp2, _⟩ := hI2
    (try dsimp only)
    k_with "EndW" => refine stop_in ?_
    k_steps
    all_goals (try refine stop_out ?_)
    all_goals (rename Fr _ _ _ _ => F2)
    all_goals (rename News _ _ _ _ => N2)
    · refine' endW_mk (Q := fun _ _ => True) F2 N2 ?s1 ?y1 ?z1 ?i1
      case s1 => exact fun q hq => hq
      case y1 => rfl
      case z1 => (intro z hz1; simp only [if_neg hz1])
      case i1 => exact ⟨pre_step hI (by omega) (by omega) (by assumption), by omega⟩
    all_goals
      refine' endW_done F2 N2 (fun q hq => hq) ?y2 ?z2 hI
      case y2 => rfl
      case z2 => (intro z hz1; simp only [if_neg hz1])
  case done =>
    clear F0 N0
    intro p9 tp9 h9 tk9 hI F1 N1
    obtain ⟨hp0, hp1, hp2, hp3⟩ := hI
    k_steps
    refine stop_out ?_
    rename Fr _ _ _ _ => F3
    rename News _ _ _ _ => N3
    refine' while_two (Str.ofString "post") (PostJ x y p9 ?a9 ?b9) (fun q => (20 + q).toNat) 0 ?t02 F3 N3 ?h3 ?h4 ?turn2 ?done2 ?hE2
    case h4 => exact post_start (by assumption) (by assumption)
    case h3 => rfl
    case hE2 => passes_own
    case turn2 =>
      clear F3 N3
      intro p9 tp9 h9 tk9 hI F1 N1
      have hI2 := hI
      obtain ⟨⟨hq0, hq1, hq2, _⟩, _⟩ := hI2
      (try dsimp only)
      k_with "EndW" => refine stop_in ?_
      k_steps
      all_goals (try refine stop_out ?_)
      all_goals (rename Fr _ _ _ _ => F2)
      all_goals (rename News _ _ _ _ => N2)
      all_goals first
        | (refine' endW_done F2 N2 (fun q hq => hq) ?y3 ?z3 hI
           case y3 => rfl
           case z3 => (intro z hz1; simp only [if_neg hz1]))
        | (refine' endW_mk (Q := fun _ _ => True) F2 N2 (fun q hq => hq) ?y4 ?z4 ?i4
           case y4 => rfl
           case z4 => (intro z hz1; simp only [if_neg hz1])
           case i4 => exact ⟨⟨post_step hI.1 (by omega) (by omega) (by first | assumption | (exfalso; omega)), hI.2⟩, by omega⟩)
    case done2 =>
      clear F3 N3
      intro q9 tp9 h9 tk9 hI F1 N1
      obtain ⟨⟨hq0, hq1, hq2, hq3⟩, hq4, hq5⟩ := hI
      (try dsimp only)
      k_with "eval BoolOp" => refine stop_in ?_
      k_steps
      refine stop_out ?_
      refine orV_step q9 ?or1 ?or2
      case or1 =>
        k_with_none
        k_with "exec While BoolOp" => (refine stop_in ?_)
        k_with "exec While" => (refine stop_in ?_)
        k_with "subscriptTail Name Slice str ref" => (((with_reducible rename Fr _ _ _ _ => cF'); (with_reducible rename News _ _ _ _ => cN'); (first | (with_reducible refine cutN_or (s := ⟨_, _, _, _, _⟩) (by assumption) ?c0 ?c1 ?c2 cF' cN' ?_; (case c0 => omega); (case c1 => omega); (case c2 => omega); intro _ _ _ _ _ _ _ _) | (with_reducible refine cutN_from (s := ⟨_, _, _, _, _⟩) ?c0 ?c1 ?c2 cF' cN' ?_; (case c0 => omega); (case c1 => omega); (case c2 => omega); intro _ _ _ _ _ _ _ _) | (with_reducible refine cutN_to (s := ⟨_, _, _, _, _⟩) ?c0 ?c1 ?c2 cF' cN' ?_; (case c0 => omega); (case c1 => omega); (case c2 => omega); intro _ _ _ _ _ _ _ _) | (with_reducible refine cutN_nn (s := ⟨_, _, _, _, _⟩) ?c2 cF' cN' ?_; (case c2 => omega); intro _ _ _ _ _))))
        k_with "subscriptTail Name BinOp str int" => (((refine item_str (fitsSsize_of (N := 9223372036854775808) (by omega) (by omega) (Int.le_refl _)) (by omega) (by omega) ?_; intro _)))
        k_with "execs cons" => (((with_reducible refine wpAny_execs_cons ?_); try dsimp only))
        k_with "call type:list" => (((rename IsRange _ _ _ _ _ _ _ _ => rgX); (with_unfolding_all refine' evens_list ?k0 ?k1 ?k2 ?k3 ?k4 ?k5 ?_; (case k0 => rfl); (case k1 => k_asm); (case k2 => k_asm); (case k3 => exact rgX); (case k4 => (with_reducible rfl)); (case k5 => omega); k_whole); intro D' vs' c' h' tk' F' N' l1 hI'; (try k_lt l1); (try k_sweep)))
        k_with "subscriptTail Name Name str int" => (((refine item_str (fitsSsize_of (N := 9223372036854775808) (by omega) (by omega) (Int.le_refl _)) (by omega) (by omega) ?_; intro _)))
        k_steps
        all_goals first
          | exact .inl ⟨by assumption, rfl⟩
          | exact .inr ⟨by assumption, _, rfl⟩
      intro B1 k1 hB1
      (try dsimp only)
      k_with "eval BoolOp" => refine stop_in ?_
      k_steps
      refine stop_out ?_
      refine orV_step q9 ?or3 ?or4
      case or3 =>
        k_with_none
        k_with "exec While BoolOp" => (refine stop_in ?_)
        k_with "exec While" => (refine stop_in ?_)
        k_with "subscriptTail Name Slice str ref" => (((with_reducible rename Fr _ _ _ _ => cF'); (with_reducible rename News _ _ _ _ => cN'); (first | (with_reducible refine cutN_or (s := ⟨_, _, _, _, _⟩) (by assumption) ?c0 ?c1 ?c2 cF' cN' ?_; (case c0 => omega); (case c1 => omega); (case c2 => omega); intro _ _ _ _ _ _ _ _) | (with_reducible refine cutN_from (s := ⟨_, _, _, _, _⟩) ?c0 ?c1 ?c2 cF' cN' ?_; (case c0 => omega); (case c1 => omega); (case c2 => omega); intro _ _ _ _ _ _ _ _) | (with_reducible refine cutN_to (s := ⟨_, _, _, _, _⟩) ?c0 ?c1 ?c2 cF' cN' ?_; (case c0 => omega); (case c1 => omega); (case c2 => omega); intro _ _ _ _ _ _ _ _) | (with_reducible refine cutN_nn (s := ⟨_, _, _, _, _⟩) ?c2 cF' cN' ?_; (case c2 => omega); intro _ _ _ _ _))))
        k_with "subscriptTail Name BinOp str int" => (((refine item_str (fitsSsize_of (N := 9223372036854775808) (by omega) (by omega) (Int.le_refl _)) (by omega) (by omega) ?_; intro _)))
        k_with "execs cons" => (((with_reducible refine wpAny_execs_cons ?_); try dsimp only))
        k_with "call type:list" => (((rename IsRange _ _ _ _ _ _ _ _ => rgX); (with_unfolding_all refine' evens_list ?k0 ?k1 ?k2 ?k3 ?k4 ?k5 ?_; (case k0 => rfl); (case k1 => k_asm); (case k2 => k_asm); (case k3 => exact rgX); (case k4 => (with_reducible rfl)); (case k5 => omega); k_whole); intro D' vs' c' h' tk' F' N' l1 hI'; (try k_lt l1); (try k_sweep)))
        k_with "subscriptTail Name Name str int" => (((refine item_str (fitsSsize_of (N := 9223372036854775808) (by omega) (by omega) (Int.le_refl _)) (by omega) (by omega) ?_; intro _)))
        k_steps
        all_goals first
          | exact .inl ⟨by assumption, rfl⟩
          | exact .inr ⟨by assumption, _, rfl⟩
      intro B1 k1 hB1
      (try dsimp only)
      k_with_none
      k_with "exec While BoolOp" => (refine stop_in ?_)
      k_with "exec While" => (refine stop_in ?_)
      k_with "subscriptTail Name Slice str ref" => (((with_reducible rename Fr _ _ _ _ => cF'); (with_reducible rename News _ _ _ _ => cN'); (first | (with_reducible refine cutN_or (s := ⟨_, _, _, _, _⟩) (by assumption) ?c0 ?c1 ?c2 cF' cN' ?_; (case c0 => omega); (case c1 => omega); (case c2 => omega); intro _ _ _ _ _ _ _ _) | (with_reducible refine cutN_from (s := ⟨_, _, _, _, _⟩) ?c0 ?c1 ?c2 cF' cN' ?_; (case c0 => omega); (case c1 => omega); (case c2 => omega); intro _ _ _ _ _ _ _ _) | (with_reducible refine cutN_to (s := ⟨_, _, _, _, _⟩) ?c0 ?c1 ?c2 cF' cN' ?_; (case c0 => omega); (case c1 => omega); (case c2 => omega); intro _ _ _ _ _ _ _ _) | (with_reducible refine cutN_nn (s := ⟨_, _, _, _, _⟩) ?c2 cF' cN' ?_; (case c2 => omega); intro _ _ _ _ _))))
      k_with "subscriptTail Name BinOp str int" => (((refine item_str (fitsSsize_of (N := 9223372036854775808) (by omega) (by omega) (Int.le_refl _)) (by omega) (by omega) ?_; intro _)))
      k_with "execs cons" => (((with_reducible refine wpAny_execs_cons ?_); try dsimp only))
      k_with "call type:list" => (((rename IsRange _ _ _ _ _ _ _ _ => rgX); (with_unfolding_all refine' evens_list ?k0 ?k1 ?k2 ?k3 ?k4 ?k5 ?_; (case k0 => rfl); (case k1 => k_asm); (case k2 => k_asm); (case k3 => exact rgX); (case k4 => (with_reducible rfl)); (case k5 => omega); k_whole); intro D' vs' c' h' tk' F' N' l1 hI'; (try k_lt l1); (try k_sweep)))
      k_with "subscriptTail Name Name str int" => (((refine item_str (fitsSsize_of (N := 9223372036854775808) (by omega) (by omega) (Int.le_refl _)) (by omega) (by omega) ?_; intro _)))
      k_with "pyIter ref" => refine stop_in ?_
      k_with "LeaveK" => refine stop_in ?_
      k_steps
      rotate_left 1
      · have hsub := lev_sub hp3 hq4 hq5 hq3 (by assumption) (by assumption)
        refine stop_out ?_
        (try dsimp only)
        refine leaveK_ (by k_asm) (by k_asm) ?_
        intro kF kN
        (try dsimp only)
        refine hret _ _ _ _ ?_ kF kN
        first
          | exact lev_empty hsub (by omega) hn (by assumption)
          | (exfalso; omega)
      · have hsub := lev_sub hp3 hq4 hq5 hq3 (by assumption) (by assumption)
        refine stop_out ?_
        (try dsimp only)
        refine leaveK_ (by k_asm) (by k_asm) ?_
        intro kF kN
        (try dsimp only)
        refine hret _ _ _ _ ?_ kF kN
        first
          | exact lev_empty hsub (by omega) hn (by assumption)
          | (exfalso; omega)
      refine stop_out ?_
      have hsub := lev_sub hp3 hq4 hq5 hq3 (by assumption) (by assumption)
      have hA2 := ab_cut hxa hq4 (by assumption)
      have hB2 := ab_cut hya hq5 (by assumption)
      obtain ⟨hna, hnb, hprice⟩ := lev_price hsub hn (by omega) (by omega) (by omega)
      have hle := lev_lens hsub (by omega) (by omega)
      clear hq0 hq1 hq2 hq3 hp0 hp1 hp2 hp3
      iterate 2 (rename _ = List.take _ _ => hz; clear hz)
      iterate 4 (rename cs _ = List.drop _ _ => hz; clear hz)
      iterate 2 (rename (Str.length _ : Int) = (_ : Int) - _ => hz; clear hz)
      iterate 2 (rename (Str.length _ : Int) = (_ : Int) + _ => hz; clear hz)
      k_with_none
      k_with "exec While BoolOp" => (refine stop_in ?_)
      k_with "exec While" => (refine stop_in ?_)
      k_with "subscriptTail Name Slice str ref" => (((with_reducible rename Fr _ _ _ _ => cF'); (with_reducible rename News _ _ _ _ => cN'); (first | (with_reducible refine cutN_or (s := ⟨_, _, _, _, _⟩) (by assumption) ?c0 ?c1 ?c2 cF' cN' ?_; (case c0 => omega); (case c1 => omega); (case c2 => omega); intro _ _ _ _ _ _ _ _) | (with_reducible refine cutN_from (s := ⟨_, _, _, _, _⟩) ?c0 ?c1 ?c2 cF' cN' ?_; (case c0 => omega); (case c1 => omega); (case c2 => omega); intro _ _ _ _ _ _ _ _) | (with_reducible refine cutN_to (s := ⟨_, _, _, _, _⟩) ?c0 ?c1 ?c2 cF' cN' ?_; (case c0 => omega); (case c1 => omega); (case c2 => omega); intro _ _ _ _ _ _ _ _) | (with_reducible refine cutN_nn (s := ⟨_, _, _, _, _⟩) ?c2 cF' cN' ?_; (case c2 => omega); intro _ _ _ _ _))))
      k_with "subscriptTail Name BinOp str int" => (((refine item_str (fitsSsize_of (N := 9223372036854775808) (by omega) (by omega) (Int.le_refl _)) (by omega) (by omega) ?_; intro _)))
      k_with "execs cons" => (((with_reducible refine wpAny_execs_cons ?_); try dsimp only))
      k_with "call type:list" => (((rename IsRange _ _ _ _ _ _ _ _ => rgX); (with_unfolding_all refine' evens_list ?k0 ?k1 ?k2 ?k3 ?k4 ?k5 ?_; (case k0 => rfl); (case k1 => k_asm); (case k2 => k_asm); (case k3 => exact rgX); (case k4 => (with_reducible rfl)); (case k5 => omega); k_whole); intro D' vs' c' h' tk' F' N' l1 hI'; (try k_lt l1); (try k_sweep)))
      k_with "subscriptTail Name Name str int" => (((refine item_str (fitsSsize_of (N := 9223372036854775808) (by omega) (by omega) (Int.le_refl _)) (by omega) (by omega) ?_; intro _)))
      k_with "LeaveK" => refine stop_in ?_
      k_with "pyIter ref" => (k_of "bindex" => k_state_given ["a", "b"] (fun a b pre res row => LevOut (cs a) (cs b) pre.length res row) "result" "row")
      k_with "pyIter ref" => (k_of "index" => k_state_given ["a", "b", "bindex"] (fun a b j pre d r mn row => InnerInv (cs a) (cs b) j.toNat pre.length d r mn row) "distance" "result" "minimum" "row")
      k_with "subscriptTail Name Name ref int" => ((with_unfolding_all refine' item_list_ints ?k1 ?k2 ?k3 ?k4 ?k5 ?_; (case k1 => is_list); (case k2 => l_ints); (case k3 => omega); (case k4 => omega); (case k5 => omega); k_whole); intro _)
      k_with "setItem ref int int" => (k_dflt (refine' ksa_set ?k1 ?k2 ?k3 ?k4 ?k5 ?k6 ?k7 ?_; (case k1 => k_asm); (case k2 => k_asm); (case k3 => k_upd); (case k4 => with_reducible assumption); (case k5 => omega); (case k6 => omega); (case k7 => omega); k_whole); intro h' F' N' hi' hl' hs'; (try k_sweep))
      k_with "state" => first
        | exact lev1 _ _
        | exact lev2 (by with_reducible assumption) (by with_reducible assumption)
      k_with "call ref" => (refine stop_in ?_)
      k_with "InvEndN" => refine stop_in ?_
      k_steps
      rotate_left 1
      · refine stop_out ?_
        (try dsimp only)
        refine leaveK_ (by k_asm) (by k_asm) ?_
        intro kF kN
        (try dsimp only)
        refine hret _ _ _ _ ?_ kF (by refine cb_drop kN ?_; kcj_all)
        exact lev5 (by with_reducible assumption) (rk_len _) hna (by with_reducible assumption) (by with_reducible assumption) hprice (by assumption) hsub
      · refine stop_out ?_
        k_with "state" => first
          | exact lev4 (by with_reducible assumption) (rk_len _) hna (by with_reducible assumption)
        kst_close
      · refine stop_out ?_
        (try dsimp only)
        refine leaveK_ (by k_asm) (by k_asm) ?_
        intro kF kN
        (try dsimp only)
        refine hret _ _ _ _ ?_ kF (by refine cb_drop kN ?_; kcj_all)
        exact lev6 (by with_reducible assumption) (rk_len _) hna hnb hprice hsub
      refine stop_out ?_
      (try dsimp only)
      refine' sub_call hA2 hB2 ⟨by omega, by omega⟩ ⟨by omega, by omega⟩ ?gB ?gF ?gX ?gN ?gT ?gk ?gd ?gu ?_
      case gB => k_asm
      case gF => k_asm
      case gX => k_asm
      case gN => k_asm
      case gT => k_asm
      case gk => exact rfl
      case gd => (dsimp only; omega)
      case gu => (dsimp only; omega)
      intro c9 tc9 h9 tk9 hc9 F9 N9
      have hrl := inner_len kInv
      (try dsimp only)
      (try k_fold)
      k_with "state" => first
        | exact lev3 kInv (by with_reducible assumption) (by with_reducible assumption) hc9 (by with_reducible assumption) (by with_reducible assumption) (by assumption)
        | exact lev3' kInv (by with_reducible assumption) (by with_reducible assumption) hc9 (by with_reducible assumption) (by with_reducible assumption) (by assumption)
        | exact lev3' kInv (by with_reducible assumption) (by with_reducible assumption) hc9 (by with_reducible assumption) (by with_reducible assumption) (Int.not_lt.mpr (by assumption))
      k_steps
      all_goals refine stop_out ?_
      all_goals kst_close
end Mine
end
end
section
open PySem PySem.W PyProof.Rows
namespace Mine
def wv : List Nat → List Nat → List (List Nat)
  | [], v => [v]
  | a :: u, [] => [a :: u]
  | a :: u, b :: v => ((wv u (b :: v)).map fun x => a :: x) ++ ((wv (a :: u) v).map fun x => b :: x) ++ if a = b then (wv u v).map fun x => a :: x else []
termination_by u v => u.length + v.length
def rv (x : Str) : List Nat := (cs x).reverse
theorem wv_nilL (v : List Nat) : wv [] v = [v] := by rw [wv]
theorem wv_nilR (u : List Nat) : wv u [] = [u] := by cases u <;> rw [wv]
def sumL (l : List Nat) : Nat := l.sum
theorem sum_map_add {α : Type} (l : List α) (f g : α → Nat) : (l.map fun x => f x + g x).sum = (l.map f).sum + (l.map g).sum := by
  induction l with
  | nil => rfl
  | cons a l ih => simp only [List.map_cons, List.sum_cons, ih]; omega
theorem cons_sum (l : List (List Nat)) (a d : Nat) (r : List Nat) : (l.map fun x => C (a :: x) (d :: r)).sum = (l.map fun x => C (a :: x) r).sum + if a = d then (l.map fun x => C x r).sum else 0 := by
  by_cases h : a = d
  · simp only [C, if_pos h]
    exact sum_map_add _ _ _
  · simp only [C, if_neg h, Nat.add_zero]
theorem cfl : ∀ (r u v : List Nat), C u r * C v r = ((wv u v).map fun x => C x r).sum
  | r, [], v => by rw [wv_nilL, C_nil]; simp
  | r, a :: u, [] => by rw [wv_nilR, C_nil]; simp
  | [], a :: u, b :: v => by
    rw [wv]
    have h : ∀ (l : List (List Nat)) (a : Nat), ((l.map fun x => a :: x).map fun x => C x []).sum = 0 := fun l a => by
      induction l with
      | nil => rfl
      | cons x l ih => simp only [List.map_cons, List.sum_cons, ih, C]
    rw [List.map_append, List.map_append, List.sum_append, List.sum_append, h, h]
    split
    · rw [h]; rfl
    · rfl
  | d :: r, a :: u, b :: v => by
    have i0 := cfl r (a :: u) (b :: v)
    have i1 := cfl r u (b :: v)
    have i2 := cfl r (a :: u) v
    have i3 := cfl r u v
    rw [wv] at i0 ⊢
    simp only [List.map_append, List.map_map, List.sum_append] at i0 ⊢
    have e : ∀ (l : List (List Nat)) (a : Nat) (r : List Nat), (l.map ((fun x => C x r) ∘ fun x => a :: x)).sum = (l.map fun x => C (a :: x) r).sum := fun _ _ _ => rfl
    rw [e, e] at i0 ⊢
    rw [cons_sum, cons_sum, ← i1, ← i2]
    have hL : C (a :: u) (d :: r) = C (a :: u) r + if a = d then C u r else 0 := rfl
    have hR : C (b :: v) (d :: r) = C (b :: v) r + if b = d then C v r else 0 := rfl
    rw [hL, hR]
    by_cases hab : a = b
    · subst hab
      simp only [if_true, List.map_map] at i0 ⊢
      rw [e] at i0 ⊢
      rw [cons_sum, ← i3]
      by_cases h : a = d
      · simp only [if_pos h] at i0 ⊢
        simp only [Nat.add_mul, Nat.mul_add]
        omega
      · simp only [if_neg h, Nat.add_zero] at i0 ⊢
        exact i0
    · simp only [if_neg hab, List.map_nil, List.sum_nil, Nat.add_zero] at i0 ⊢
      by_cases h : a = d
      · have h' : ¬ b = d := fun q => hab (h.trans q.symm)
        simp only [if_pos h, if_neg h', Nat.add_zero] at i0 ⊢
        simp only [Nat.add_mul]
        omega
      · by_cases h' : b = d
        · simp only [if_neg h, if_pos h', Nat.add_zero] at i0 ⊢
          simp only [Nat.mul_add]
          omega
        · simp only [if_neg h, if_neg h', Nat.add_zero] at i0 ⊢
          exact i0
termination_by r u v => r.length + u.length + v.length
theorem C_two_le : ∀ (r : List Nat) (p q : Nat), C [p, q] r ≤ C [p] r * C [q] r
  | [], _, _ => Nat.zero_le _
  | d :: r, p, q => by
    have ih := C_two_le r p q
    simp only [C, C_nil]
    by_cases h1 : p = d
    · simp only [if_pos h1]
      by_cases h2 : q = d
      · simp only [if_pos h2, Nat.add_mul, Nat.mul_add]; omega
      · simp only [if_neg h2, Nat.add_mul, Nat.add_zero]; omega
    · simp only [if_neg h1, Nat.add_zero]
      exact Nat.le_trans ih (Nat.mul_le_mul_left _ (Nat.le_add_right _ _))
theorem C_three_le : ∀ (r : List Nat) (p q t : Nat), C [p, q, t] r ≤ C [t] r * C [p, q] r
  | [], _, _, _ => Nat.zero_le _
  | d :: r, p, q, t => by
    have ih := C_three_le r p q t
    have i2 := C_two_le r q t
    simp only [C, C_nil]
    by_cases h1 : p = d
    · simp only [if_pos h1]
      have : C [q, t] r ≤ C [t] r * C [q] r := by rw [Nat.mul_comm]; exact i2
      by_cases h2 : t = d
      · simp only [if_pos h2, Nat.add_mul, Nat.mul_add]; omega
      · simp only [if_neg h2, Nat.mul_add, Nat.add_zero]; omega
    · simp only [if_neg h1, Nat.add_zero]
      exact Nat.le_trans ih (Nat.mul_le_mul_right _ (Nat.le_add_right _ _))
theorem ms : ∀ (r : List Nat) (p q t : Nat), C [q] r * C [p, q, t] r ≤ C [p, q] r * C [q, t] r
  | [], _, _, _ => Nat.zero_le _
  | d :: r, p, q, t => by
    have ih := ms r p q t
    have i3 := C_three_le r p q t
    have i2 := C_two_le r p q
    have j2 := C_two_le r q t
    simp only [C, C_nil]
    generalize C [q] r = x1 at *
    generalize C [p, q, t] r = x2 at *
    generalize C [p, q] r = x3 at *
    generalize C [q, t] r = x4 at *
    generalize C [p] r = x5 at *
    generalize C [t] r = x6 at *
    have m1 : x3 * x6 = x6 * x3 := Nat.mul_comm _ _
    by_cases h1 : p = d <;> by_cases h2 : q = d <;> simp only [h1, h2, if_true, if_false, Nat.add_zero, Nat.add_mul, Nat.mul_add, Nat.one_mul, Nat.mul_one]
    all_goals omega
end Mine
end
section
open PySem PySem.W PyProof.Rows
namespace Mine
theorem strs_at : ∀ {vs : List Value} {xs : List Str}, StrsAre vs xs → ∀ (i : Nat) (v : Value), vs[i]? = some v → ∃ z t, xs[i]? = some z ∧ v = .str z t
  | _, _, .nil, i, v, h => by simp at h
  | _, _, .cons z t r, 0, v, h => ⟨z, t, by simp, by simpa using h.symm⟩
  | _, _, .cons z t r, i + 1, v, h => by
    obtain ⟨y, u, e1, e2⟩ := strs_at r i v (by simpa using h)
    exact ⟨y, u, by simpa using e1, e2⟩
section
variable {prog : Program} {w : World} {A : Around} {h₀ : Heap} {L : Addr} {m : Str → Option Value} {env : Env} {elt : Expr} {x : Str} {scope : Scope} {cl : List (Str × Addr)} {s : Shared} {S : List (Addr × Obj) → Prop} {Fin : List Value → List (Addr × Obj) → Prop} {news : List (Addr × Obj)}
theorem strs_rest {vs : List Value} {xs : List Str} (g : Str → Str) (hx : StrsAre vs xs)
    (turn : ∀ z t I oI C oC D m₂ ys h tk (E' : Value → Shared → Prop), z ∈ xs → LCg.NsObj oC m₂ → m₂ x = some (.str z t) → Fr h₀ L h m → News h₀ L h ((I, oI) :: (C, oC) :: (D, LCg.lst ys) :: news) → LCg.Off3 I C D news → ((@Ne Nat I C) ∧ (@Ne Nat I D) ∧ (@Ne Nat C D)) →
      wpAny (model prog w) A (eval elt (compEnvC scope cl C env)) (LCg.CompEnd h₀ L m { s with heap := h, toks := tk } I oI C oC D (LCg.lst ys) S (fun y news' => KCtEl news (g z) y news')) E' { s with heap := h, toks := tk })
    (fin : ∀ ys, StrsAre ys (xs.map g) → Fin ys news) : LCg.CompRest prog w A h₀ L m env elt x scope cl s S (fun i v => vs.toArray[i]? = some v) Fin vs.toArray.size 0 [] news := by
  have hl : vs.toArray.size = xs.length := by rw [List.size_toArray]; exact hx.length
  rw [hl]
  have key : ∀ (j i : Nat) (ys : List Value), i + j = xs.length → StrsAre ys ((xs.take i).map g) → LCg.CompRest prog w A h₀ L m env elt x scope cl s S (fun i v => vs.toArray[i]? = some v) Fin j i ys news := by
    intro j
    induction j with
    | zero =>
      intro i ys hi hy
      have e : i = xs.length := by omega
      subst e
      rw [List.take_length] at hy
      exact LCg.CompRest.zero (fin ys hy)
    | succ j ih =>
      intro i ys hi hy
      refine LCg.CompRest.succ ?_
      intro v I oI C oC D m₂ h tk E' hv hC hm F N off ne
      obtain ⟨z, t, hk, hv'⟩ := strs_at hx i v (by simpa using hv)
      rw [hv'] at hm
      refine wpAny_mono (turn z t I oI C oC D m₂ ys h tk E' (List.mem_of_getElem? hk) hC hm F N off ne) (fun y s₂ hq => ?_) fun _ _ e => e
      obtain ⟨h', tk', nw, e, F', N', off', hS, hn, t', hy'⟩ := hq
      rw [hn] at N' off' hS
      refine ⟨h', tk', news, e, F', N', off', hS, ?_⟩
      rw [hy']
      refine ih (i + 1) _ (by omega) ?_
      rw [List.take_add_one, hk]
      simpa using kct_snoc hy
  exact key xs.length 0 [] (by omega) (by simp only [List.take_zero, List.map_nil]; exact .nil)
end
theorem wv_len : ∀ (u v : List Nat), ∀ x ∈ wv u v, x.length ≤ u.length + v.length
  | [], v => fun x hx => by rw [wv_nilL] at hx; rw [List.mem_singleton.mp hx]; simp
  | a :: u, [] => fun x hx => by rw [wv_nilR] at hx; rw [List.mem_singleton.mp hx]; simp
  | a :: u, b :: v => fun x hx => by
    rw [wv] at hx
    simp only [List.length_cons]
    rcases List.mem_append.mp hx with hx | hx
    · rcases List.mem_append.mp hx with hx | hx
      · obtain ⟨z, hz, rfl⟩ := List.mem_map.mp hx
        have := wv_len u (b :: v) z hz
        simp only [List.length_cons] at this ⊢
        omega
      · obtain ⟨z, hz, rfl⟩ := List.mem_map.mp hx
        have := wv_len (a :: u) v z hz
        simp only [List.length_cons] at this ⊢
        omega
    · by_cases h : a = b
      · rw [if_pos h] at hx
        obtain ⟨z, hz, rfl⟩ := List.mem_map.mp hx
        have := wv_len u v z hz
        simp only [List.length_cons] at this ⊢
        omega
      · rw [if_neg h] at hx
        cases hx
termination_by u v => u.length + v.length
theorem wv_count : ∀ (u v : List Nat), (wv u v).length ≤ 3 ^ (u.length + v.length)
  | [], v => by rw [wv_nilL]; exact Nat.pos_of_ne_zero (by simp)
  | a :: u, [] => by rw [wv_nilR]; exact Nat.pos_of_ne_zero (by simp)
  | a :: u, b :: v => by
    rw [wv]
    have h1 := wv_count u (b :: v)
    have h2 := wv_count (a :: u) v
    have h3 := wv_count u v
    simp only [List.length_append, List.length_map, List.length_cons] at h1 h2 ⊢
    have e1 : 3 ^ (u.length + 1 + (v.length + 1)) = 3 * 3 ^ (u.length + (v.length + 1)) := by rw [show u.length + 1 + (v.length + 1) = u.length + (v.length + 1) + 1 by omega, Nat.pow_succ]; omega
    have e2 : 3 ^ (u.length + 1 + v.length) = 3 ^ (u.length + (v.length + 1)) := by congr 1; omega
    have e3 : 3 ^ (u.length + (v.length + 1)) = 3 * 3 ^ (u.length + v.length) := by rw [show u.length + (v.length + 1) = u.length + v.length + 1 by omega, Nat.pow_succ]; omega
    have h4 : (if a = b then (wv u v).map fun x => a :: x else []).length ≤ 3 ^ (u.length + v.length) := by
      split
      · simpa using h3
      · exact Nat.zero_le _
    have h5 : 0 < 3 ^ (u.length + v.length) := Nat.pos_of_ne_zero (by simp)
    omega
termination_by u v => u.length + v.length
theorem rv_len (x : Str) : (rv x).length = x.length := by simp [rv, cs_len]
theorem wov_small {x y z : Str} {xs : List Str} (h : xs.map rv = wv (rv x) (rv y)) (hz : z ∈ xs) : z.length ≤ x.length + y.length := by
  have h1 : rv z ∈ wv (rv x) (rv y) := by rw [← h]; exact List.mem_map_of_mem hz
  have := wv_len _ _ _ h1
  rw [rv_len, rv_len, rv_len] at this
  exact this
theorem wov_size {x y : Str} {vs : List Value} {xs : List Str} (hs : StrsAre vs xs) (h : xs.map rv = wv (rv x) (rv y)) (h8 : x.length + y.length ≤ 8) : vs.toArray.size ≤ 6561 := by
  have h1 := congrArg List.length h
  rw [List.length_map] at h1
  have h2 := wv_count (rv x) (rv y)
  rw [rv_len, rv_len] at h2
  have h3 : 3 ^ (x.length + y.length) ≤ 3 ^ 8 := Nat.pow_le_pow_right (by decide) h8
  rw [List.size_toArray, hs.length, h1]
  exact Nat.le_trans h2 (Nat.le_trans h3 (by decide))
theorem str_ne {x : Str} (h : (x == Str.ofString "") = false) : 1 ≤ x.length := by
  have e : Str.ofString "" = ⟨#[]⟩ := by decide +kernel
  rw [e] at h
  rcases Nat.eq_zero_or_pos x.length with h0 | h0
  · have h1 : x.cps = #[] := Array.eq_empty_of_size_eq_zero h0
    have h2 : x = ⟨#[]⟩ := by cases x; simp_all
    rw [h2] at h
    simp at h
  · exact h0
theorem cut_last {x : Str} (h : 1 ≤ x.length) : cs (Txt.slice x none (some (-1))) = (cs x).take (x.length - 1) := by
  rw [cut_to_neg (by decide) (by omega)]
  congr 1
  omega
theorem cut_last_len {x : Str} (h : 1 ≤ x.length) : (Txt.slice x none (some (-1))).length = x.length - 1 := by
  rw [len_of_cs (cut_last h), List.length_take, cs_len]
  omega
theorem rv_cut {x : Str} (h : 1 ≤ x.length) : rv x = (cs x).getD (x.length - 1) 0 :: rv (Txt.slice x none (some (-1))) := by
  unfold rv
  rw [cut_last h]
  have hl : x.length - 1 < (cs x).length := by rw [cs_len]; omega
  have e : cs x = (cs x).take (x.length - 1) ++ [(cs x).getD (x.length - 1) 0] := by
    rw [← take_getD hl]
    rw [List.take_of_length_le (by rw [cs_len]; omega)]
  conv => lhs; rw [e]
  rw [List.reverse_append]
  rfl
theorem cs_append (x y : Str) : cs (x ++ y) = cs x ++ cs y := by
  show (x.cps ++ y.cps).toList = _
  simp [cs]
theorem item_last_ch {x : Str} (h : 1 ≤ x.length) : Txt.item x (-1) = ⟨#[(cs x).getD (x.length - 1) 0]⟩ := item_neg (by decide) (by omega)
theorem rv_snoc {x : Str} (h : 1 ≤ x.length) (z : Str) : rv (z ++ Txt.item x (-1)) = (cs x).getD (x.length - 1) 0 :: rv z := by
  unfold rv
  rw [cs_append, item_last_ch h]
  simp [cs]
theorem wov_map {x : Str} (h : 1 ≤ x.length) {xs : List Str} {l : List (List Nat)} (e : xs.map rv = l) : (xs.map fun z => z ++ Txt.item x (-1)).map rv = l.map fun u => (cs x).getD (x.length - 1) 0 :: u := by
  rw [← e, List.map_map, List.map_map]
  refine List.map_congr_left fun z _ => ?_
  exact rv_snoc h z
theorem wov_eq {x y : Str} (hx : 1 ≤ x.length) (hy : 1 ≤ y.length) : (Txt.item x (-1) == Txt.item y (-1)) = decide ((cs x).getD (x.length - 1) 0 = (cs y).getD (y.length - 1) 0) := by
  rw [item_last_ch hx, item_last_ch hy, Bool.eq_iff_iff]
  simp
theorem wov_two {x y : Str} (hx : 1 ≤ x.length) (hy : 1 ≤ y.length) {xs1 xs2 : List Str} (h1 : xs1.map rv = wv (rv (Txt.slice x none (some (-1)))) (rv y)) (h2 : xs2.map rv = wv (rv x) (rv (Txt.slice y none (some (-1)))))
    (hc : (Txt.item x (-1) == Txt.item y (-1)) = false) : ((xs1.map fun z => z ++ Txt.item x (-1)) ++ (xs2.map fun z => z ++ Txt.item y (-1))).map rv = wv (rv x) (rv y) := by
  rw [wov_eq hx hy] at hc
  rw [List.map_append, wov_map hx h1, wov_map hy h2]
  conv => rhs; rw [rv_cut hx, rv_cut hy, wv]
  rw [if_neg (of_decide_eq_false hc), List.append_nil, ← rv_cut hx, ← rv_cut hy]
theorem wov_three {x y : Str} (hx : 1 ≤ x.length) (hy : 1 ≤ y.length) {xs1 xs2 xs3 : List Str} (h1 : xs1.map rv = wv (rv (Txt.slice x none (some (-1)))) (rv y)) (h2 : xs2.map rv = wv (rv x) (rv (Txt.slice y none (some (-1)))))
    (h3 : xs3.map rv = wv (rv (Txt.slice x none (some (-1)))) (rv (Txt.slice y none (some (-1)))))
    (hc : (Txt.item x (-1) == Txt.item y (-1)) = true) : (((xs1.map fun z => z ++ Txt.item x (-1)) ++ (xs2.map fun z => z ++ Txt.item y (-1))) ++ (xs3.map fun z => z ++ Txt.item x (-1))).map rv = wv (rv x) (rv y) := by
  rw [wov_eq hx hy] at hc
  rw [List.map_append, List.map_append, wov_map hx h1, wov_map hy h2, wov_map hx h3]
  conv => rhs; rw [rv_cut hx, rv_cut hy, wv]
  rw [if_pos (of_decide_eq_true hc), ← rv_cut hx, ← rv_cut hy]
theorem wov_endL {x y : Str} (h : (x == Str.ofString "") = true) : [x ++ y].map rv = wv (rv x) (rv y) := by
  have e : x = ⟨#[]⟩ := (eq_of_beq h).trans (by decide +kernel)
  subst e
  have e1 : rv (⟨#[]⟩ : Str) = [] := rfl
  rw [e1, wv_nilL]
  show [rv (⟨#[]⟩ ++ y)] = _
  unfold rv
  rw [cs_append]
  rfl
theorem wov_endR {x y : Str} (h : (y == Str.ofString "") = true) : [x ++ y].map rv = wv (rv x) (rv y) := by
  have e : y = ⟨#[]⟩ := (eq_of_beq h).trans (by decide +kernel)
  subst e
  have e1 : rv (⟨#[]⟩ : Str) = [] := rfl
  rw [e1, wv_nilR]
  show [rv (x ++ ⟨#[]⟩)] = _
  unfold rv
  rw [cs_append]
  show [(cs x ++ []).reverse] = _
  rw [List.append_nil]
theorem strs_app : ∀ {vs ws : List Value} {xs ys : List Str}, StrsAre vs xs → StrsAre ws ys → StrsAre (vs ++ ws) (xs ++ ys)
  | _, _, _, _, .nil, h => h
  | _, _, _, _, .cons y t r, h => .cons y t (strs_app r h)
section
variable {prog : Program} {w : World} {A : Around} {E : Value → Shared → Prop} {s : Shared} {h₀ : Heap} {L a b : Addr} {m : Str → Option Value} {news : List (Addr × Obj)} {vs ws : List Value} {xs ys : List Str} {Q : Value → Shared → Prop}
theorem cat_strs {ca cb : Nat} (F : Fr h₀ L s.heap m) (N : News h₀ L s.heap news) (ha : (a, listOf vs.toArray ca) ∈ news) (hb : (b, listOf ws.toArray cb) ∈ news) (hx : StrsAre vs xs) (hy : StrsAre ws ys) (hz : vs.length + ws.length ≤ 100000)
    (h : ∀ D us h', Fr h₀ L h' m → News h₀ L h' ((D, listOf (List.toArray us) 0) :: news) → (∀ p ∈ news, p.1 < D) → StrsAre us (xs ++ ys) → us.length = vs.length + ws.length → Q (.ref D) { s with heap := h' }) : wpAny (model prog w) A (binaryOp .Add (.ref a) (.ref b)) Q E s := by
  refine kmk_add_lit (its := vs.toArray) (its2 := ws.toArray) (zs := vs ++ ws) F N ⟨_, (N _ ha).1, rfl, _, rfl⟩ ⟨_, (N _ hb).1, rfl, _, rfl⟩ (by simp) (fun D h' F' N' l1 => ?_) ?_
  · exact h D _ h' F' N' l1 (strs_app hx hy) (by simp)
  · simp only [PySem.sizeLine_eq]; simpa using Nat.le_trans hz (by decide)
end
theorem wov_size2 {x y : Str} {vs ws : List Value} {xs : List Str} (hs : StrsAre vs xs) (h : xs.map rv = wv (rv x) (rv y)) (h8 : x.length + y.length ≤ 8) (g : Str → Str) (hw : StrsAre ws (xs.map g)) : ws.length ≤ 6561 := by
  have := wov_size hs h h8
  rw [List.size_toArray, hs.length] at this
  rw [hw.length, List.length_map]
  exact this
def Tails {α : Type} : Nat → List α → List α → Prop
  | 0, l, r => l = r
  | k + 1, l, r => ∃ a l', l = a :: l' ∧ Tails k l' r
theorem mem_tails {α : Type} {q : α} : ∀ (k : Nat) {l r : List α}, q ∈ r → (h : Tails k l r := by repeat' first | exact rfl | refine ⟨_, _, rfl, ?_⟩) → q ∈ l
  | 0, _, _, hq, h => h ▸ hq
  | k + 1, _, _, hq, ⟨_, _, e, h⟩ => e ▸ .tail _ (mem_tails k hq h)
theorem mem_up {α : Type} {q a : α} (k : Nat) {l r : List α} (hq : q ∈ a :: r) (h : Tails k l r := by repeat' first | exact rfl | refine ⟨_, _, rfl, ?_⟩) : q ∈ a :: l := by
  rcases List.mem_cons.mp hq with rfl | hq
  · exact .head _
  · exact .tail _ (mem_tails k hq h)
theorem lt_tail2 {x y c : Nat} {l : List (Addr × Obj)} (h : @LT.lt Nat _ x c ∧ @LT.lt Nat _ y c ∧ AllLt c l) : ∀ p ∈ l, p.1 ≠ c := fun p hp => Nat.ne_of_lt (of_allLt h.2.2 p hp)
end Mine
end
section
open PySem PySem.W PyProof.Rows
namespace Mine
theorem cnt_step {M : Model} {A : Around} {E : Value → Shared → Prop} {P : Sem Value} {Q : Value → Shared → Prop} {s : Shared} {vs : List Value} {l : List Int} (_ : IntsAre vs l)
    (h : wpAny M A P (fun B s₂ => (∃ c t, B = .int c t ∧ ((4 ≤ l.length ∧ c = 4) ∨ (l.length < 4 ∧ c = 3))) ∧ ∃ k, s₂ = { s with toks := k }) E s)
    (h2 : ∀ (c : Int) (t : Tok) (k : Nat), ((4 ≤ l.length ∧ c = 4) ∨ (l.length < 4 ∧ c = 3)) → Q (.int c t) { s with toks := k }) : wpAny M A P Q E s := by
  refine wpAny_mono h ?_ fun _ _ x => x
  rintro B s₂ ⟨⟨c, t, rfl, hc⟩, k, rfl⟩
  exact h2 c t k hc
theorem nums_len {c : Int} {l : List Int} (h : (4 ≤ l.length ∧ c = 4) ∨ (l.length < 4 ∧ c = 3)) : (List.take c.toNat (l ++ List.drop ((l.length : Nat) : Int).toNat [0, 5, 10, 3])).length = 3 ∨ (List.take c.toNat (l ++ List.drop ((l.length : Nat) : Int).toNat [0, 5, 10, 3])).length = 4 := by
  rw [List.length_take, List.length_append, List.length_drop, Int.toNat_natCast]
  show min c.toNat (l.length + (4 - l.length)) = 3 ∨ min c.toNat (l.length + (4 - l.length)) = 4
  generalize l.length = n at *
  rcases h with ⟨h, rfl⟩ | ⟨h, rfl⟩
  · exact .inr (Nat.min_eq_left (Nat.le_trans h (Nat.le_add_right _ _)))
  · refine .inl (Nat.min_eq_left ?_)
    rw [Nat.add_sub_of_le (Nat.le_of_lt h)]
    decide
section
variable {prog : Program} {w : World} {A : Around} {h₀ : Heap} {L : Addr} {m : Str → Option Value} {env : Env} {elt : Expr} {x : Str} {scope : Scope} {cl : List (Str × Addr)} {s : Shared} {S : List (Addr × Obj) → Prop} {Fin : List Value → List (Addr × Obj) → Prop} {news : List (Addr × Obj)}
theorem gen_rest {α : Type} {vs : List Value} {as : List α} (Rel El : α → Value → Prop) (hl : vs.length = as.length) (hsrc : ∀ (i : Nat) (v : Value), vs[i]? = some v → ∃ a, as[i]? = some a ∧ Rel a v)
    (turn : ∀ a v I oI C oC D m₂ ys h tk (E' : Value → Shared → Prop), a ∈ as → Rel a v → LCg.NsObj oC m₂ → m₂ x = some v → Fr h₀ L h m → News h₀ L h ((I, oI) :: (C, oC) :: (D, LCg.lst ys) :: news) → LCg.Off3 I C D news → ((@Ne Nat I C) ∧ (@Ne Nat I D) ∧ (@Ne Nat C D)) →
      wpAny (model prog w) A (eval elt (compEnvC scope cl C env)) (LCg.CompEnd h₀ L m { s with heap := h, toks := tk } I oI C oC D (LCg.lst ys) S (fun y news' => news' = news ∧ El a y)) E' { s with heap := h, toks := tk })
    (fin : ∀ ys : List Value, ys.length = as.length → (∀ (j : Nat) (a : α) (y : Value), as[j]? = some a → ys[j]? = some y → El a y) → Fin ys news) : LCg.CompRest prog w A h₀ L m env elt x scope cl s S (fun i v => vs.toArray[i]? = some v) Fin vs.toArray.size 0 [] news := by
  have hz : vs.toArray.size = as.length := by rw [List.size_toArray]; exact hl
  rw [hz]
  have key : ∀ (j i : Nat) (ys : List Value), i + j = as.length → ys.length = i → (∀ (j : Nat) (a : α) (y : Value), as[j]? = some a → ys[j]? = some y → El a y) → LCg.CompRest prog w A h₀ L m env elt x scope cl s S (fun i v => vs.toArray[i]? = some v) Fin j i ys news := by
    intro j
    induction j with
    | zero =>
      intro i ys hi hy hE
      exact LCg.CompRest.zero (fin ys (by omega) hE)
    | succ j ih =>
      intro i ys hi hy hE
      refine LCg.CompRest.succ ?_
      intro v I oI C oC D m₂ h tk E' hv hC hm F N off ne
      obtain ⟨a, ha, hr⟩ := hsrc i v (by simpa using hv)
      refine wpAny_mono (turn a v I oI C oC D m₂ ys h tk E' (List.mem_of_getElem? ha) hr hC hm F N off ne) (fun y s₂ hq => ?_) fun _ _ e => e
      obtain ⟨h', tk', nw, e, F', N', off', hS, hn, hy'⟩ := hq
      rw [hn] at N' off' hS
      refine ⟨h', tk', news, e, F', N', off', hS, ?_⟩
      refine ih (i + 1) _ (by omega) (by simp [hy]) ?_
      intro q b z hb hz
      by_cases hq : q < ys.length
      · rw [List.getElem?_append_left hq] at hz
        exact hE q b z hb hz
      · rw [List.getElem?_append_right (by omega)] at hz
        have hq2 : q = i := by
          have := (List.getElem?_eq_some_iff.mp hz).1
          simp at this
          omega
        subst hq2
        rw [ha] at hb
        cases hb
        have : q - ys.length = 0 := by omega
        rw [this] at hz
        simp at hz
        exact hz ▸ hy'
  exact key as.length 0 [] (by omega) rfl (by intro j a y _ h; simp at h)
end
theorem strs_of : ∀ (vs : List Value) (xs : List Str), vs.length = xs.length → (∀ (j : Nat) (z : Str) (v : Value), xs[j]? = some z → vs[j]? = some v → ∃ t, v = .str z t) → StrsAre vs xs
  | [], [], _, _ => .nil
  | [], _ :: _, e, _ => by cases e
  | _ :: _, [], e, _ => by cases e
  | v :: r, z :: zs, e, h => by
    obtain ⟨t, ht⟩ := h 0 z v rfl rfl
    subst ht
    exact .cons _ _ (strs_of r zs (Nat.succ.inj e) fun j z' v' h1 h2 => h (j + 1) z' v' h1 h2)
theorem ints_of2 : ∀ (vs : List Value) (ns : List Int), vs.length = ns.length → (∀ (j : Nat) (n : Int) (v : Value), ns[j]? = some n → vs[j]? = some v → ∃ t, v = .int n t) → IntsAre vs ns
  | [], [], _, _ => .nil
  | [], _ :: _, e, _ => by cases e
  | _ :: _, [], e, _ => by cases e
  | v :: r, z :: zs, e, h => by
    obtain ⟨t, ht⟩ := h 0 z v rfl rfl
    subst ht
    exact .cons _ _ (ints_of2 r zs (Nat.succ.inj e) fun j z' v' h1 h2 => h (j + 1) z' v' h1 h2)
section
variable {prog : Program} {w : World} {A : Around} {h₀ : Heap} {L : Addr} {m : Str → Option Value} {env : Env} {elt : Expr} {x : Str} {scope : Scope} {cl : List (Str × Addr)} {s : Shared} {S : List (Addr × Obj) → Prop} {Fin : List Value → List (Addr × Obj) → Prop} {news : List (Addr × Obj)}
theorem int_src {vs : List Value} {ns : List Int} (h : IntsAre vs ns) (i : Nat) (v : Value) (hv : vs[i]? = some v) : ∃ n, ns[i]? = some n ∧ ∃ t, v = .int n t := by
  obtain ⟨k, t, e, hk⟩ := IntsAre.at h i v hv
  exact ⟨k, hk, t, e⟩
theorem map_at {α β : Type} {f : α → β} {l : List α} {j : Nat} {b : β} (h : (l.map f)[j]? = some b) : ∃ a, l[j]? = some a ∧ b = f a := by
  rw [List.getElem?_map] at h
  cases e : l[j]? with
  | none => rw [e] at h; cases h
  | some a => rw [e] at h; exact ⟨a, rfl, (Option.some.inj h).symm⟩
theorem ii_rest {vs : List Value} {ns : List Int} (g : Int → Int) (hx : IntsAre vs ns)
    (turn : ∀ z t I oI C oC D m₂ ys h tk (E' : Value → Shared → Prop), z ∈ ns → LCg.NsObj oC m₂ → m₂ x = some (.int z t) → Fr h₀ L h m → News h₀ L h ((I, oI) :: (C, oC) :: (D, LCg.lst ys) :: news) → LCg.Off3 I C D news → ((@Ne Nat I C) ∧ (@Ne Nat I D) ∧ (@Ne Nat C D)) →
      wpAny (model prog w) A (eval elt (compEnvC scope cl C env)) (LCg.CompEnd h₀ L m { s with heap := h, toks := tk } I oI C oC D (LCg.lst ys) S (fun y news' => news' = news ∧ ∃ t, y = .int (g z) t)) E' { s with heap := h, toks := tk })
    (fin : ∀ ys, IntsAre ys (ns.map g) → Fin ys news) : LCg.CompRest prog w A h₀ L m env elt x scope cl s S (fun i v => vs.toArray[i]? = some v) Fin vs.toArray.size 0 [] news := by
  refine gen_rest (as := ns) (fun n v => ∃ t, v = .int n t) (fun n y => ∃ t, y = .int (g n) t) hx.length (int_src hx) ?_ fun ys hl hE => fin ys (ints_of2 _ _ (by rw [hl, List.length_map]) fun j n v h1 h2 => ?_)
  · rintro a v I oI C oC D m₂ ys h tk E' ha ⟨t, rfl⟩ hC hm F N off ne
    exact turn a t I oI C oC D m₂ ys h tk E' ha hC hm F N off ne
  · obtain ⟨a, ha, rfl⟩ := map_at h1
    exact hE j a v ha h2
theorem is_rest {vs : List Value} {ns : List Int} (g : Int → Str) (hx : IntsAre vs ns)
    (turn : ∀ z t I oI C oC D m₂ ys h tk (E' : Value → Shared → Prop), z ∈ ns → LCg.NsObj oC m₂ → m₂ x = some (.int z t) → Fr h₀ L h m → News h₀ L h ((I, oI) :: (C, oC) :: (D, LCg.lst ys) :: news) → LCg.Off3 I C D news → ((@Ne Nat I C) ∧ (@Ne Nat I D) ∧ (@Ne Nat C D)) →
      wpAny (model prog w) A (eval elt (compEnvC scope cl C env)) (LCg.CompEnd h₀ L m { s with heap := h, toks := tk } I oI C oC D (LCg.lst ys) S (fun y news' => news' = news ∧ ∃ t, y = .str (g z) t)) E' { s with heap := h, toks := tk })
    (fin : ∀ ys, StrsAre ys (ns.map g) → Fin ys news) : LCg.CompRest prog w A h₀ L m env elt x scope cl s S (fun i v => vs.toArray[i]? = some v) Fin vs.toArray.size 0 [] news := by
  refine gen_rest (as := ns) (fun n v => ∃ t, v = .int n t) (fun n y => ∃ t, y = .str (g n) t) hx.length (int_src hx) ?_ fun ys hl hE => fin ys (strs_of _ _ (by rw [hl, List.length_map]) fun j n v h1 h2 => ?_)
  · rintro a v I oI C oC D m₂ ys h tk E' ha ⟨t, rfl⟩ hC hm F N off ne
    exact turn a t I oI C oC D m₂ ys h tk E' ha hC hm F N off ne
  · obtain ⟨a, ha, rfl⟩ := map_at h1
    exact hE j a v ha h2
end
end Mine
end
section
open PySem PySem.W PyProof.Rows
namespace Mine
noncomputable def lawFd (P : Params) : Option FuncData := ((hd.heap_39 P).lookup 105).bind fun o => match o.data with | .func f => some f | _ => none
noncomputable def lawB (P : Params) : List Stmt := match lawFd P with | some f => (match f.body with | .stmts b => b | _ => []) | none => []
noncomputable def lawSc (P : Params) : Scope := match lawFd P with | some f => f.scope | none => { kind := .function, names := [], isGenerator := false, isCoroutine := false }
theorem law_b {P : Params} {oc : Value} {od : Option Addr} {osl : Array (Option Value)} {fd : FuncData} {b : List Stmt} (h : (hd.heap_39 P).lookup 105 = some ⟨oc, od, .func fd, osl⟩) (hb : fd.body = .stmts b) : lawB P = b := by
  unfold lawB lawFd
  rw [h]
  show (match fd.body with | .stmts b => b | _ => []) = b
  rw [hb]
theorem law_sc {P : Params} {oc : Value} {od : Option Addr} {osl : Array (Option Value)} {fd : FuncData} {sc : Scope} (h : (hd.heap_39 P).lookup 105 = some ⟨oc, od, .func fd, osl⟩) (hb : fd.scope = sc) : lawSc P = sc := by
  unfold lawSc lawFd
  rw [h]
  exact hb
abbrev lawE (sc : Scope) (L fa : Addr) (cd : Value) : Env := envOfC (Str.ofString "law") sc L fa cd
theorem law_open {P : Params} {w : World} {prog : Program} {L fa : Addr} {cd : Value} {Q : Flow → Shared → Prop} {E : Value → Shared → Prop} {s : Shared} {b : List Stmt} {sc : Scope} (k : Nat) (h1 : lawB P = b) (h2 : lawSc P = sc)
    (hE : PassesOwn (model prog w) (callerA.deeper (lawE (lawSc P) L fa cd)) (lawE (lawSc P) L fa cd) E)
    (h : PassesOwn (model prog w) (callerA.deeper (lawE sc L fa cd)) (lawE sc L fa cd) E → wpAny (model prog w) (callerA.deeper (lawE sc L fa cd)) (execs (b.drop k) (lawE sc L fa cd)) Q E s) : wpAny (model prog w) (callerA.deeper (lawE (lawSc P) L fa cd)) (execs ((lawB P).drop k) (lawE (lawSc P) L fa cd)) Q E s := by
  subst h1; subst h2; exact h hE
theorem fr_name {h₀ h : Heap} {L : Addr} {M : Str → Option Value} {n : Str} {v : Value} (F : Fr h₀ L h M) (e : M n = some v) : Fr h₀ L h (fun z => if z = n then some v else M z) := by
  have e2 : (fun z => if z = n then some v else M z) = M := by
    funext z
    by_cases hz : z = n
    · rw [if_pos hz, hz, e]
    · rw [if_neg hz]
  rw [e2]
  exact F
end Mine
end
section
open PySem PySem.W PyProof.Rows
namespace Mine
def mk (l : List Nat) : Str := ⟨l.toArray⟩
theorem cs_mk (l : List Nat) : cs (mk l) = l := by simp [cs, mk]
theorem mk_cs (x : Str) : mk (cs x) = x := by cases x; simp [cs, mk]
theorem mk_app (a b : List Nat) : mk a ++ mk b = mk (a ++ b) := by
  rw [← mk_cs (mk a ++ mk b), cs_append, cs_mk, cs_mk]
theorem mk_len (l : List Nat) : (mk l).length = l.length := by rw [← cs_len, cs_mk]
def dots (z : Int) : Int := 1 + (z.fdiv 2).fmod 2
def letter (z : Int) : Nat := 97 + (z.fmod 2).toNat
def ending (z : Int) : List Nat := [[10], [13], [13, 10]].getD (z.fdiv 4).toNat []
def row0 (z : Int) : List Nat := List.replicate (dots z).toNat 46 ++ [letter z] ++ ending z
theorem fm2 (z : Int) : 0 ≤ z.fmod 2 ∧ z.fmod 2 < 2 := by
  rw [Int.fmod_eq_emod_of_nonneg _ (by decide)]
  exact ⟨Int.emod_nonneg _ (by decide), Int.emod_lt_of_pos _ (by decide)⟩
theorem bnd_a (z : Int) : 0 ≤ 1 + (z.fdiv 2).fmod 2 ∧ 1 + (z.fdiv 2).fmod 2 ≤ 5 := by have := fm2 (z.fdiv 2); omega
theorem bnd_b (z : Int) {t : Int} (h : t = 1 ∨ t = 2) : 0 ≤ 1 + (z.fdiv 2).fmod 2 + t ∧ 1 + (z.fdiv 2).fmod 2 + t ≤ 5 := by have := fm2 (z.fdiv 2); omega
theorem fd4 {z : Int} (h : 0 ≤ z ∧ z < 12) : z.fdiv 4 = 0 ∨ z.fdiv 4 = 1 ∨ z.fdiv 4 = 2 := by
  rw [Int.fdiv_eq_ediv_of_nonneg _ (by decide)]; omega
theorem mul_five : ∀ n : Nat, n ≤ 5 → Txt.mul (Str.ofString ".") (n : Int) = mk (List.replicate n 46) := by decide +kernel
theorem mulOk_five : ∀ n : Nat, n ≤ 5 → MulOk (Str.ofString ".") (n : Int) := fun n hn => mulOk_of 16 1048576 (by decide) (by omega) (by omega) (by decide) (by decide)
theorem cs_crlf : cs (Str.ofString "\r\n") = [13, 10] := by decide +kernel
theorem cs_nl : cs (Str.ofString "\n") = [10] := by decide +kernel
theorem cs_cr : cs (Str.ofString "\r") = [13] := by decide +kernel
theorem ab_0 : Txt.item (Str.ofString "ab") 0 = mk [97] := by decide +kernel
theorem ab_1 : Txt.item (Str.ofString "ab") 1 = mk [98] := by decide +kernel
section
variable {prog : Program} {w : World} {A : Around} {E : Value → Shared → Prop} {s : Shared} {t u : Tok} {Q : Value → Shared → Prop}
theorem mul_dots {n : Int} (hn : 0 ≤ n ∧ n ≤ 5) (h : ∀ t' k, Q (.str (mk (List.replicate n.toNat 46)) t') { s with toks := k }) : wpAny (model prog w) A (binaryOp .Mult (.str (Str.ofString ".") t) (.int n u)) Q E s := by
  have e : n = ((n.toNat : Nat) : Int) := by omega
  have hm := mul_five n.toNat (by omega)
  rw [← e] at hm
  have ho := mulOk_five n.toNat (by omega)
  rw [← e] at ho
  refine SB.mul ho fun t' k => ?_
  rw [hm]
  exact h t' k
theorem add_cs {x y : Str} {a b : List Nat} (hx : cs x = a) (hy : cs y = b) (hl : a.length + b.length ≤ 1000) (h : ∀ t' k, Q (.str (mk (a ++ b)) t') { s with toks := k }) : wpAny (model prog w) A (binaryOp .Add (.str x t) (.str y u)) Q E s := by
  refine KOpn.add ?_ fun t' k _ => ?_
  · rw [← cs_len, ← cs_len, hx, hy]; omega
  · have e : x ++ y = mk (a ++ b) := by rw [← mk_cs (x ++ y), cs_append, hx, hy]
    rw [e]
    exact h t' k
theorem item_ab {z : Int} {value slice : Expr} (h : ∀ t', Q (.str (mk [letter z]) t') { s with toks := s.toks + 1 })
    (hs : subscripted slice false (.str (Str.ofString "ab") t) (.int (z.fmod 2) u) = operate [.str (Str.ofString "ab") t, .int (z.fmod 2) u] (getItem (.str (Str.ofString "ab") t) (.int (z.fmod 2) u)) := by with_unfolding_all rfl)
    (ht : ∀ r, letTemporaryGo value (.str (Str.ofString "ab") t) r = pure () := by intro _; with_unfolding_all rfl) :
    wpAny (model prog w) A (subscriptTail value slice (.str (Str.ofString "ab") t) (.int (z.fmod 2) u)) Q E s := by
  have hb := fm2 z
  refine item_str (fitsSsize_of (N := 9223372036854775808) (by omega) (by omega) (Int.le_refl _)) ?_ ?_ (fun _ => ?_) (hs := hs) (ht := ht)
  · have : (Str.ofString "ab").length = 2 := by decide +kernel
    omega
  · have : (Str.ofString "ab").length = 2 := by decide +kernel
    omega
  · have h01 : z.fmod 2 = 0 ∨ z.fmod 2 = 1 := by omega
    have hl : Txt.item (Str.ofString "ab") (z.fmod 2) = mk [letter z] := by
      unfold letter
      rcases h01 with e | e
      · rw [e, ab_0]; rfl
      · rw [e, ab_1]; rfl
    rw [hl]
    exact h _
theorem item_ends {l : Addr} {t1 t2 t3 : Tok} {z : Int} {value slice : Expr} (hl : s.heap.IsList l #[.str (Str.ofString "\n") t1, .str (Str.ofString "\r") t2, .str (Str.ofString "\r\n") t3]) (hz : 0 ≤ z ∧ z < 12)
    (h : ∀ x t', cs x = ending z → Q (.str x t') s)
    (hs : subscripted slice false (.ref l) (.int (z.fdiv 4) u) = operate [.ref l, .int (z.fdiv 4) u] (getItem (.ref l) (.int (z.fdiv 4) u)) := by with_unfolding_all rfl) :
    wpAny (model prog w) A (subscriptTail value slice (.ref l) (.int (z.fdiv 4) u)) Q E s := by
  refine kba_turn (value' := PySem.Expr.Name (PySem.Str.ofString "z") ⟨0, 0, 0, 0⟩) (fun _ => rfl) ?_
  have e : ending z = [[10], [13], [13, 10]].getD (z.fdiv 4).toNat [] := rfl
  rcases fd4 hz with q | q | q
  · refine item_listR (x := .str (Str.ofString "\n") t1) hl (by omega) (by omega) (by rw [q]; rfl) (h _ _ (by rw [e, q]; exact cs_nl)) hs
  · refine item_listR (x := .str (Str.ofString "\r") t2) hl (by omega) (by omega) (by rw [q]; rfl) (h _ _ (by rw [e, q]; exact cs_cr)) hs
  · refine item_listR (x := .str (Str.ofString "\r\n") t3) hl (by omega) (by omega) (by rw [q]; rfl) (h _ _ (by rw [e, q]; exact cs_crlf)) hs
end
section
variable {prog : Program} {w : World} {A : Around} {E : Value → Shared → Prop} {s : Shared} {t u : Tok} {Q : Value → Shared → Prop} {h₀ : Heap} {L : Addr} {rest : List (Addr × Obj)}
theorem item_endsN {l : Addr} {t1 t2 t3 : Tok} {z : Int} {c : Nat} {value slice : Expr} (N : News h₀ L s.heap ((l, listOf #[.str (Str.ofString "\n") t1, .str (Str.ofString "\r") t2, .str (Str.ofString "\r\n") t3] c) :: rest)) (hz : 0 ≤ z ∧ z < 12)
    (h : ∀ x t', cs x = ending z → Q (.str x t') s)
    (hs : subscripted slice false (.ref l) (.int (z.fdiv 4) u) = operate [.ref l, .int (z.fdiv 4) u] (getItem (.ref l) (.int (z.fdiv 4) u)) := by with_unfolding_all rfl) :
    wpAny (model prog w) A (subscriptTail value slice (.ref l) (.int (z.fdiv 4) u)) Q E s := item_ends ⟨_, (N _ (.head _)).1, rfl, _, rfl⟩ hz h hs
end
theorem ends_len (z : Int) : (ending z).length ≤ 2 := by
  unfold ending
  rcases (z.fdiv 4).toNat with _ | _ | _ | n <;> simp
end Mine
end
section
open PySem PySem.W PyProof.Rows
namespace Mine
set_option maxRecDepth 100000
theorem plainAttrs_pat : PlainAttrs "re.Pattern" :=
  ⟨⟨"object.__getattribute__", by rw [typeLookup_type, builtinLookup_eq_fast]; kernel_rfl, by decide +kernel⟩, by rw [typeLookup_type, builtinLookup_eq_fast]; kernel_rfl⟩
theorem owner_pat : Manifest.owners.lookup (String.ofList ['n', 'r', 'e', 't', 't', 'a', 'P', '.', 'e', 'r'].reverse) = some Manifest.sig_re_Pattern := by kernel_rfl
theorem slot_pat_sub : Slot "re.Pattern" (Str.ofString "sub") "re.Pattern.sub" :=
  .of (owner := "re.Pattern") (n := "sub") (by rw [typeLookup_type, builtinLookup_eq_fast]; kernel_rfl) (by decide +kernel) (by decide +kernel) (by decide +kernel)
    (by first | exact .inl (by decide +kernel) | exact .inr (by decide +kernel)) (by rw [isSubtype_type]; kernel_rfl)
theorem type_pat_sub : typeOf (.builtin "re.Pattern.sub") = pure (.type "method_descriptor") := by show builtinType _ = _; rw [builtinType_eq_fast]; kernel_rfl
theorem entry_pat_sub : entryFor table "re.Pattern.sub" = some Builtin.«re.Pattern.sub» := entryFor_of_tree (by kernel_rfl)
theorem entry_pat_loop : entryFor table "re.Pattern.sub.loop" = some Builtin.«re.Pattern.sub.loop» := entryFor_of_tree (by kernel_rfl)
theorem args_pat_sub (a b c : Value) : argsOk "re.Pattern.sub" ⟨[a, b, c], []⟩ := by
  unfold argsOk; rw [signature?_of (id := "re.Pattern.sub") (n := ['b', 'u', 's']) (o := ['n', 'r', 'e', 't', 't', 'a', 'P', '.', 'e', 'r']) (by kernel_rfl) owner_pat]; kernel_rfl
theorem plain_loop : plainId "re.Pattern.sub.loop" = true := by decide +kernel
end Mine
#print axioms Mine.args_pat_sub
end
section
open PySem PySem.W PyProof.Rows
namespace Mine

def code1 : Array Nat := #[14, 4, 0, 1, 1, 6, 1, 16, 46, 1]
def code2 : Array Nat := #[14, 9, 4, 1, 2, 16, 10, 16, 13, 0, 7, 7, 16, 13, 16, 10, 15, 18, 5, 16, 10, 15, 13, 11, 16, 13, 5, 5, 0, 16, 10, 1, 15, 2, 0, 1]
theorem runFor_done {m : Sre.M} (h : m.outcome.isSome = true) : ∀ n, m.runFor n = m
  | 0 => rfl
  | n + 1 => by rw [Sre.M.runFor, if_pos h]
theorem runFor_add (m : Sre.M) : ∀ a b, m.runFor (a + b) = (m.runFor a).runFor b
  | 0, b => by rw [Nat.zero_add]; rfl
  | a + 1, b => by
    rw [show a + 1 + b = (a + b) + 1 by omega, Sre.M.runFor, Sre.M.runFor]
    by_cases h : m.outcome.isSome = true
    · rw [if_pos h, if_pos h, runFor_done h]
    · rw [if_neg h, if_neg h, runFor_add]
def Ends (m : Sre.M) (P : Sre.M → Prop) : Prop := ∃ n, (m.runFor n).outcome.isSome = true ∧ n ≤ 1000000 ∧ P (m.runFor n)
def EndsIn (k : Nat) (m : Sre.M) (P : Sre.M → Prop) : Prop := ∃ n, (m.runFor n).outcome.isSome = true ∧ n ≤ k ∧ P (m.runFor n)
theorem EndsIn.now {m : Sre.M} {P : Sre.M → Prop} (h : m.outcome.isSome = true) (hP : P m) : EndsIn 0 m P := ⟨0, h, Nat.le_refl _, hP⟩
theorem EndsIn.step {k : Nat} {m m' : Sre.M} {P : Sre.M → Prop} (ho : m.outcome.isSome = false) (e : m.step = m') (h : EndsIn k m' P) : EndsIn (k + 1) m P := by
  obtain ⟨n, h1, h2, h3⟩ := h
  have e2 : m.runFor (n + 1) = m'.runFor n := by rw [Sre.M.runFor, if_neg (by rw [ho]; exact Bool.false_ne_true), e]
  exact ⟨n + 1, by rw [e2]; exact h1, by omega, by rw [e2]; exact h3⟩
theorem EndsIn.le {k k' : Nat} {m : Sre.M} {P : Sre.M → Prop} (h : EndsIn k m P) (hk : k ≤ k') : EndsIn k' m P := let ⟨n, a, b, c⟩ := h; ⟨n, a, Nat.le_trans b hk, c⟩

def A1 (text : Array Nat) (lim s : Nat) (f : Bool) (σ : Sre.Seen) : Sre.M :=
  { code := code1, text, lim, start := s, lastStart := lim, pc := 5, pos := s, handed := s, outermost := f, marks := #[], lastmark := -1, lastindex := -1,
    frames := [{ wait := .nextStart, pc := 5, pos := s, outermost := f }], weight := 1, answer := none, seen := σ }
theorem search1 {text : Array Nat} {start lim : Nat} (h : start ≤ lim) : Sre.forSearch code1 text 0 start lim false = if lim - start < 1 then { (A1 text lim start true (({} : Sre.Seen).add 14)) with frames := [], weight := 0, lastStart := 0, outermost := true, answer := some false } else A1 text lim start true (({} : Sre.Seen).add 14) := by
  have e : Sre.forSearch code1 text 0 start lim false = (if (decide (start > lim) || decide (lim - start < 1)) = true then { (A1 text lim start true (({} : Sre.Seen).add 14)) with frames := [], weight := 0, lastStart := 0, outermost := true, answer := some false } else A1 text lim start true (({} : Sre.Seen).add 14)) := rfl
  rw [e, decide_eq_false (show ¬ start > lim by omega), Bool.false_or]
  by_cases h1 : lim - start < 1
  · rw [if_pos h1, if_pos (decide_eq_true h1)]
  · rw [if_neg h1, if_neg (by simpa using h1)]
def bol (text : Array Nat) (s : Nat) : Bool := s == 0 || text.getD (s - 1) 0 == 10
def fr1 (s : Nat) (f : Bool) : Sre.Frame := { wait := .nextStart, pc := 5, pos := s, outermost := f }
def S1 (text : Array Nat) (lim start pos pc handed : Nat) (om : Bool) (fr : List Sre.Frame) (wt : Nat) (ans : Option Bool) (σ : Sre.Seen) (out : Option Sre.Outcome) : Sre.M :=
  { code := code1, text, lim, start, lastStart := lim, pc, pos, handed, outermost := om, marks := #[], lastmark := -1, lastindex := -1, frames := fr, weight := wt, answer := ans, seen := σ, outcome := out }
theorem A1_eq (text : Array Nat) (lim s : Nat) (f : Bool) (σ : Sre.Seen) : A1 text lim s f σ = S1 text lim s s 5 s f [fr1 s f] 1 none σ none := rfl
section
variable {text : Array Nat} {lim s h : Nat} {f : Bool} {fr : List Sre.Frame} {wt : Nat} {σ : Sre.Seen}
theorem step1_at : (S1 text lim s s 5 h f fr wt none σ none).step = if bol text s = true then S1 text lim s s 7 h f fr wt none ((σ.add 6).add 44) none else S1 text lim s s 5 h f fr wt (some false) ((σ.add 6).add 44) none := rfl
theorem step1_lit : (S1 text lim s s 7 h f fr wt none σ none).step = if s ≥ lim then S1 text lim s s 7 h f fr wt (some false) (σ.add 16) none else
    match (text.getD s 0 == 46) with | false => S1 text lim s s 7 h f fr wt (some false) (σ.add 16) none | true => S1 text lim s (s + 1) 9 h f fr wt none (σ.add 16) none := by
  by_cases e : s ≥ lim
  · rw [if_pos e]
    have : (S1 text lim s s 7 h f fr wt none σ none).step = if s ≥ lim then S1 text lim s s 7 h f fr wt (some false) (σ.add 16) none else
      match (Except.ok (text.getD s 0 == 46, σ.add 16) : Except String (Bool × Sre.Seen)) with
      | .error why => (S1 text lim s s 7 h f fr wt none (σ.add 16) none).stick why
      | .ok (false, seen) => S1 text lim s s 7 h f fr wt (some false) seen none
      | .ok (true, seen) => S1 text lim s (s + 1) 9 h f fr wt none seen none := rfl
    rw [this, if_pos e]
  · have : (S1 text lim s s 7 h f fr wt none σ none).step = if s ≥ lim then S1 text lim s s 7 h f fr wt (some false) (σ.add 16) none else
      match (Except.ok (text.getD s 0 == 46, σ.add 16) : Except String (Bool × Sre.Seen)) with
      | .error why => (S1 text lim s s 7 h f fr wt none (σ.add 16) none).stick why
      | .ok (false, seen) => S1 text lim s s 7 h f fr wt (some false) seen none
      | .ok (true, seen) => S1 text lim s (s + 1) 9 h f fr wt none seen none := rfl
    rw [this, if_neg e, if_neg e]
    cases (text.getD s 0 == 46) <;> rfl
theorem step1_win : (S1 text lim s (s + 1) 9 h f fr wt none σ none).step = S1 text lim s (s + 1) 9 (s + 1) f fr wt (some true) (σ.add 1) none := by
  have : (S1 text lim s (s + 1) 9 h f fr wt none σ none).step = if (f && ((false && (s + 1 != lim)) || (false && (s + 1 == s)))) = true then S1 text lim s (s + 1) 9 h f fr wt (some false) (σ.add 1) none else S1 text lim s (s + 1) 9 (s + 1) f fr wt (some true) (σ.add 1) none := rfl
  rw [this]
  simp
theorem step1_up {pc pos : Nat} : (S1 text lim s pos pc h f [fr1 s f] 1 (some true) σ none).step = S1 text lim s s 5 h f [] 0 (some true) σ none := rfl
theorem step1_next {pc pos : Nat} : (S1 text lim s pos pc h f [fr1 s f] 1 (some false) σ none).step = if s < lim then S1 text lim (s + 1) (s + 1) 5 (s + 1) false [fr1 (s + 1) false] 1 none σ none else S1 text lim s s 5 h f [] 0 (some false) σ none := rfl
theorem step1_end {pc pos : Nat} {b : Bool} : (S1 text lim s pos pc h f [] 0 (some b) σ none).step = S1 text lim s pos pc h f [] 0 (some b) σ (some (if b then .matched else .failed)) := rfl
end
def Hit1 (text : Array Nat) (lim s : Nat) : Prop := s < lim ∧ bol text s = true ∧ text.getD s 0 = 46
def Res1 (text : Array Nat) (lim s : Nat) (m : Sre.M) : Prop :=
  (∃ k, s ≤ k ∧ Hit1 text lim k ∧ (∀ j, s ≤ j → j < k → ¬ Hit1 text lim j) ∧ m.outcome = some .matched ∧ m.start = k ∧ m.handed = k + 1) ∨ ((∀ j, s ≤ j → ¬ Hit1 text lim j) ∧ m.outcome = some .failed)
theorem run1 {text : Array Nat} {lim : Nat} : ∀ (d s : Nat) (f : Bool) (σ : Sre.Seen), s + d = lim → EndsIn (4 * d + 5) (S1 text lim s s 5 s f [fr1 s f] 1 none σ none) (Res1 text lim s)
  | d, s, f, σ, hd => by
    have next : ∀ (pc pos h : Nat) (σ' : Sre.Seen), ¬ Hit1 text lim s → EndsIn (4 * d + 3) (S1 text lim s pos pc h f [fr1 s f] 1 (some false) σ' none) (Res1 text lim s) := by
      intro pc pos h σ' hn
      cases d with
      | zero =>
        refine (EndsIn.step (k := 1) rfl (step1_next.trans (if_neg (by omega))) (EndsIn.step rfl step1_end (EndsIn.now rfl (.inr ⟨fun j hj hh => ?_, rfl⟩)))).le (by omega)
        have e : j = s := by have := hh.1; omega
        exact hn (e ▸ hh)
      | succ d =>
        have hlt : s < lim := by omega
        have h9 := EndsIn.step (m := S1 text lim s pos pc h f [fr1 s f] 1 (some false) σ' none) rfl (step1_next.trans (if_pos hlt)) (run1 d (s + 1) false σ' (by omega))
        obtain ⟨n, a, b, c⟩ := h9
        refine ⟨n, a, by omega, ?_⟩
        rcases c with ⟨k, hk, h1, h2, h3⟩ | ⟨h1, h2⟩
        · refine .inl ⟨k, by omega, h1, fun j hj hj' => ?_, h3⟩
          by_cases e : j = s
          · exact e ▸ hn
          · exact h2 j (by omega) hj'
        · refine .inr ⟨fun j hj => ?_, h2⟩
          by_cases e : j = s
          · exact e ▸ hn
          · exact h1 j (by omega)
    by_cases hb : bol text s = true
    · refine EndsIn.step (k := 4 * d + 4) rfl (step1_at.trans (if_pos hb)) ?_
      by_cases hl : s ≥ lim
      · exact EndsIn.step rfl (step1_lit.trans (if_pos hl)) (next _ _ _ _ fun q => by have := q.1; omega)
      · have e := step1_lit (text := text) (lim := lim) (s := s) (h := s) (f := f) (fr := [fr1 s f]) (wt := 1) (σ := (σ.add 6).add 44)
        rw [if_neg hl] at e
        cases hc : (text.getD s 0 == 46) with
        | false =>
          rw [hc] at e
          exact EndsIn.step rfl e (next _ _ _ _ fun q => by rw [q.2.2] at hc; simp at hc)
        | true =>
          rw [hc] at e
          refine (EndsIn.step rfl e (EndsIn.step rfl step1_win (EndsIn.step rfl step1_up (EndsIn.step rfl step1_end (EndsIn.now rfl (.inl ⟨s, Nat.le_refl _, ⟨by omega, hb, eq_of_beq hc⟩, fun j hj hj' => by omega, rfl, rfl, rfl⟩)))))).le (by omega)
    · exact (EndsIn.step (k := 4 * d + 3) rfl (step1_at.trans (if_neg hb)) (next _ _ _ _ fun q => hb q.2.1)).le (by omega)
theorem ends1 {text : Array Nat} {start lim : Nat} (h : start ≤ lim) : EndsIn (4 * lim + 10) (Sre.forSearch code1 text 0 start lim false) (Res1 text lim start) := by
  rw [search1 h]
  by_cases h1 : lim - start < 1
  · rw [if_pos h1]
    refine (EndsIn.step (k := 0) rfl rfl (EndsIn.now rfl (.inr ⟨fun j hj hh => by have := hh.1; omega, rfl⟩))).le (by omega)
  · rw [if_neg h1, A1_eq]
    exact (run1 (lim - start) start true _ (by omega)).le (by omega)
end Mine
end
section
open PySem PySem.W PyProof.Rows
namespace Mine
def S2 (text : Array Nat) (lim start pos pc handed : Nat) (om : Bool) (fr : List Sre.Frame) (wt : Nat) (ans : Option Bool) (σ : Sre.Seen) (out : Option Sre.Outcome) : Sre.M :=
  { code := code2, text, lim, start, lastStart := lim, pc, pos, handed, outermost := om, marks := #[], lastmark := -1, lastindex := -1, frames := fr, weight := wt, answer := ans, seen := σ, outcome := out }
def fr2 (s : Nat) (f : Bool) : Sre.Frame := { wait := .nextStart, pc := 10, pos := s, outermost := f }
def kp0 : Sre.Kept := { lastmark := -1, lastindex := -1, whole := false, marks := #[] }
def fb2 (s pc : Nat) (f : Bool) : Sre.Frame := { wait := .nextBranch, pc, pos := s, outermost := f, kept := kp0 }
def fl2 (p : Nat) (f : Bool) : Sre.Frame := { wait := .lookNot, pc := 26, pos := p, outermost := f, kept := kp0 }
theorem inSet2 (c : Nat) (σ : Sre.Seen) : Sre.inSet code2 c code2.size 5 true σ = if (c == 10) = true then .ok (true, σ.add 16) else if (c == 13) = true then .ok (true, (σ.add 16).add 16) else .ok (false, ((σ.add 16).add 16).add 0) := rfl
def nl (c : Nat) : Prop := c = 10 ∨ c = 13
def Hit2 (text : Array Nat) (lim s : Nat) : Prop := s < lim ∧ nl (text.getD s 0)
theorem admitted2 {text : Array Nat} {lim start pos pc handed : Nat} {om : Bool} {fr : List Sre.Frame} {wt : Nat} {ans : Option Bool} {σ₀ : Sre.Seen} {out : Option Sre.Outcome} : ∀ (fuel s : Nat) (σ : Sre.Seen), s + fuel = lim + 1 →
    ∃ r σ', Sre.M.admitted (S2 text lim start pos pc handed om fr wt ans σ₀ out) fuel s σ = .ok (r, σ') ∧ match r with
      | some k => s ≤ k ∧ Hit2 text lim k ∧ ∀ j, s ≤ j → j < k → ¬ Hit2 text lim j
      | none => ∀ j, s ≤ j → ¬ Hit2 text lim j
  | 0, s, σ, h => ⟨none, σ, rfl, fun j hj q => by have := q.1; omega⟩
  | fuel + 1, s, σ, h => by
    have e : Sre.M.admitted (S2 text lim start pos pc handed om fr wt ans σ₀ out) (fuel + 1) s σ = if s ≥ lim then .ok (none, σ) else
      match Sre.inSet code2 (text.getD s 0) code2.size 5 true σ with
      | .ok (true, seen) => .ok (some s, seen)
      | .ok (false, seen) => Sre.M.admitted (S2 text lim start pos pc handed om fr wt ans σ₀ out) fuel (s + 1) seen
      | .error why => .error why := rfl
    by_cases hl : s ≥ lim
    · rw [if_pos hl] at e
      exact ⟨none, σ, e, by intro j hj q; have := q.1; omega⟩
    · rw [if_neg hl, inSet2] at e
      by_cases h1 : (text.getD s 0 == 10) = true
      · rw [if_pos h1] at e
        exact ⟨some s, _, e, Nat.le_refl _, ⟨by omega, .inl (eq_of_beq h1)⟩, by intro j hj hj'; omega⟩
      · rw [if_neg h1] at e
        by_cases h2 : (text.getD s 0 == 13) = true
        · rw [if_pos h2] at e
          exact ⟨some s, _, e, Nat.le_refl _, ⟨by omega, .inr (eq_of_beq h2)⟩, fun j hj hj' => by omega⟩
        · rw [if_neg h2] at e
          have hn : ¬ Hit2 text lim s := fun q => by
            rcases q.2 with q | q
            · rw [q] at h1; simp at h1
            · rw [q] at h2; simp at h2
          obtain ⟨r, σ', e2, hr⟩ := admitted2 (text := text) (lim := lim) (start := start) (pos := pos) (pc := pc) (handed := handed) (om := om) (fr := fr) (wt := wt) (ans := ans) (σ₀ := σ₀) (out := out) fuel (s + 1) (((σ.add 16).add 16).add 0) (by omega)
          refine ⟨r, σ', e.trans e2, ?_⟩
          cases r with
          | none =>
            intro j hj
            by_cases ej : j = s
            · exact ej ▸ hn
            · exact hr j (by omega)
          | some k =>
            refine ⟨by have := hr.1; omega, hr.2.1, fun j hj hj' => ?_⟩
            by_cases ej : j = s
            · exact ej ▸ hn
            · exact hr.2.2 j (by omega) hj'
section
variable {text : Array Nat} {lim st s h : Nat} {f : Bool} {fr : List Sre.Frame} {wt : Nat} {σ : Sre.Seen}
def L2 (text : Array Nat) (lim st s pc h : Nat) (f : Bool) (fr : List Sre.Frame) (wt : Nat) (σ : Sre.Seen) (c : Nat) : Sre.M :=
  if s ≥ lim then S2 text lim st s pc h f fr wt (some false) (σ.add 16) none else
    match (Except.ok (text.getD s 0 == c, σ.add 16) : Except String (Bool × Sre.Seen)) with
    | .error why => (S2 text lim st s pc h f fr wt none (σ.add 16) none).stick why
    | .ok (false, seen) => S2 text lim st s pc h f fr wt (some false) seen none
    | .ok (true, seen) => S2 text lim st (s + 1) (pc + 2) h f fr wt none seen none
theorem L2_no {pc c : Nat} (hn : s ≥ lim ∨ text.getD s 0 ≠ c) : L2 text lim st s pc h f fr wt σ c = S2 text lim st s pc h f fr wt (some false) (σ.add 16) none := by
  unfold L2
  by_cases hl : s ≥ lim
  · rw [if_pos hl]
  · rw [if_neg hl]
    have : (text.getD s 0 == c) = false := by
      rcases hn with q | q
      · exact absurd q hl
      · simpa using q
    rw [this]
theorem L2_yes {pc c : Nat} (hl : s < lim) (hn : text.getD s 0 = c) : L2 text lim st s pc h f fr wt σ c = S2 text lim st (s + 1) (pc + 2) h f fr wt none (σ.add 16) none := by
  unfold L2
  rw [if_neg (by omega)]
  have : (text.getD s 0 == c) = true := by simpa using hn
  rw [this]
theorem s2_12 : (S2 text lim st s 12 h f fr wt none σ none).step = L2 text lim st s 12 h f fr wt σ 13 := rfl
theorem s2_14 : (S2 text lim st s 14 h f fr wt none σ none).step = L2 text lim st s 14 h f fr wt σ 10 := rfl
theorem s2_19 : (S2 text lim st s 19 h f fr wt none σ none).step = L2 text lim st s 19 h f fr wt σ 10 := rfl
theorem s2_24 : (S2 text lim st s 24 h f fr wt none σ none).step = L2 text lim st s 24 h f fr wt σ 13 := rfl
theorem s2_29 : (S2 text lim st s 29 h f fr wt none σ none).step = L2 text lim st s 29 h f fr wt σ 10 := rfl
theorem s2_16 : (S2 text lim st s 16 h f fr wt none σ none).step = S2 text lim st s 35 h f fr wt none (σ.add 15) none := rfl
theorem s2_21 : (S2 text lim st s 21 h f fr wt none σ none).step = S2 text lim st s 35 h f fr wt none (σ.add 15) none := rfl
theorem s2_32 : (S2 text lim st s 32 h f fr wt none σ none).step = S2 text lim st s 35 h f fr wt none (σ.add 15) none := rfl
theorem s2_10 : (S2 text lim st s 10 h f [fr2 st f] 1 none σ none).step = S2 text lim st s 12 s f [fb2 s 11 f, fr2 st f] 2 none (σ.add 7) none := rfl
theorem s2_11 {pc p : Nat} : (S2 text lim st p pc h f [fb2 s 11 f, fr2 st f] 2 (some false) σ none).step = S2 text lim st s 19 s f [fb2 s 18 f, fr2 st f] 2 none σ none := rfl
theorem s2_18 {pc p : Nat} : (S2 text lim st p pc h f [fb2 s 18 f, fr2 st f] 2 (some false) σ none).step = S2 text lim st s 24 s f [fb2 s 23 f, fr2 st f] 2 none σ none := rfl
theorem s2_26 {p : Nat} {b : Nat} : (S2 text lim st p 26 h f [fb2 s b f, fr2 st f] 2 none σ none).step = if p < 0 then S2 text lim st p 32 h f [fb2 s b f, fr2 st f] 2 none (σ.add 5) none else S2 text lim st p 29 p false [fl2 p f, fb2 s b f, fr2 st f] 3 none (σ.add 5) none := rfl
theorem s2_ln {pc p q : Nat} {b : Nat} : (S2 text lim st q pc h false [fl2 p f, fb2 s b f, fr2 st f] 3 (some false) σ none).step = S2 text lim st p 32 h f [fb2 s b f, fr2 st f] 2 none σ none := rfl
theorem s2_35 : (S2 text lim st s 35 h f fr wt none σ none).step = S2 text lim st s 35 s f fr wt (some true) (σ.add 1) none := by
  have : (S2 text lim st s 35 h f fr wt none σ none).step = if (f && ((false && (s != lim)) || (false && (s == st)))) = true then S2 text lim st s 35 h f fr wt (some false) (σ.add 1) none else S2 text lim st s 35 s f fr wt (some true) (σ.add 1) none := rfl
  rw [this]
  simp
theorem s2_b {pc p q b : Nat} : (S2 text lim st q pc h f [fb2 p b f, fr2 st f] 2 (some true) σ none).step = S2 text lim st p b h f [fr2 st f] 1 (some true) σ none := rfl
theorem s2_n {pc q : Nat} : (S2 text lim st q pc h f [fr2 st f] 1 (some true) σ none).step = S2 text lim st st 10 h f [] 0 (some true) σ none := rfl
theorem s2_e {pc q : Nat} {b : Bool} : (S2 text lim st q pc h f [] 0 (some b) σ none).step = S2 text lim st q pc h f [] 0 (some b) σ (some (if b then .matched else .failed)) := rfl
end
def len2 (text : Array Nat) (lim s : Nat) : Nat := if text.getD s 0 = 13 ∧ s + 1 < lim ∧ text.getD (s + 1) 0 = 10 then 2 else 1
def Won (k e : Nat) (m : Sre.M) : Prop := m.outcome = some .matched ∧ m.start = k ∧ m.handed = e
theorem win2 {text : Array Nat} {lim s h : Nat} {f : Bool} {σ : Sre.Seen} {b q : Nat} : EndsIn 4 (S2 text lim s q 35 h f [fb2 s b f, fr2 s f] 2 none σ none) (Won s q) :=
  EndsIn.step rfl s2_35 (EndsIn.step rfl s2_b (EndsIn.step rfl s2_n (EndsIn.step rfl s2_e (EndsIn.now rfl ⟨rfl, rfl, rfl⟩))))
theorem run2 {text : Array Nat} {lim s : Nat} {f : Bool} {σ : Sre.Seen} (hh : Hit2 text lim s) : EndsIn 20 (S2 text lim s s 10 s f [fr2 s f] 1 none σ none) (Won s (s + len2 text lim s)) := by
  refine EndsIn.step (k := 19) rfl s2_10 ?_
  rcases hh with ⟨hl, h10 | h13⟩
  · have e : len2 text lim s = 1 := by unfold len2; rw [if_neg (by omega)]
    rw [e]
    refine EndsIn.step (k := 18) rfl (s2_12.trans (L2_no (.inr (by omega)))) ?_
    refine EndsIn.step (k := 17) rfl s2_11 ?_
    refine EndsIn.step (k := 16) rfl (s2_19.trans (L2_yes hl h10)) ?_
    refine EndsIn.step (k := 15) rfl s2_21 ?_
    exact win2.le (by decide)
  · refine EndsIn.step (k := 18) rfl (s2_12.trans (L2_yes hl h13)) ?_
    by_cases hc : s + 1 < lim ∧ text.getD (s + 1) 0 = 10
    · have e : len2 text lim s = 2 := by unfold len2; rw [if_pos ⟨h13, hc⟩]
      rw [e]
      refine EndsIn.step (k := 17) rfl (s2_14.trans (L2_yes hc.1 hc.2)) ?_
      refine EndsIn.step (k := 16) rfl s2_16 ?_
      exact win2.le (by decide)
    · have e : len2 text lim s = 1 := by unfold len2; rw [if_neg (fun q => hc q.2)]
      rw [e]
      have hn : s + 1 ≥ lim ∨ text.getD (s + 1) 0 ≠ 10 := by
        by_cases q : s + 1 ≥ lim
        · exact .inl q
        · exact .inr fun q2 => hc ⟨by omega, q2⟩
      refine EndsIn.step (k := 17) rfl (s2_14.trans (L2_no hn)) ?_
      refine EndsIn.step (k := 16) rfl s2_11 ?_
      refine EndsIn.step (k := 15) rfl (s2_19.trans (L2_no (.inr (by omega)))) ?_
      refine EndsIn.step (k := 14) rfl s2_18 ?_
      refine EndsIn.step (k := 13) rfl (s2_24.trans (L2_yes hl h13)) ?_
      refine EndsIn.step (k := 12) rfl (s2_26.trans (if_neg (Nat.not_lt_zero _))) ?_
      refine EndsIn.step (k := 11) rfl (s2_29.trans (L2_no hn)) ?_
      refine EndsIn.step (k := 10) rfl s2_ln ?_
      refine EndsIn.step (k := 9) rfl s2_32 ?_
      exact win2.le (by decide)
def Res2 (text : Array Nat) (lim s : Nat) (m : Sre.M) : Prop :=
  (∃ k, s ≤ k ∧ Hit2 text lim k ∧ (∀ j, s ≤ j → j < k → ¬ Hit2 text lim j) ∧ Won k (k + len2 text lim k) m) ∨ ((∀ j, s ≤ j → ¬ Hit2 text lim j) ∧ m.outcome = some .failed)
theorem ends2 {text : Array Nat} {start lim : Nat} (h : start ≤ lim) : EndsIn 30 (Sre.forSearch code2 text 0 start lim false) (Res2 text lim start) := by
  have e : Sre.forSearch code2 text 0 start lim false = (if (decide (start > lim) || decide (lim - start < 1)) = true then { (S2 text lim start start 10 start true [] 0 (some false) (({} : Sre.Seen).add 14) none) with lastStart := 0 } else
    match Sre.M.admitted (S2 text lim start start 10 start true [] 0 none (({} : Sre.Seen).add 14) none) (lim + 1 - start) start (({} : Sre.Seen).add 14) with
    | .ok (some s, seen) => S2 text lim s s 10 s true [fr2 s true] 1 none seen none
    | .ok (none, seen) => S2 text lim start start 10 start true [] 0 (some false) seen none
    | .error why => (S2 text lim start start 10 start true [] 0 none (({} : Sre.Seen).add 14) none).stick why) := rfl
  rw [e, decide_eq_false (show ¬ start > lim by omega), Bool.false_or]
  by_cases h1 : lim - start < 1
  · rw [if_pos (decide_eq_true h1)]
    exact (EndsIn.step (k := 0) rfl rfl (EndsIn.now rfl (.inr ⟨fun j hj hh => by have := hh.1; omega, rfl⟩))).le (by decide)
  · rw [if_neg (by simpa using h1)]
    obtain ⟨r, σ', er, hr⟩ := admitted2 (text := text) (lim := lim) (start := start) (pos := start) (pc := 10) (handed := start) (om := true) (fr := []) (wt := 0) (ans := none) (σ₀ := ({} : Sre.Seen).add 14) (out := none) (lim + 1 - start) start (({} : Sre.Seen).add 14) (by omega)
    rw [er]
    cases r with
    | none => exact (EndsIn.step (k := 0) rfl s2_e (EndsIn.now rfl (.inr ⟨hr, rfl⟩))).le (by decide)
    | some k =>
      obtain ⟨n, a, b, c⟩ := run2 (text := text) (lim := lim) (s := k) (f := true) (σ := σ') hr.2.1
      exact ⟨n, a, by omega, .inl ⟨k, hr.1, hr.2.1, hr.2.2, c⟩⟩
end Mine
end
section
open PySem PySem.W PyProof.Rows
namespace Mine
section
variable {M : Model} {A : Around} {E : Value → Shared → Prop} {s : Shared}
theorem drive_wp {Q : Sre.M → Shared → Prop} : ∀ (turns : Nat) (m : Sre.M), 0 < turns → (m.runFor (4 * turns)).outcome.isSome = true → Q (m.runFor (4 * turns)) s → wpAny M A (Builtin.Re.reDrive turns m) Q E s
  | 0, _, h, _, _ => absurd h (Nat.lt_irrefl 0)
  | t + 1, m, _, h, hQ => by
    rw [Builtin.Re.reDrive]
    have e : 4 * (t + 1) = 4 + 4 * t := by omega
    rw [e, runFor_add] at h hQ
    show wpAny M A (if ((m.runFor 4).outcome.isSome) = true then pure (m.runFor 4) else (rule "sre.turn" >>= fun _ => Builtin.Re.reDrive t (m.runFor 4))) Q E s
    by_cases hc : (m.runFor 4).outcome.isSome = true
    · rw [if_pos hc]
      rw [runFor_done hc] at hQ
      exact wpAny_pure hQ
    · rw [if_neg hc]
      have ht : 0 < t := by
        rcases Nat.eq_zero_or_pos t with h0 | h0
        · rw [h0, Nat.mul_zero, Sre.M.runFor] at h
          exact absurd h hc
        · exact h0
      exact wpAny_bind (wpAny_rule (drive_wp t _ ht h hQ))
theorem rules_wp {Q : PUnit → Shared → Prop} (l : List Nat) (σ : Sre.Seen) (hQ : Q ⟨⟩ s) :
    wpAny M A (forIn l PUnit.unit fun i _ => if σ.has i = true then (rule (Sre.names.getD i "") >>= fun _ => pure (ForInStep.yield PUnit.unit)) else pure (ForInStep.yield PUnit.unit)) Q E s := by
  refine wpAny_forIn_list _ (fun _ _ s' => s' = s) Q (fun x rest b s' e => ?_) (fun b s' e => e ▸ hQ) l _ rfl
  subst e
  by_cases h : σ.has x = true
  · rw [if_pos h]
    exact wpAny_bind (wpAny_rule (wpAny_pure rfl))
  · rw [if_neg h]
    exact wpAny_pure rfl
theorem run_wp {k : Nat} {m : Sre.M} {P : Sre.M → Prop} {Q : Option Sre.M → Shared → Prop} (hk : k ≤ 1000000) (h : EndsIn k m P)
    (hQ : ∀ m', P m' → (m'.outcome = some .matched → Q (some m') s) ∧ (m'.outcome = some .failed → Q none s) ∧ (m'.outcome = some .matched ∨ m'.outcome = some .failed)) : wpAny M A (Builtin.Re.reRunToEnd m) Q E s := by
  obtain ⟨n, h1, h2, h3⟩ := h
  unfold Builtin.Re.reRunToEnd
  have hN : ∃ b, 4 * 2 ^ 64 = n + b := ⟨4 * 2 ^ 64 - n, by
    have : (1000000 : Nat) ≤ 4 * 2 ^ 64 := by decide
    omega⟩
  obtain ⟨b, hb⟩ := hN
  have e : m.runFor (4 * 2 ^ 64) = m.runFor n := by rw [hb, runFor_add, runFor_done h1]
  refine wpAny_bind (drive_wp (2 ^ 64) m (Nat.pos_of_ne_zero (by decide)) (by rw [e]; exact h1) ?_)
  rw [e]
  refine wpAny_bind (rules_wp _ _ ?_)
  have q := hQ _ h3
  rcases q.2.2 with ho | ho
  · rw [ho]
    exact wpAny_pure (q.1 ho)
  · rw [ho]
    exact wpAny_pure (q.2.1 ho)
theorem target_wp {P tup : Addr} {x pt : Str} {tx t1 t2 : Tok} {fl : Int} {items : Array Value} {n : Nat} {code : Array Nat} {Q : Builtin.Re.ReTarget → Shared → Prop}
    (hP : s.heap.get? P = some { cls := .type "re.Pattern", data := .fields #[.str pt t1, .int fl t2, .int 0 0, .none, .none, .ref tup, .int 0 0] })
    (hT : s.heap.get? tup = some { cls := .type "tuple", data := .seq items n }) (hc : (items.map Builtin.Re.reRawOf).map (·.toNat) = code)
    (h : Q { pattern := .ref P, string := .str x tx, code, text := x.cps, kind := 0, groups := 0, pos := 0, lim := x.cps.size } s) : wpAny M A (Builtin.Re.reWholeTarget (.ref P) (.str x tx)) Q E s := by
  unfold Builtin.Re.reWholeTarget
  refine wpAny_bind (wpAny_fieldsOf hP rfl ?_)
  refine wpAny_bind (wpAny_of_eq (a := (x.cps, 0)) rfl ?_)
  show wpAny M A (Builtin.Re.reRawItems (.ref tup) >>= fun it => pure ({ pattern := .ref P, string := .str x tx, code := it.map (·.toNat), text := x.cps, kind := 0, groups := 0, pos := 0, lim := x.cps.size } : Builtin.Re.ReTarget)) Q E s
  refine wpAny_bind ?_
  unfold Builtin.Re.reRawItems
  refine wpAny_bind (wpAny_seqItems hT rfl ?_)
  refine wpAny_pure (wpAny_pure ?_)
  subst hc
  exact h
end
end Mine
end
section
open PySem PySem.W PyProof.Rows
namespace Mine
open Builtin Builtin.Re in
theorem loop_tree (P D : Addr) (x repl : Str) (tx tr : Tok) (n k : Nat) : «re.Pattern.sub.loop» ⟨[.ref P, .str x tx, .str repl tr, rawInt 0, rawInt 0, rawInt (n : Int), rawInt (k : Int), rawInt (k : Int), .bool false, .ref D, .bool false], []⟩ = (do
    let t ← reWholeTarget (.ref P) (.str x tx)
    match ← reNextFound t k false with
    | some m =>
      if k < m.start then updateSeq D (·.push (← reSlice t.text t.kind k m.start))
      updateSeq D (·.push (.str repl tr))
      again (.builtin "re.Pattern.sub.loop" ⟨[.ref P, .str x tx, .str repl tr, rawInt 0, rawInt 0, rawInt ((n : Int) + 1), rawInt m.handed, rawInt m.handed, .bool (m.handed == m.start), .ref D, .bool false], []⟩)
    | none =>
      if k < t.lim then updateSeq D (·.push (← reSlice t.text t.kind k t.lim))
      let joiner ← reSlice t.text t.kind 0 0
      let text ← if ((← seqItems? (.ref D)).getD #[]).isEmpty then pure joiner
        else call (.builtin (if t.kind == 0 then "str.join" else "bytes.join")) [joiner, .ref D]
      ret text) := rfl
open Builtin Builtin.Re in
theorem sub_tree (P : Addr) (x repl : Str) (tx tr : Tok) : «re.Pattern.sub» ⟨[.ref P, .str repl tr, .str x tx], []⟩ = (do
    let called := (← specialOf (.str repl tr) "__call__").isSome
    let literal ← if called then pure false else pure !repl.cps.contains 92
    let (r, way) ← if called then pure (Value.str repl tr, (1 : Int)) else if literal then pure (Value.str repl tr, (0 : Int)) else do
      let t ← reCompileTemplate (.ref P) (.str repl tr)
      if ← reOnlyLiteral t then pure (← field t 0, 0) else pure (t, 2)
    let _ ← holding [r] (reWholeTarget (.ref P) (.str x tx))
    if way == 1 then reNotHeld "re.Pattern.sub" (.str x tx)
    again (.builtin "re.Pattern.sub.loop" ⟨[.ref P, .str x tx, r, rawInt way, rawInt 0, rawInt 0, rawInt 0, rawInt 0, .bool false, ← newList [], .bool false], []⟩)) := rfl
open Builtin Builtin.Str in
theorem glued_cs (xs : List Str) : cs (glued ⟨#[]⟩ xs) = xs.flatMap cs := by
  have key : ∀ (rest : List Str) (acc : Array Nat), (rest.foldl (fun acc p => acc ++ (⟨#[]⟩ : Str).cps ++ p.cps) acc).toList = acc.toList ++ rest.flatMap cs := by
    intro rest
    induction rest with
    | nil => intro acc; simp
    | cons p rest ih =>
      intro acc
      rw [List.foldl_cons, ih, List.flatMap_cons]
      simp [cs]
  cases xs with
  | nil => rfl
  | cons x rest =>
    show (rest.foldl (fun acc p => acc ++ (⟨#[]⟩ : Str).cps ++ p.cps) x.cps).toList = _
    rw [key, List.flatMap_cons]
    rfl
theorem flat_len (xs : List Str) : (xs.map (·.length)).sum = (xs.flatMap cs).length := by
  induction xs with
  | nil => rfl
  | cons x xs ih => rw [List.map_cons, List.sum_cons, ih, List.flatMap_cons, List.length_append, cs_len]
section
variable {M : Model} {A : Around} {E : Value → Shared → Prop} {s : Shared}
theorem push_wp {D : Addr} {vs : List Value} {n : Nat} {v : Value} {Q : Unit → Shared → Prop} (ho : s.heap.get? D = some { cls := .type "list", data := .seq vs.toArray n }) (hz : vs.length ≤ 100000)
    (h : ∀ h' n', h'.get? D = some { cls := .type "list", data := .seq (vs ++ [v]).toArray n' } → (∀ b, b ≠ D → h'.get? b = s.heap.get? b) → Q () { s with heap := h' }) : wpAny M A (updateSeq D (·.push v)) Q E s := by
  refine wpAny_updateSeq ho rfl (h _ (n + 1) ?_ fun b hb => Heap.get?_update_ne _ _ _ _ hb) ?_ ?_
  · rw [get?_update_seq ho]
    rw [if_neg (by simp), List.push_toArray]
  · rw [List.size_toArray]; simp only [PySem.sizeLine_eq]; exact Nat.le_trans hz (by decide)
  · simp only [Array.size_push, List.size_toArray, PySem.sizeLine_eq]; omega
theorem slice_wp {x : Str} {a b : Nat} {Q : Value → Shared → Prop} (hx : x.length ≤ 100000) (h : Q (.str ⟨x.cps.extract a b⟩ s.toks) { s with toks := s.toks + 1 }) : wpAny M A (Builtin.Re.reSlice x.cps 0 a b) Q E s := by
  refine wpAny_mkStr h ?_
  show (x.cps.extract a b).size ≤ _
  rw [Array.size_extract]
  have : x.cps.size = x.length := rfl
  simp only [PySem.sizeLine_eq]
  omega
end
theorem strs_snoc {y : Str} {t : Tok} : ∀ {vs : List Value} {ys : List Str}, StrsAre vs ys → StrsAre (vs ++ [.str y t]) (ys ++ [y])
  | _, _, .nil => .cons y t .nil
  | _, _, .cons z u r => .cons z u (strs_snoc r)
def SubOk (code text : Array Nat) (repl : List Nat) (G : Nat → List Nat) : Prop := ∀ start, start ≤ text.size → EndsIn 1000000 (Sre.forSearch code text 0 start text.size false) (fun m =>
  (∃ k e, start ≤ k ∧ k < e ∧ e ≤ text.size ∧ m.outcome = some .matched ∧ m.start = k ∧ m.handed = e ∧ G start = (text.extract start k).toList ++ (repl ++ G e)) ∨ (m.outcome = some .failed ∧ G start = (text.extract start text.size).toList))
section
variable {w : World} {A : Around} {prog : Program}
open Builtin Builtin.Re in
theorem loop_wp {P tup D : Addr} {x repl pt : Str} {tx tr t1 t2 : Tok} {fl : Int} {items : Array Value} {n0 : Nat} {code : Array Nat} {G : Nat → List Nat} {R : Result → Shared → Prop} {s₀ : Shared} {Y : List Nat}
    (hP : s₀.heap.get? P = some { cls := .type "re.Pattern", data := .fields #[.str pt t1, .int fl t2, .int 0 0, .none, .none, .ref tup, .int 0 0] })
    (hT : s₀.heap.get? tup = some { cls := .type "tuple", data := .seq items n0 }) (hc : (items.map reRawOf).map (·.toNat) = code) (hD₀ : s₀.heap.get? D = none)
    (hG : SubOk code x.cps (cs repl) G) (hx : x.length ≤ 1000) (hY : Y.length ≤ 100000)
    (hR : ∀ y t h' tk', cs y = Y → (∀ b o, s₀.heap.get? b = some o → h'.get? b = some o) → R (.ok (.ret (.str y t))) { s₀ with heap := h', toks := tk' }) :
    ∀ (d k n : Nat) (h : Heap) (tk : Nat) (vs : List Value) (xs : List Str) (nn : Nat), k + d = x.cps.size → h.get? D = some { cls := .type "list", data := .seq vs.toArray nn } →
      (∀ b, b ≠ D → ∀ o, s₀.heap.get? b = some o → h.get? b = some o) → StrsAre vs xs → vs.length ≤ 2 * k → xs.flatMap cs ++ G k = Y →
      codeAny (model prog w) A (.builtin "re.Pattern.sub.loop" ⟨[.ref P, .str x tx, .str repl tr, rawInt 0, rawInt 0, rawInt (n : Int), rawInt (k : Int), rawInt (k : Int), .bool false, .ref D, .bool false], []⟩) R { s₀ with heap := h, toks := tk } := by
  have ne : ∀ b o, s₀.heap.get? b = some o → b ≠ D := fun b o e q => by rw [q, hD₀] at e; cases e
  intro d
  induction d using Nat.strongRecOn with
  | ind d ih =>
  intro k n h tk vs xs nn hk hD hkeep hs hl hY2
  have hsz : x.cps.size = x.length := rfl
  refine codeAny_builtin entry_pat_loop ?_
  rw [loop_tree]
  refine wpAny_bind (target_wp (hkeep P (ne _ _ hP) _ hP) (hkeep tup (ne _ _ hT) _ hT) hc ?_)
  refine wpAny_bind ?_
  unfold Builtin.Re.reNextFound
  refine run_wp (Nat.le_refl _) (hG k (by omega)) fun m hm => ⟨fun ho => ?_, fun ho => ?_, ?_⟩
  · rcases hm with ⟨a, e, h1, h2, h3, _, h5, h6, h7⟩ | ⟨hf, _⟩
    · dsimp only
      rw [h5, h6]
      have last : ∀ (h1 : Heap) (tk1 : Nat) (vs1 : List Value) (xs1 : List Str) (nn1 : Nat), h1.get? D = some { cls := .type "list", data := .seq vs1.toArray nn1 } →
          (∀ b, b ≠ D → ∀ o, s₀.heap.get? b = some o → h1.get? b = some o) → StrsAre vs1 xs1 → vs1.length ≤ 2 * k + 1 → xs1.flatMap cs ++ (cs repl ++ G e) = Y →
          wpAny (model prog w) (A.under (.builtin "re.Pattern.sub.loop" ⟨[.ref P, .str x tx, .str repl tr, rawInt 0, rawInt 0, rawInt (n : Int), rawInt (k : Int), rawInt (k : Int), .bool false, .ref D, .bool false], []⟩))
            (do updateSeq D (·.push (.str repl tr))
                again (.builtin "re.Pattern.sub.loop" ⟨[.ref P, .str x tx, .str repl tr, rawInt 0, rawInt 0, rawInt ((n : Int) + 1), rawInt e, rawInt e, .bool (e == a), .ref D, .bool false], []⟩))
            (fun fin s' => match fin with | .done f => R (.ok f) s' | .again c' => c'.quiet = true ∧ codeAny (model prog w) A c' R s') (fun e s' => R (.error e) s') { s₀ with heap := h1, toks := tk1 } := by
        intro h1 tk1 vs1 xs1 nn1 g1 g2 g3 g4 g5
        refine wpAny_bind (push_wp g1 (by omega) fun h' n' q1 q2 => ?_)
        have hb : (e == a) = false := by simp; omega
        rw [hb]
        refine wpAny_pure ⟨plainId_quiet plain_loop _, ?_⟩
        have en : ((n : Int) + 1) = ((n + 1 : Nat) : Int) := by omega
        rw [en]
        refine ih (x.cps.size - e) (by omega) e (n + 1) h' tk1 (vs1 ++ [.str repl tr]) (xs1 ++ [repl]) n' (by omega) q1 (fun b hb o ho' => by rw [q2 b hb]; exact g2 b hb o ho') ?_ (by simp; omega) ?_
        · exact strs_snoc g3
        · rw [List.flatMap_append, List.append_assoc]
          simpa using g5
      by_cases hlt : k < a
      · rw [if_pos hlt]
        refine wpAny_bind (slice_wp (x := x) (by omega) ?_)
        refine wpAny_bind (push_wp (s := { s₀ with heap := h, toks := tk + 1 }) hD (by omega) fun h' n' q1 q2 => ?_)
        refine last h' _ (vs ++ [.str ⟨x.cps.extract k a⟩ tk]) (xs ++ [⟨x.cps.extract k a⟩]) n' q1 (fun b hb o ho' => by rw [q2 b hb]; exact hkeep b hb o ho') (strs_snoc hs) (by simp; omega) ?_
        rw [← hY2, h7, List.flatMap_append]
        simp [cs]
      · rw [if_neg hlt]
        have ea : a = k := by omega
        refine last h tk vs xs nn hD hkeep hs (by omega) ?_
        rw [← hY2, h7, ea]
        simp
    · rw [hf] at ho; cases ho
  · rcases hm with ⟨a, e, _, _, _, h4, _⟩ | ⟨_, h7⟩
    · rw [h4] at ho; cases ho
    · dsimp only
      have last : ∀ (h1 : Heap) (tk1 : Nat) (vs1 : List Value) (xs1 : List Str) (nn1 : Nat), h1.get? D = some { cls := .type "list", data := .seq vs1.toArray nn1 } →
          (∀ b, b ≠ D → ∀ o, s₀.heap.get? b = some o → h1.get? b = some o) → StrsAre vs1 xs1 → vs1.length ≤ 2 * k + 1 → xs1.flatMap cs = Y →
          wpAny (model prog w) (A.under (.builtin "re.Pattern.sub.loop" ⟨[.ref P, .str x tx, .str repl tr, rawInt 0, rawInt 0, rawInt (n : Int), rawInt (k : Int), rawInt (k : Int), .bool false, .ref D, .bool false], []⟩))
            (do let joiner ← reSlice x.cps 0 0 0
                let text ← if ((← seqItems? (.ref D)).getD #[]).isEmpty then pure joiner
                  else call (.builtin (if (0 : Nat) == 0 then "str.join" else "bytes.join")) [joiner, .ref D]
                ret text)
            (fun fin s' => match fin with | .done f => R (.ok f) s' | .again c' => c'.quiet = true ∧ codeAny (model prog w) A c' R s') (fun e s' => R (.error e) s') { s₀ with heap := h1, toks := tk1 } := by
        intro h1 tk1 vs1 xs1 nn1 g1 g2 g3 g4 g5
        refine wpAny_bind (slice_wp (x := x) (by omega) ?_)
        have e0 : (⟨x.cps.extract 0 0⟩ : Str) = ⟨#[]⟩ := by simp
        rw [e0]
        have keeps : ∀ b o, s₀.heap.get? b = some o → h1.get? b = some o := fun b o e => g2 b (ne b o e) o e
        refine wpAny_bind (wpAny_seqItems (s := { s₀ with heap := h1, toks := tk1 + 1 }) g1 rfl ?_)
        show wpAny _ _ (if (vs1.toArray).isEmpty = true then _ else _) _ _ _
        by_cases hv : vs1.toArray.isEmpty = true
        · rw [if_pos hv]
          refine wpAny_bind (wpAny_pure (wpAny_pure ?_))
          refine hR _ _ _ _ ?_ keeps
          have e1 : vs1 = [] := by simpa using hv
          subst e1
          cases g3
          exact g5
        · rw [if_neg hv]
          refine wpAny_bind ?_
          refine join_list (D := D) (items := vs1.toArray) (ys := xs1) ⟨_, g1, rfl, _, rfl⟩ (by simpa using g3) ?_ fun t' tk' => ?_
          · rw [flat_len, g5]
            show Y.length + xs1.length * 0 ≤ _
            omega
          · refine wpAny_pure ?_
            refine hR _ _ _ _ ?_ keeps
            exact (glued_cs xs1).trans g5
      by_cases hlt : k < x.cps.size
      · rw [if_pos hlt]
        refine wpAny_bind (slice_wp (x := x) (by omega) ?_)
        refine wpAny_bind (push_wp (s := { s₀ with heap := h, toks := tk + 1 }) hD (by omega) fun h' n' q1 q2 => ?_)
        refine last h' _ (vs ++ [.str ⟨x.cps.extract k x.cps.size⟩ tk]) (xs ++ [⟨x.cps.extract k x.cps.size⟩]) n' q1 (fun b hb o ho' => by rw [q2 b hb]; exact hkeep b hb o ho') (strs_snoc hs) (by simp; omega) ?_
        rw [← hY2, h7, List.flatMap_append]
        simp [cs]
      · rw [if_neg hlt]
        refine last h tk vs xs nn hD hkeep hs (by omega) ?_
        rw [← hY2, h7]
        have : x.cps.extract k x.cps.size = #[] := by
          apply Array.eq_empty_of_size_eq_zero
          rw [Array.size_extract]; omega
        rw [this]; simp
  · rcases hm with ⟨a, e, _, _, _, h4, _⟩ | ⟨h4, _⟩
    · exact .inl h4
    · exact .inr h4
end
end Mine
end
section
open PySem PySem.W PyProof.Rows
namespace Mine
theorem lookup_call : typeLookup (.type "str") (Str.ofString "__call__") = pure none := by rw [typeLookup_type, builtinLookup_eq_fast]; kernel_rfl
section
variable {w : World} {A : Around} {prog : Program} {s : Shared} {E : Value → Shared → Prop} {Q : Value → Shared → Prop}
open Builtin Builtin.Re in
theorem sub_wp {P tup : Addr} {x repl pt : Str} {tx tr t1 t2 : Tok} {fl : Int} {items : Array Value} {n0 : Nat} {code : Array Nat} {G : Nat → List Nat}
    (hP : s.heap.get? P = some { cls := .type "re.Pattern", data := .fields #[.str pt t1, .int fl t2, .int 0 0, .none, .none, .ref tup, .int 0 0] })
    (hT : s.heap.get? tup = some { cls := .type "tuple", data := .seq items n0 }) (hc : (items.map reRawOf).map (·.toNat) = code) (h92 : repl.cps.contains 92 = false)
    (hG : SubOk code x.cps (cs repl) G) (hx : x.length ≤ 1000) (hY : (G 0).length ≤ 100000)
    (hQ : ∀ y t h' tk', cs y = G 0 → (∀ b o, s.heap.get? b = some o → h'.get? b = some o) → Q (.str y t) { s with heap := h', toks := tk' }) :
    wpAny (model prog w) A (call (.builtin "re.Pattern.sub") [.ref P, .str repl tr, .str x tx]) Q E s := by
  refine wpAny_call (codeAny_call_builtin slot_pat_sub.plain entry_pat_sub (slot_pat_sub.check _ _ _ _ _ _ _ _ ⟨_, hP, rfl⟩ (args_pat_sub _ _ _) ?_))
  rw [sub_tree]
  refine wpAny_bind (wpAny_specialOf (typeIs_str _ _ _) lookup_call ?_)
  show wpAny _ _ (pure (!repl.cps.contains 92) >>= _) _ _ _
  refine wpAny_bind (wpAny_pure ?_)
  rw [h92]
  show wpAny _ _ (pure (Value.str repl tr, (0 : Int)) >>= _) _ _ _
  refine wpAny_bind (wpAny_pure ?_)
  refine wpAny_bind (wpAny_holding (target_wp hP hT hc ?_))
  show wpAny _ _ (newList [] >>= _) _ _ _
  refine wpAny_bind (wpAny_newList ?_ (Nat.zero_le _))
  refine wpAny_pure ⟨plainId_quiet plain_loop _, ?_⟩
  have hD₀ : s.heap.get? s.heap.objs.size = none := Heap.get?_none_of_le (Nat.le_refl _)
  have up : ∀ b o, s.heap.get? b = some o → (s.heap.push { cls := .type "list", data := .seq ([] : List Value).toArray }).get? b = some o := fun b o e => Heap.get?_push_of_some _ e
  refine loop_wp (s₀ := s) (D := s.heap.objs.size) (n := 0) (k := 0) (Y := G 0) hP hT hc hD₀ hG hx hY (fun y t h' tk' e k => hQ y t h' tk' e k) x.cps.size _ s.toks [] [] 0 (Nat.zero_add _) (Heap.get?_push_size _ rfl) (fun b _ o e => up b o e) .nil (Nat.le_refl _) (by simp)
end
end Mine
end
section
open PySem PySem.W PyProof.Rows
namespace Mine
def stuff : Bool → List Nat → List Nat
  | _, [] => []
  | b, c :: l => if b = true ∧ c = 46 then 46 :: 46 :: stuff false l else c :: stuff (c == 10) l
def norm : List Nat → List Nat
  | [] => []
  | [c] => if c = 10 ∨ c = 13 then [13, 10] else [c]
  | c :: d :: l => if c = 13 ∧ d = 10 then 13 :: 10 :: norm l else if c = 10 ∨ c = 13 then 13 :: 10 :: norm (d :: l) else c :: norm (d :: l)
theorem EndsIn.imp {k : Nat} {m : Sre.M} {P Q : Sre.M → Prop} (h : EndsIn k m P) (hPQ : ∀ m, P m → Q m) : EndsIn k m Q := let ⟨n, a, b, c⟩ := h; ⟨n, a, b, hPQ _ c⟩
section
variable {text : Array Nat}
theorem drop_at {s : Nat} (h : s < text.size) : text.toList.drop s = text.getD s 0 :: text.toList.drop (s + 1) := by
  rw [List.drop_eq_getElem_cons (by simpa using h)]
  congr 1
  simp [Array.getD, h]
theorem ext_cons {s k : Nat} (h : s < k) (hk : k ≤ text.size) : (text.extract s k).toList = text.getD s 0 :: (text.extract (s + 1) k).toList := by
  simp only [Array.toList_extract, List.extract_eq_take_drop]
  rw [drop_at (by omega)]
  have e : k - s = (k - (s + 1)) + 1 := by omega
  rw [e, List.take_succ_cons]
theorem ext_nil {s k : Nat} (h : k ≤ s) : (text.extract s k).toList = [] := by
  simp only [Array.toList_extract, List.extract_eq_take_drop]
  have e : k - s = 0 := by omega
  rw [e, List.take_zero]
theorem bol_succ (s : Nat) : bol text (s + 1) = (text.getD s 0 == 10) := by
  unfold bol
  simp
theorem stuff_skip {s : Nat} (h : s < text.size) (hn : ¬ Hit1 text text.size s) : stuff (bol text s) (text.toList.drop s) = text.getD s 0 :: stuff (bol text (s + 1)) (text.toList.drop (s + 1)) := by
  rw [drop_at h, stuff, if_neg (fun q => hn ⟨h, q⟩), bol_succ]
theorem stuff_end : ∀ (d s : Nat), s + d = text.size → (∀ j, s ≤ j → ¬ Hit1 text text.size j) → stuff (bol text s) (text.toList.drop s) = (text.extract s text.size).toList
  | 0, s, hd, _ => by
    rw [ext_nil (by omega), List.drop_eq_nil_of_le (by simp; omega)]
    rfl
  | d + 1, s, hd, h => by
    rw [stuff_skip (by omega) (h s (Nat.le_refl _)), ext_cons (by omega) (Nat.le_refl _), stuff_end d (s + 1) (by omega) fun j hj => h j (by omega)]
theorem stuff_hit : ∀ (d s k : Nat), s + d = k → Hit1 text text.size k → (∀ j, s ≤ j → j < k → ¬ Hit1 text text.size j) →
    stuff (bol text s) (text.toList.drop s) = (text.extract s k).toList ++ ([46, 46] ++ stuff (bol text (k + 1)) (text.toList.drop (k + 1)))
  | 0, s, k, hd, hh, _ => by
    have e : s = k := by omega
    subst e
    rw [ext_nil (Nat.le_refl _), drop_at hh.1, stuff, if_pos ⟨hh.2.1, hh.2.2⟩, bol_succ, hh.2.2]
    rfl
  | d + 1, s, k, hd, hh, h => by
    have hk := hh.1
    rw [stuff_skip (by omega) (h s (Nat.le_refl _) (by omega)), ext_cons (by omega) (by omega), stuff_hit d (s + 1) k (by omega) hh fun j hj hj' => h j (by omega) hj']
    rfl
theorem sub1_ok (ht : text.size ≤ 1000) : SubOk code1 text [46, 46] fun k => stuff (bol text k) (text.toList.drop k) := by
  intro start hs
  refine ((ends1 hs).le (by omega)).imp fun m hm => ?_
  rcases hm with ⟨k, h1, h2, h3, h4, h5, h6⟩ | ⟨h1, h2⟩
  · exact .inl ⟨k, k + 1, h1, by omega, h2.1, h4, h5, h6, stuff_hit (k - start) start k (by omega) h2 h3⟩
  · exact .inr ⟨h2, stuff_end (text.size - start) start (by omega) h1⟩
theorem norm_sing (c : Nat) : norm [c] = if c = 10 ∨ c = 13 then [13, 10] else [c] := by simp only [norm]
theorem len2_pos (k : Nat) : 1 ≤ len2 text text.size k := by unfold len2; split <;> decide
theorem len2_le {k : Nat} (hk : k < text.size) : k + len2 text text.size k ≤ text.size := by
  by_cases h : text.getD k 0 = 13 ∧ k + 1 < text.size ∧ text.getD (k + 1) 0 = 10
  · have e : len2 text text.size k = 2 := if_pos h
    rw [e]
    exact h.2.1
  · have e : len2 text text.size k = 1 := if_neg h
    rw [e]
    exact hk
theorem norm_one (c : Nat) (l : List Nat) (h : ¬ nl c) : norm (c :: l) = c :: norm l := by
  unfold nl at h
  cases l with
  | nil => rw [norm_sing, if_neg h]; rfl
  | cons d l => rw [norm, if_neg (fun q => h (.inr q.1)), if_neg h]
theorem norm_skip {s : Nat} (h : s < text.size) (hn : ¬ Hit2 text text.size s) : norm (text.toList.drop s) = text.getD s 0 :: norm (text.toList.drop (s + 1)) := by
  rw [drop_at h, norm_one _ _ fun q => hn ⟨h, q⟩]
theorem norm_end : ∀ (d s : Nat), s + d = text.size → (∀ j, s ≤ j → ¬ Hit2 text text.size j) → norm (text.toList.drop s) = (text.extract s text.size).toList
  | 0, s, hd, _ => by
    rw [ext_nil (by omega), List.drop_eq_nil_of_le (by simp; omega)]
    rfl
  | d + 1, s, hd, h => by
    rw [norm_skip (by omega) (h s (Nat.le_refl _)), ext_cons (by omega) (Nat.le_refl _), norm_end d (s + 1) (by omega) fun j hj => h j (by omega)]
theorem norm_at {k : Nat} (hh : Hit2 text text.size k) : norm (text.toList.drop k) = 13 :: 10 :: norm (text.toList.drop (k + len2 text text.size k)) := by
  obtain ⟨hk, hn⟩ := hh
  unfold nl at hn
  unfold len2
  by_cases h : text.getD k 0 = 13 ∧ k + 1 < text.size ∧ text.getD (k + 1) 0 = 10
  · rw [if_pos h, drop_at hk, drop_at h.2.1, norm, if_pos ⟨h.1, h.2.2⟩]
  · rw [if_neg h, drop_at hk]
    by_cases h1 : k + 1 < text.size
    · rw [drop_at h1, norm, if_neg (fun q => h ⟨q.1, h1, q.2⟩), if_pos hn]
    · have e : text.toList.drop (k + 1) = [] := List.drop_eq_nil_of_le (by simp; omega)
      rw [e, norm_sing, if_pos hn]
      rfl
theorem norm_hit : ∀ (d s k : Nat), s + d = k → Hit2 text text.size k → (∀ j, s ≤ j → j < k → ¬ Hit2 text text.size j) →
    norm (text.toList.drop s) = (text.extract s k).toList ++ ([13, 10] ++ norm (text.toList.drop (k + len2 text text.size k)))
  | 0, s, k, hd, hh, _ => by
    have e : s = k := by omega
    subst e
    rw [ext_nil (Nat.le_refl _), norm_at hh]
    rfl
  | d + 1, s, k, hd, hh, h => by
    have hk := hh.1
    rw [norm_skip (by omega) (h s (Nat.le_refl _) (by omega)), ext_cons (by omega) (by omega), norm_hit d (s + 1) k (by omega) hh fun j hj hj' => h j (by omega) hj']
    rfl
theorem sub2_ok : SubOk code2 text [13, 10] fun k => norm (text.toList.drop k) := by
  intro start hs
  refine ((ends2 hs).le (by decide)).imp fun m hm => ?_
  rcases hm with ⟨k, h1, h2, h3, h4, h5, h6⟩ | ⟨h1, h2⟩
  · have hk := h2.1
    refine .inl ⟨k, k + len2 text text.size k, h1, ?_, ?_, h4, h5, h6, norm_hit (k - start) start k (by omega) h2 h3⟩
    · have := len2_pos (text := text) k; omega
    · exact len2_le hk
  · exact .inr ⟨h2, norm_end (text.size - start) start (by omega) h1⟩
end
end Mine
end
section
open PySem PySem.W PyProof.Rows
namespace Mine
theorem look57 (P : Params) : (hd.heap_39 P).lookup 57 = some { cls := .type "re.Pattern", data := .fields #[.str (Str.ofString "(?m)^\\.") 325, .int 40 338, .int 0 0, .none, .none, .ref 56, .int 0 0] } := rfl
theorem look62 (P : Params) : (hd.heap_39 P).lookup 62 = some { cls := .type "re.Pattern", data := .fields #[.str (Str.ofString "(?:\\r\\n|\\n|\\r(?!\\n))") 341, .int 32 380, .int 0 0, .none, .none, .ref 61, .int 0 0] } := rfl
theorem look56 (P : Params) : (hd.heap_39 P).lookup 56 = some { cls := .type "tuple", data := .seq (code1.toList.map fun (n : Nat) => Value.int (n : Int) 0).toArray 0 } := rfl
theorem look61 (P : Params) : (hd.heap_39 P).lookup 61 = some { cls := .type "tuple", data := .seq (code2.toList.map fun (n : Nat) => Value.int (n : Int) 0).toArray 0 } := rfl
section
variable {w : World} {A : Around} {prog : Program} {s : Shared} {E : Value → Shared → Prop} {h₀ : Heap} {L : Addr} {m : Str → Option Value} {news : List (Addr × Obj)}
theorem meth57 {pl : Sem Bool} {Q : Value × List Value → Shared → Prop} (F : Fr h₀ L s.heap m) (X : (hd.heap_39 w.params).In h₀) (h : Q (.builtin "re.Pattern.sub", [.ref 57]) s) : wpAny (model prog w) A (getMethod (.ref 57) (Str.ofString "sub") pl) Q E s :=
  getMethod_builtin ⟨_, F.keep _ _ (X _ _ (look57 _)), rfl⟩ plainAttrs_pat slot_pat_sub type_pat_sub (fun a e => by cases e; exact ⟨_, F.keep _ _ (X _ _ (look57 _)), rfl⟩) h
theorem meth62 {pl : Sem Bool} {Q : Value × List Value → Shared → Prop} (F : Fr h₀ L s.heap m) (X : (hd.heap_39 w.params).In h₀) (h : Q (.builtin "re.Pattern.sub", [.ref 62]) s) : wpAny (model prog w) A (getMethod (.ref 62) (Str.ofString "sub") pl) Q E s :=
  getMethod_builtin ⟨_, F.keep _ _ (X _ _ (look62 _)), rfl⟩ plainAttrs_pat slot_pat_sub type_pat_sub (fun a e => by cases e; exact ⟨_, F.keep _ _ (X _ _ (look62 _)), rfl⟩) h
theorem sub57 {x : Str} {tx tr : Tok} {Q : Value → Shared → Prop} (F : Fr h₀ L s.heap m) (N : News h₀ L s.heap news) (X : (hd.heap_39 w.params).In h₀) (hx : x.length ≤ 1000) (hY : (stuff true (cs x)).length ≤ 100000)
    (h : ∀ y t h' tk', cs y = stuff true (cs x) → Fr h₀ L h' m → News h₀ L h' news → Q (.str y t) { s with heap := h', toks := tk' }) :
    wpAny (model prog w) A (call (.builtin "re.Pattern.sub") [.ref 57, .str (Str.ofString "..") tr, .str x tx]) Q E s := by
  have hr : cs (Str.ofString "..") = [46, 46] := by decide +kernel
  refine sub_wp (G := fun k => stuff (bol x.cps k) (x.cps.toList.drop k)) (code := code1) (F.keep _ _ (X _ _ (look57 _))) (F.keep _ _ (X _ _ (look56 _))) (by decide +kernel) (by decide +kernel) (by rw [hr]; exact sub1_ok hx) hx hY fun y t h' tk' e k => ?_
  exact h y t h' tk' e (F.grownK k) (N.grown k)
theorem sub62 {x : Str} {tx tr : Tok} {Q : Value → Shared → Prop} (F : Fr h₀ L s.heap m) (N : News h₀ L s.heap news) (X : (hd.heap_39 w.params).In h₀) (hx : x.length ≤ 1000) (hY : (norm (cs x)).length ≤ 100000)
    (h : ∀ y t h' tk', cs y = norm (cs x) → Fr h₀ L h' m → News h₀ L h' news → Q (.str y t) { s with heap := h', toks := tk' }) :
    wpAny (model prog w) A (call (.builtin "re.Pattern.sub") [.ref 62, .str (Str.ofString "\r\n") tr, .str x tx]) Q E s := by
  have hr : cs (Str.ofString "\r\n") = [13, 10] := by decide +kernel
  refine sub_wp (G := fun k => norm (x.cps.toList.drop k)) (code := code2) (F.keep _ _ (X _ _ (look62 _))) (F.keep _ _ (X _ _ (look61 _))) (by decide +kernel) (by decide +kernel) (by rw [hr]; exact sub2_ok) hx hY fun y t h' tk' e k => ?_
  exact h y t h' tk' e (F.grownK k) (N.grown k)
end
theorem norm_le : ∀ l : List Nat, (norm l).length ≤ 2 * l.length
  | [] => by simp [norm]
  | [c] => by
    rw [norm_sing]
    by_cases h : c = 10 ∨ c = 13
    · rw [if_pos h]; simp
    · rw [if_neg h]; simp
  | c :: d :: l => by
    rw [norm]
    have h1 := norm_le l
    have h2 := norm_le (d :: l)
    simp only [List.length_cons] at h2 ⊢
    by_cases h : c = 13 ∧ d = 10
    · rw [if_pos h]; simp only [List.length_cons]; omega
    · rw [if_neg h]
      by_cases h' : c = 10 ∨ c = 13
      · rw [if_pos h']; simp only [List.length_cons]; omega
      · rw [if_neg h']; simp only [List.length_cons]; omega
theorem stuff_le : ∀ (l : List Nat) (b : Bool), (stuff b l).length ≤ 2 * l.length
  | [], _ => by simp [stuff]
  | c :: l, b => by
    rw [stuff]
    have h1 := stuff_le l false
    have h2 := stuff_le l (c == 10)
    by_cases h : b = true ∧ c = 46
    · rw [if_pos h]; simp only [List.length_cons]; omega
    · rw [if_neg h]; simp only [List.length_cons]; omega
end Mine
end
section
open PySem PySem.W PyProof.Rows
namespace Mine
def rowK : Nat → Int → List Nat
  | 0, z => row0 z
  | k + 1, z => List.replicate ((dots z).toNat + (k + 1)) 46 ++ [letter z] ++ [13, 10]
def rows (ms : List Int) (k : Nat) : List Nat := ms.flatMap (rowK k)
theorem dots_pos (z : Int) : 1 ≤ (dots z).toNat ∧ (dots z).toNat ≤ 2 := by
  have := fm2 (z.fdiv 2)
  unfold dots
  omega
theorem letter_ab (z : Int) : letter z = 97 ∨ letter z = 98 := by
  have := fm2 z
  unfold letter
  omega
theorem ending_at {z : Int} (h : 0 ≤ z ∧ z < 12) : ending z = [10] ∨ ending z = [13] ∨ ending z = [13, 10] := by
  unfold ending
  rcases fd4 h with e | e | e <;> rw [e]
  · exact .inl rfl
  · exact .inr (.inl rfl)
  · exact .inr (.inr rfl)
def NoLf : List Nat → Prop
  | [] => True
  | c :: _ => c ≠ 10
theorem norm_dots (n : Nat) (l : List Nat) : norm (List.replicate n 46 ++ l) = List.replicate n 46 ++ norm l := by
  induction n with
  | zero => rfl
  | succ n ih =>
    rw [List.replicate_succ, List.cons_append, norm_one _ _ (by unfold nl; decide), ih]
    rfl
theorem norm_end_of {e l : List Nat} (h : e = [10] ∨ e = [13] ∨ e = [13, 10]) (hl : NoLf l) : norm (e ++ l) = 13 :: 10 :: norm l := by
  rcases h with rfl | rfl | rfl
  · cases l with
    | nil => rfl
    | cons c l =>
      show norm (10 :: c :: l) = _
      rw [norm, if_neg (fun q => absurd q.1 (by decide)), if_pos (.inl rfl)]
  · cases l with
    | nil => rfl
    | cons c l =>
      show norm (13 :: c :: l) = _
      rw [norm, if_neg (fun q => hl q.2), if_pos (.inr rfl)]
  · show norm (13 :: 10 :: l) = _
    rw [norm, if_pos ⟨rfl, rfl⟩]
theorem rowK_shape (k : Nat) {z : Int} (h : 0 ≤ z ∧ z < 12) : ∃ e, (e = [10] ∨ e = [13] ∨ e = [13, 10]) ∧ rowK k z = List.replicate ((dots z).toNat + k) 46 ++ (letter z :: e) := by
  cases k with
  | zero => exact ⟨ending z, ending_at h, by simp [rowK, row0]⟩
  | succ k => exact ⟨[13, 10], .inr (.inr rfl), by simp [rowK]⟩
theorem noLf_rows (ms : List Int) (k : Nat) (h : ∀ z ∈ ms, 0 ≤ z ∧ z < 12) : NoLf (rows ms k) := by
  cases ms with
  | nil => trivial
  | cons z ms =>
    obtain ⟨e, _, he⟩ := rowK_shape k (h z (.head _))
    unfold rows
    rw [List.flatMap_cons, he]
    have := dots_pos z
    obtain ⟨d, hd⟩ : ∃ d, (dots z).toNat + k = d + 1 := ⟨(dots z).toNat + k - 1, by omega⟩
    rw [hd, List.replicate_succ]
    show (46 : Nat) ≠ 10
    decide
theorem stuff_false (n : Nat) (l : List Nat) : stuff false (List.replicate n 46 ++ l) = List.replicate n 46 ++ stuff false l := by
  induction n with
  | zero => rfl
  | succ n ih =>
    rw [List.replicate_succ, List.cons_append, stuff, if_neg (by decide)]
    show 46 :: stuff false (List.replicate n 46 ++ l) = _
    rw [ih]
    rfl
theorem stuff_dots (n : Nat) (l : List Nat) : stuff true (List.replicate (n + 1) 46 ++ l) = List.replicate (n + 2) 46 ++ stuff false l := by
  rw [List.replicate_succ, List.cons_append, stuff, if_pos ⟨rfl, rfl⟩, stuff_false]
  rfl
theorem stuff_line {b : Bool} {c : Nat} (hc : c = 97 ∨ c = 98) (l : List Nat) : stuff b (c :: 13 :: 10 :: l) = c :: 13 :: 10 :: stuff true l := by
  have h1 : ¬ (b = true ∧ c = 46) := fun q => by rcases hc with h | h <;> rw [h] at q <;> exact absurd q.2 (by decide)
  have h2 : (c == 10) = false := by rcases hc with h | h <;> rw [h] <;> rfl
  rw [stuff, if_neg h1, h2, stuff, if_neg (by decide)]
  show c :: 13 :: stuff false (10 :: l) = _
  rw [stuff, if_neg (by decide)]
  rfl
theorem quote_rows (k : Nat) : ∀ (ms : List Int), (∀ z ∈ ms, 0 ≤ z ∧ z < 12) → stuff true (norm (rows ms k)) = rows ms (k + 1)
  | [], _ => rfl
  | z :: ms, h => by
    obtain ⟨e, h1, he⟩ := rowK_shape k (h z (.head _))
    have ih := quote_rows k ms fun y hy => h y (.tail _ hy)
    have hn := noLf_rows ms k fun y hy => h y (.tail _ hy)
    have e1 : rows (z :: ms) k = rowK k z ++ rows ms k := List.flatMap_cons
    have e2 : rows (z :: ms) (k + 1) = rowK (k + 1) z ++ rows ms (k + 1) := List.flatMap_cons
    have := dots_pos z
    obtain ⟨d, hd⟩ : ∃ d, (dots z).toNat + k = d + 1 := ⟨(dots z).toNat + k - 1, by omega⟩
    have hl : ¬ nl (letter z) := fun q => by
      have := letter_ab z
      unfold nl at q
      omega
    rw [e1, e2, he, List.append_assoc, norm_dots, List.cons_append, norm_one _ _ hl, norm_end_of h1 hn, hd, stuff_dots, stuff_line (letter_ab z), ih]
    show _ = (List.replicate ((dots z).toNat + (k + 1)) 46 ++ [letter z] ++ [13, 10]) ++ rows ms (k + 1)
    have e3 : (dots z).toNat + (k + 1) = d + 2 := by omega
    rw [e3]
    simp
theorem rowK_len (k : Nat) {z : Int} (h : 0 ≤ z ∧ z < 12) : (rowK k z).length ≤ k + 5 := by
  obtain ⟨e, h1, he⟩ := rowK_shape k h
  have := dots_pos z
  have he2 : e.length ≤ 2 := by rcases h1 with rfl | rfl | rfl <;> decide
  rw [he, List.length_append, List.length_replicate, List.length_cons]
  omega
theorem rows_len (k : Nat) : ∀ (ms : List Int), (∀ z ∈ ms, 0 ≤ z ∧ z < 12) → (rows ms k).length ≤ ms.length * (k + 5)
  | [], _ => Nat.zero_le _
  | z :: ms, h => by
    have h1 := rowK_len k (h z (.head _))
    have h2 := rows_len k ms fun y hy => h y (.tail _ hy)
    have e1 : rows (z :: ms) k = rowK k z ++ rows ms k := List.flatMap_cons
    rw [e1, List.length_append, List.length_cons, Nat.add_mul]
    omega
section
variable {prog : Program} {w : World} {A : Around} {E : Value → Shared → Prop} {s : Shared} {t : Tok} {Q : Value → Shared → Prop} {h₀ : Heap} {L D : Addr} {rest : List (Addr × Obj)}
theorem str_nil : Str.ofString "" = ⟨#[]⟩ := by decide +kernel
theorem join_cs {ys : List Value} {xs : List Str} {l : List Nat} {c : Nat} (N : News h₀ L s.heap ((D, listOf ys.toArray c) :: rest)) (hy : StrsAre ys xs) (hl : xs.flatMap cs = l) (hz : l.length ≤ 100000)
    (h : ∀ t' k, Q (.str (mk l) t') { s with toks := k }) : wpAny (model prog w) A (call (.builtin "str.join") [.str (Str.ofString "") t, .ref D]) Q E s := by
  refine join_list (D := D) (items := ys.toArray) (ys := xs) ⟨_, (N _ (.head _)).1, rfl, _, rfl⟩ (by simpa using hy) ?_ fun t' k => ?_
  · rw [flat_len, hl, str_nil]
    show l.length + xs.length * 0 ≤ _
    omega
  · rw [str_nil]
    have e : Txt.join ⟨#[]⟩ xs = mk l := by rw [← mk_cs (Txt.join ⟨#[]⟩ xs)]; exact congrArg mk ((glued_cs xs).trans hl)
    rw [e]
    exact h t' k
end
theorem flat_mk (ms : List Int) (f : Int → List Nat) : (ms.map fun z => mk (f z)).flatMap cs = ms.flatMap f := by
  rw [List.flatMap_map]
  simp only [cs_mk]
theorem rows_len200 {ms : List Int} (h : ∀ z ∈ ms, 0 ≤ z ∧ z < 12) (hl : ms.length = 3 ∨ ms.length = 4) {k : Nat} (hk : k ≤ 2) : (rows ms k).length ≤ 100 := by
  have h1 := rows_len k ms h
  have h2 : ms.length * (k + 5) ≤ 4 * 7 := Nat.mul_le_mul (by omega) (by omega)
  omega
def row2 (t z : Int) : List Nat := List.replicate (1 + (z.fdiv 2).fmod 2 + t).toNat 46 ++ [letter z] ++ [13, 10]
theorem row2_eq {t : Int} {k : Nat} (ht : t = ((k + 1 : Nat) : Int)) (z : Int) : row2 t z = rowK (k + 1) z := by
  unfold row2
  show _ = List.replicate ((dots z).toNat + (k + 1)) 46 ++ [letter z] ++ [13, 10]
  have := fm2 (z.fdiv 2)
  have e : (1 + (z.fdiv 2).fmod 2 + t).toNat = (dots z).toNat + (k + 1) := by unfold dots; omega
  rw [e]
theorem rows2_eq {t : Int} {k : Nat} (ht : t = ((k + 1 : Nat) : Int)) (ms : List Int) : ms.flatMap (row2 t) = rows ms (k + 1) := by
  unfold rows
  have : row2 t = rowK (k + 1) := funext (row2_eq ht)
  rw [this]
theorem tms {tot : Int} (h : 0 ≤ tot.fmod 2 ∧ tot.fmod 2 < 2) : ∃ k : Nat, k ≤ 1 ∧ 1 + tot.fmod 2 = ((k + 1 : Nat) : Int) ∧ (rangeKs 0 (1 + tot.fmod 2 - 0).toNat).length = k + 1 := by
  refine ⟨(tot.fmod 2).toNat, by omega, by omega, ?_⟩
  rw [rangeKs_length]
  omega
theorem tms2 {tot : Int} (h : 0 ≤ tot.fmod 2 ∧ tot.fmod 2 < 2) : 1 + tot.fmod 2 = 1 ∨ 1 + tot.fmod 2 = 2 := by omega
section
variable {prog : Program} {w : World} {A : Around} {E : Value → Shared → Prop} {s : Shared} {t u : Tok} {Q : Value → Shared → Prop}
theorem ne_same {x y : Str} (h : cs x = cs y) (hq : Q (.bool false) s) : wpAny (model prog w) A (compareOp .NotEq (.str x t) (.str y u)) Q E s := by
  have e : x = y := by rw [← mk_cs x, h, mk_cs]
  subst e
  refine ne_str ?_
  have : (!(x == x)) = false := by simp
  first
    | (rw [this]; exact hq)
    | simpa using hq
end
theorem turn_st {ms : List Int} {x y : Str} {pre : List Int} {k : Int} {n : Nat} (h : ∀ z ∈ ms, 0 ≤ z ∧ z < 12) (hx : cs x = rows ms pre.length) (hy : cs y = stuff true (norm (cs x))) (hlt : pre.length < n) (hn : n ≤ 2) : cs y = rows ms (pre ++ [k]).length ∧ (pre ++ [k]).length ≤ 2 := by
  have e : (pre ++ [k]).length = pre.length + 1 := by simp
  rw [e, hy, hx, quote_rows _ _ h]
  exact ⟨rfl, by omega⟩
theorem turn_len {ms : List Int} {x : Str} {k : Nat} (h : ∀ z ∈ ms, 0 ≤ z ∧ z < 12) (hl : ms.length = 3 ∨ ms.length = 4) (hx : cs x = rows ms k) (hk : k ≤ 2) : x.length ≤ 200 := by
  have := rows_len200 h hl hk
  rw [← hx, cs_len] at this
  omega
end Mine
end
section
open PySem PySem.W PyProof.Rows Mine
local macro_rules | `(tactic| walk_at $s:str) => `(tactic| k_extra $s)
section
open PySem PySem.W PyProof.Rows
namespace Mine
theorem q62a {x : Str} (hx : x.length ≤ 200) : x.length ≤ 1000 := by omega
theorem q62b {x : Str} (hx : x.length ≤ 200) : (norm (cs x)).length ≤ 100000 := by
  have := norm_le (cs x)
  rw [cs_len] at this
  omega
theorem q57a {x y : Str} (hx : x.length ≤ 200) (h : cs y = norm (cs x)) : y.length ≤ 1000 := by
  have := norm_le (cs x)
  rw [← h, cs_len, cs_len] at this
  omega
theorem q57b {x y : Str} (hx : x.length ≤ 200) (h : cs y = norm (cs x)) : (stuff true (cs y)).length ≤ 100000 := by
  have h1 := stuff_le (cs y) true
  have := q57a hx h
  rw [cs_len] at h1
  omega
theorem q_end {x y z : Str} (h : cs y = norm (cs x)) (h2 : cs z = stuff true (cs y)) : cs z = stuff true (norm (cs x)) := by rw [h2, h]
set_option maxRecDepth 100000 in
set_option maxHeartbeats 8000000 in
theorem quoC (w : World) (p : Program) (loose : List Str) (mean : ExcName → Option Value) (mg mb : Str → Option Value) (x : Str) (tx : Tok) (news : List (Addr × Obj)) (hx : x.length ≤ 200) :
   ∀ (dp un : Nat) (gd : Option (List Code)) (cn : Str) (cs' : Scope) (a : Addr) (ccd : Value) (cl : List (Str × Addr)) (outer : List Env) (A₀ : Around) (base h₀ : Heap) (L : Addr) (m : Str → Option Value) (s : Shared) (Q E : Value → Shared → Prop),
    Below A₀ base outer h₀ → Fr h₀ L s.heap m → (hd.heap_39 w.params).In h₀ → News h₀ L s.heap news → Top p loose mean mg mb h₀ → cs'.kind = .function →
    dp + 5 < recursionLimit → un + 20 < cLine →
    (∀ (y : Str) (t : Tok) (h' : Heap) (tk' : Nat), cs y = stuff true (norm (cs x)) → Fr h₀ L h' m → News h₀ L h' news → Q (.str y t) { s with heap := h', toks := tk' }) →
      wpAny (model Challenge.rw_sh0023_01.row.prog w) (ktrTop dp un gd cn cs' L a ccd cl outer) (call (.ref 69) [.str x tx]) Q E s := by
  w_top off
  k_with_none
  k_with "getMethod ref" => (((with_reducible rename Fr _ _ _ _ => cF'); first | refine meth57 cF' (by assumption) ?_ | refine meth62 cF' (by assumption) ?_))
  k_with "call builtin:re.Pattern.sub" => (((with_reducible rename Fr _ _ _ _ => cF'); (with_reducible rename News _ _ _ _ => cN'); first | (refine' sub57 cF' cN' ?z0 ?z1 ?z2 ?_; (case z0 => assumption); (case z1 => exact q57a (by assumption) (by assumption)); (case z2 => exact q57b (by assumption) (by assumption)); intro _ _ _ _ _ _ _) | (refine' sub62 cF' cN' ?z3 ?z4 ?z5 ?_; (case z3 => assumption); (case z4 => exact q62a (by assumption)); (case z5 => exact q62b (by assumption)); intro _ _ _ _ _ _ _)))
  k_fill
  intros
  rename_i hret
  refine wpAny_call ?_
  k_dflt cell_enter
  k_with "LeaveK" => refine stop_in ?_
  k_steps
  refine stop_out ?_
  (try dsimp only)
  refine leaveK_ (by k_asm) (by k_asm) ?_
  intro kF kN
  (try dsimp only)
  refine hret _ _ _ _ ?_ kF kN
  exact q_end (by assumption) (by assumption)
end Mine
end
section
open PySem PySem.W PyProof.Rows
namespace Mine
local macro_rules | `(tactic| kst_in) => `(tactic| kst_inAny)
local macro_rules | `(tactic| kcj_all) => `(tactic| (intro q hq; simp only [List.mem_cons, List.mem_append, hq, true_or, or_true]))
def WovC (w : World) (p : Program) (loose : List Str) (mean : ExcName → Option Value) (mg mb : Str → Option Value) (N : Nat) : Prop := ∀ (x y : Str) (tx ty : Tok) (news : List (Addr × Obj)), x.length + y.length ≤ N → N ≤ 8 →
   ∀ (dp un : Nat) (gd : Option (List Code)) (cn : Str) (cs' : Scope) (a : Addr) (ccd : Value) (cl : List (Str × Addr)) (outer : List Env) (A₀ : Around) (base h₀ : Heap) (L : Addr) (m : Str → Option Value) (s : Shared) (Q E : Value → Shared → Prop),
    Below A₀ base outer h₀ → Fr h₀ L s.heap m → (hd.heap_39 w.params).In h₀ → News h₀ L s.heap news → Top p loose mean mg mb h₀ → cs'.kind = .function →
    dp + N + 10 < recursionLimit → un + 40 * N + 40 < cLine →
    (∀ (D : Addr) (vs : List Value) (xs : List Str) (c : Nat) (h' : Heap) (tk' : Nat), StrsAre vs xs → xs.map rv = wv (rv x) (rv y) → Fr h₀ L h' m → News h₀ L h' ((D, listOf vs.toArray c) :: news) → (∀ q ∈ news, q.1 ≠ D) → Q (.ref D) { s with heap := h', toks := tk' }) →
      wpAny (model Challenge.rw_sh0023_01.row.prog w) (ktrTop dp un gd cn cs' L a ccd cl outer) (call (.ref 88) [.str x tx, .str y ty]) Q E s
theorem wov_use {w : World} {p : Program} {loose : List Str} {mean : ExcName → Option Value} {mg mb : Str → Option Value} {N : Nat} {x y : Str} {tx ty : Tok} {news : List (Addr × Obj)}
   {dp un : Nat} {gd : Option (List Code)} {cn : Str} {cs' : Scope} {a : Addr} {ccd : Value} {cl : List (Str × Addr)} {outer : List Env} {A₀ : Around} {base h₀ : Heap} {L : Addr} {m : Str → Option Value} {s : Shared} {Q E : Value → Shared → Prop}
   (key : WovC w p loose mean mg mb N) (hxy : x.length + y.length ≤ N) (hN8 : N ≤ 8)
    (hB : Below A₀ base outer h₀) (hF : Fr h₀ L s.heap m) (hX : (hd.heap_39 w.params).In h₀) (hN : News h₀ L s.heap news) (hT : Top p loose mean mg mb h₀) (hk : cs'.kind = .function)
    (hd : dp + N + 10 < recursionLimit) (hu : un + 40 * N + 40 < cLine)
    (hret : ∀ (D : Addr) (vs : List Value) (xs : List Str) (c : Nat) (h' : Heap) (tk' : Nat), StrsAre vs xs → xs.map rv = wv (rv x) (rv y) → Fr h₀ L h' m → News h₀ L h' ((D, listOf vs.toArray c) :: news) → (∀ q ∈ news, q.1 ≠ D) → Q (.ref D) { s with heap := h', toks := tk' }) :
      wpAny (model Challenge.rw_sh0023_01.row.prog w) (ktrTop dp un gd cn cs' L a ccd cl outer) (call (.ref 88) [.str x tx, .str y ty]) Q E s :=
  key x y tx ty news hxy hN8 dp un gd cn cs' a ccd cl outer A₀ base h₀ L m s Q E hB hF hX hN hT hk hd hu hret
set_option maxRecDepth 100000 in
set_option maxHeartbeats 8000000 in
theorem wovC (w : World) (p : Program) (loose : List Str) (mean : ExcName → Option Value) (mg mb : Str → Option Value) : ∀ (N : Nat), WovC w p loose mean mg mb N := by
  intro N0
  induction N0 using Nat.strongRecOn with
  | ind N0 ih =>
  unfold WovC
  w_top off
  k_with_none
  k_with "call ref" => (refine stop_in ?_)
  k_with "eval ListComp" => (refine stop_in ?_)
  k_with "subscriptTail Name UnaryOp str int" => (((refine item_str (fitsSsize_of (N := 9223372036854775808) (by omega) (by omega) (Int.le_refl _)) (by omega) (by omega) ?_; intro _)))
  k_fill
  intro x y tx ty news hxy hN8
  intros
  rename_i hret
  refine wpAny_call ?_
  k_dflt ((refine' code_defC ?k1 ?k2 ?k3 ?k4 ?k5 ?kA ?kF ?kK ?k6 ?k7 ?k8 ?k9 ?kB ?kD ?_ ?c2 ?c3 ?c4; (case kA => exact rfl); (case kF => exact rfl); (case kK => assumption); (case k1 => k_asm); (case k2 => k_asm); (case k3 => k_asm); (case k4 => k_asm); (case k5 => k_asm); (case k6 => k_is); (case k7 => k_is); (case k8 => ktr_room); (case k9 => exact BindsTo.of_eq rfl); (case kB => exact rfl); (case kD => decide +kernel); (case c2 => exact rfl); (case c3 => exact rfl); (case c4 => exact rfl); k_whole; intro g' L' h' tk' cells' FG' F' N' Y' B' X' T' l1; (have hNL := newsLt_mk l1); (try k_lt l1); k_cells Y'; (try simp only [List.cons_append, List.nil_append] at N'); (try dsimp only); (try k_lift B'); (try k_fold)))
  k_with "LeaveK" => refine stop_in ?_
  k_steps
  all_goals refine stop_out ?_
  · (try dsimp only)
    refine leaveK_ (by k_asm) (by k_asm) ?_
    intro kF kN
    (try dsimp only)
    exact hret _ [.str (x ++ y) _] [x ++ y] 0 _ _ (.cons _ _ .nil) (wov_endL (by assumption)) kF (fun q hq => kN q (mem_up 2 hq)) (lt_tail2 (by assumption))
  · (try dsimp only)
    refine leaveK_ (by k_asm) (by k_asm) ?_
    intro kF kN
    (try dsimp only)
    exact hret _ [.str (x ++ y) _] [x ++ y] 0 _ _ (.cons _ _ .nil) (wov_endR (by assumption)) kF (fun q hq => kN q (mem_up 2 hq)) (lt_tail2 (by assumption))
  rename_i hx0 hy0
  have hx1 := str_ne hx0
  have hy1 := str_ne hy0
  have hcx := cut_last_len hx1
  have hcy := cut_last_len hy1
  k_with "CompSrc" => refine stop_in ?_
  k_dflt (refine LCg.ListComp_U (F₀ := by k_asm) (by rfl) (by decide) (by rfl) (by decide) (by rfl) ?_)
  k_steps
  refine stop_out ?_
  refine' wov_use (ih (N0 - 1) (by omega)) ?n1A ?n2A ?gBA ?gFA ?gXA ?gNA ?gTA ?gkA ?gdA ?guA ?_
  case n1A => omega
  case n2A => omega
  case gBA => k_asm
  case gFA => k_asm
  case gXA => k_asm
  case gNA => k_asm
  case gTA => k_asm
  case gkA => exact rfl
  case gdA => (dsimp only; omega)
  case guA => (dsimp only; omega)
  intro DA vsA xsA cA hA tkA hsA hwA FA NA offA
  dsimp only
  refine LCg.CompSrc.ledger rfl FA NA (List.Mem.head _) ?gsA (fun g1 => strs_rest (fun z => z ++ Txt.item x (-1)) hsA ?turnA ?finA)
  case gsA => exact Nat.le_trans (wov_size hsA hwA (by omega)) (by decide)
  case turnA =>
    intro z t I oI C oC D m₂ ys h tk E' hz hC hm F N off ne
    have hzl := wov_small hwA hz
    k_with "CompEnd" => refine stop_in ?_
    k_steps
    refine stop_out ?_
    exact LCg.CompEnd.intro F N _ (fun q hq => hq) off (.inr ⟨_, List.Mem.head _, rfl, _, rfl⟩) ⟨rfl, _, rfl⟩
  case finA =>
    clear FA NA
    intro ysA hysA EA h tk F N off
    have hzA := wov_size2 hsA hwA (by omega) _ hysA
    dsimp only
    (try k_fold)
    k_with "eval ListComp" => refine stop_in ?_
    k_steps
    refine stop_out ?_
    k_with "CompSrc" => refine stop_in ?_
    k_dflt (refine LCg.ListComp_U (F₀ := by k_asm) (by rfl) (by decide) (by rfl) (by decide) (by rfl) ?_)
    k_steps
    refine stop_out ?_
    refine' wov_use (ih (N0 - 1) (by omega)) ?n1B ?n2B ?gBB ?gFB ?gXB ?gNB ?gTB ?gkB ?gdB ?guB ?_
    case n1B => omega
    case n2B => omega
    case gBB => k_asm
    case gFB => k_asm
    case gXB => k_asm
    case gNB => k_asm
    case gTB => k_asm
    case gkB => exact rfl
    case gdB => (dsimp only; omega)
    case guB => (dsimp only; omega)
    intro DB vsB xsB cB hB tkB hsB hwB FB NB offB
    dsimp only
    refine LCg.CompSrc.ledger rfl FB NB (List.Mem.head _) ?gsB (fun g1 => strs_rest (fun z => z ++ Txt.item y (-1)) hsB ?turnB ?finB)
    case gsB => exact Nat.le_trans (wov_size hsB hwB (by omega)) (by decide)
    case turnB =>
      intro z t I oI C oC D m₂ ys h tk E' hz hC hm F N off ne
      have hzl := wov_small hwB hz
      k_with "CompEnd" => refine stop_in ?_
      k_steps
      refine stop_out ?_
      exact LCg.CompEnd.intro F N _ (fun q hq => hq) off (.inr ⟨_, List.Mem.head _, rfl, _, rfl⟩) ⟨rfl, _, rfl⟩
    case finB =>
      clear FB NB
      intro ysB hysB EB h tk F N off
      have hzB := wov_size2 hsB hwB (by omega) _ hysB
      dsimp only
      (try k_fold)
      k_with "binaryOp Add ref ref" => refine stop_in ?_
      k_with "eval ListComp" => refine stop_in ?_
      k_with "LeaveK" => refine stop_in ?_
      k_steps
      refine stop_out ?_
      refine' cat_strs F N ?ma (List.Mem.head _) hysA hysB (by omega) ?_
      case ma => exact .tail _ (.tail _ (.head _))
      intro D4 us4 h4 F4 N4 l4 hs4 hl4
      clear F N
      k_steps
      all_goals refine stop_out ?_
      rotate_left 1
      · (try dsimp only)
        refine leaveK_ (by k_asm) (by k_asm) ?_
        intro kF kN
        (try dsimp only)
        exact hret D4 us4 _ 0 _ _ hs4 (wov_two hx1 hy1 hwA hwB (by assumption)) kF (fun q hq => kN q (mem_up 6 hq)) (fun q hq => Nat.ne_of_lt (l4 q (mem_tails 6 hq)))
      k_with "CompSrc" => refine stop_in ?_
      k_dflt (refine LCg.ListComp_U (F₀ := by k_asm) (by rfl) (by decide) (by rfl) (by decide) (by rfl) ?_)
      k_steps
      refine stop_out ?_
      refine' wov_use (ih (N0 - 1) (by omega)) ?n1C ?n2C ?gBC ?gFC ?gXC ?gNC ?gTC ?gkC ?gdC ?guC ?_
      case n1C => omega
      case n2C => omega
      case gBC => k_asm
      case gFC => k_asm
      case gXC => k_asm
      case gNC => k_asm
      case gTC => k_asm
      case gkC => exact rfl
      case gdC => (dsimp only; omega)
      case guC => (dsimp only; omega)
      intro DC vsC xsC cC hC tkC hsC hwC FC NC offC
      dsimp only
      refine LCg.CompSrc.ledger rfl FC NC (List.Mem.head _) ?gsC (fun g1 => strs_rest (fun z => z ++ Txt.item x (-1)) hsC ?turnC ?finC)
      case gsC => exact Nat.le_trans (wov_size hsC hwC (by omega)) (by decide)
      case turnC =>
        intro z t I oI C oC D m₂ ys h tk E' hz hC hm F N off ne
        have hzl := wov_small hwC hz
        k_with "CompEnd" => refine stop_in ?_
        k_steps
        refine stop_out ?_
        exact LCg.CompEnd.intro F N _ (fun q hq => hq) off (.inr ⟨_, List.Mem.head _, rfl, _, rfl⟩) ⟨rfl, _, rfl⟩
      case finC =>
        clear FC NC
        intro ysC hysC EC h tk F N off
        have hzC := wov_size2 hsC hwC (by omega) _ hysC
        dsimp only
        (try k_fold)
        k_with "binaryOp Add ref ref" => refine stop_in ?_
        k_with "LeaveK" => refine stop_in ?_
        k_steps
        refine stop_out ?_
        refine' cat_strs F N ?ma2 (List.Mem.head _) hs4 hysC (by omega) ?_
        case ma2 => k_mem
        intro D6 us6 h6 F6 N6 l6 hs6 hl6
        k_steps
        refine stop_out ?_
        (try dsimp only)
        refine leaveK_ (by k_asm) (by k_asm) ?_
        intro kF kN
        (try dsimp only)
        exact hret D6 us6 _ 0 _ _ hs6 (wov_three hx1 hy1 hwA hwB hwC (by assumption)) kF (fun q hq => kN q (mem_up 9 hq)) (fun q hq => Nat.ne_of_lt (l6 q (mem_tails 9 hq)))
end Mine
end
section
open PySem PySem.W PyProof.Rows
namespace Mine
section
variable {w : World} {p : Program} {loose : List Str} {mean : ExcName → Option Value} {mg mb : Str → Option Value} {x y : Str} {tx ty : Tok} {news : List (Addr × Obj)}
   {dp un : Nat} {gd : Option (List Code)} {cn : Str} {cs' : Scope} {a : Addr} {ccd : Value} {cl : List (Str × Addr)} {outer : List Env} {A₀ : Around} {base h₀ : Heap} {L : Addr} {m : Str → Option Value} {s : Shared} {Q E : Value → Shared → Prop}
theorem quo_use (hx : x.length ≤ 200) (hB : Below A₀ base outer h₀) (hF : Fr h₀ L s.heap m) (hX : (hd.heap_39 w.params).In h₀) (hN : News h₀ L s.heap news) (hT : Top p loose mean mg mb h₀) (hk : cs'.kind = .function)
    (hd : dp + 5 < recursionLimit) (hu : un + 20 < cLine)
    (hret : ∀ (y : Str) (t : Tok) (h' : Heap) (tk' : Nat), cs y = stuff true (norm (cs x)) → Fr h₀ L h' m → News h₀ L h' news → Q (.str y t) { s with heap := h', toks := tk' }) :
    wpAny (model Challenge.rw_sh0023_01.row.prog w) (ktrTop dp un gd cn cs' L a ccd cl outer) (call (.ref 69) [.str x tx]) Q E s :=
  quoC w p loose mean mg mb x tx news hx dp un gd cn cs' a ccd cl outer A₀ base h₀ L m s Q E hB hF hX hN hT hk hd hu hret
theorem ways_use {T rest : List (Addr × Obj)} (hTl : TabsLed T) (hA : Apart T rest) (hx : 1 ≤ x.length ∧ x.length ≤ 4) (hy : y.length ≤ 16) (hxa : AB x) (hya : AB y) (hB : Below A₀ base outer h₀) (hF : Fr h₀ L s.heap m) (hX : (hd.heap_39 w.params).In h₀)
    (hC1 : CodeHd base 44 40) (hC2 : CodeHd base 37 33) (hN : News h₀ L s.heap (T ++ rest)) (hT : Top p loose mean mg mb h₀) (hk : cs'.kind = .function) (hd : dp + 30 < recursionLimit) (hu : un + 120 < cLine)
    (hret : ∀ (T' : List (Addr × Obj)) (t : Tok) (h' : Heap) (tk' : Nat), TabsLed T' → Apart T' rest → Fr h₀ L h' m → News h₀ L h' (T' ++ rest) → Q (.int (C (cs x) (cs y)) t) { s with heap := h', toks := tk' }) :
    wpAny (model Challenge.rw_sh0023_01.row.prog w) (ktrTop dp un gd cn cs' L a ccd cl outer) (call (.ref 93) [.str x tx, .str y ty]) Q E s :=
  waysC w p loose mean mg mb x y tx ty T rest hTl hA hx hy hxa hya dp un gd cn cs' a ccd cl outer A₀ base h₀ L m s Q E hB hF hX hC1 hC2 hN hT hk hd hu hret
theorem back_use (hx : x.length ≤ 4) (hy : y.length ≤ 16) (hB : Below A₀ base outer h₀) (hF : Fr h₀ L s.heap m) (hX : (hd.heap_39 w.params).In h₀) (hN : News h₀ L s.heap news) (hT : Top p loose mean mg mb h₀) (hk : cs'.kind = .function)
    (hd : dp + 1 < recursionLimit) (hu : un + 8 < cLine)
    (hret : ∀ (t : Tok) (h' : Heap) (tk' : Nat), Fr h₀ L h' m → News h₀ L h' news → Q (.int (C (cs x) (cs y)) t) { s with heap := h', toks := tk' }) :
    wpAny (model Challenge.rw_sh0023_01.row.prog w) (ktrTop dp un gd cn cs' L a ccd cl outer) (call (.ref 100) [.str x tx, .str y ty]) Q E s :=
  backC w p loose mean mg mb x y tx ty news hx hy dp un gd cn cs' a ccd cl outer A₀ base h₀ L m s Q E hB hF hX hN hT hk trivial hd hu hret
theorem ell_use {X : List Nat} {b : Bool} (hx : x.length ≤ 40) (hy : y.length ≤ 16) (h1 : (Builtin.Str.occurrences x (Str.ofString "...") 0 x.length 1).isEmpty = false) (h2 : Txt.split x (Str.ofString "...") = ⟨#[]⟩ :: (X.map single ++ [⟨#[]⟩])) (hX4 : X.length ≤ 4)
    (hb : b = true ↔ X.Sublist (cs y)) (hB : Below A₀ base outer h₀) (hF : Fr h₀ L s.heap m) (hX : (hd.heap_39 w.params).In h₀) (hN : News h₀ L s.heap news) (hT : Top p loose mean mg mb h₀) (hk : cs'.kind = .function)
    (hd : dp + 1 < recursionLimit) (hu : un + 8 < cLine)
    (hret : ∀ (h' : Heap) (tk' : Nat), Fr h₀ L h' m → News h₀ L h' news → Q (.bool b) { s with heap := h', toks := tk' }) :
    wpAny (model Challenge.rw_sh0023_01.row.prog w) (ktrTop dp un gd cn cs' L a ccd cl outer) (call (.ref 52) [.str x tx, .str y ty]) Q E s :=
  ellC w p loose mean mg mb x y tx ty news X b hx hy h1 h2 hX4 hb dp un gd cn cs' a ccd cl outer A₀ base h₀ L m s Q E hB hF hX hN hT hk trivial hd hu fun _ h' tk' F N => hret h' tk' F N
theorem lev_use {n : Int} {tn : Tok} (hx0 : 1 ≤ x.length) (hx : x.length ≤ 4) (hy : y.length ≤ 16) (hlt : x.length < y.length) (hn : n = 2 * ((y.length : Int) - x.length)) (hxa : AB x) (hya : AB y)
    (hB : Below A₀ base outer h₀) (hF : Fr h₀ L s.heap m) (hX : (hd.heap_39 w.params).In h₀) (hN : News h₀ L s.heap news) (hT : Top p loose mean mg mb h₀) (hk : cs'.kind = .function)
    (hd : dp + 10 < recursionLimit) (hu : un + 40 < cLine)
    (hret : ∀ (R : Int) (t : Tok) (h' : Heap) (tk' : Nat), (R = n ↔ (cs x).Sublist (cs y)) → Fr h₀ L h' m → News h₀ L h' news → Q (.int R t) { s with heap := h', toks := tk' }) :
    wpAny (model Challenge.rw_sh0023_01.row.prog w) (ktrTop dp un gd cn cs' L a ccd cl outer) (call (.ref 83) [.str x tx, .str y ty, .int n tn]) Q E s :=
  levC w p loose mean mg mb x y tx ty n tn news hx0 hx hy hlt hn hxa hya dp un gd cn cs' a ccd cl outer A₀ base h₀ L m s Q E hB hF hX hN hT hk hd hu hret
end
end Mine
end
section
open PySem PySem.W PyProof.Rows
namespace Mine
local macro_rules | `(tactic| kst_in) => `(tactic| kst_inAny)
set_option maxRecDepth 100000 in
set_option maxHeartbeats 8000000 in
theorem rest1 (w : World) (p : Program) (loose : List Str) (mean : ExcName → Option Value) (mg mb : Str → Option Value) (fa L : Addr) (cd : Value) (base : Heap) (m₀ : Str → Option Value) (s : Shared) (Q : Flow → Shared → Prop) (E : Value → Shared → Prop)
    (vs : List Value) (ms : List Int) (tot : Int) (N : Addr) (o0 o1 o2 : Obj) (t0 t1 : Tok) (hms : IntsAre vs ms) (hm12 : ∀ x ∈ ms, 0 ≤ x ∧ x < 12) (hml : ms.length = 3 ∨ ms.length = 4)
    (d0 : o0.data = .cell (some (.int tot t0))) (d1 : o1.data = .cell (some (.int (1 + tot.fmod 2) t1))) (d2 : o2.data = .cell none)
    (hB : Below callerA base [] base) (hF : Fr base L s.heap (fun z => if z = Str.ofString "numbers" then some (.ref N) else m₀ z)) (hC1 : CodeHd base 44 40) (hC2 : CodeHd base 37 33) (hT : Top p loose mean mg mb base)
    (hN : News base L s.heap [(N, LCg.lst vs), (L + 1 + 1 + 1, o2), (L + 1 + 1, o1), (L + 1, o0), (40, tabObj #[]), (33, tabObj #[])]) (hlt : @LT.lt Nat _ 40 L)
    (hPE : PassesOwn (model Challenge.rw_sh0023_01.row.prog w) (callerA.deeper (lawE (lawSc w.params) L fa cd)) (lawE (lawSc w.params) L fa cd) E)
    (hnext : ∀ (X : Str) (tX : Tok) (k : Nat) (m' : Str → Option Value) (h' : Heap) (tk' : Nat), k ≤ 1 → cs X = rows ms (k + 1) → Fr base L h' (fun z => if z = Str.ofString "text" then some (.str X tX) else m' z) →
      News base L h' [(L + 1 + 1 + 1, o2), (L + 1 + 1, o1), (L + 1, o0), (40, tabObj #[]), (33, tabObj #[])] →
      wpAny (model Challenge.rw_sh0023_01.row.prog w) (callerA.deeper (lawE (lawSc w.params) L fa cd)) (execs ((lawB w.params).drop 8) (lawE (lawSc w.params) L fa cd)) Q E { s with heap := h', toks := tk' }) :
    (hd.heap_39 w.params).In base → wpAny (model Challenge.rw_sh0023_01.row.prog w) (callerA.deeper (lawE (lawSc w.params) L fa cd)) (execs ((lawB w.params).drop 5) (lawE (lawSc w.params) L fa cd)) Q E s := by
  w_top off
  k_with_none
  k_with "exec Assign cons ListComp" => (refine stop_in ?_)
  k_with "eval ListComp" => (refine stop_in ?_)
  k_with "CompSrc" => (refine stop_in ?_)
  k_with "CompEnd" => (refine stop_in ?_)
  k_with "binaryOp Mult str int" => ((first | refine mul_dots (bnd_a _) ?_ | refine mul_dots (bnd_b _ (by assumption)) ?_); intro _ _)
  k_with "binaryOp Add str str" => (((refine add_cs (cs_mk _) (by first | exact cs_mk _ | exact cs_crlf | assumption) (by simp only [List.length_append, List.length_replicate, List.length_cons, List.length_nil]; omega) ?_); intro _ _))
  k_with "subscriptTail" => (((with_reducible show wpAny _ _ (subscriptTail (PySem.Expr.Constant _ _ _) _ (Value.str _ _) (Value.int _ _)) _ _ _); (refine item_ab ?_); intro _))
  k_with "subscriptTail" => (((with_reducible show wpAny _ _ (subscriptTail (PySem.Expr.List _ _) _ (Value.ref _) (Value.int _ _)) _ _ _); (with_reducible rename News _ _ _ _ => cN'); (refine item_endsN cN' (by assumption) ?_); intro _ _ _))
  k_with "call builtin:str.join" => (((with_reducible rename News _ _ _ _ => cN'); (refine join_cs cN' (by assumption) (flat_mk _ _) (by first | assumption | (refine Nat.le_trans (by assumption) ?_; decide)) ?_); intro _ _))
  k_with "call ref" => (refine stop_in ?_)
  k_with "exec For Name Call cons nil" => (((rename Fr _ _ _ _ => lF'); (with_unfolding_all refine' For_invVF lF' ?k1 ?k2 ?_ (hE := ?k3); (case k1 => exact rfl); (case k2 => exact rfl); (case k3 => assumption); k_whole)))
  k_fill
  intro hX
  refine law_open 5 (law_b (by exact rfl) (by exact rfl)) (law_sc (by exact rfl) (by exact rfl)) hPE ?_
  clear hPE
  intro hPE
  dsimp only [List.drop, lawE] at hPE ⊢
  k_steps
  refine stop_out ?_
  k_dflt (refine' LCg.ListComp_U (F₀ := hF) ?q1 ?q2 ?q3 ?q4 ?q5 ?_)
  case q1 => with_unfolding_all rfl
  case q2 => decide
  case q3 => rfl
  case q4 => decide
  case q5 => rfl
  k_steps
  refine stop_out ?_
  refine LCg.CompSrc.ledger rfl hF hN (List.Mem.head _) ?gsA (fun g1 => is_rest (fun z => mk (row0 z)) hms ?turnA ?finA)
  case gsA => (have := hms.length; simp only [PySem.sizeLine_eq, List.size_toArray]; omega)
  case turnA =>
    intro z t I oI C oC D m₂ ys h tk E' hz hC hm F N off ne
    have hz12 := hm12 z hz
    have hb1 := bnd_a z
    have hb2 := ends_len z
    k_steps
    refine stop_out ?_
    rename Fr _ _ _ _ => F9
    rename News _ _ _ _ => N9
    exact LCg.CompEnd.intro F9 N9 _ (fun q hq => .tail _ hq) off (.inr ⟨_, List.Mem.head _, rfl, _, rfl⟩) ⟨rfl, _, rfl⟩
  case finA =>
    intro ysA hysA DA hA tkA FA NA offA
    clear hF hN
    dsimp only
    (try k_fold)
    have hr0 := rows_len200 hm12 hml (k := 0) (by decide)
    have htm := fm2 tot
    k_with "exec If" => refine stop_in ?_
    k_with "InvEndN" => refine stop_in ?_
    k_with "pyIter ref" => k_state (fun pre text => cs text = rows ms pre.length ∧ pre.length ≤ 2) "text"
    k_with "state" => first
      | exact ⟨cs_mk _, by decide⟩
      | exact turn_st hm12 (by with_reducible assumption) (by with_reducible assumption) (by with_reducible assumption) (by omega)
    k_steps
    · refine stop_out ?_
      refine' quo_use (turn_len hm12 hml (by assumption) (by assumption)) ?gB ?gF ?gX ?gN ?gT ?gk ?gd ?gu ?_
      case gB => exact hB
      case gF => k_asm
      case gX => k_asm
      case gN => k_asm
      case gT => k_asm
      case gk => exact rfl
      case gd => decide
      case gu => decide
      intro Y9 tY9 hY9 tkY9 eY9 FY9 NY9
      (try dsimp only)
      (try k_fold)
      k_steps
      refine stop_out ?_
      kst_close
    · obtain ⟨kk, hk1, hk2, hk3⟩ := tms htm
      have ht12 := tms2 htm
      refine stop_out ?_
      k_with_none
      k_with "exec Assign cons ListComp" => (refine stop_in ?_)
      k_with "eval ListComp" => (refine stop_in ?_)
      k_with "CompSrc" => (refine stop_in ?_)
      k_with "CompEnd" => (refine stop_in ?_)
      k_with "binaryOp Mult str int" => ((first | refine mul_dots (bnd_a _) ?_ | refine mul_dots (bnd_b _ (by assumption)) ?_); intro _ _)
      k_with "binaryOp Add str str" => (((refine add_cs (cs_mk _) (by first | exact cs_mk _ | exact cs_crlf | assumption) (by simp only [List.length_append, List.length_replicate, List.length_cons, List.length_nil]; omega) ?_); intro _ _))
      k_with "subscriptTail" => (((with_reducible show wpAny _ _ (subscriptTail (PySem.Expr.Constant _ _ _) _ (Value.str _ _) (Value.int _ _)) _ _ _); (refine item_ab ?_); intro _))
      k_with "subscriptTail" => (((with_reducible show wpAny _ _ (subscriptTail (PySem.Expr.List _ _) _ (Value.ref _) (Value.int _ _)) _ _ _); (with_reducible rename News _ _ _ _ => cN'); (refine item_endsN cN' (by assumption) ?_); intro _ _ _))
      k_with "call builtin:str.join" => (((with_reducible rename News _ _ _ _ => cN'); (refine join_cs cN' (by assumption) (flat_mk _ _) (by first | assumption | (refine Nat.le_trans (by assumption) ?_; decide)) ?_); intro _ _))
      k_with "call ref" => (refine stop_in ?_)
      k_with "exec For Name Call cons nil" => (((rename Fr _ _ _ _ => lF'); (with_unfolding_all refine' For_invVF lF' ?k1 ?k2 ?_ (hE := ?k3); (case k1 => exact rfl); (case k2 => exact rfl); (case k3 => assumption); k_whole)))
      k_steps
      refine stop_out ?_
      k_dflt (refine' LCg.ListComp_U (F₀ := by k_asm) ?q6 ?q7 ?q8 ?q9 ?q10 ?_)
      case q6 => with_unfolding_all rfl
      case q7 => decide
      case q8 => rfl
      case q9 => decide
      case q10 => rfl
      k_steps
      refine stop_out ?_
      rename Fr _ _ _ _ => F8
      rename News _ _ _ _ => N8
      refine LCg.CompSrc.ledger rfl F8 N8 (.tail _ (.head _)) ?gsB (fun g1 => is_rest (fun z => mk (row2 (1 + tot.fmod 2) z)) hms ?turnB ?finB)
      case gsB => (have := hms.length; simp only [PySem.sizeLine_eq, List.size_toArray]; omega)
      case turnB =>
        clear F8 N8
        intro z t I oI C oC D m₂ ys h tk E' hz hC hm F N off ne
        have hz12 := hm12 z hz
        have hb1 := bnd_a z
        have hb2 := bnd_b z ht12
        k_steps
        refine stop_out ?_
        rename Fr _ _ _ _ => F9
        rename News _ _ _ _ => N9
        exact LCg.CompEnd.intro F9 N9 _ (fun q hq => hq) off (.inr ⟨_, .tail _ (.head _), rfl, _, rfl⟩) ⟨rfl, _, rfl⟩
      case finB =>
        clear F8 N8
        intro ysB hysB DB hB9 tkB FB NB offB
        dsimp only
        (try k_fold)
        have hr2 : (ms.flatMap (row2 (1 + tot.fmod 2))).length ≤ 100 := by rw [rows2_eq hk2]; exact rows_len200 hm12 hml (by omega)
        k_with "compareOp NotEq str str" => refine stop_in ?_
        k_steps
        refine stop_out ?_
        refine ne_same ?_ ?_
        · rw [cs_mk, rows2_eq hk2, ← hk3]
          assumption
        k_with_none
        k_with "exec Assign cons ListComp" => (refine stop_in ?_)
        k_with "eval ListComp" => (refine stop_in ?_)
        k_with "CompSrc" => (refine stop_in ?_)
        k_with "CompEnd" => (refine stop_in ?_)
        k_with "binaryOp Mult str int" => ((first | refine mul_dots (bnd_a _) ?_ | refine mul_dots (bnd_b _ (by assumption)) ?_); intro _ _)
        k_with "binaryOp Add str str" => (((refine add_cs (cs_mk _) (by first | exact cs_mk _ | exact cs_crlf | assumption) (by simp only [List.length_append, List.length_replicate, List.length_cons, List.length_nil]; omega) ?_); intro _ _))
        k_with "subscriptTail" => (((with_reducible show wpAny _ _ (subscriptTail (PySem.Expr.Constant _ _ _) _ (Value.str _ _) (Value.int _ _)) _ _ _); (refine item_ab ?_); intro _))
        k_with "subscriptTail" => (((with_reducible show wpAny _ _ (subscriptTail (PySem.Expr.List _ _) _ (Value.ref _) (Value.int _ _)) _ _ _); (with_reducible rename News _ _ _ _ => cN'); (refine item_endsN cN' (by assumption) ?_); intro _ _ _))
        k_with "call builtin:str.join" => (((with_reducible rename News _ _ _ _ => cN'); (refine join_cs cN' (by assumption) (flat_mk _ _) (by first | assumption | (refine Nat.le_trans (by assumption) ?_; decide)) ?_); intro _ _))
        k_with "call ref" => (refine stop_in ?_)
        k_with "exec For Name Call cons nil" => (((rename Fr _ _ _ _ => lF'); (with_unfolding_all refine' For_invVF lF' ?k1 ?k2 ?_ (hE := ?k3); (case k1 => exact rfl); (case k2 => exact rfl); (case k3 => assumption); k_whole)))
        k_with "execs nil" => refine stop_in ?_
        k_steps
        refine stop_out ?_
        refine wpAny_execs_nil ?_
        (try dsimp only)
        rename Fr _ _ _ _ => F7
        rename News _ _ _ _ => N7
        refine hnext _ _ kk _ _ _ hk1 ?csX (fr_name F7 (by rfl)) (fun q hq => N7 q (mem_tails 3 hq))
        rw [← hk3]
        assumption
end Mine
end
section
open PySem PySem.W PyProof.Rows
namespace Mine
open Builtin Builtin.Str in
theorem subAt_list {s sub : Str} {i : Nat} : subAt s sub i = (((cs s).drop i).take sub.length == cs sub) := by
  unfold subAt
  rw [Bool.eq_iff_iff]
  simp only [beq_iff_eq]
  constructor
  · intro h
    have := congrArg Array.toList h
    simp only [Array.toList_extract, List.extract_eq_take_drop] at this
    rw [Nat.add_sub_cancel_left] at this
    exact this
  · intro h
    apply Array.toList_inj.mp
    simp only [Array.toList_extract, List.extract_eq_take_drop]
    rw [Nat.add_sub_cancel_left]
    exact h
section
open Builtin Builtin.Str StrLaws
def Wk (s sub : Str) (i : Nat) (acc : Array Nat) (f : Nat) : List Nat := (forIn (List.range' i (s.length + 1 - i)) (acc, f) (occBody s sub s.length (s.length + 1))).run.fst.toList
variable {s sub : Str} {i f : Nat} {acc : Array Nat}
theorem wk_cons (h : i ≤ s.length) : List.range' i (s.length + 1 - i) = i :: List.range' (i + 1) (s.length + 1 - (i + 1)) := by
  have e : s.length + 1 - i = (s.length + 1 - (i + 1)) + 1 := by omega
  rw [e, List.range'_succ]
theorem wk_skip (h : i ≤ s.length) (hn : ¬ (f ≤ i ∧ i + sub.length ≤ s.length ∧ subAt s sub i = true)) : Wk s sub i acc f = Wk s sub (i + 1) acc f := by
  unfold Wk
  rw [wk_cons h, List.forIn_cons]
  unfold occBody
  rw [if_neg (fun q => hn ⟨q.1.1.2, q.1.2, q.2⟩)]
  rfl
theorem wk_hit (h : i ≤ s.length) (hf : f ≤ i) (hl : i + sub.length ≤ s.length) (hs : subAt s sub i = true) (ha : acc.size < s.length + 1) : Wk s sub i acc f = Wk s sub (i + 1) (acc.push i) (i + sub.length) := by
  unfold Wk
  rw [wk_cons h, List.forIn_cons]
  unfold occBody
  rw [if_pos ⟨⟨⟨ha, hf⟩, hl⟩, hs⟩]
  rfl
theorem wk_end : Wk s sub (s.length + 1) acc f = acc.toList := by
  unfold Wk
  rw [Nat.sub_self]
  rfl
def lines (B : List (List Nat)) : List Nat := B.flatMap fun b => b ++ [13, 10]
def cuts : List (List Nat) → Nat → List Nat
  | [], _ => []
  | b :: B, o => (o + b.length) :: cuts B (o + b.length + 2)
def sep2 : Str := ⟨#[13, 10]⟩
theorem no13 {l : List Nat} {c : Nat} (hi : (cs s).drop i = c :: l) (hc : c ≠ 13) : subAt s sep2 i = false := by
  rw [subAt_list, hi]
  show ((c :: l).take 2 == [13, 10]) = false
  cases l with
  | nil => simp
  | cons d l => simp [hc]
theorem at13 {l : List Nat} (hi : (cs s).drop i = 13 :: 10 :: l) : subAt s sep2 i = true := by
  rw [subAt_list, hi]
  rfl
theorem drop_len {l : List Nat} (hi : (cs s).drop i = l) (h : i ≤ s.length) : i + l.length = s.length := by
  have := congrArg List.length hi
  rw [List.length_drop, cs_len] at this
  omega
theorem drop_next {l : List Nat} {c : Nat} (hi : (cs s).drop i = c :: l) : (cs s).drop (i + 1) = l := by
  rw [← List.drop_drop, hi]
  rfl
theorem wk_body : ∀ (b : List Nat) (l : List Nat) (i : Nat), (cs s).drop i = b ++ l → i ≤ s.length → f ≤ i → (∀ c ∈ b, c ≠ 13) → Wk s sep2 i acc f = Wk s sep2 (i + b.length) acc f
  | [], l, i, _, _, _, _ => rfl
  | c :: b, l, i, hi, h, hf, hb => by
    have h1 := drop_len hi h
    have hs := no13 (s := s) hi (hb c (.head _))
    rw [wk_skip h (fun q => by rw [hs] at q; cases q.2.2)]
    rw [wk_body b l (i + 1) (drop_next hi) (by simp only [List.length_append, List.length_cons] at h1; omega) (by omega) fun c hc => hb c (.tail _ hc)]
    congr 1
    rw [List.length_cons]; omega
theorem wk_lines : ∀ (B : List (List Nat)) (i f : Nat) (acc : Array Nat), (cs s).drop i = lines B → i ≤ s.length → f ≤ i → (∀ b ∈ B, ∀ c ∈ b, c ≠ 13) → acc.size + s.length + 1 ≤ 2 * s.length + 1 - 0 ∧ acc.size ≤ i → Wk s sep2 i acc f = acc.toList ++ cuts B i
  | [], i, f, acc, hi, h, hf, _, _ => by
    have h1 := drop_len hi h
    have e : i = s.length := by simpa [lines] using h1
    rw [wk_skip h (fun q => by have := q.2.1; simp [sep2, Str.length] at this; simp [Str.length] at e; omega), e, wk_end, cuts, List.append_nil]
  | b :: B, i, f, acc, hi, h, hf, hb, ha => by
    have e1 : lines (b :: B) = b ++ (13 :: 10 :: lines B) := by
      show (b ++ [13, 10]) ++ lines B = _
      rw [List.append_assoc]; rfl
    rw [e1] at hi
    have h1 := drop_len hi h
    simp only [List.length_append, List.length_cons] at h1
    rw [wk_body b _ i hi h hf (hb b (.head _))]
    have h2 : (cs s).drop (i + b.length) = 13 :: 10 :: lines B := by
      rw [← List.drop_drop, hi, List.drop_left]
    have h3 : (cs s).drop (i + b.length + 1) = 10 :: lines B := drop_next h2
    have h4 : (cs s).drop (i + b.length + 1 + 1) = lines B := drop_next h3
    rw [wk_hit (by omega) (by omega) (by show i + b.length + 2 ≤ s.length; omega) (at13 h2) (by omega)]
    rw [wk_skip (by omega) (fun q => by have h9 : i + b.length + 2 ≤ i + b.length + 1 := q.1; omega)]
    rw [wk_lines B (i + b.length + 1 + 1) _ _ h4 (by omega) (by show i + b.length + 2 ≤ _; omega) (fun b' hb' => hb b' (.tail _ hb')) ⟨by simp only [Array.size_push]; omega, by simp only [Array.size_push]; omega⟩]
    rw [cuts, Array.toList_push, List.append_assoc]
    rfl
theorem parts_lines : ∀ (B : List (List Nat)) (i : Nat), (cs s).drop i = lines B → i ≤ s.length → ((i :: (cuts B i).map (· + 2)).zip (cuts B i ++ [s.length])).map (fun (p : Nat × Nat) => strSub s p.1 p.2) = B.map mk ++ [mk []]
  | [], i, hi, h => by
    have h1 := drop_len hi h
    have e : i = s.length := by simpa [lines] using h1
    show [strSub s i s.length] = [mk []]
    rw [e]
    unfold strSub mk
    simp [Str.length]
  | b :: B, i, hi, h => by
    have e1 : lines (b :: B) = b ++ (13 :: 10 :: lines B) := by
      show (b ++ [13, 10]) ++ lines B = _
      rw [List.append_assoc]; rfl
    rw [e1] at hi
    have h1 := drop_len hi h
    simp only [List.length_append, List.length_cons] at h1
    have h2 : (cs s).drop (i + b.length) = 13 :: 10 :: lines B := by
      rw [← List.drop_drop, hi, List.drop_left]
    have h4 : (cs s).drop (i + b.length + 2) = lines B := by
      rw [← List.drop_drop, h2]; rfl
    have ih := parts_lines B (i + b.length + 2) h4 (by omega)
    rw [cuts, List.map_cons, List.cons_append, List.zip_cons_cons, List.map_cons, ih, List.map_cons, List.cons_append]
    congr 1
    show strSub s i (i + b.length) = mk b
    unfold strSub mk
    congr 1
    apply Array.toList_inj.mp
    simp only [Array.toList_extract, List.extract_eq_take_drop]
    rw [Nat.add_sub_cancel_left]
    have : s.cps.toList.drop i = b ++ (13 :: 10 :: lines B) := hi
    rw [this, List.take_left]
end
open Builtin Builtin.Str in
theorem split_lines {x : Str} {B : List (List Nat)} (hx : cs x = lines B) (hB : ∀ b ∈ B, ∀ c ∈ b, c ≠ 13) (hne : B ≠ []) : Txt.split x (Str.ofString "\r\n") = B.map mk ++ [mk []] := by
  have e : Str.ofString "\r\n" = sep2 := by decide +kernel
  rw [e]
  unfold Txt.split
  have h0 : (cs x).drop 0 = lines B := by rw [List.drop_zero]; exact hx
  have hocc : occurrences x sep2 0 x.length (x.length + 1) = cuts B 0 := by
    rw [StrLaws.occ_eq]
    have := wk_lines (s := x) B 0 0 #[] h0 (Nat.zero_le _) (Nat.le_refl _) hB ⟨by simp only [Array.size_empty]; omega, Nat.zero_le _⟩
    unfold Wk at this
    exact this
  have hlen : 2 ≤ x.length := by
    have := drop_len (s := x) h0 (Nat.zero_le _)
    cases B with
    | nil => exact absurd rfl hne
    | cons b B =>
      have e1 : lines (b :: B) = (b ++ [13, 10]) ++ lines B := rfl
      rw [e1] at this
      simp only [List.length_append, List.length_cons, List.length_nil] at this
      omega
  have hk : ¬ (decide (x.length < sep2.length) || decide (Builtin.Str.strKind x < Builtin.Str.strKind sep2)) = true := by
    have h1 : sep2.length = 2 := rfl
    have h2 : Builtin.Str.strKind sep2 = 1 := by decide +kernel
    have h3 : 1 ≤ Builtin.Str.strKind x := by
      unfold Builtin.Str.strKind
      by_cases q : (x.cps.all fun c => decide (c < 256)) = true
      · rw [if_pos q]; decide
      · rw [if_neg q]
        by_cases q2 : (x.cps.all fun c => decide (c < 65536)) = true
        · rw [if_pos q2]; decide
        · rw [if_neg q2]; decide
    rw [h1, h2]
    simp
    omega
  rw [if_neg hk, hocc]
  have hc : ¬ (cuts B 0).isEmpty = true := by
    cases B with
    | nil => exact absurd rfl hne
    | cons b B => simp [cuts]
  rw [if_neg hc]
  unfold partsBetween
  have := parts_lines (s := x) B 0 h0 (Nat.zero_le _)
  exact this
end Mine
end
section
open PySem PySem.W PyProof.Rows
namespace Mine
def body (k : Nat) (z : Int) : List Nat := List.replicate ((dots z).toNat + (k + 1)) 46 ++ [letter z]
theorem rows_lines (ms : List Int) (k : Nat) : rows ms (k + 1) = lines (ms.map (body k)) := by
  unfold rows lines
  rw [List.flatMap_map]
  rfl
theorem body_no13 {ms : List Int} {k : Nat} : ∀ b ∈ ms.map (body k), ∀ c ∈ b, c ≠ 13 := by
  intro b hb c hc
  obtain ⟨z, _, rfl⟩ := List.mem_map.mp hb
  unfold body at hc
  rcases List.mem_append.mp hc with h | h
  · rw [(List.mem_replicate.mp h).2]; decide
  · rw [List.mem_singleton.mp h]
    rcases letter_ab z with e | e <;> rw [e] <;> decide
theorem split_rows {x : Str} {ms : List Int} {k : Nat} (hx : cs x = rows ms (k + 1)) (hl : ms.length = 3 ∨ ms.length = 4) : Txt.split x (Str.ofString "\r\n") = (ms.map (body k)).map mk ++ [mk []] := by
  refine split_lines (by rw [hx, rows_lines]) body_no13 ?_
  intro h
  have := congrArg List.length h
  rw [List.length_map, List.length_nil] at this
  omega
def part (k : Nat) (z : Int) : List Nat := List.replicate ((dots z).toNat + (k + 1)) (letter z)
def readL (ms : List Int) (k : Nat) : List Nat := ms.flatMap (part k)
def gRead (z : Str) : Str := mk (List.replicate (z.length - 1) ((cs z).getD (z.length - 1) 0))
theorem body_len (k : Nat) (z : Int) : (mk (body k z)).length = (dots z).toNat + (k + 1) + 1 := by
  rw [mk_len]; simp [body]
theorem body_last (k : Nat) (z : Int) : (cs (mk (body k z))).getD ((mk (body k z)).length - 1) 0 = letter z := by
  rw [body_len, cs_mk]
  simp [body, List.getD_eq_getElem?_getD]
theorem gRead_body (k : Nat) (z : Int) : gRead (mk (body k z)) = mk (part k z) := by
  unfold gRead
  rw [body_last, body_len]
  rfl
theorem readL_eq (ms : List Int) (k : Nat) : ((((ms.map (body k)).map mk)).map gRead).flatMap cs = readL ms k := by
  unfold readL
  rw [List.flatMap_map, List.flatMap_map, List.flatMap_map]
  simp only [gRead_body, cs_mk]
theorem readL_len {ms : List Int} {k : Nat} (hk : k ≤ 1) : 2 * ms.length ≤ (readL ms k).length ∧ (readL ms k).length ≤ 4 * ms.length := by
  unfold readL
  induction ms with
  | nil => simp
  | cons z ms ih =>
    have := dots_pos z
    rw [List.flatMap_cons, List.length_append, List.length_cons]
    have e : (part k z).length = (dots z).toNat + (k + 1) := by simp [part]
    rw [e]
    omega
theorem readL_ab (ms : List Int) (k : Nat) : AB (mk (readL ms k)) := by
  intro c hc
  rw [cs_mk] at hc
  unfold readL at hc
  obtain ⟨z, _, hz⟩ := List.mem_flatMap.mp hc
  unfold part at hz
  rw [(List.mem_replicate.mp hz).2]
  exact letter_ab z
theorem mul_letter : ∀ n : Nat, n ≤ 5 → ∀ c, c = 97 ∨ c = 98 → Txt.mul (mk [c]) (n : Int) = mk (List.replicate n c) := by
  intro n hn c hc
  have h6 : n = 0 ∨ n = 1 ∨ n = 2 ∨ n = 3 ∨ n = 4 ∨ n = 5 := by omega
  rcases hc with rfl | rfl <;> rcases h6 with rfl | rfl | rfl | rfl | rfl | rfl <;> decide +kernel
section
variable {prog : Program} {w : World} {A : Around} {E : Value → Shared → Prop} {s : Shared} {t u : Tok} {Q : Value → Shared → Prop}
theorem mul_one_wp {n : Int} {c : Nat} (hc : c = 97 ∨ c = 98) (hn : 0 ≤ n ∧ n ≤ 5) (h : ∀ t' k, Q (.str (mk (List.replicate n.toNat c)) t') { s with toks := k }) : wpAny (model prog w) A (binaryOp .Mult (.str (mk [c]) t) (.int n u)) Q E s := by
  have e : n = ((n.toNat : Nat) : Int) := by omega
  have hm := mul_letter n.toNat (by omega) c hc
  rw [← e] at hm
  have hl : (mk [c]).length = 1 := mk_len _
  refine SB.mul (mulOk_of 16 1048576 (by omega) (by omega) (by omega) (by decide) (by decide)) fun t' k => ?_
  rw [hm]
  exact h t' k
theorem last_wp {x : Str} {value slice : Expr} (hx : 1 ≤ x.length ∧ x.length ≤ 1000) (h : ∀ t', Q (.str (mk [(cs x).getD (x.length - 1) 0]) t') { s with toks := s.toks + 1 })
    (hs : subscripted slice false (.str x t) (.int (-1) u) = operate [.str x t, .int (-1) u] (getItem (.str x t) (.int (-1) u)) := by with_unfolding_all rfl)
    (ht : ∀ r, letTemporaryGo value (.str x t) r = pure () := by intro _; with_unfolding_all rfl) :
    wpAny (model prog w) A (subscriptTail value slice (.str x t) (.int (-1) u)) Q E s := by
  refine item_str (by decide) (by omega) (by omega) (fun _ => ?_) (hs := hs) (ht := ht)
  rw [item_last_ch hx.1]
  exact h _
end
section
variable {prog : Program} {w : World} {A : Around} {E : Value → Shared → Prop} {s : Shared} {h₀ : Heap} {L a : Addr} {m : Str → Option Value} {news : List (Addr × Obj)} {vs : List Value} {xs : List Str} {y : Str} {Q : Value → Shared → Prop} {value slice : Expr}
theorem strs_take {ws : List Value} {y : Str} : ∀ {vs : List Value} {xs : List Str}, StrsAre vs (xs ++ [y]) → StrsAre (vs.take xs.length) xs
  | [], [], _ => .nil
  | _ :: _, [], _ => by rw [List.length_nil, List.take_zero]; exact .nil
  | [], _ :: _, h => by cases h
  | v :: vs, x :: xs, h => by
    cases h with
    | cons z t r => exact .cons _ _ (strs_take (ws := ws) r)
theorem cut_list {c : Nat} {uv : Tok} (F : Fr h₀ L s.heap m) (N : News h₀ L s.heap ((a, listOf vs.toArray c) :: news)) (hx : StrsAre vs (xs ++ [y])) (hz : xs.length ≤ 1000)
    (h : ∀ D us h', Fr h₀ L h' m → News h₀ L h' ((D, listOf (List.toArray us) 0) :: (a, listOf vs.toArray c) :: news) → StrsAre us xs → Q (.ref D) { s with heap := h' })
    (hs : subscripted slice false (.ref a) (.ref s.heap.objs.size) = operate [.ref s.heap.objs.size, .ref a] (getItem (.ref a) (.ref s.heap.objs.size))) :
    wpAny (model prog w) A (subscriptTail value slice (.ref a) (.ref s.heap.objs.size)) Q E { s with heap := s.heap.push { cls := .type "slice", data := .fields #[.none, .int (-1) uv, .none] } } := by
  have hl := hx.length
  rw [List.length_append, List.length_singleton] at hl
  refine kba_turn (value' := PySem.Expr.Name (PySem.Str.ofString "z") ⟨0, 0, 0, 0⟩) (fun _ => rfl) ?_
  refine kmk_slice_lit (lo := none) (hi := some (-1)) (its := vs.toArray) (zs := vs.take xs.length) F N ⟨_, (N _ (.head _)).1, rfl, _, rfl⟩ (.none) (.int _ _) ?_ (fun D h' F' N' _ => h D _ h' F' N' (strs_take (ws := []) hx)) hs (fun _ => rfl) ?_
  · have := slicePick_butLast vs.toArray 1 (Nat.le_refl _)
    rw [show (-((1 : Nat) : Int)) = -1 from rfl] at this
    rw [this]
    simp [hl]
  · rw [List.size_toArray, hl]; simp only [PySem.sizeLine_eq]; omega
end
theorem read_shape {ms : List Int} {k : Nat} (hk : k ≤ 1) {z : Str} (h : z ∈ (ms.map (body k)).map mk) : ((cs z).getD (z.length - 1) 0 = 97 ∨ (cs z).getD (z.length - 1) 0 = 98) ∧ 1 ≤ z.length ∧ z.length ≤ 5 := by
  obtain ⟨b, hb, rfl⟩ := List.mem_map.mp h
  obtain ⟨y, _, rfl⟩ := List.mem_map.mp hb
  have := dots_pos y
  rw [body_last, body_len]
  exact ⟨letter_ab y, by omega, by omega⟩
theorem gRead_of (z : Str) (n : Int) (hn : n = (z.length : Int) - 1) (h : 1 ≤ z.length) : mk (List.replicate n.toNat ((cs z).getD (z.length - 1) 0)) = gRead z := by
  unfold gRead
  have : n.toNat = z.length - 1 := by omega
  rw [this]
section
variable {prog : Program} {w : World} {A : Around} {h₀ : Heap} {L : Addr} {m : Str → Option Value} {env : Env} {elt : Expr} {x : Str} {scope : Scope} {cl : List (Str × Addr)} {s : Shared} {S : List (Addr × Obj) → Prop} {Fin : List Value → List (Addr × Obj) → Prop} {news : List (Addr × Obj)}
theorem rs_rest (n : Nat) (g : Int → Str)
    (turn : ∀ z t I oI C oC D m₂ ys h tk (E' : Value → Shared → Prop), 0 ≤ z ∧ z < n → LCg.NsObj oC m₂ → m₂ x = some (.int z t) → Fr h₀ L h m → News h₀ L h ((I, oI) :: (C, oC) :: (D, LCg.lst ys) :: news) → LCg.Off3 I C D news → ((@Ne Nat I C) ∧ (@Ne Nat I D) ∧ (@Ne Nat C D)) →
      wpAny (model prog w) A (eval elt (compEnvC scope cl C env)) (LCg.CompEnd h₀ L m { s with heap := h, toks := tk } I oI C oC D (LCg.lst ys) S (fun y news' => KCtEl news (g z) y news')) E' { s with heap := h, toks := tk })
    (fin : ∀ ys, StrsAre ys ((List.range n).map fun (i : Nat) => g (i : Int)) → Fin ys news) : LCg.CompRest prog w A h₀ L m env elt x scope cl s S (fun i v => ∃ t, v = .int (0 + (i : Int)) t) Fin n 0 [] news := by
  have key : ∀ (j i : Nat) (ys : List Value), i + j = n → StrsAre ys ((List.range i).map fun (i : Nat) => g (i : Int)) → LCg.CompRest prog w A h₀ L m env elt x scope cl s S (fun i v => ∃ t, v = .int (0 + (i : Int)) t) Fin j i ys news := by
    intro j
    induction j with
    | zero =>
      intro i ys hi hy
      have e : i = n := by omega
      subst e
      exact LCg.CompRest.zero (fin ys hy)
    | succ j ih =>
      intro i ys hi hy
      refine LCg.CompRest.succ ?_
      rintro v I oI C oC D m₂ h tk E' ⟨t, rfl⟩ hC hm F N off ne
      rw [Int.zero_add] at hm
      refine wpAny_mono (turn i t I oI C oC D m₂ ys h tk E' (by omega) hC hm F N off ne) (fun y s₂ hq => ?_) fun _ _ e => e
      obtain ⟨h', tk', nw, e, F', N', off', hS, hn, t', hy'⟩ := hq
      rw [hn] at N' off' hS
      refine ⟨h', tk', news, e, F', N', off', hS, ?_⟩
      rw [hy']
      refine ih (i + 1) _ (by omega) ?_
      rw [List.range_succ, List.map_append]
      exact kct_snoc hy
  exact key n 0 [] (by omega) .nil
end
theorem three_eq (f : Int → Nat) : ((List.range 3).map fun (i : Nat) => mk [f (i : Int)]).flatMap cs = [f 0, f 1, f 2] := by
  show ([mk [f 0], mk [f 1], mk [f 2]] : List Str).flatMap cs = _
  simp [cs_mk]
end Mine
end
section
open PySem PySem.W PyProof.Rows

namespace Mine
set_option maxRecDepth 100000 in
set_option maxHeartbeats 8000000 in
theorem rest2 (w : World) (p : Program) (loose : List Str) (mean : ExcName → Option Value) (mg mb : Str → Option Value) (fa L : Addr) (cd : Value) (base : Heap) (m₀ : Str → Option Value) (s : Shared) (Q : Flow → Shared → Prop) (E : Value → Shared → Prop)
    (ms : List Int) (tot : Int) (X : Str) (tX : Tok) (k : Nat) (o0 o1 o2 : Obj) (t0 : Tok) (hml : ms.length = 3 ∨ ms.length = 4) (hk : k ≤ 1) (hcx : cs X = rows ms (k + 1)) (hxl : X.length ≤ 100)
    (d0 : o0.data = .cell (some (.int tot t0))) (d2 : o2.data = .cell none)
    (hB : Below callerA base [] base) (hF : Fr base L s.heap (fun z => if z = Str.ofString "text" then some (.str X tX) else m₀ z)) (hC1 : CodeHd base 44 40) (hC2 : CodeHd base 37 33) (hT : Top p loose mean mg mb base)
    (hN : News base L s.heap [(L + 1 + 1 + 1, o2), (L + 1 + 1, o1), (L + 1, o0), (40, tabObj #[]), (33, tabObj #[])]) (hlt : @LT.lt Nat _ 40 L)
    (hnext : ∀ (rd : List Nat) (c1 c2 c3 : Nat) (tR tT : Tok) (m' : Str → Option Value) (h' : Heap) (tk' : Nat), AB (mk rd) → 6 ≤ rd.length ∧ rd.length ≤ 16 → (c1 = 97 ∨ c1 = 98) → (c2 = 97 ∨ c2 = 98) → (c3 = 97 ∨ c3 = 98) →
      Fr base L h' (fun z => if z = Str.ofString "three" then some (.str (mk [c1, c2, c3]) tT) else if z = Str.ofString "read" then some (.str (mk rd) tR) else m' z) →
      News base L h' [(L + 1 + 1 + 1, o2), (40, tabObj #[]), (33, tabObj #[])] →
      wpAny (model Challenge.rw_sh0023_01.row.prog w) (callerA.deeper (lawE (lawSc w.params) L fa cd)) (execs ((lawB w.params).drop 10) (lawE (lawSc w.params) L fa cd)) Q E { s with heap := h', toks := tk' })
    (hPE : PassesOwn (model Challenge.rw_sh0023_01.row.prog w) (callerA.deeper (lawE (lawSc w.params) L fa cd)) (lawE (lawSc w.params) L fa cd) E) :
    (hd.heap_39 w.params).In base → wpAny (model Challenge.rw_sh0023_01.row.prog w) (callerA.deeper (lawE (lawSc w.params) L fa cd)) (execs ((lawB w.params).drop 8) (lawE (lawSc w.params) L fa cd)) Q E s := by
  w_top off
  k_with_none
  k_with "exec Assign cons ListComp" => (refine stop_in ?_)
  k_with "eval ListComp" => (refine stop_in ?_)
  k_with "CompSrc" => (refine stop_in ?_)
  k_with "CompEnd" => (refine stop_in ?_)
  k_with "call ref" => (refine stop_in ?_)
  k_with "call builtin:str.split" => (refine stop_in ?_)
  k_with "call builtin:str.join" => (refine stop_in ?_)
  k_with "subscriptTail" => (((with_reducible show wpAny _ _ (subscriptTail (PySem.Expr.Call _ _ _ _) _ (Value.ref _) (Value.ref _)) _ _ _); refine stop_in ?_))
  k_with "subscriptTail Name UnaryOp str int" => (((refine last_wp ⟨by omega, by omega⟩ ?_); intro _))
  k_with "binaryOp Mult str int" => (((refine mul_one_wp (by assumption) ⟨by omega, by omega⟩ ?_); intro _ _))
  k_with "subscriptTail" => (((with_reducible show wpAny _ _ (subscriptTail (PySem.Expr.Constant _ _ _) _ (Value.str _ _) (Value.int _ _)) _ _ _); (refine item_ab ?_); intro _))
  k_fill
  intro hX
  refine law_open 8 (law_b (by exact rfl) (by exact rfl)) (law_sc (by exact rfl) (by exact rfl)) hPE ?_
  clear hPE
  intro hPE
  dsimp only [List.drop, lawE] at hPE ⊢
  k_steps
  refine stop_out ?_
  k_dflt (refine' LCg.ListComp_U (F₀ := hF) ?q1 ?q2 ?q3 ?q4 ?q5 ?_)
  case q1 => with_unfolding_all rfl
  case q2 => decide
  case q3 => rfl
  case q4 => decide
  case q5 => rfl
  k_steps
  refine stop_out ?_
  refine splitN1A hF hN (by decide +kernel) ?_ (by simp only [PySem.sizeLine_eq]; omega)
  intro l h9 tk9 e9 s9 _ _ F9 N9
  rw [e9, split_rows hcx hml] at s9
  clear hF hN
  (try dsimp only)
  (try k_fold)
  k_steps
  refine stop_out ?_
  refine' cut_list (s := ⟨_, _, _, _, _⟩) (c := 0) F9 N9 s9 (by rw [List.length_map, List.length_map]; omega) ?cl1 ?cl2
  case cl2 => with_unfolding_all rfl
  intro D8 us8 h8 F8 N8 s8
  clear F9 N9
  (try dsimp only)
  refine LCg.CompSrc.ledger rfl F8 N8 (.head _) ?gsA (fun g1 => strs_rest gRead s8 ?turnA ?finA)
  case gsA => (have := s8.length; rw [List.length_map, List.length_map] at this; simp only [PySem.sizeLine_eq, List.size_toArray]; omega)
  case turnA =>
    clear F8 N8
    intro z t I oI C oC D m₂ ys h tk E' hz hC hm F N off ne
    obtain ⟨hzc, hz1, hz5⟩ := read_shape hk hz
    k_steps
    refine stop_out ?_
    rename Fr _ _ _ _ => F9
    rename News _ _ _ _ => N9
    refine LCg.CompEnd.intro F9 N9 _ (fun q hq => hq) off (.inr ⟨_, List.Mem.head _, rfl, _, rfl⟩) ⟨rfl, ?_⟩
    rw [gRead_of z _ rfl hz1]
    exact ⟨_, rfl⟩
  case finA =>
    clear F8 N8
    intro ysA hysA DA hA tkA FA NA offA
    (try dsimp only)
    (try k_fold)
    have hrl := readL_len (ms := ms) (k := k) hk
    k_steps
    refine stop_out ?_
    refine join_cs NA hysA (readL_eq ms k) (by omega) ?_
    intro tR kR
    (try dsimp only)
    (try k_fold)
    k_steps
    refine stop_out ?_
    rename Fr _ _ _ _ => F7
    rename News _ _ _ _ => N7
    k_dflt (refine' LCg.ListComp_U (F₀ := F7) ?q6 ?q7 ?q8 ?q9 ?q10 ?_)
    case q6 => with_unfolding_all rfl
    case q7 => decide
    case q8 => rfl
    case q9 => decide
    case q10 => rfl
    k_steps
    refine stop_out ?_
    rename Fr _ _ _ _ => F6
    rename News _ _ _ _ => N6
    rename IsRange _ _ _ _ _ _ _ _ => R6
    refine LCg.CompSrc.range (n := 3) rfl F6 N6 R6 (by decide) (by decide) (by decide) (fun g1 => rs_rest 3 (fun z => mk [letter (tot.fdiv (2 ^ (z + 1).toNat) + z)]) ?turnB ?finB)
    case turnB =>
      clear F6 N6
      intro z t I oI C oC D m₂ ys h tk E' hz hC hm F N off ne
      k_steps
      refine stop_out ?_
      rename Fr _ _ _ _ => F9
      rename News _ _ _ _ => N9
      refine LCg.CompEnd.intro F9 N9 _ (fun q hq => hq) off trivial ⟨rfl, ?_⟩
      exact ⟨_, rfl⟩
    case finB =>
      clear F6 N6 R6
      intro ysB hysB DB hB tkB FB NB offB
      (try dsimp only)
      (try k_fold)
      k_steps
      refine stop_out ?_
      refine join_cs NB hysB (three_eq (fun z => letter (tot.fdiv (2 ^ (z + 1).toNat) + z))) (by simp) ?_
      have hp := letter_ab (tot.fdiv (2 ^ ((0 : Int) + 1).toNat) + 0)
      have hq := letter_ab (tot.fdiv (2 ^ ((1 : Int) + 1).toNat) + 1)
      have hr := letter_ab (tot.fdiv (2 ^ ((2 : Int) + 1).toNat) + 2)
      dsimp only
      generalize letter (tot.fdiv (2 ^ ((0 : Int) + 1).toNat) + 0) = p9 at hp ⊢
      generalize letter (tot.fdiv (2 ^ ((1 : Int) + 1).toNat) + 1) = q9 at hq ⊢
      generalize letter (tot.fdiv (2 ^ ((2 : Int) + 1).toNat) + 2) = r9 at hr ⊢
      intro tT kT
      (try dsimp only)
      (try k_fold)
      k_with "execs cons" => refine stop_in ?_
      k_steps
      refine stop_out ?_
      rename Fr _ _ _ _ => F5
      rename News _ _ _ _ => N5
      refine hnext _ _ _ _ _ _ _ _ _ (readL_ab ms k) (by omega) hp hq hr F5 fun q hq => N5 q ?_
      rcases List.mem_cons.mp hq with rfl | hq
      · exact .tail _ (.tail _ (.tail _ (.tail _ (.head _))))
      · exact mem_tails 7 hq
end Mine
end
section
open PySem PySem.W PyProof.Rows
namespace Mine
theorem front_eq (a b c : Nat) : Txt.slice (mk [a, b, c]) none (some 2) = mk [a, b] := by
  have e : Txt.slice (mk [a, b, c]) none (some 2) = StrLaws.sliceText (mk [a, b, c]) none (some 2) := rfl
  rw [e, StrLaws.sliceText_to ⟨by decide, by simp [mk]⟩]
  rfl
theorem back_eq (a b c : Nat) : Txt.slice (mk [a, b, c]) (some 1) none = mk [b, c] := by
  have e : Txt.slice (mk [a, b, c]) (some 1) none = StrLaws.sliceText (mk [a, b, c]) (some 1) none := rfl
  rw [e, StrLaws.sliceText_from ⟨by decide, by simp [mk]⟩]
  rfl
section
variable {prog : Program} {w : World} {A : Around} {E : Value → Shared → Prop} {s : Shared} {h₀ : Heap} {L : Addr} {m : Str → Option Value} {news : List (Addr × Obj)} {a b c : Nat} {t : Tok} {Q : Value → Shared → Prop} {value slice : Expr}
theorem front_wp {uj : Tok} (hF : Fr h₀ L s.heap m) (hN : News h₀ L s.heap news)
    (h : ∀ h' t' k, Fr h₀ L h' m → News h₀ L h' news → Q (.str (mk [a, b]) t') { s with heap := h', toks := k })
    (hs : subscripted slice false (.str (mk [a, b, c]) t) (.ref s.heap.objs.size) = operate [.ref s.heap.objs.size, .str (mk [a, b, c]) t] (getItem (.str (mk [a, b, c]) t) (.ref s.heap.objs.size)) := by with_unfolding_all rfl)
    (ht : ∀ r, letTemporaryGo value (.str (mk [a, b, c]) t) r = pure () := by intro _; with_unfolding_all rfl) :
    wpAny (model prog w) A (subscriptTail value slice (.str (mk [a, b, c]) t) (.ref s.heap.objs.size)) Q E { s with heap := s.heap.push { cls := .type "slice", data := .fields #[.none, .int 2 uj, .none] } } :=
  slice_strN_ns hF hN (fun h' t' k F N => by rw [front_eq]; exact h h' t' k F N) hs ht (by rw [mk_len]; simp only [PySem.sizeLine_eq, List.length_cons, List.length_nil]; decide)
theorem back_wp {uj : Tok} (hF : Fr h₀ L s.heap m) (hN : News h₀ L s.heap news)
    (h : ∀ h' t' k, Fr h₀ L h' m → News h₀ L h' news → Q (.str (mk [b, c]) t') { s with heap := h', toks := k })
    (hs : subscripted slice false (.str (mk [a, b, c]) t) (.ref s.heap.objs.size) = operate [.ref s.heap.objs.size, .str (mk [a, b, c]) t] (getItem (.str (mk [a, b, c]) t) (.ref s.heap.objs.size)) := by with_unfolding_all rfl)
    (ht : ∀ r, letTemporaryGo value (.str (mk [a, b, c]) t) r = pure () := by intro _; with_unfolding_all rfl) :
    wpAny (model prog w) A (subscriptTail value slice (.str (mk [a, b, c]) t) (.ref s.heap.objs.size)) Q E { s with heap := s.heap.push { cls := .type "slice", data := .fields #[.int 1 uj, .none, .none] } } :=
  slice_strN_sn hF hN (fun h' t' k F N => by rw [back_eq]; exact h h' t' k F N) hs ht (by rw [mk_len]; simp only [PySem.sizeLine_eq, List.length_cons, List.length_nil]; decide)
theorem mid_wp {u : Tok} (h : ∀ t', Q (.str (mk [b]) t') { s with toks := s.toks + 1 })
    (hs : subscripted slice false (.str (mk [a, b, c]) t) (.int 1 u) = operate [.str (mk [a, b, c]) t, .int 1 u] (getItem (.str (mk [a, b, c]) t) (.int 1 u)) := by with_unfolding_all rfl)
    (ht : ∀ r, letTemporaryGo value (.str (mk [a, b, c]) t) r = pure () := by intro _; with_unfolding_all rfl) :
    wpAny (model prog w) A (subscriptTail value slice (.str (mk [a, b, c]) t) (.int 1 u)) Q E s := by
  have hl : (mk [a, b, c]).length = 3 := mk_len _
  refine item_str (by decide) (by omega) (by omega) (fun _ => ?_) (hs := hs) (ht := ht)
  have : Txt.item (mk [a, b, c]) 1 = mk [b] := by
    rw [item_pos (by decide) (by omega), cs_mk]
    rfl
  rw [this]
  exact h _
end
end Mine
end
section
open PySem PySem.W PyProof.Rows
namespace Mine
set_option maxRecDepth 100000 in
set_option maxHeartbeats 8000000 in
theorem rest3 (w : World) (p : Program) (loose : List Str) (mean : ExcName → Option Value) (mg mb : Str → Option Value) (fa L : Addr) (cd : Value) (base : Heap) (m₀ : Str → Option Value) (s : Shared) (Q : Flow → Shared → Prop) (E : Value → Shared → Prop)
    (rd : List Nat) (c1 c2 c3 : Nat) (tR tT : Tok) (o2 : Obj)
    (hB : Below callerA base [] base) (hF : Fr base L s.heap (fun z => if z = Str.ofString "three" then some (.str (mk [c1, c2, c3]) tT) else if z = Str.ofString "read" then some (.str (mk rd) tR) else m₀ z)) (hT : Top p loose mean mg mb base)
    (hN : News base L s.heap [(L + 1 + 1 + 1, o2), (40, tabObj #[]), (33, tabObj #[])])
    (hPE : PassesOwn (model Challenge.rw_sh0023_01.row.prog w) (callerA.deeper (lawE (lawSc w.params) L fa cd)) (lawE (lawSc w.params) L fa cd) E)
    (hnext : ∀ (H I : Addr) (hv iv : List Value) (hs is : List Str) (hc ic : Nat) (tF tB : Tok) (m' : Str → Option Value) (h' : Heap) (tk' : Nat), StrsAre hv hs → hs.map rv = wv (rv (mk [c1, c2])) (rv (mk [c2, c3])) → StrsAre iv is → is.map rv = wv (rv (mk [c2])) (rv (mk [c1, c2, c3])) →
      @Ne Nat I H → (∀ q ∈ [(L + 1 + 1 + 1, o2), (40, tabObj #[]), (33, tabObj #[])], q.1 ≠ H ∧ q.1 ≠ I) →
      Fr base L h' (fun z => if z = Str.ofString "inner" then some (.ref I) else if z = Str.ofString "halves" then some (.ref H) else if z = Str.ofString "back" then some (.str (mk [c2, c3]) tB) else if z = Str.ofString "front" then some (.str (mk [c1, c2]) tF) else
        if z = Str.ofString "three" then some (.str (mk [c1, c2, c3]) tT) else if z = Str.ofString "read" then some (.str (mk rd) tR) else m' z) →
      News base L h' [(I, listOf iv.toArray ic), (H, listOf hv.toArray hc), (L + 1 + 1 + 1, o2), (40, tabObj #[]), (33, tabObj #[])] →
      wpAny (model Challenge.rw_sh0023_01.row.prog w) (callerA.deeper (lawE (lawSc w.params) L fa cd)) (execs ((lawB w.params).drop 14) (lawE (lawSc w.params) L fa cd)) Q E { s with heap := h', toks := tk' }) :
    (hd.heap_39 w.params).In base → wpAny (model Challenge.rw_sh0023_01.row.prog w) (callerA.deeper (lawE (lawSc w.params) L fa cd)) (execs ((lawB w.params).drop 10) (lawE (lawSc w.params) L fa cd)) Q E s := by
  w_top off
  k_with_none
  k_with "call ref" => (refine stop_in ?_)
  k_with "subscriptTail Name Slice str ref" => (((with_reducible rename Fr _ _ _ _ => cF'); (with_reducible rename News _ _ _ _ => cN'); first | (refine front_wp (s := ⟨_, _, _, _, _⟩) cF' cN' ?_; intro _ _ _ _ _) | (refine back_wp (s := ⟨_, _, _, _, _⟩) cF' cN' ?_; intro _ _ _ _ _)))
  k_with "subscriptTail Name Constant str int" => (((refine mid_wp ?_); intro _))
  k_fill
  intro hX
  refine law_open 10 (law_b (by exact rfl) (by exact rfl)) (law_sc (by exact rfl) (by exact rfl)) hPE ?_
  clear hPE
  intro hPE
  dsimp only [List.drop, lawE] at hPE ⊢
  k_steps
  refine stop_out ?_
  refine' wov_use (wovC w p loose mean mg mb 4) ?n1 (by decide) hB ?gF ?gX ?gN ?gT ?gk ?gd ?gu ?_
  case n1 => (rw [mk_len, mk_len]; exact Nat.le_refl 4)
  case gF => k_asm
  case gX => k_asm
  case gN => k_asm
  case gT => k_asm
  case gk => exact rfl
  case gd => decide
  case gu => decide
  intro D1 vs1 xs1 k1 h1 tk1 hs1 hw1 F1 N1 off1
  (try dsimp only)
  (try k_fold)
  k_steps
  refine stop_out ?_
  refine' wov_use (wovC w p loose mean mg mb 4) ?n2 (by decide) hB ?gF2 ?gX2 ?gN2 ?gT2 ?gk2 ?gd2 ?gu2 ?_
  case n2 => (rw [mk_len, mk_len]; exact Nat.le_refl 4)
  case gF2 => k_asm
  case gX2 => k_asm
  case gN2 => k_asm
  case gT2 => k_asm
  case gk2 => exact rfl
  case gd2 => decide
  case gu2 => decide
  intro D2 vs2 xs2 k2 h2 tk2 hs2 hw2 F2 N2 off2
  (try dsimp only)
  (try k_fold)
  k_with "execs cons" => refine stop_in ?_
  k_steps
  refine stop_out ?_
  rename Fr _ _ _ _ => F5
  rename News _ _ _ _ => N5
  exact hnext D1 D2 vs1 vs2 xs1 xs2 k1 k2 _ _ m₀ _ _ hs1 hw1 hs2 hw2 (Ne.symm (off2 (D1, _) (.head _))) (fun q hq => ⟨off1 q hq, off2 q (.tail _ hq)⟩) F5 N5
end Mine
end
section
open PySem PySem.W PyProof.Rows
namespace Mine
theorem C_pos : ∀ (r u : List Nat), 0 < C u r ↔ u.Sublist r
  | r, [] => by rw [C_nil]; exact ⟨fun _ => List.nil_sublist _, fun _ => by decide⟩
  | [], a :: u => ⟨fun h => absurd h (Nat.lt_irrefl 0), fun h => by cases h⟩
  | d :: r, a :: u => by
    have h1 := C_pos r (a :: u)
    have h2 := C_pos r u
    rw [C]
    by_cases e : a = d
    · subst e
      rw [if_pos rfl]
      constructor
      · intro h
        by_cases q : 0 < C u r
        · exact (h2.mp q).cons_cons _
        · exact (h1.mp (by omega)).cons _
      · intro h
        cases h with
        | cons _ h => have := h1.mpr h; omega
        | cons_cons _ h => have := h2.mpr h; omega
    · rw [if_neg e, Nat.add_zero, h1]
      constructor
      · exact fun h => h.cons _
      · intro h
        cases h with
        | cons _ h => exact h
        | cons_cons _ h => exact absurd rfl e
termination_by r u => r.length + u.length
theorem C_rv (x : Str) (r : List Nat) : C (cs x) r = C (rv x) r.reverse := by unfold rv; rw [C_rev]
theorem sum_ways {hs : List Str} {x y : Str} {r : List Nat} (h : hs.map rv = wv (rv x) (rv y)) : C (cs x) r * C (cs y) r = (hs.map fun z => C (cs z) r).sum := by
  rw [C_rv, C_rv, cfl, ← h, List.map_map]
  congr 1
  refine List.map_congr_left fun z _ => ?_
  exact (C_rv z r).symm
def ellT (l : List Nat) : Str := Str.ofString "..." ++ Txt.join (Str.ofString "...") (signs (mk l)) ++ Str.ofString "..."
def wordsOf : Nat → List (List Nat)
  | 0 => [[]]
  | n + 1 => (wordsOf n).flatMap fun l => [97 :: l, 98 :: l]
def words : List (List Nat) := wordsOf 1 ++ wordsOf 2 ++ wordsOf 3 ++ wordsOf 4
theorem mem_wordsOf : ∀ (l : List Nat), (∀ c ∈ l, c = 97 ∨ c = 98) → l ∈ wordsOf l.length
  | [], _ => .head _
  | a :: l, h => by
    refine List.mem_flatMap.mpr ⟨l, mem_wordsOf l fun c hc => h c (.tail _ hc), ?_⟩
    rcases h a (.head _) with rfl | rfl
    · exact .head _
    · exact .tail _ (.head _)
open Builtin Builtin.Str in
def ellOk (l : List Nat) : Bool := decide ((ellT l).length ≤ 40) && !(occurrences (ellT l) (Str.ofString "...") 0 (ellT l).length 1).isEmpty && (Txt.split (ellT l) (Str.ofString "...") == ⟨#[]⟩ :: (l.map single ++ [⟨#[]⟩])) && decide ((Txt.join (Str.ofString "...") (signs (mk l))).length ≤ 40)
set_option maxRecDepth 100000 in
theorem ell_all : words.all ellOk = true := by decide +kernel
theorem mem_words {l : List Nat} (h : ∀ c ∈ l, c = 97 ∨ c = 98) (h1 : 1 ≤ l.length) (h4 : l.length ≤ 4) : l ∈ words := by
  have g := mem_wordsOf l h
  unfold words
  rcases Nat.lt_or_ge 3 l.length with q | q
  · rw [Nat.le_antisymm h4 q] at g; exact List.mem_append_right _ g
  rcases Nat.lt_or_ge 2 l.length with q2 | q2
  · rw [Nat.le_antisymm q q2] at g; exact List.mem_append_left _ (List.mem_append_right _ g)
  rcases Nat.lt_or_ge 1 l.length with q3 | q3
  · rw [Nat.le_antisymm q2 q3] at g; exact List.mem_append_left _ (List.mem_append_left _ (List.mem_append_right _ g))
  · rw [Nat.le_antisymm q3 h1] at g; exact List.mem_append_left _ (List.mem_append_left _ (List.mem_append_left _ g))
theorem ell_facts {l : List Nat} (h : ∀ c ∈ l, c = 97 ∨ c = 98) (h1 : 1 ≤ l.length) (h4 : l.length ≤ 4) :
    (ellT l).length ≤ 40 ∧ (Builtin.Str.occurrences (ellT l) (Str.ofString "...") 0 (ellT l).length 1).isEmpty = false ∧ Txt.split (ellT l) (Str.ofString "...") = ⟨#[]⟩ :: (l.map single ++ [⟨#[]⟩]) ∧ (Txt.join (Str.ofString "...") (signs (mk l))).length ≤ 40 := by
  have := List.all_eq_true.mp ell_all l (mem_words h h1 h4)
  unfold ellOk at this
  simp only [Bool.and_eq_true, decide_eq_true_eq, Bool.not_eq_true', beq_iff_eq] at this
  exact ⟨this.1.1.1, this.1.1.2, this.1.2, this.2⟩
end Mine
end
section
open PySem PySem.W PyProof.Rows
namespace Mine
noncomputable def lawFor (P : Params) (i : Nat) : List Stmt := match (lawB P).drop i with | .For _ _ b _ _ :: _ => b | _ => []
theorem for_open {P : Params} {w : World} {prog : Program} {L fa : Addr} {cd : Value} {Q : Flow → Shared → Prop} {E : Value → Shared → Prop} {s : Shared} {b r d e : List Stmt} {x it : Expr} {po : Pos} {sc : Scope} (k : Nat) (h1 : lawB P = b) (h3 : b.drop k = .For x it d e po :: r) (h2 : lawSc P = sc)
    (h : wpAny (model prog w) (callerA.deeper (lawE sc L fa cd)) (execs d (lawE sc L fa cd)) Q E s) : wpAny (model prog w) (callerA.deeper (lawE (lawSc P) L fa cd)) (execs (lawFor P k) (lawE (lawSc P) L fa cd)) Q E s := by
  subst h2
  have e : lawFor P k = d := by unfold lawFor; rw [h1, h3]
  rw [e]
  exact h
def Good (c : List (Str × Int)) (rd : List Nat) : Prop := ∀ z, kdpHas c z = true → kdpLook c z 0 = (C (cs z) rd : Int)
theorem look_put (k : Str) (v : Int) (c : List (Str × Int)) : kdpLook (kdpPut c k v) k 0 = v := by
  unfold kdpLook kdpPut
  by_cases hc : (c.any fun p => decide (p.1 = k)) = true
  · rw [if_pos hc]
    induction c with
    | nil => simp at hc
    | cons p c ih =>
      rw [List.map_cons, List.find?_cons]
      by_cases hp : p.1 = k
      · simp [hp]
      · have hc' : (c.any fun p => decide (p.1 = k)) = true := by simpa [hp] using hc
        have := ih hc'
        simp only [decide_eq_true_eq, if_neg hp] at this ⊢
        rw [decide_eq_false hp]
        exact this
  · rw [if_neg hc]
    induction c with
    | nil => simp
    | cons p c ih =>
      have hp : ¬ p.1 = k := fun q => hc (by simp [q])
      have hc' : ¬ (c.any fun p => decide (p.1 = k)) = true := fun q => hc (by simp [q])
      have := ih hc'
      rw [List.cons_append, List.find?_cons, decide_eq_false hp]
      exact this
theorem look_other {k j : Str} (h : j ≠ k) (v : Int) (c : List (Str × Int)) : kdpLook (kdpPut c k v) j 0 = kdpLook c j 0 := by
  have h' : ¬ k = j := fun q => h q.symm
  unfold kdpLook kdpPut
  by_cases hc : (c.any fun p => decide (p.1 = k)) = true
  · rw [if_pos hc]
    clear hc
    induction c with
    | nil => rfl
    | cons p c ih =>
      rw [List.map_cons, List.find?_cons, List.find?_cons]
      by_cases hp : p.1 = k
      · have hpj : ¬ p.1 = j := fun q => h (q.symm.trans hp)
        simp only [decide_eq_true_eq, if_pos hp]
        rw [decide_eq_false hpj]
        simpa using ih
      · simp only [decide_eq_true_eq, if_neg hp]
        by_cases hpj : p.1 = j
        · simp [hpj]
        · rw [decide_eq_false hpj]
          simpa using ih
  · rw [if_neg hc, List.find?_append]
    cases c.find? fun p => decide (p.1 = j) with
    | some q => rfl
    | none => simp [h']
theorem good_put {c : List (Str × Int)} {rd : List Nat} (h : Good c rd) (k : Str) : Good (kdpPut c k (C (cs k) rd)) rd := by
  intro z hz
  by_cases e : z = k
  · subst e; exact look_put _ _ _
  · rw [kdpHas_put, decide_eq_false e, Bool.false_or] at hz
    rw [look_other e]
    exact h z hz
theorem put_has (c : List (Str × Int)) (k : Str) (v : Int) : kdpHas (kdpPut c k v) k = true := by rw [kdpHas_put, decide_eq_true rfl, Bool.true_or]
theorem put_keep {c : List (Str × Int)} {j : Str} (k : Str) (v : Int) (h : kdpHas c j = true) : kdpHas (kdpPut c k v) j = true := by rw [kdpHas_put, h, Bool.or_true]
section
variable {prog : Program} {w : World} {A : Around} {E : Value → Shared → Prop} {s : Shared} {t u : Tok} {Q : Value → Shared → Prop}
theorem ne_int_same {a b : Int} (h : a = b) (hq : Q (.bool false) s) : wpAny (model prog w) A (compareOp .NotEq (.int a t) (.int b u)) Q E s := by
  subst h
  refine ne_int ?_
  have : (a != a) = false := by simp
  first
    | (rw [this]; exact hq)
    | simpa using hq
end
section
variable {prog : Program} {w : World} {A : Around} {E : Value → Shared → Prop} {s : Shared} {Q : Value → Shared → Prop}
theorem ne_bool_same {a b : Bool} (h : a = b) (hq : Q (.bool false) s) : wpAny (model prog w) A (compareOp .NotEq (.bool a) (.bool b)) Q E s := by
  subst h
  refine ne_bool ?_
  have : (a != a) = false := by simp
  rw [this]
  exact hq
end
theorem ell_same {l rd : List Nat} {c : List (Str × Int)} : decide (l.Sublist rd) = decide ((0 : Int) < kdpLook (kdpPut c (mk l) (C (cs (mk l)) (cs (mk rd)))) (mk l) 0) := by
  rw [look_put, cs_mk, cs_mk]
  have := C_pos rd l
  rw [Bool.eq_iff_iff, decide_eq_true_iff, decide_eq_true_iff, ← this]
  omega
theorem good_put2 {c : List (Str × Int)} {rd : List Nat} (h : Good c rd) (k : Str) : Good (kdpPut c k (C (cs k) (cs (mk rd)))) rd := by
  rw [cs_mk]; exact good_put h k
end Mine
end
section
open PySem PySem.W PyProof.Rows
namespace Mine
local macro_rules | `(tactic| k_all) => `(tactic| first | assumption | fail "k_all")
set_option maxRecDepth 100000 in
set_option maxHeartbeats 8000000 in
theorem turnW (w : World) (p : Program) (loose : List Str) (mean : ExcName → Option Value) (mg mb : Str → Option Value) (fa L : Addr) (cd : Value) (base : Heap) (m₁ : Str → Option Value) (s : Shared) (Q : Flow → Shared → Prop) (E : Value → Shared → Prop)
    (rd l : List Nat) (tR tW : Tok) (Dd : Addr) (od oc : Obj) (T rest : List (Addr × Obj)) (kvs : List (Str × Value)) (c : List (Str × Int))
    (hab : AB (mk rd)) (hrd : rd.length ≤ 16) (hl : ∀ x ∈ l, x = 97 ∨ x = 98) (hl1 : 1 ≤ l.length) (hl4 : l.length ≤ 4) (hcl : c.length ≤ 20000) (hgc : Good c rd)
    (hT' : TabsLed T) (hA : Apart T ((Dd, od) :: (L + 1 + 1 + 1, oc) :: rest)) (doc : oc.data = .cell (some (.ref Dd))) (lo : (Dd == sysModules) = false) (hod : od.IsDictOf (PySem.strKind Challenge.rw_sh0023_01.row.prog w) kvs) (hfl : PyProof.V.FlatPairs PyData.str kvs (kdpD c))
    (hDr : ∀ q ∈ rest, q.1 ≠ Dd) (hDc : @Ne Nat Dd (L + 1 + 1 + 1))
    (hB : Below callerA base [] base) (hF : Fr base L s.heap (fun z => if z = Str.ofString "word" then some (.str (mk l) tW) else if z = Str.ofString "read" then some (.str (mk rd) tR) else m₁ z))
    (hC1 : CodeHd base 44 40) (hC2 : CodeHd base 37 33) (hT : Top p loose mean mg mb base)
    (hN : News base L s.heap ((Dd, od) :: (L + 1 + 1 + 1, oc) :: (T ++ rest)))
    (hPE : PassesOwn (model Challenge.rw_sh0023_01.row.prog w) (callerA.deeper (lawE (lawSc w.params) L fa cd)) (lawE (lawSc w.params) L fa cd) E)
    (hend : ∀ (T2 : List (Addr × Obj)) (od2 : Obj) (kvs2 : List (Str × Value)) (c2 : List (Str × Int)) (h' : Heap) (tk' : Nat), Good c2 rd → kdpHas c2 (mk l) = true → (∀ z, kdpHas c z = true → kdpHas c2 z = true) → c2.length ≤ c.length + 1 →
      TabsLed T2 → Apart T2 ((Dd, od2) :: (L + 1 + 1 + 1, oc) :: rest) → od2.IsDictOf (PySem.strKind Challenge.rw_sh0023_01.row.prog w) kvs2 → PyProof.V.FlatPairs PyData.str kvs2 (kdpD c2) →
      Fr base L h' (fun z => if z = Str.ofString "word" then some (.str (mk l) tW) else if z = Str.ofString "read" then some (.str (mk rd) tR) else m₁ z) →
      News base L h' ((Dd, od2) :: (L + 1 + 1 + 1, oc) :: (T2 ++ rest)) → Q .next { s with heap := h', toks := tk' }) :
    (hd.heap_39 w.params).In base → wpAny (model Challenge.rw_sh0023_01.row.prog w) (callerA.deeper (lawE (lawSc w.params) L fa cd)) (execs (lawFor w.params 15) (lawE (lawSc w.params) L fa cd)) Q E s := by
  w_top off
  k_with_none
  k_with "call ref" => (refine stop_in ?_)
  k_with "compareOp NotEq int int" => (refine stop_in ?_)
  k_with "compareOp NotEq bool bool" => (refine stop_in ?_)
  k_with "binaryOp Add str str" => (((refine KOpn.add (by omega) ?_); intro _ _ _))
  k_with "call builtin:str.join" => (((with_reducible rename Fr _ _ _ _ => cF'); (with_reducible rename News _ _ _ _ => cN'); (refine join_strF rfl cF' cN' (joinOk_signsN (N := 4) (S := 3) (by rw [mk_len]; assumption) (by decide +kernel) (by decide)) ?_); intro _ _ _ _ _))
  k_fill
  intro hX
  refine for_open 15 (law_b (by exact rfl) (by exact rfl)) (by exact rfl) (law_sc (by exact rfl) (by exact rfl)) ?_
  dsimp only [lawE]
  have hall : ∀ q ∈ (L + 1 + 1 + 1, oc) :: (T ++ rest), q.1 ≠ Dd := by
    intro q hq
    rcases List.mem_cons.mp hq with rfl | hq
    · exact hDc.symm
    · rcases List.mem_append.mp hq with hq | hq
      · exact hA (Dd, od) (.head _) q hq
      · exact hDr q hq
  k_steps
  · exact hend T od kvs c _ _ hgc (by assumption) (fun _ h => h) (by omega) hT' hA hod hfl hF hN
  refine stop_out ?_
  have hlen : (mk l).length = l.length := mk_len l
  have hlen2 : (mk rd).length = rd.length := mk_len rd
  have habl : AB (mk l) := fun x hx => hl x (by rw [cs_mk] at hx; exact hx)
  obtain ⟨he1, he2, he3, he4⟩ := ell_facts hl hl1 hl4
  have hdot : (Str.ofString "...").length = 3 := by decide +kernel
  refine' ways_use (T := T) (rest := (Dd, od) :: (L + 1 + 1 + 1, oc) :: rest) hT' hA ⟨by omega, by omega⟩ (by omega) habl hab hB ?wF ?wX hC1 hC2 ?wN ?wT ?wk ?wd ?wu ?_
  case wF => k_asm
  case wX => k_asm
  case wN =>
    intro q hq
    refine hN q ?_
    simp only [List.mem_append, List.mem_cons] at hq ⊢
    rcases hq with h | h | h | h
    · exact .inr (.inr (.inl h))
    · exact .inl h
    · exact .inr (.inl h)
    · exact .inr (.inr (.inr h))
  case wT => k_asm
  case wk => exact rfl
  case wd => decide
  case wu => decide
  clear hF hN hall
  intro T2 t2 h2 tk2 hT2 hA2 F2 N2
  have hall : ∀ q ∈ (L + 1 + 1 + 1, oc) :: (T2 ++ rest), q.1 ≠ Dd := by
    intro q hq
    rcases List.mem_cons.mp hq with rfl | hq
    · exact hDc.symm
    · rcases List.mem_append.mp hq with hq | hq
      · exact hA2 (Dd, od) (.head _) q hq
      · exact hDr q hq
  have N3 : News base L h2 ((Dd, od) :: (L + 1 + 1 + 1, oc) :: (T2 ++ rest)) := by
    intro q hq
    refine N2 q ?_
    simp only [List.mem_append, List.mem_cons] at hq ⊢
    rcases hq with h | h | h | h
    · exact .inr (.inl h)
    · exact .inr (.inr (.inl h))
    · exact .inl h
    · exact .inr (.inr (.inr h))
  clear N2
  (try dsimp only)
  (try k_fold)
  k_steps
  refine stop_out ?_
  refine' back_use (by omega) (by omega) hB ?bF ?bX ?bN ?bT ?bk ?bd ?bu ?_
  case bF => k_asm
  case bX => k_asm
  case bN => k_asm
  case bT => k_asm
  case bk => exact rfl
  case bd => decide
  case bu => decide
  intro tb hb tkb Fb Nb
  (try dsimp only)
  (try k_fold)
  k_steps
  refine stop_out ?_
  refine ne_int_same (look_put _ _ _) ?_
  k_steps
  refine stop_out ?_
  refine' ell_use (x := ellT l) (X := l) (b := decide (l.Sublist rd)) he1 (by omega) he2 he3 hl4 (by rw [cs_mk]; exact decide_eq_true_iff) hB ?eF ?eX ?eN ?eT ?ek ?ed ?eu ?_
  case eF => k_asm
  case eX => k_asm
  case eN => k_asm
  case eT => k_asm
  case ek => exact rfl
  case ed => decide
  case eu => decide
  intro he tke Fe Ne
  (try dsimp only)
  (try k_fold)
  k_steps
  refine stop_out ?_
  refine ne_bool_same ell_same ?_
  k_steps
  rename Fr _ _ _ _ => F9
  rename News _ _ _ _ => N9
  refine hend T2 _ _ (kdpPut c (mk l) (C (cs (mk l)) (cs (mk rd)))) _ _ (good_put2 hgc _) (put_has _ _ _) (fun z hz => put_keep _ _ hz) (kdpPut_len _ _ _) hT2 ?_ (by assumption) (by assumption) F9 N9
  intro q hq r hr
  rcases List.mem_cons.mp hq with rfl | hq
  · exact hA2 (Dd, od) (.head _) r hr
  · exact hA2 q (.tail _ hq) r hr
end Mine
end
section
open PySem PySem.W PyProof.Rows
namespace Mine
theorem wv_mem : ∀ (u v : List Nat), ∀ x ∈ wv u v, (∀ a ∈ x, a ∈ u ∨ a ∈ v) ∧ u.length ≤ x.length
  | [], v => fun x hx => by rw [wv_nilL] at hx; rw [List.mem_singleton.mp hx]; exact ⟨fun a h => .inr h, Nat.zero_le _⟩
  | a :: u, [] => fun x hx => by rw [wv_nilR] at hx; rw [List.mem_singleton.mp hx]; exact ⟨fun a h => .inl h, Nat.le_refl _⟩
  | a :: u, b :: v => fun x hx => by
    rw [wv] at hx
    rcases List.mem_append.mp hx with hx | hx
    · rcases List.mem_append.mp hx with hx | hx
      · obtain ⟨z, hz, rfl⟩ := List.mem_map.mp hx
        have := wv_mem u (b :: v) z hz
        refine ⟨fun y hy => ?_, by simp only [List.length_cons]; omega⟩
        rcases List.mem_cons.mp hy with rfl | hy
        · exact .inl (.head _)
        · rcases this.1 y hy with h | h
          · exact .inl (.tail _ h)
          · exact .inr h
      · obtain ⟨z, hz, rfl⟩ := List.mem_map.mp hx
        have := wv_mem (a :: u) v z hz
        refine ⟨fun y hy => ?_, by have := this.2; simp only [List.length_cons] at this ⊢; omega⟩
        rcases List.mem_cons.mp hy with rfl | hy
        · exact .inr (.head _)
        · rcases this.1 y hy with h | h
          · exact .inl h
          · exact .inr (.tail _ h)
    · by_cases h : a = b
      · rw [if_pos h] at hx
        obtain ⟨z, hz, rfl⟩ := List.mem_map.mp hx
        have := wv_mem u v z hz
        refine ⟨fun y hy => ?_, by simp only [List.length_cons]; omega⟩
        rcases List.mem_cons.mp hy with rfl | hy
        · exact .inl (.head _)
        · rcases this.1 y hy with h | h
          · exact .inl (.tail _ h)
          · exact .inr (.tail _ h)
      · rw [if_neg h] at hx
        cases hx
termination_by u v => u.length + v.length
def Word (z : Str) : Prop := (∀ x ∈ cs z, x = 97 ∨ x = 98) ∧ 1 ≤ (cs z).length ∧ (cs z).length ≤ 4
theorem word_mk {l : List Nat} (h : ∀ x ∈ l, x = 97 ∨ x = 98) (h1 : 1 ≤ l.length) (h4 : l.length ≤ 4) : Word (mk l) := by
  unfold Word; rw [cs_mk]; exact ⟨h, h1, h4⟩
theorem word_wov {x y : Str} {hs : List Str} (h : hs.map rv = wv (rv x) (rv y)) (hx : Word x) (hy : Word y) (hl : (cs x).length + (cs y).length ≤ 4) : ∀ z ∈ hs, Word z := by
  intro z hz
  have h1 : rv z ∈ wv (rv x) (rv y) := by rw [← h]; exact List.mem_map_of_mem hz
  have h2 := wv_mem _ _ _ h1
  have h3 := wov_small h hz
  have h4 := h2.2
  rw [rv_len, rv_len] at h4
  rw [← cs_len, ← cs_len, ← cs_len] at h3
  rw [← cs_len, ← cs_len] at h4
  refine ⟨fun c hc => ?_, by have := hx.2.1; omega, by omega⟩
  have h5 : c ∈ rv z := by unfold rv; exact List.mem_reverse.mpr hc
  rcases h2.1 c h5 with q | q
  · exact hx.1 c (List.mem_reverse.mp q)
  · exact hy.1 c (List.mem_reverse.mp q)
theorem own_off {own : List (Addr × Obj)} {adr : List Addr} (h : OwnOff own adr) : ∀ q ∈ own, ∀ a ∈ adr, q.1 ≠ a := h
theorem for_eq {P : Params} {b r d e : List Stmt} {x it : Expr} {po : Pos} (k : Nat) (h1 : lawB P = b) (h3 : b.drop k = .For x it d e po :: r) : lawFor P k = d := by
  unfold lawFor; rw [h1, h3]
set_option maxRecDepth 100000 in
theorem words_loop (w : World) (p : Program) (loose : List Str) (mean : ExcName → Option Value) (mg mb : Str → Option Value) (fa L : Addr) (cd : Value) (sc : Scope) (d : List Stmt) (hsc : lawSc w.params = sc) (hd0 : lawFor w.params 15 = d) (base : Heap) (m₀ : Str → Option Value) (s : Shared) (Q : Flow → Shared → Prop) (E : Value → Shared → Prop)
    (rd : List Nat) (tR : Tok) (Dd D2 : Addr) (us : List Value) (WS : List Str) (nn : Nat) (od0 oc : Obj) (T0 rest : List (Addr × Obj))
    (hab : AB (mk rd)) (hrd : rd.length ≤ 16) (hus : StrsAre us WS) (hW : ∀ z ∈ WS, Word z) (hlen : us.length ≤ 19000)
    (hT' : TabsLed T0) (hA : Apart T0 ((Dd, od0) :: (L + 1 + 1 + 1, oc) :: (D2, listOf us.toArray nn) :: rest)) (doc : oc.data = .cell (some (.ref Dd))) (lo : (Dd == sysModules) = false) (hod : od0.IsDictOf (PySem.strKind Challenge.rw_sh0023_01.row.prog w) [])
    (hfl : PyProof.V.FlatPairs PyData.str [] []) (hDr : ∀ q ∈ (D2, listOf us.toArray nn) :: rest, q.1 ≠ Dd) (hDc : @Ne Nat Dd (L + 1 + 1 + 1)) (hr0 : m₀ (Str.ofString "read") = some (.str (mk rd) tR))
    (hB : Below callerA base [] base) (hF : Fr base L s.heap m₀) (hC1 : CodeHd base 44 40) (hC2 : CodeHd base 37 33) (hT : Top p loose mean mg mb base) (hX : (hd.heap_39 w.params).In base)
    (hN : News base L s.heap ((Dd, od0) :: (L + 1 + 1 + 1, oc) :: (T0 ++ (D2, listOf us.toArray nn) :: rest)))
    (hPE : PassesOwn (model Challenge.rw_sh0023_01.row.prog w) (callerA.deeper (lawE (sc) L fa cd)) (lawE (sc) L fa cd) E)
    (hdone : ∀ (T : List (Addr × Obj)) (od : Obj) (kvs : List (Str × Value)) (c : List (Str × Int)) (m' : Str → Option Value) (h' : Heap) (tk' : Nat), TabsLed T → Good c rd → (∀ z ∈ WS, kdpHas c z = true) → od.IsDictOf (PySem.strKind Challenge.rw_sh0023_01.row.prog w) kvs → PyProof.V.FlatPairs PyData.str kvs (kdpD c) →
      (∀ z, z ≠ Str.ofString "word" → m' z = m₀ z) → Fr base L h' m' → News base L h' ((Dd, od) :: (L + 1 + 1 + 1, oc) :: (T ++ (D2, listOf us.toArray nn) :: rest)) → Q .next { s with heap := h', toks := tk' }) :
    wpAny (model Challenge.rw_sh0023_01.row.prog w) (callerA.deeper (lawE (sc) L fa cd)) (pyIter (.ref D2)) (fun it s₂ => LoopAtV Challenge.rw_sh0023_01.row.prog w (callerA.deeper (lawE (sc) L fa cd)) base (lawE (sc) L fa cd) (Str.ofString "word") (d) Q E it s₂) E s := by
  subst hsc
  subst hd0
  have hne : Str.ofString "read" ≠ Str.ofString "word" := by decide +kernel
  refine kdl_iter (fun i m nx => ∃ (T : List (Addr × Obj)) (od : Obj) (kvs : List (Str × Value)) (c : List (Str × Int)), nx = (Dd, od) :: (L + 1 + 1 + 1, oc) :: (T ++ (D2, listOf us.toArray nn) :: rest) ∧ TabsLed T ∧ Apart T ((Dd, od) :: (L + 1 + 1 + 1, oc) :: (D2, listOf us.toArray nn) :: rest) ∧
      od.IsDictOf (PySem.strKind Challenge.rw_sh0023_01.row.prog w) kvs ∧ PyProof.V.FlatPairs PyData.str kvs (kdpD c) ∧ Good c rd ∧ c.length ≤ i ∧ (∀ z ∈ WS.take i, kdpHas c z = true) ∧ ∀ z, z ≠ Str.ofString "word" → m z = m₀ z)
    rfl (.tail _ (.tail _ (List.mem_append_right _ (.head _)))) hF hN ⟨T0, od0, [], [], rfl, hT', hA, hod, hfl, fun z hz => by simp [kdpHas] at hz, Nat.le_refl _, fun z hz => by simp at hz, fun _ _ => rfl⟩ ?_ ?_
  · rintro i v m₁ nx h tk own hv hoff hln ⟨T, od, kvs, c, rfl, t1, t2, t3, t4, t5, t6, t7, t8⟩ F N
    obtain ⟨z, t, hz, rfl⟩ := strs_at hus i v hv
    have hzW := hW z (List.mem_of_getElem? hz)
    have hi : i < us.length := (List.getElem?_eq_some_iff.mp hv).1
    have eF : (fun y => if y = Str.ofString "word" then some (Value.str z t) else m₁ y) = fun y => if y = Str.ofString "word" then some (.str (mk (cs z)) t) else if y = Str.ofString "read" then some (.str (mk rd) tR) else m₁ y := by
      funext y
      rw [mk_cs]
      by_cases h1 : y = Str.ofString "word"
      · rw [if_pos h1, if_pos h1]
      · rw [if_neg h1, if_neg h1]
        by_cases h2 : y = Str.ofString "read"
        · rw [if_pos h2, h2, t8 _ hne, hr0]
        · rw [if_neg h2]
    rw [eF] at F
    have offA := own_off hoff
    have hA2 : Apart T ((Dd, od) :: (L + 1 + 1 + 1, oc) :: ((D2, listOf us.toArray nn) :: rest ++ own)) := by
      intro q hq r hr
      rcases List.mem_cons.mp hq with rfl | hq
      · exact t2 (Dd, od) (.head _) r hr
      · rcases List.mem_cons.mp hq with rfl | hq
        · exact t2 _ (.tail _ (.head _)) r hr
        · rcases List.mem_append.mp hq with hq | hq
          · exact t2 q (.tail _ (.tail _ hq)) r hr
          · exact (offA q hq r.1 (List.mem_map_of_mem (.tail _ (.tail _ (List.mem_append_left _ hr))))).symm
    have hDr2 : ∀ q ∈ ((D2, listOf us.toArray nn) :: rest ++ own), q.1 ≠ Dd := by
      intro q hq
      rcases List.mem_append.mp hq with hq | hq
      · exact hDr q hq
      · exact offA q hq Dd (List.mem_map_of_mem (f := (·.1)) (a := (Dd, od)) (.head _))
    have N2 : News base L h ((Dd, od) :: (L + 1 + 1 + 1, oc) :: (T ++ ((D2, listOf us.toArray nn) :: rest ++ own))) := by
      have e : (Dd, od) :: (L + 1 + 1 + 1, oc) :: (T ++ ((D2, listOf us.toArray nn) :: rest ++ own)) = ((Dd, od) :: (L + 1 + 1 + 1, oc) :: (T ++ (D2, listOf us.toArray nn) :: rest)) ++ own := by simp
      rw [e]
      exact N
    refine turnW w p loose mean mg mb fa L cd base m₁ { s with heap := h, toks := tk } _ E rd (cs z) tR t Dd od oc T ((D2, listOf us.toArray nn) :: rest ++ own) kvs c hab hrd hzW.1 hzW.2.1 hzW.2.2 (by omega) t5 t1 hA2 doc lo t3 t4 hDr2 hDc hB F hC1 hC2 hT N2 hPE ?_ hX
    intro T2 od2 kvs2 c2 h' tk' g1 g2 g3 g4 g5 g6 g7 g8 F' N'
    refine InvEndG.intro (nx := (Dd, od2) :: (L + 1 + 1 + 1, oc) :: (T2 ++ (D2, listOf us.toArray nn) :: rest)) F' N' ⟨.tail _ (.tail _ (List.mem_append_right _ (.head _))), T2, od2, kvs2, c2, rfl, g5, ?_, g7, g8, g1, by omega, ?_, ?_⟩ ?_ ?_ ?_
    · intro q hq r hr
      refine g6 q ?_ r hr
      simp only [List.mem_cons, List.mem_append] at hq ⊢
      rcases hq with h | h | h | h
      · exact .inl h
      · exact .inr (.inl h)
      · exact .inr (.inr (.inl (.inl h)))
      · exact .inr (.inr (.inl (.inr h)))
    · intro y hy
      rw [List.take_add_one, hz] at hy
      rcases List.mem_append.mp hy with hy | hy
      · exact g3 y (t7 y hy)
      · have : y = z := by simpa using hy
        rw [this, ← mk_cs z]
        exact g2
    · intro y hy
      show (if y = Str.ofString "word" then _ else if y = Str.ofString "read" then _ else m₁ y) = m₀ y
      rw [if_neg hy]
      by_cases h2 : y = Str.ofString "read"
      · rw [if_pos h2, h2, hr0]
      · rw [if_neg h2]
        exact t8 y hy
    · intro q hq b hb
      obtain ⟨r, hr, rfl⟩ := List.mem_map.mp hb
      rcases List.mem_cons.mp hr with rfl | hr
      · exact offA q hq Dd (List.mem_map_of_mem (f := (·.1)) (a := (Dd, od)) (.head _))
      · rcases List.mem_cons.mp hr with rfl | hr
        · exact offA q hq _ (List.mem_map_of_mem (f := (·.1)) (a := (L + 1 + 1 + 1, oc)) (.tail _ (.head _)))
        · rcases List.mem_append.mp hr with hr | hr
          · exact (g6 q (.tail _ (.tail _ (List.mem_append_right _ hq))) r hr).symm
          · exact offA q hq r.1 (List.mem_map_of_mem (f := (·.1)) (.tail _ (.tail _ (List.mem_append_right _ hr))))
    · intro q hq
      simp only [List.mem_cons, List.mem_append] at hq ⊢
      rcases hq with h | h | h | h | h
      · exact .inl h
      · exact .inr (.inl h)
      · exact .inr (.inr (.inl h))
      · exact .inr (.inr (.inr (.inl (.inl h))))
      · exact .inr (.inr (.inr (.inl (.inr h))))
    · intro q hq
      simp only [List.mem_cons, List.mem_append]
      exact .inr (.inr (.inr (.inr hq)))
  · rintro m₁ nx h tk ⟨T, od, kvs, c, rfl, t1, t2, t3, t4, t5, t6, t7, t8⟩ F N
    refine hdone T od kvs c m₁ h tk t1 t5 ?_ t3 t4 t8 F N
    intro z hz
    refine t7 z ?_
    rw [hus.length, List.take_length]
    exact hz
end Mine
end
section
open PySem PySem.W PyProof.Rows
namespace Mine
theorem chain6 {m' m₀ : Str → Option Value} {n1 n2 n3 n4 n5 n6 wd : Str} {v1 v2 v3 v4 v5 v6 : Option Value}
    (g : ∀ z, z ≠ wd → m' z = if z = n1 then v1 else if z = n2 then v2 else if z = n3 then v3 else if z = n4 then v4 else if z = n5 then v5 else if z = n6 then v6 else m₀ z)
    (h1 : wd ≠ n1) (h2 : wd ≠ n2) (h3 : wd ≠ n3) (h4 : wd ≠ n4) (h5 : wd ≠ n5) (h6 : wd ≠ n6) :
    m' = fun z => if z = n1 then v1 else if z = n2 then v2 else if z = n3 then v3 else if z = n4 then v4 else if z = n5 then v5 else if z = n6 then v6 else m' z := by
  funext z
  by_cases hw : z = wd
  · subst hw
    rw [if_neg h1, if_neg h2, if_neg h3, if_neg h4, if_neg h5, if_neg h6]
  · have := g z hw
    by_cases q : z = n1
    · rw [if_pos q] at this ⊢; exact this
    · rw [if_neg q] at this ⊢
      by_cases q : z = n2
      · rw [if_pos q] at this ⊢; exact this
      · rw [if_neg q] at this ⊢
        by_cases q : z = n3
        · rw [if_pos q] at this ⊢; exact this
        · rw [if_neg q] at this ⊢
          by_cases q : z = n4
          · rw [if_pos q] at this ⊢; exact this
          · rw [if_neg q] at this ⊢
            by_cases q : z = n5
            · rw [if_pos q] at this ⊢; exact this
            · rw [if_neg q] at this ⊢
              by_cases q : z = n6
              · rw [if_pos q] at this ⊢; exact this
              · rw [if_neg q]
set_option maxRecDepth 100000 in
set_option maxHeartbeats 8000000 in
theorem rest4 (w : World) (p : Program) (loose : List Str) (mean : ExcName → Option Value) (mg mb : Str → Option Value) (fa L : Addr) (cd : Value) (base : Heap) (m₀ : Str → Option Value) (s : Shared) (Q : Flow → Shared → Prop) (E : Value → Shared → Prop)
    (rd : List Nat) (c1 c2 c3 : Nat) (tR tT tF tB : Tok) (o2 : Obj) (H I : Addr) (hv iv : List Value) (hs is : List Str) (hc ic : Nat)
    (hab : AB (mk rd)) (hrd : 6 ≤ rd.length ∧ rd.length ≤ 16) (a1 : c1 = 97 ∨ c1 = 98) (a2 : c2 = 97 ∨ c2 = 98) (a3 : c3 = 97 ∨ c3 = 98) (d2 : o2.data = .cell none)
    (hh : StrsAre hv hs) (hhw : hs.map rv = wv (rv (mk [c1, c2])) (rv (mk [c2, c3]))) (hi : StrsAre iv is) (hiw : is.map rv = wv (rv (mk [c2])) (rv (mk [c1, c2, c3])))
    (hIH : @Ne Nat I H) (hne : ∀ q ∈ [(L + 1 + 1 + 1, o2), (40, tabObj #[]), (33, tabObj #[])], q.1 ≠ H ∧ q.1 ≠ I) (hlt : @LT.lt Nat _ 40 L)
    (hB : Below callerA base [] base)
    (hF : Fr base L s.heap (fun z => if z = Str.ofString "inner" then some (.ref I) else if z = Str.ofString "halves" then some (.ref H) else if z = Str.ofString "back" then some (.str (mk [c2, c3]) tB) else if z = Str.ofString "front" then some (.str (mk [c1, c2]) tF) else
        if z = Str.ofString "three" then some (.str (mk [c1, c2, c3]) tT) else if z = Str.ofString "read" then some (.str (mk rd) tR) else m₀ z))
    (hC1 : CodeHd base 44 40) (hC2 : CodeHd base 37 33) (hT : Top p loose mean mg mb base)
    (hN : News base L s.heap [(I, listOf iv.toArray ic), (H, listOf hv.toArray hc), (L + 1 + 1 + 1, o2), (40, tabObj #[]), (33, tabObj #[])])
    (hPE : PassesOwn (model Challenge.rw_sh0023_01.row.prog w) (callerA.deeper (lawE (lawSc w.params) L fa cd)) (lawE (lawSc w.params) L fa cd) E)
    (hnext : ∀ (ps qs : Array Value) (Dd : Addr) (od oc : Obj) (kvs : List (Str × Value)) (c : List (Str × Int)) (m' : Str → Option Value) (h' : Heap) (tk' : Nat), Good c rd → (∀ z ∈ [mk [c1, c2], mk [c2, c3], mk [c2], mk [c1, c2, c3]] ++ hs ++ is, kdpHas c z = true) →
      od.IsDictOf (PySem.strKind Challenge.rw_sh0023_01.row.prog w) kvs → PyProof.V.FlatPairs PyData.str kvs (kdpD c) → oc.data = .cell (some (.ref Dd)) → (Dd == sysModules) = false → (@LT.lt Nat _ I Dd ∧ @LT.lt Nat _ H Dd ∧ @LT.lt Nat _ (L + 1 + 1 + 1) Dd) →
      Fr base L h' (fun z => if z = Str.ofString "inner" then some (.ref I) else if z = Str.ofString "halves" then some (.ref H) else if z = Str.ofString "back" then some (.str (mk [c2, c3]) tB) else if z = Str.ofString "front" then some (.str (mk [c1, c2]) tF) else
        if z = Str.ofString "three" then some (.str (mk [c1, c2, c3]) tT) else if z = Str.ofString "read" then some (.str (mk rd) tR) else m' z) →
      News base L h' [(Dd, od), (L + 1 + 1 + 1, oc), (I, listOf iv.toArray ic), (H, listOf hv.toArray hc), (40, tabObj ps), (33, tabObj qs)] →
      wpAny (model Challenge.rw_sh0023_01.row.prog w) (callerA.deeper (lawE (lawSc w.params) L fa cd)) (execs ((lawB w.params).drop 16) (lawE (lawSc w.params) L fa cd)) Q E { s with heap := h', toks := tk' }) :
    (hd.heap_39 w.params).In base → wpAny (model Challenge.rw_sh0023_01.row.prog w) (callerA.deeper (lawE (lawSc w.params) L fa cd)) (execs ((lawB w.params).drop 14) (lawE (lawSc w.params) L fa cd)) Q E s := by
  w_top off
  k_with_none
  k_with "call ref" => (refine stop_in ?_)
  k_with "binaryOp Add ref ref" => (refine stop_in ?_)
  k_with "pyIter ref" => (refine stop_in ?_)
  k_with "exec For Name BinOp cons nil" => (refine stop_in ?_)
  k_with "exec For Name List cons nil" => (refine stop_in ?_)
  k_with "subscriptTail Name Constant str int" => (((refine mid_wp ?_); intro _))
  k_fill
  intro hX
  have hPE0 := hPE
  refine law_open 14 (law_b (by exact rfl) (by exact rfl)) (law_sc (by exact rfl) (by exact rfl)) hPE ?_
  clear hPE
  intro hPE
  dsimp only [List.drop, lawE] at hPE ⊢
  have n1 : @Ne Nat I (L + 1 + 1 + 1) := Ne.symm (hne _ (.head _)).2
  have n2 : @Ne Nat H (L + 1 + 1 + 1) := Ne.symm (hne _ (.head _)).1
  k_steps
  refine stop_out ?_
  rename Fr _ _ _ _ => lF'
  with_unfolding_all refine' For_invVF lF' ?kf1 ?kf2 ?_ (hE := hPE)
  case kf1 => exact rfl
  case kf2 => exact rfl
  k_steps
  refine stop_out ?_
  rename Fr _ _ _ _ => F1
  rename News _ _ _ _ => N1
  have hhl := wov_size hh hhw (by rw [mk_len, mk_len]; exact Nat.le_of_ble_eq_true rfl)
  have hil := wov_size hi hiw (by rw [mk_len, mk_len]; exact Nat.le_of_ble_eq_true rfl)
  rw [List.size_toArray] at hhl hil
  refine' cat_strs (vs := [_, _, _, _]) (xs := [mk [c1, c2], mk [c2, c3], mk [c2], mk [c1, c2, c3]]) F1 N1 (.head _) ?mH ?sA hh ?zA ?_
  case mH => k_mem
  case sA => exact .cons _ _ (.cons _ _ (.cons _ _ (.cons _ _ .nil)))
  case zA => (simp only [List.length_cons, List.length_nil]; omega)
  intro D1 us1 h1 F2 N2 l2 s2 z2
  clear F1 N1
  (try dsimp only)
  (try k_fold)
  k_steps
  refine stop_out ?_
  refine' cat_strs F2 N2 (.head _) ?mI s2 hi ?zB ?_
  case mI => k_mem
  case zB => (simp only [List.length_cons, List.length_nil] at z2; omega)
  intro D2 us2 h2 F3 N3 l3 s3 z3
  clear F2 N2
  (try dsimp only)
  (try k_fold)
  k_steps
  refine stop_out ?_
  have hW4 : ∀ z ∈ [mk [c1, c2], mk [c2, c3], mk [c2], mk [c1, c2, c3]] ++ hs ++ is, Word z := by
    have w1 : Word (mk [c1, c2]) := word_mk (by simp [a1, a2]) (Nat.le_of_ble_eq_true rfl) (Nat.le_of_ble_eq_true rfl)
    have w2 : Word (mk [c2, c3]) := word_mk (by simp [a2, a3]) (Nat.le_of_ble_eq_true rfl) (Nat.le_of_ble_eq_true rfl)
    have w3 : Word (mk [c2]) := word_mk (by simp [a2]) (Nat.le_of_ble_eq_true rfl) (Nat.le_of_ble_eq_true rfl)
    have w4 : Word (mk [c1, c2, c3]) := word_mk (by simp [a1, a2, a3]) (Nat.le_of_ble_eq_true rfl) (Nat.le_of_ble_eq_true rfl)
    intro z hz
    rcases List.mem_append.mp hz with hz | hz
    · rcases List.mem_append.mp hz with hz | hz
      · simp only [List.mem_cons, List.not_mem_nil, or_false] at hz
        rcases hz with rfl | rfl | rfl | rfl <;> assumption
      · exact word_wov hhw w1 w2 (by rw [cs_mk, cs_mk]; exact Nat.le_refl _) z hz
    · exact word_wov hiw w3 w4 (by rw [cs_mk, cs_mk]; exact Nat.le_refl _) z hz
  rename_i d _ o lo hs0 fs _ _ hDI _ oc dc t1 l _ hl _ _
  have e2 : ∀ q ∈ [(d, o), (I, listOf iv.toArray ic), (H, listOf hv.toArray hc), (L + 1 + 1 + 1, oc), (40, tabObj #[]), (33, tabObj #[])], @LT.lt Nat _ q.1 D2 := fun q hq => l3 q (.tail _ (.tail _ hq))
  have hd2 : @LT.lt Nat _ d D2 := e2 (d, o) (by k_mem)
  have hI2 : @LT.lt Nat _ I D2 := e2 (I, listOf iv.toArray ic) (by k_mem)
  have hH2 : @LT.lt Nat _ H D2 := e2 (H, listOf hv.toArray hc) (by k_mem)
  have hL2 : @LT.lt Nat _ (L + 1 + 1 + 1) D2 := e2 (L + 1 + 1 + 1, oc) (by k_mem)
  have h402 : @LT.lt Nat _ 40 D2 := e2 (40, tabObj #[]) (by k_mem)
  have h40 := hne (40, tabObj #[]) (by k_mem)
  have h33 := hne (33, tabObj #[]) (by k_mem)
  have j1 : @Ne Nat 40 H := h40.1
  have j2 : @Ne Nat 40 I := h40.2
  have j3 : @Ne Nat 33 H := h33.1
  have j4 : @Ne Nat 33 I := h33.2
  have hlt' : @LT.lt Nat _ 40 L := hlt
  refine' words_loop w p loose mean mg mb fa L cd _ _ (law_sc (by exact rfl) (by exact rfl)) (for_eq 15 (law_b (by exact rfl) (by exact rfl)) (by exact rfl)) base _ _ _ E rd tR d D2 us2 _ 0 o oc [(40, tabObj #[]), (33, tabObj #[])] [(I, listOf iv.toArray ic), (H, listOf hv.toArray hc)] hab hrd.2 s3 hW4 ?q1 tabs_start ?q2 dc lo hs0 fs ?q3 ?q4 ?q5 hB F3 hC1 hC2 hT hX ?q6 hPE ?_
  case q1 => (simp only [List.length_cons, List.length_nil] at z2; omega)
  case q2 =>
    intro q hq r hr
    simp only [List.mem_cons, List.not_mem_nil, or_false] at hq hr
    rcases hr with rfl | rfl <;> rcases hq with rfl | rfl | rfl | rfl | rfl <;> dsimp only <;> (try assumption) <;> (show @Ne Nat _ _) <;> omega
  case q3 =>
    intro q hq
    simp only [List.mem_cons, List.not_mem_nil, or_false] at hq
    rcases hq with rfl | rfl | rfl <;> dsimp only <;> (show @Ne Nat _ _) <;> omega
  case q4 => (show @Ne Nat _ _); omega
  case q5 => (rw [if_neg (by decide +kernel), if_neg (by decide +kernel), if_neg (by decide +kernel), if_neg (by decide +kernel), if_neg (by decide +kernel), if_pos rfl])
  case q6 =>
    intro q hq
    refine N3 q ?_
    simp only [List.mem_cons, List.mem_append, List.not_mem_nil, or_false] at hq ⊢
    rcases hq with h | h | (h | h) | h | h | h <;> simp [h]
  clear F3 N3
  intro T od kvs c m' h' tk' gT g1 g2 g3 g4x g4 F N
  obtain ⟨ps, qs, cd9, ce9, rfl, _, _, _⟩ := gT
  rw [chain6 g4 (by decide +kernel) (by decide +kernel) (by decide +kernel) (by decide +kernel) (by decide +kernel) (by decide +kernel)] at F
  dsimp only
  refine hnext ps qs d od oc kvs c m' _ _ g1 g2 g3 g4x dc lo ⟨hDI.1, hDI.2.1, hDI.2.2.1⟩ F fun q hq => N q ?_
  simp only [List.mem_cons, List.mem_append, List.not_mem_nil, or_false] at hq ⊢
  rcases hq with h | h | h | h | h | h <;> simp [h]
end Mine
end
section
open PySem PySem.W PyProof.Rows
namespace Mine
theorem price_same {l rd : List Nat} {c : List (Str × Int)} {R n : Int} (hg : Good c rd) (hh : kdpHas c (mk l) = true) (hR : R = n ↔ (cs (mk l)).Sublist (cs (mk rd))) : (R == n) = decide ((0 : Int) < kdpLook c (mk l) 0) := by
  rw [hg _ hh, Bool.eq_iff_iff, beq_iff_eq, decide_eq_true_iff, hR, cs_mk, cs_mk, ← C_pos rd l]
  omega
local macro_rules | `(tactic| k_all) => `(tactic| first | assumption | fail "k_all")
set_option maxRecDepth 100000 in
set_option maxHeartbeats 8000000 in
theorem turnP (w : World) (p : Program) (loose : List Str) (mean : ExcName → Option Value) (mg mb : Str → Option Value) (fa L : Addr) (cd : Value) (base : Heap) (m₁ : Str → Option Value) (s : Shared) (Q : Flow → Shared → Prop) (E : Value → Shared → Prop)
    (rd l : List Nat) (tR tW : Tok) (Dd : Addr) (od oc : Obj) (rest : List (Addr × Obj)) (kvs : List (Str × Value)) (c : List (Str × Int))
    (hab : AB (mk rd)) (hrd : 6 ≤ rd.length ∧ rd.length ≤ 16) (hl : ∀ x ∈ l, x = 97 ∨ x = 98) (hl1 : 1 ≤ l.length) (hl4 : l.length ≤ 4) (hgc : Good c rd) (hhas : kdpHas c (mk l) = true)
    (doc : oc.data = .cell (some (.ref Dd))) (lo : (Dd == sysModules) = false) (hod : od.IsDictOf (PySem.strKind Challenge.rw_sh0023_01.row.prog w) kvs) (hfl : PyProof.V.FlatPairs PyData.str kvs (kdpD c))
    (hDc : @Ne Nat Dd (L + 1 + 1 + 1))
    (hB : Below callerA base [] base) (hF : Fr base L s.heap (fun z => if z = Str.ofString "word" then some (.str (mk l) tW) else if z = Str.ofString "read" then some (.str (mk rd) tR) else m₁ z))
    (hT : Top p loose mean mg mb base)
    (hN : News base L s.heap ((Dd, od) :: (L + 1 + 1 + 1, oc) :: rest))
    (hPE : PassesOwn (model Challenge.rw_sh0023_01.row.prog w) (callerA.deeper (lawE (lawSc w.params) L fa cd)) (lawE (lawSc w.params) L fa cd) E)
    (hend : ∀ (v : Value) (h' : Heap) (tk' : Nat), Fr base L h' (fun z => if z = Str.ofString "price" then some v else if z = Str.ofString "word" then some (.str (mk l) tW) else if z = Str.ofString "read" then some (.str (mk rd) tR) else m₁ z) →
      News base L h' ((Dd, od) :: (L + 1 + 1 + 1, oc) :: rest) → Q .next { s with heap := h', toks := tk' }) :
    (hd.heap_39 w.params).In base → wpAny (model Challenge.rw_sh0023_01.row.prog w) (callerA.deeper (lawE (lawSc w.params) L fa cd)) (execs (lawFor w.params 16) (lawE (lawSc w.params) L fa cd)) Q E s := by
  w_top off
  k_with_none
  k_with "call ref" => (refine stop_in ?_)
  k_with "compareOp NotEq bool bool" => (refine stop_in ?_)
  k_fill
  intro hX
  refine for_open 16 (law_b (by exact rfl) (by exact rfl)) (by exact rfl) (law_sc (by exact rfl) (by exact rfl)) ?_
  dsimp only [lawE]
  have hlen : (mk l).length = l.length := mk_len l
  have hlen2 : (mk rd).length = rd.length := mk_len rd
  have habl : AB (mk l) := fun x hx => hl x (by rw [cs_mk] at hx; exact hx)
  k_steps
  refine stop_out ?_
  refine' lev_use (by omega) (by omega) (by omega) (by omega) (by exact rfl) habl hab hB ?vF ?vX ?vN ?vT ?vk ?vd ?vu ?_
  case vF => k_asm
  case vX => k_asm
  case vN => k_asm
  case vT => k_asm
  case vk => exact rfl
  case vd => decide
  case vu => decide
  intro R tr hr tkr hR Fr1 Nr1
  (try dsimp only)
  (try k_fold)
  k_steps
  refine stop_out ?_
  refine ne_bool_same (price_same hgc hhas hR) ?_
  k_steps
  rename Fr _ _ _ _ => F9
  rename News _ _ _ _ => N9
  exact hend _ _ _ F9 N9
end Mine
end
section
open PySem PySem.W PyProof.Rows
namespace Mine
set_option maxRecDepth 100000 in
theorem price_loop (w : World) (p : Program) (loose : List Str) (mean : ExcName → Option Value) (mg mb : Str → Option Value) (fa L : Addr) (cd : Value) (sc : Scope) (d : List Stmt) (hsc : lawSc w.params = sc) (hd0 : lawFor w.params 16 = d) (base : Heap) (m₀ : Str → Option Value) (s : Shared) (Q : Flow → Shared → Prop) (E : Value → Shared → Prop)
    (rd : List Nat) (tR : Tok) (Dd D2 : Addr) (us : List Value) (WS : List Str) (nn : Nat) (od oc : Obj) (rest : List (Addr × Obj)) (kvs : List (Str × Value)) (c : List (Str × Int))
    (hab : AB (mk rd)) (hrd : 6 ≤ rd.length ∧ rd.length ≤ 16) (hus : StrsAre us WS) (hW : ∀ z ∈ WS, Word z) (hgc : Good c rd) (hhas : ∀ z ∈ WS, kdpHas c z = true)
    (doc : oc.data = .cell (some (.ref Dd))) (lo : (Dd == sysModules) = false) (hod : od.IsDictOf (PySem.strKind Challenge.rw_sh0023_01.row.prog w) kvs)
    (hfl : PyProof.V.FlatPairs PyData.str kvs (kdpD c)) (hDc : @Ne Nat Dd (L + 1 + 1 + 1)) (hr0 : m₀ (Str.ofString "read") = some (.str (mk rd) tR))
    (hB : Below callerA base [] base) (hF : Fr base L s.heap m₀) (hT : Top p loose mean mg mb base) (hX : (hd.heap_39 w.params).In base)
    (hN : News base L s.heap ((Dd, od) :: (L + 1 + 1 + 1, oc) :: (D2, listOf us.toArray nn) :: rest))
    (hPE : PassesOwn (model Challenge.rw_sh0023_01.row.prog w) (callerA.deeper (lawE sc L fa cd)) (lawE sc L fa cd) E)
    (hdone : ∀ (m' : Str → Option Value) (h' : Heap) (tk' : Nat), (∀ z, z ≠ Str.ofString "word" → z ≠ Str.ofString "price" → m' z = m₀ z) → Fr base L h' m' → News base L h' ((Dd, od) :: (L + 1 + 1 + 1, oc) :: (D2, listOf us.toArray nn) :: rest) → Q .next { s with heap := h', toks := tk' }) :
    wpAny (model Challenge.rw_sh0023_01.row.prog w) (callerA.deeper (lawE sc L fa cd)) (pyIter (.ref D2)) (fun it s₂ => LoopAtV Challenge.rw_sh0023_01.row.prog w (callerA.deeper (lawE sc L fa cd)) base (lawE sc L fa cd) (Str.ofString "word") d Q E it s₂) E s := by
  subst hsc
  subst hd0
  have hne : Str.ofString "read" ≠ Str.ofString "word" := by decide +kernel
  have hne2 : Str.ofString "read" ≠ Str.ofString "price" := by decide +kernel
  refine kdl_iter (fun i m nx => nx = (Dd, od) :: (L + 1 + 1 + 1, oc) :: (D2, listOf us.toArray nn) :: rest ∧ ∀ z, z ≠ Str.ofString "word" → z ≠ Str.ofString "price" → m z = m₀ z)
    rfl (.tail _ (.tail _ (.head _))) hF hN ⟨rfl, fun _ _ _ => rfl⟩ ?_ ?_
  · rintro i v m₁ nx h tk own hv hoff hln ⟨rfl, t8⟩ F N
    obtain ⟨z, t, hz, rfl⟩ := strs_at hus i v hv
    have hzm := List.mem_of_getElem? hz
    have hzW := hW z hzm
    have eF : (fun y => if y = Str.ofString "word" then some (Value.str z t) else m₁ y) = fun y => if y = Str.ofString "word" then some (.str (mk (cs z)) t) else if y = Str.ofString "read" then some (.str (mk rd) tR) else m₁ y := by
      funext y
      rw [mk_cs]
      by_cases h1 : y = Str.ofString "word"
      · rw [if_pos h1, if_pos h1]
      · rw [if_neg h1, if_neg h1]
        by_cases h2 : y = Str.ofString "read"
        · rw [if_pos h2, h2, t8 _ hne hne2, hr0]
        · rw [if_neg h2]
    rw [eF] at F
    refine turnP w p loose mean mg mb fa L cd base m₁ { s with heap := h, toks := tk } _ E rd (cs z) tR t Dd od oc ((D2, listOf us.toArray nn) :: rest ++ own) kvs c hab hrd hzW.1 hzW.2.1 hzW.2.2 hgc (by rw [mk_cs]; exact hhas z hzm) doc lo hod hfl hDc hB F hT N hPE ?_ hX
    intro v h' tk' F' N'
    refine InvEndG.intro (nx := (Dd, od) :: (L + 1 + 1 + 1, oc) :: (D2, listOf us.toArray nn) :: rest) F' N' ⟨.tail _ (.tail _ (.head _)), rfl, ?_⟩ hoff ?_ ?_
    · intro y hy hy2
      show (if y = Str.ofString "price" then _ else if y = Str.ofString "word" then _ else if y = Str.ofString "read" then _ else m₁ y) = m₀ y
      rw [if_neg hy2, if_neg hy]
      by_cases h2 : y = Str.ofString "read"
      · rw [if_pos h2, h2, hr0]
      · rw [if_neg h2]
        exact t8 y hy hy2
    · intro q hq
      simp only [List.mem_cons, List.mem_append] at hq ⊢
      rcases hq with h | h | h | h
      · exact .inl h
      · exact .inr (.inl h)
      · exact .inr (.inr (.inl (.inl h)))
      · exact .inr (.inr (.inl (.inr h)))
    · intro q hq
      simp only [List.mem_cons, List.mem_append]
      exact .inr (.inr (.inr hq))
  · rintro m₁ nx h tk ⟨rfl, t8⟩ F N
    exact hdone m₁ h tk t8 F N
end Mine
end
section
open PySem PySem.W PyProof.Rows
namespace Mine
theorem chain7 {m' m₀ : Str → Option Value} {n1 n2 n3 n4 n5 n6 wd wd2 : Str} {v1 v2 v3 v4 v5 v6 : Option Value}
    (g : ∀ z, z ≠ wd → z ≠ wd2 → m' z = if z = n1 then v1 else if z = n2 then v2 else if z = n3 then v3 else if z = n4 then v4 else if z = n5 then v5 else if z = n6 then v6 else m₀ z)
    (h1 : wd ≠ n1) (h2 : wd ≠ n2) (h3 : wd ≠ n3) (h4 : wd ≠ n4) (h5 : wd ≠ n5) (h6 : wd ≠ n6)
    (k1 : wd2 ≠ n1) (k2 : wd2 ≠ n2) (k3 : wd2 ≠ n3) (k4 : wd2 ≠ n4) (k5 : wd2 ≠ n5) (k6 : wd2 ≠ n6) :
    m' = fun z => if z = n1 then v1 else if z = n2 then v2 else if z = n3 then v3 else if z = n4 then v4 else if z = n5 then v5 else if z = n6 then v6 else m' z :=
  chain6 (m₀ := fun z => if z = wd2 then m' wd2 else m₀ z) (wd := wd) (fun z hz => by
    by_cases hw : z = wd2
    · subst hw
      rw [if_neg k1, if_neg k2, if_neg k3, if_neg k4, if_neg k5, if_neg k6]
      show _ = if z = z then _ else _
      rw [if_pos rfl]
    · show _ = if z = n1 then v1 else if z = n2 then v2 else if z = n3 then v3 else if z = n4 then v4 else if z = n5 then v5 else if z = n6 then v6 else if z = wd2 then _ else m₀ z
      rw [if_neg hw]
      exact g z hz hw) h1 h2 h3 h4 h5 h6
set_option maxRecDepth 100000 in
set_option maxHeartbeats 8000000 in
theorem rest5 (w : World) (p : Program) (loose : List Str) (mean : ExcName → Option Value) (mg mb : Str → Option Value) (fa L : Addr) (cd : Value) (base : Heap) (m₀ : Str → Option Value) (s : Shared) (Q : Flow → Shared → Prop) (E : Value → Shared → Prop)
    (rd : List Nat) (c1 c2 c3 : Nat) (tR tT tF tB : Tok) (Dd H I : Addr) (hv iv : List Value) (hs is : List Str) (hc ic : Nat) (ps qs : Array Value) (od oc : Obj) (kvs : List (Str × Value)) (c : List (Str × Int))
    (hab : AB (mk rd)) (hrd : 6 ≤ rd.length ∧ rd.length ≤ 16) (a1 : c1 = 97 ∨ c1 = 98) (a2 : c2 = 97 ∨ c2 = 98) (a3 : c3 = 97 ∨ c3 = 98)
    (hgc : Good c rd) (hhas : ∀ z ∈ [mk [c1, c2], mk [c2, c3], mk [c2], mk [c1, c2, c3]] ++ hs ++ is, kdpHas c z = true)
    (hod : od.IsDictOf (PySem.strKind Challenge.rw_sh0023_01.row.prog w) kvs) (hfl : PyProof.V.FlatPairs PyData.str kvs (kdpD c)) (doc : oc.data = .cell (some (.ref Dd))) (lo : (Dd == sysModules) = false)
    (hDI : @LT.lt Nat _ I Dd ∧ @LT.lt Nat _ H Dd ∧ @LT.lt Nat _ (L + 1 + 1 + 1) Dd)
    (hB : Below callerA base [] base)
    (hF : Fr base L s.heap (fun z => if z = Str.ofString "inner" then some (.ref I) else if z = Str.ofString "halves" then some (.ref H) else if z = Str.ofString "back" then some (.str (mk [c2, c3]) tB) else if z = Str.ofString "front" then some (.str (mk [c1, c2]) tF) else
        if z = Str.ofString "three" then some (.str (mk [c1, c2, c3]) tT) else if z = Str.ofString "read" then some (.str (mk rd) tR) else m₀ z))
    (hT : Top p loose mean mg mb base)
    (hN : News base L s.heap [(Dd, od), (L + 1 + 1 + 1, oc), (I, listOf iv.toArray ic), (H, listOf hv.toArray hc), (40, tabObj ps), (33, tabObj qs)])
    (hPE : PassesOwn (model Challenge.rw_sh0023_01.row.prog w) (callerA.deeper (lawE (lawSc w.params) L fa cd)) (lawE (lawSc w.params) L fa cd) E)
    (hnext : ∀ (m' : Str → Option Value) (h' : Heap) (tk' : Nat),
      Fr base L h' (fun z => if z = Str.ofString "inner" then some (.ref I) else if z = Str.ofString "halves" then some (.ref H) else if z = Str.ofString "back" then some (.str (mk [c2, c3]) tB) else if z = Str.ofString "front" then some (.str (mk [c1, c2]) tF) else
        if z = Str.ofString "three" then some (.str (mk [c1, c2, c3]) tT) else if z = Str.ofString "read" then some (.str (mk rd) tR) else m' z) →
      News base L h' [(Dd, od), (L + 1 + 1 + 1, oc), (I, listOf iv.toArray ic), (H, listOf hv.toArray hc), (40, tabObj ps), (33, tabObj qs)] →
      wpAny (model Challenge.rw_sh0023_01.row.prog w) (callerA.deeper (lawE (lawSc w.params) L fa cd)) (execs ((lawB w.params).drop 17) (lawE (lawSc w.params) L fa cd)) Q E { s with heap := h', toks := tk' }) :
    (hd.heap_39 w.params).In base → wpAny (model Challenge.rw_sh0023_01.row.prog w) (callerA.deeper (lawE (lawSc w.params) L fa cd)) (execs ((lawB w.params).drop 16) (lawE (lawSc w.params) L fa cd)) Q E s := by
  w_top off
  k_with_none
  k_with "call ref" => (refine stop_in ?_)
  k_with "pyIter ref" => (refine stop_in ?_)
  k_with "exec For Name List cons nil" => (refine stop_in ?_)
  k_fill
  intro hX
  refine law_open 16 (law_b (by exact rfl) (by exact rfl)) (law_sc (by exact rfl) (by exact rfl)) hPE ?_
  clear hPE
  intro hPE
  dsimp only [List.drop, lawE] at hPE ⊢
  k_steps
  refine stop_out ?_
  rename Fr _ _ _ _ => lF'
  with_unfolding_all refine' For_invVF lF' ?kf1 ?kf2 ?_ (hE := hPE)
  case kf1 => exact rfl
  case kf2 => exact rfl
  k_steps
  refine stop_out ?_
  rename Fr _ _ _ _ => F1
  rename News _ _ _ _ => N1
  have hW4 : ∀ z ∈ [mk [c1, c2], mk [c2, c3], mk [c1, c2, c3]], Word z := by
    have w1 : Word (mk [c1, c2]) := word_mk (by simp [a1, a2]) (Nat.le_of_ble_eq_true rfl) (Nat.le_of_ble_eq_true rfl)
    have w2 : Word (mk [c2, c3]) := word_mk (by simp [a2, a3]) (Nat.le_of_ble_eq_true rfl) (Nat.le_of_ble_eq_true rfl)
    have w4 : Word (mk [c1, c2, c3]) := word_mk (by simp [a1, a2, a3]) (Nat.le_of_ble_eq_true rfl) (Nat.le_of_ble_eq_true rfl)
    intro z hz
    simp only [List.mem_cons, List.not_mem_nil, or_false] at hz
    rcases hz with rfl | rfl | rfl <;> assumption
  have hh3 : ∀ z ∈ [mk [c1, c2], mk [c2, c3], mk [c1, c2, c3]], kdpHas c z = true := by
    intro z hz
    refine hhas z ?_
    simp only [List.mem_cons, List.mem_append, List.not_mem_nil, or_false] at hz ⊢
    rcases hz with h | h | h <;> simp [h]
  refine' price_loop w p loose mean mg mb fa L cd _ _ (law_sc (by exact rfl) (by exact rfl)) (for_eq 16 (law_b (by exact rfl) (by exact rfl)) (by exact rfl)) base _ _ _ E rd tR Dd _ [_, _, _] _ _ od oc [(I, listOf iv.toArray ic), (H, listOf hv.toArray hc), (40, tabObj ps), (33, tabObj qs)] kvs c hab hrd (.cons _ _ (.cons _ _ (.cons _ _ .nil))) hW4 hgc hh3 doc lo hod hfl ?q4 ?q5 hB F1 hT hX ?q6 hPE ?_
  case q4 => (show @Ne Nat _ _); omega
  case q5 => (rw [if_neg (by decide +kernel), if_neg (by decide +kernel), if_neg (by decide +kernel), if_neg (by decide +kernel), if_neg (by decide +kernel), if_pos rfl])
  case q6 =>
    intro q hq
    refine N1 q ?_
    simp only [List.mem_cons, List.not_mem_nil, or_false] at hq
    rcases hq with rfl | rfl | rfl | rfl | rfl | rfl | rfl
    · exact .tail _ (.head _)
    · exact .tail _ (.tail _ (.head _))
    · exact .head _
    · exact .tail _ (.tail _ (.tail _ (.head _)))
    · exact .tail _ (.tail _ (.tail _ (.tail _ (.head _))))
    · exact .tail _ (.tail _ (.tail _ (.tail _ (.tail _ (.head _)))))
    · exact .tail _ (.tail _ (.tail _ (.tail _ (.tail _ (.tail _ (.head _))))))
  clear F1 N1
  intro m' h' tk' g4 F N
  rw [chain7 g4 (by decide +kernel) (by decide +kernel) (by decide +kernel) (by decide +kernel) (by decide +kernel) (by decide +kernel) (by decide +kernel) (by decide +kernel) (by decide +kernel) (by decide +kernel) (by decide +kernel) (by decide +kernel)] at F
  dsimp only
  refine hnext m' _ _ F fun q hq => N q ?_
  simp only [List.mem_cons, List.mem_append, List.not_mem_nil, or_false] at hq ⊢
  rcases hq with h | h | h | h | h | h <;> simp [h]
end Mine
end
section
open PySem PySem.W PyProof.Rows
namespace Mine
theorem si_rest {prog : Program} {w : World} {A : Around} {h₀ : Heap} {L : Addr} {m : Str → Option Value} {env : Env} {elt : Expr} {x : Str} {scope : Scope} {cl : List (Str × Addr)} {s : Shared} {S : List (Addr × Obj) → Prop} {Fin : List Value → List (Addr × Obj) → Prop} {news : List (Addr × Obj)}
    {vs : List Value} {xs : List Str} (g : Str → Int) (hx : StrsAre vs xs)
    (turn : ∀ z t I oI C oC D m₂ ys h tk (E' : Value → Shared → Prop), z ∈ xs → LCg.NsObj oC m₂ → m₂ x = some (.str z t) → Fr h₀ L h m → News h₀ L h ((I, oI) :: (C, oC) :: (D, LCg.lst ys) :: news) → LCg.Off3 I C D news → ((@Ne Nat I C) ∧ (@Ne Nat I D) ∧ (@Ne Nat C D)) →
      wpAny (model prog w) A (eval elt (compEnvC scope cl C env)) (LCg.CompEnd h₀ L m { s with heap := h, toks := tk } I oI C oC D (LCg.lst ys) S (fun y news' => news' = news ∧ ∃ t, y = .int (g z) t)) E' { s with heap := h, toks := tk })
    (fin : ∀ ys, IntsAre ys (xs.map g) → Fin ys news) : LCg.CompRest prog w A h₀ L m env elt x scope cl s S (fun i v => vs.toArray[i]? = some v) Fin vs.toArray.size 0 [] news := by
  refine gen_rest (as := xs) (fun n v => ∃ t, v = .str n t) (fun n y => ∃ t, y = .int (g n) t) hx.length (fun i v hv => ?_) ?_ fun ys hl hE => fin ys (ints_of2 _ _ (by rw [hl, List.length_map]) fun j n v h1 h2 => ?_)
  · obtain ⟨z, t, hz, e⟩ := strs_at hx i v hv
    exact ⟨z, hz, t, e⟩
  · rintro a v I oI C oC D m₂ ys h tk E' ha ⟨t, rfl⟩ hC hm F N off ne
    exact turn a t I oI C oC D m₂ ys h tk E' ha hC hm F N off ne
  · obtain ⟨a, ha, rfl⟩ := map_at h1
    exact hE j a v ha h2
theorem cast_sum (f : Str → Nat) : ∀ l : List Str, (l.map fun z => (f z : Int)).sum = (((l.map f).sum : Nat) : Int)
  | [] => rfl
  | a :: l => by rw [List.map_cons, List.map_cons, List.sum_cons, List.sum_cons, cast_sum f l]; omega
theorem sum_same {c : List (Str × Int)} {rd : List Nat} {x y : Str} {hs : List Str} (hg : Good c rd) (h1 : kdpHas c x = true) (h2 : kdpHas c y = true) (h3 : ∀ z ∈ hs, kdpHas c z = true) (hw : hs.map rv = wv (rv x) (rv y)) :
    kdpLook c x 0 * kdpLook c y 0 = (hs.map fun z => kdpLook c z 0).sum := by
  have e : (hs.map fun z => kdpLook c z 0) = hs.map fun z => ((C (cs z) rd : Nat) : Int) := List.map_congr_left fun z hz => hg z (h3 z hz)
  rw [hg x h1, hg y h2, e, cast_sum, ← sum_ways hw]
  exact (Int.natCast_mul _ _).symm
theorem good_small {c : List (Str × Int)} {rd : List Nat} {x : Str} (hg : Good c rd) (h1 : kdpHas c x = true) (hx : (cs x).length ≤ 4) (hr : rd.length ≤ 16) : 0 ≤ kdpLook c x 0 ∧ kdpLook c x 0 < 4096 := by
  rw [hg x h1]
  have := C_small hx hr
  omega
theorem end_same {c : List (Str × Int)} {rd : List Nat} {p q r : Nat} (hg : Good c rd) (h1 : kdpHas c (mk [p, q]) = true) (h2 : kdpHas c (mk [q, r]) = true) (h3 : kdpHas c (mk [q]) = true) (h4 : kdpHas c (mk [p, q, r]) = true) :
    decide (kdpLook c (mk [q]) 0 * kdpLook c (mk [p, q, r]) 0 ≤ kdpLook c (mk [p, q]) 0 * kdpLook c (mk [q, r]) 0) = true := by
  rw [hg _ h1, hg _ h2, hg _ h3, hg _ h4, cs_mk, cs_mk, cs_mk, cs_mk, ← Int.natCast_mul, ← Int.natCast_mul, decide_eq_true_iff]
  exact Int.ofNat_le.mpr (ms _ _ _ _)
theorem mul_C {prog : Program} {w : World} {A : Around} {E : Value → Shared → Prop} {s : Shared} {t u : Tok} {a b : Int} {Q : Value → Shared → Prop} (hb : 0 ≤ b ∧ b < 4096) (h : Q (.int (a * b) s.toks) { s with toks := s.toks + 1 }) : wpAny (model prog w) A (binaryOp .Mult (.int a t) (.int b u)) Q E s :=
  mul_int h (.of_right (intBits_le_64 (by omega) (by omega)))
set_option maxRecDepth 100000 in
set_option maxHeartbeats 8000000 in
theorem rest6 (w : World) (p : Program) (loose : List Str) (mean : ExcName → Option Value) (mg mb : Str → Option Value) (fa L : Addr) (cd : Value) (base : Heap) (m₀ : Str → Option Value) (s : Shared) (Q : Flow → Shared → Prop) (E : Value → Shared → Prop)
    (rd : List Nat) (c1 c2 c3 : Nat) (tR tT tF tB : Tok) (Dd H I : Addr) (hv iv : List Value) (hs is : List Str) (hc ic : Nat) (ps qs : Array Value) (od oc : Obj) (kvs : List (Str × Value)) (c : List (Str × Int))
    (hh : StrsAre hv hs) (hhw : hs.map rv = wv (rv (mk [c1, c2])) (rv (mk [c2, c3]))) (hi : StrsAre iv is) (hiw : is.map rv = wv (rv (mk [c2])) (rv (mk [c1, c2, c3])))
    (hrd : 6 ≤ rd.length ∧ rd.length ≤ 16) (hgc : Good c rd) (hhas : ∀ z ∈ [mk [c1, c2], mk [c2, c3], mk [c2], mk [c1, c2, c3]] ++ hs ++ is, kdpHas c z = true)
    (hod : od.IsDictOf (PySem.strKind Challenge.rw_sh0023_01.row.prog w) kvs) (hfl : PyProof.V.FlatPairs PyData.str kvs (kdpD c)) (doc : oc.data = .cell (some (.ref Dd))) (lo : (Dd == sysModules) = false)
    (hDI : @LT.lt Nat _ I Dd ∧ @LT.lt Nat _ H Dd ∧ @LT.lt Nat _ (L + 1 + 1 + 1) Dd)
    (hB : Below callerA base [] base)
    (hF : Fr base L s.heap (fun z => if z = Str.ofString "inner" then some (.ref I) else if z = Str.ofString "halves" then some (.ref H) else if z = Str.ofString "back" then some (.str (mk [c2, c3]) tB) else if z = Str.ofString "front" then some (.str (mk [c1, c2]) tF) else
        if z = Str.ofString "three" then some (.str (mk [c1, c2, c3]) tT) else if z = Str.ofString "read" then some (.str (mk rd) tR) else m₀ z))
    (hT : Top p loose mean mg mb base)
    (hN : News base L s.heap [(Dd, od), (L + 1 + 1 + 1, oc), (I, listOf iv.toArray ic), (H, listOf hv.toArray hc), (40, tabObj ps), (33, tabObj qs)])
    (hPE : PassesOwn (model Challenge.rw_sh0023_01.row.prog w) (callerA.deeper (lawE (lawSc w.params) L fa cd)) (lawE (lawSc w.params) L fa cd) E)
    (hret : ∀ (m' : Str → Option Value) (h' : Heap) (tk' : Nat), Fr base L h' m' → GrownAll [(44, 40), (37, 33)] h' → Q (.ret (.bool true)) { s with heap := h', toks := tk' }) :
    (hd.heap_39 w.params).In base → wpAny (model Challenge.rw_sh0023_01.row.prog w) (callerA.deeper (lawE (lawSc w.params) L fa cd)) (execs ((lawB w.params).drop 17) (lawE (lawSc w.params) L fa cd)) Q E s := by
  w_top off
  k_with_none
  k_with "binaryOp Mult int int" => (refine mul_C (by assumption) ?_)
  k_with "eval ListComp" => (refine stop_in ?_)
  k_with "CompSrc" => (refine stop_in ?_)
  k_with "CompEnd" => (refine stop_in ?_)
  k_with "call builtin:sum" => (refine stop_in ?_)
  k_with "compareOp NotEq int int" => (refine stop_in ?_)
  k_with "subscriptTail Name Constant str int" => (((refine mid_wp ?_); intro _))
  k_fill
  intro hX
  refine law_open 17 (law_b (by exact rfl) (by exact rfl)) (law_sc (by exact rfl) (by exact rfl)) hPE ?_
  clear hPE
  intro hPE
  dsimp only [List.drop, lawE] at hPE ⊢
  have q1 : kdpHas c (mk [c1, c2]) = true := hhas _ (by simp)
  have q2 : kdpHas c (mk [c2, c3]) = true := hhas _ (by simp)
  have q3 : kdpHas c (mk [c2]) = true := hhas _ (by simp)
  have q4 : kdpHas c (mk [c1, c2, c3]) = true := hhas _ (by simp)
  have b1 := good_small hgc q1 (by rw [cs_mk]; exact Nat.le_of_ble_eq_true rfl) hrd.2
  have b2 := good_small hgc q2 (by rw [cs_mk]; exact Nat.le_of_ble_eq_true rfl) hrd.2
  have b3 := good_small hgc q3 (by rw [cs_mk]; exact Nat.le_of_ble_eq_true rfl) hrd.2
  have b4 := good_small hgc q4 (by rw [cs_mk]; exact Nat.le_of_ble_eq_true rfl) hrd.2
  k_steps
  refine stop_out ?_
  rename Fr _ _ _ _ => F7
  rename News _ _ _ _ => N7
  k_dflt (refine' LCg.ListComp_U (F₀ := F7) ?p6 ?p7 ?p8 ?p9 ?p10 ?_)
  case p6 => with_unfolding_all rfl
  case p7 => decide
  case p8 => rfl
  case p9 => decide
  case p10 => rfl
  k_steps
  refine stop_out ?_
  rename Fr _ _ _ _ => F8
  rename News _ _ _ _ => N8
  have hhl := wov_size hh hhw (by rw [mk_len, mk_len]; exact Nat.le_of_ble_eq_true rfl)
  have hil := wov_size hi hiw (by rw [mk_len, mk_len]; exact Nat.le_of_ble_eq_true rfl)
  have hH : ∀ z ∈ hs, kdpHas c z = true := fun z hz => hhas z (List.mem_append_left _ (List.mem_append_right _ hz))
  have hI : ∀ z ∈ is, kdpHas c z = true := fun z hz => hhas z (List.mem_append_right _ hz)
  refine LCg.CompSrc.ledger rfl F8 N8 (by k_mem) ?gsA (fun g1 => si_rest (fun z => kdpLook c z 0) hh ?turnA ?finA)
  case gsA => (simp only [PySem.sizeLine_eq]; omega)
  case turnA =>
    clear F8 N8
    intro z t I1 oI1 C1 oC1 D1 m₂ ys h tk E' hz hC hm F N off ne
    have hzk := hH z hz
    k_steps
    refine stop_out ?_
    rename Fr _ _ _ _ => F9
    rename News _ _ _ _ => N9
    exact LCg.CompEnd.intro F9 N9 _ (fun q hq => hq) off (.inr ⟨_, by k_mem, rfl, _, rfl⟩) ⟨rfl, _, rfl⟩
  case finA =>
    clear F8 N8
    intro ysA hysA DA hA tkA FA NA offA
    (try dsimp only)
    (try k_fold)
    k_steps
    refine stop_out ?_
    rename Fr _ _ _ _ => F6
    rename News _ _ _ _ => N6
    refine LSm.sum_ints F6 N6 rfl ⟨_, (N6 (DA, LCg.lst ysA) (.head _)).1, rfl, _, rfl⟩ hysA ?_
    clear F6 N6
    intro h6 tk6 t6 F6 N6
    (try dsimp only)
    (try k_fold)
    k_steps
    refine stop_out ?_
    refine ne_int_same (sum_same hgc q1 q2 hH hhw) ?_
    k_steps
    refine stop_out ?_
    rename Fr _ _ _ _ => F7
    rename News _ _ _ _ => N7
    k_dflt (refine' LCg.ListComp_U (F₀ := F7) ?p6 ?p7 ?p8 ?p9 ?p10 ?_)
    case p6 => with_unfolding_all rfl
    case p7 => decide
    case p8 => rfl
    case p9 => decide
    case p10 => rfl
    k_steps
    refine stop_out ?_
    rename Fr _ _ _ _ => F8
    rename News _ _ _ _ => N8
    refine LCg.CompSrc.ledger rfl F8 N8 (by k_mem) ?gsB (fun g1 => si_rest (fun z => kdpLook c z 0) hi ?turnB ?finB)
    case gsB => (simp only [PySem.sizeLine_eq]; omega)
    case turnB =>
      clear F8 N8
      intro z t I1 oI1 C1 oC1 D1 m₂ ys h tk E' hz hC hm F N off ne
      have hzk := hI z hz
      k_steps
      refine stop_out ?_
      rename Fr _ _ _ _ => F9
      rename News _ _ _ _ => N9
      exact LCg.CompEnd.intro F9 N9 _ (fun q hq => hq) off (.inr ⟨_, by k_mem, rfl, _, rfl⟩) ⟨rfl, _, rfl⟩
    case finB =>
      clear F8 N8
      intro ysB hysB DB hB9 tkB FB NB offB
      (try dsimp only)
      (try k_fold)
      k_steps
      refine stop_out ?_
      rename Fr _ _ _ _ => F5
      rename News _ _ _ _ => N5
      refine LSm.sum_ints F5 N5 rfl ⟨_, (N5 (DB, LCg.lst ysB) (.head _)).1, rfl, _, rfl⟩ hysB ?_
      clear F5 N5
      intro h5 tk5 t5 F5 N5
      (try dsimp only)
      (try k_fold)
      k_steps
      refine stop_out ?_
      refine ne_int_same (sum_same hgc q3 q4 hI hiw) ?_
      k_steps
      rename Fr _ _ _ _ => F4
      rw [end_same hgc q1 q2 q3 q4]
      rename News _ _ _ _ => N4
      exact hret _ _ _ F4 ⟨GrownAt.of (ps := ps) N4 (by k_mem), GrownAt.of (ps := qs) N4 (by k_mem), True.intro⟩
end Mine
end
end
section
open PySem PySem.W PyProof.Rows
namespace Mine
set_option maxRecDepth 100000 in
theorem tail5 (w : World) (p : Program) (loose : List Str) (mean : ExcName → Option Value) (mg mb : Str → Option Value) (fa L : Addr) (cd : Value) (base : Heap) (m₀ : Str → Option Value) (s : Shared) (Q : Flow → Shared → Prop) (E : Value → Shared → Prop)
    (vs : List Value) (ms : List Int) (tot : Int) (N : Addr) (o0 o1 o2 : Obj) (t0 t1 : Tok) (hms : IntsAre vs ms) (hm12 : ∀ x ∈ ms, 0 ≤ x ∧ x < 12) (hml : ms.length = 3 ∨ ms.length = 4)
    (d0 : o0.data = .cell (some (.int tot t0))) (d1 : o1.data = .cell (some (.int (1 + tot.fmod 2) t1))) (d2 : o2.data = .cell none)
    (hB : Below callerA base [] base) (hF : Fr base L s.heap (fun z => if z = Str.ofString "numbers" then some (.ref N) else m₀ z)) (hC1 : CodeHd base 44 40) (hC2 : CodeHd base 37 33) (hT : Top p loose mean mg mb base)
    (hN : News base L s.heap [(N, LCg.lst vs), (L + 1 + 1 + 1, o2), (L + 1 + 1, o1), (L + 1, o0), (40, tabObj #[]), (33, tabObj #[])]) (hlt : @LT.lt Nat _ 40 L)
    (hPE : PassesOwn (model Challenge.rw_sh0023_01.row.prog w) (callerA.deeper (lawE (lawSc w.params) L fa cd)) (lawE (lawSc w.params) L fa cd) E) (hX : (hd.heap_39 w.params).In base)
    (hret : ∀ (m' : Str → Option Value) (h' : Heap) (tk' : Nat), Fr base L h' m' → GrownAll [(44, 40), (37, 33)] h' → Q (.ret (.bool true)) { s with heap := h', toks := tk' }) :
    wpAny (model Challenge.rw_sh0023_01.row.prog w) (callerA.deeper (lawE (lawSc w.params) L fa cd)) (execs ((lawB w.params).drop 5) (lawE (lawSc w.params) L fa cd)) Q E s := by
  refine rest1 w p loose mean mg mb fa L cd base m₀ s Q E vs ms tot N o0 o1 o2 t0 t1 hms hm12 hml d0 d1 d2 hB hF hC1 hC2 hT hN hlt hPE ?_ hX
  intro X tX k m1 h1 tk1 hk hcx F1 N1
  refine rest2 w p loose mean mg mb fa L cd base m1 { s with heap := h1, toks := tk1 } Q E ms tot X tX k o0 o1 o2 t0 hml hk hcx ?_ d0 d2 hB F1 hC1 hC2 hT N1 hlt ?_ hPE hX
  · rw [← cs_len, hcx]
    exact rows_len200 hm12 hml (by omega)
  intro rd c1 c2 c3 tR tT m2 h2 tk2 hab hrd a1 a2 a3 F2 N2
  refine rest3 w p loose mean mg mb fa L cd base m2 { s with heap := h2, toks := tk2 } Q E rd c1 c2 c3 tR tT o2 hB F2 hT N2 hPE ?_ hX
  intro H I hv iv hs is hc ic tF tB m3 h3 tk3 hh hhw hi hiw hIH hne F3 N3
  refine rest4 w p loose mean mg mb fa L cd base m3 { s with heap := h3, toks := tk3 } Q E rd c1 c2 c3 tR tT tF tB o2 H I hv iv hs is hc ic hab hrd a1 a2 a3 d2 hh hhw hi hiw hIH hne hlt hB F3 hC1 hC2 hT N3 hPE ?_ hX
  intro ps qs Dd od oc kvs c m4 h4 tk4 hgc hhas hod hfl doc lo hDI F4 N4
  refine rest5 w p loose mean mg mb fa L cd base m4 { s with heap := h4, toks := tk4 } Q E rd c1 c2 c3 tR tT tF tB Dd H I hv iv hs is hc ic ps qs od oc kvs c hab hrd a1 a2 a3 hgc hhas hod hfl doc lo hDI hB F4 hT N4 hPE ?_ hX
  intro m5 h5 tk5 F5 N5
  refine rest6 w p loose mean mg mb fa L cd base m5 { s with heap := h5, toks := tk5 } Q E rd c1 c2 c3 tR tT tF tB Dd H I hv iv hs is hc ic ps qs od oc kvs c hh hhw hi hiw hrd hgc hhas hod hfl doc lo hDI hB F5 hT N5 hPE ?_ hX
  intro m6 h6 tk6 F6 G6
  exact hret m6 h6 tk6 F6 G6
end Mine
end
section
open PySem PySem.W PyProof.Rows
namespace Mine
local macro_rules | `(tactic| walk_at "no such key") => `(tactic| skip)
local macro_rules | `(tactic| walk_at "exec Assign cons ListComp") => `(tactic| refine stop_in ?_)
set_option maxRecDepth 100000 in
set_option maxHeartbeats 8000000 in
theorem law1 : PySem.Challenge.rw_sh0023_01.Holds := hd (by
  w_top off
  k_with_none
  k_go0
  all_goals (try k_fold)
  k_with "eval IfExp" => refine stop_in ?_
  k_steps
  refine stop_out ?_
  rename IntsAre _ (List.take 10 _) => hI10
  refine cnt_step hI10 ?i1 ?i2
  case i1 =>
    k_with_none
    k_steps
    all_goals omega
  case i2 =>
    intro c9 t9 k9 hc9
    (try dsimp only)
    k_with_none
    k_with "exec Assign cons ListComp" => refine stop_in ?_
    k_steps
    refine stop_out ?_
    k_dflt (refine LCg.Assign_ListComp_U (F₀ := by k_asm) (by rfl) (by with_unfolding_all rfl) (by with_unfolding_all rfl) (by decide) (by rfl) (by decide) (by rfl) (by rfl) (by rfl) ?_)
    k_with_none
    k_with "CompSrc" => refine stop_in ?_
    k_with "binaryOp Add ref ref" => refine stop_in ?_
    k_with "subscriptTail" => refine stop_in ?_
    k_steps
    refine stop_out ?_
    refine kba_turn (value' := PySem.Expr.Name (PySem.Str.ofString "z") ⟨0, 0, 0, 0⟩) (fun _ => rfl) ?_
    k_dflt (refine' kmk_slice_ints ?zF ?zN ?zl ?zp ?zq ?zi ?zm ?zc ?_ ?zs ?zt ?zz)
    case zF => k_asm
    case zN => k_asm
    case zl => kmk_list
    case zp => kmk_part
    case zq => kmk_part
    case zi => l_ints
    case zm => exact kmk_from (by l_ints) (by omega)
    case zc => kmk_len
    case zs => with_unfolding_all rfl
    case zt => kmk_pure
    case zz => kmk_size
    intro D1 us1 h1 F1 N1 l1 hI1 hC1 hL1
    k_steps
    refine stop_out ?_
    refine kba_turn (value' := PySem.Expr.Name (PySem.Str.ofString "z") ⟨0, 0, 0, 0⟩) (fun _ => rfl) ?_
    k_dflt (refine' kmk_slice_ints ?yF ?yN ?yl ?yp ?yq ?yi ?ym ?yc ?_ ?ys ?yt ?yz)
    case yF => k_asm
    case yN => k_asm
    case yl => kmk_list
    case yp => kmk_part
    case yq => kmk_part
    case yi => l_ints
    case ym => exact kmk_upto (by l_ints) (by omega)
    case yc => exact rfl
    case ys => with_unfolding_all rfl
    case yt => kmk_pure
    case yz => kmk_size
    intro D2 us2 h2 F2 N2 l2 hI2 hC2 hL2
    have hnl := nums_len hc9
    generalize List.take c9.toNat _ = nums at *
    clear hI1 hC1 hL1 hL2 hC2
    dsimp only
    refine LCg.CompSrc.ledger rfl F2 N2 (List.Mem.head _) ?gs (fun g1 => ii_rest (fun z => z.fmod 12) hI2 ?turn ?fin)
    case gs => (have := hI2.length; simp only [PySem.sizeLine_eq, List.size_toArray]; omega)
    case turn =>
      intro z t I oI C oC D m₂ ys h tk E' hz hC hm F N off ne
      k_with_none
      k_with "CompEnd" => refine stop_in ?_
      k_steps
      refine stop_out ?_
      exact LCg.CompEnd.intro F N _ (fun q hq => hq) off (.inr ⟨_, List.Mem.head _, rfl, _, rfl⟩) ⟨rfl, _, rfl⟩
    case fin =>
      clear F2 N2
      intro ys1 hys1 D3 h3 tk3 F3 N3 off3
      dsimp only
      (try k_fold)
      rename Below callerA _ _ _ => hK9
      rename Top _ _ _ _ _ _ => hT9
      rename Frag.In _ _ => hX9
      refine' tail5 _ _ _ _ _ _ _ _ _ _ _ _ _ _ ys1 _ _ D3 _ _ _ _ _ hys1 ?a12 ?aml ?ad0 ?ad1 ?ad2 hK9 F3 (by assumption) (by assumption) hT9 ?aN ?alt ?aPE hX9 ?_
      case aN =>
        intro q hq
        refine N3 q ?_
        rcases List.mem_cons.mp hq with rfl | hq
        · exact .head _
        · exact mem_tails 7 hq
      case a12 =>
        intro x hx
        obtain ⟨z, _, rfl⟩ := List.mem_map.mp hx
        rw [Int.fmod_eq_emod_of_nonneg _ (by decide)]
        omega
      case aml => rw [List.length_map]; exact hnl
      case ad0 => assumption
      case ad1 => assumption
      case ad2 =>
        rename _ = Data.cell (bindC _ _ _ _) => hdw1
        clear hdw1
        rename _ = Data.cell (bindC _ _ _ _) => hdw2
        clear hdw2
        rename _ = Data.cell (bindC _ _ _ _) => hdw3
        exact hdw3
      case alt => exact Nat.lt_of_lt_of_le (Nat.lt_trans (show @LT.lt Nat _ 40 105 by decide) (Heap.lt_size (hX9 105 _ (by exact rfl)))) F3.above
      case aPE => passes_own
      intro m9 h9 tk9 F9 G9
      clear F3 N3
      k_unfold
      (try dsimp only)
      refine ⟨?_, G9⟩
      kc_bool
      refine goodW_bool (by with_reducible assumption) (by with_reducible assumption) (raisesW_false ?_) ?_
      · wrow_none_raised
      · kc_post)
end Mine
end
theorem PySem.Challenge.cw_sh0023_01_holds : PySem.Challenge.rw_sh0023_01.Holds :=
  Mine.law1
