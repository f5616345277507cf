/- Appending bytes to a slice of one's own. Decimal digits: their number, and the shift to the left (strconv's decimal) as plain functions. No program, no memory. internal/strconv.decimal: its cells; trim. internal/strconv.rightShift. internal/strconv.prefixIsLessThan. -/
import Derived.Test.YtaecbclonmhbcaaGreatDoorProg
import Derived.Test.YtaecbclonmhbcaaGreatDoorP01
import Derived.Lib.SlFresh
import Derived.OwnWalk
import Derived.Deep.DeepCutAuto
import Derived.Deep.CutBlock
import Derived.Deep.LoopGhost
import Derived.WalkMore
import Derived.Laws.BitsLemmas
set_option linter.unusedVariables false
set_option linter.unusedSimpArgs false
namespace Go.Proofs.YtaecbclonmhbcaaGreatDoor
open Go.RowKit
theorem info5 : (Tryz.prog.info? 5).map (fun i => (i.zero, i.size, i.bytes)) = some (some (Value.int IntKind.u8 0), 1, 1) := by kernel_rfl
theorem addr_add (g o j : Nat) : (⟨g, o, none⟩ : Addr).add j = ⟨g, o + j, none⟩ := by unfold Addr.add; split <;> simp_all
theorem append_any {P : Program} {w : World} {base : Nat} {t e : TypeId} {i : TypeInfo} {z : Value} {size bytes : Nat} (ht : P.underlying t = some (.slice e)) (hi : P.info? e = some i) (hz : i.zero = some z)
    (hsize : i.size = size) (hby : i.bytes = bytes) (hzs : z.cells.size = size) (hsz : 0 < size) (hbl : bytes ≤ 1000)
    {v : Value} {n : Nat} {xs : List Value} (hown : w.ownsRow base e size v n xs) (ad : Addr) (m c : Nat) (news : List Value) (hl : news.length = m * size)
    (hnews : ∀ j u, news[j]? = some u → w.cell? (ad.add j) = some u) (h1 : ∀ u ∈ news, u.oneCell' = true) (hn : n + m ≤ 1000000) (hbase : base ≤ w.heap.size) :
    ∃ v' w', (Builtin.append_ #[t, t] t #[v, .slice (some ad) m c]).run P w = .ok v' w' ∧ w'.ownsRow base e size v' (n + m) (xs ++ news) ∧ w.grownBy w' v.ownBlock ∧
      (v'.ownBlock = v.ownBlock ∨ ∃ k, w.heap.size ≤ k ∧ v'.ownBlock = some k) := by
  have hbb : (n + m) * bytes ≤ 140737488355328 := Nat.le_trans (Nat.mul_le_mul hn hbl) (by decide)
  obtain ⟨v', w', hr, h2, h3, h4⟩ := run_append_own (P := P) w base t t e i z size bytes ht hi hz hsize hby hzs hsz v n xs hown ad m c news hl hnews h1 (by unfold maxLen; omega) hbb hbase
  refine ⟨v', w', hr, h2, h3, ?_⟩
  rcases hown.2 with ⟨rfl, rfl⟩ | ⟨g, cap, cur, rfl, hbg, hg, hnc, hcm, hcs, htake⟩
  · by_cases h0 : m = 0
    · rw [h4.2 ⟨rfl, h0⟩]; exact .inl rfl
    · have hr' := run_append_nil (P := P) w t t e i z ht hi hz ad m c news (by rw [hsize]; exact hl) hnews (by omega) (by omega) (by rw [hby]; exact Nat.le_trans (Nat.mul_le_mul_right _ (by omega)) (Nat.le_trans hbb (by decide)))
      rw [hr] at hr'
      simp only [Result.ok.injEq] at hr'
      rw [hr'.1]
      exact .inr ⟨_, Nat.le_refl _, rfl⟩
  · by_cases hroom : n + m ≤ cap
    · obtain ⟨w2, hr', -⟩ := run_append_fits (P := P) w base t t e i size ht hi hsize g n cap xs hown ad m c news hl hnews h1 hroom
      rw [hr] at hr'
      simp only [Result.ok.injEq] at hr'
      rw [hr'.1]
      exact .inl rfl
    · have hr' := run_append_grow (P := P) w t t e i z ht hi hz ⟨g, 0, none⟩ n cap xs (by rw [hown.1, hsize]) (hown.cells (g := g) rfl) ad m c news (by rw [hsize]; exact hl) hnews (by omega) (by omega) (growslice_fits (by omega) (by rw [hby]; exact hbb))
      rw [hr] at hr'
      simp only [Result.ok.injEq] at hr'
      rw [hr'.1]
      exact .inr ⟨_, Nat.le_refl _, rfl⟩
def byteVs (l : List Int) : List Value := l.map (Value.int .u8)
theorem byteVs_append (a b : List Int) : byteVs (a ++ b) = byteVs a ++ byteVs b := by simp [byteVs]
theorem byteVs_one (l : List Int) : ∀ u ∈ byteVs l, u.oneCell' = true := by
  intro u hu
  obtain ⟨x, -, rfl⟩ := List.mem_map.1 hu
  rfl
section
variable {w : World} {base : Nat} {v : Value}
theorem ownsRow_bytes {l : List Int} (h : w.ownsRow base 5 1 v l.length (byteVs l)) {A : Nat → Prop} (hA : ∀ k, A k → k < base) : BytesAt w A v l := by
  rcases h.2 with ⟨rfl, h0⟩ | ⟨g, cap, cur, rfl, hbg, hg, hnc, hcm, hcs, htake⟩
  · exact .inl ⟨List.eq_nil_of_length_eq_zero h0, rfl⟩
  · refine .inr ⟨g, 0, cap, rfl, hnc, ⟨fun a => by have := hA g a; omega, lt_heap hg⟩, fun i hi => ?_⟩
    have := h.cellAt i (by omega)
    rw [Nat.zero_add, this]
    simp [byteVs, List.getD, hi]
theorem ownsRow_slice {e : TypeId} {s n : Nat} {xs : List Value} (h : w.ownsRow base e s v n xs) : ∃ p c, v = .slice p n c := by
  rcases h.2 with ⟨rfl, h0⟩ | ⟨g, cap, cur, rfl, -⟩
  · exact ⟨none, 0, by rw [h0]⟩
  · exact ⟨_, cap, rfl⟩
theorem append_at {xs ls : List Int} (hown : w.ownsRow base 5 1 v xs.length (byteVs xs)) {b o c : Nat} (hx : ∀ i, i < ls.length → w.cell? ⟨b, o + i, none⟩ = some (.int .u8 (ls.getD i 0))) (hn : xs.length + ls.length ≤ 1000000) (hbase : base ≤ w.heap.size) :
    ∃ v' w', (Builtin.append_ #[22, 22] 22 #[v, .slice (some ⟨b, o, none⟩) ls.length c]).run Tryz.prog w = .ok v' w' ∧ w'.ownsRow base 5 1 v' (xs ++ ls).length (byteVs (xs ++ ls)) ∧ w.grownBy w' v.ownBlock ∧
      (v'.ownBlock = v.ownBlock ∨ ∃ k, w.heap.size ≤ k ∧ v'.ownBlock = some k) := by
  obtain ⟨i, hi, hz, hz1, hz2⟩ := info_parts info5
  obtain ⟨v', w', hr, ho, hg, hb⟩ := append_any (P := Tryz.prog) (t := 22) Tryz.underlying22 hi hz hz1 hz2 rfl (by decide) (by decide) hown ⟨b, o, none⟩ ls.length c (byteVs ls) (by simp [byteVs])
    (fun j x hj => by
      simp only [byteVs, List.getElem?_map] at hj
      obtain ⟨y, hy, rfl⟩ := Option.map_eq_some_iff.1 hj
      have hjl := (List.getElem?_eq_some_iff.1 hy).1
      have := hx j hjl
      rw [show ls.getD j 0 = y by simp [List.getD, hy]] at this
      rw [addr_add, this]) (byteVs_one ls) hn hbase
  exact ⟨v', w', hr, by rw [List.length_append, byteVs_append]; exact ho, hg, hb⟩
end
end Go.Proofs.YtaecbclonmhbcaaGreatDoor

namespace Go.Proofs.YtaecbclonmhbcaaGreatDoor
def numD : List Nat → Nat
  | [] => 0
  | d :: ds => d * 10 ^ ds.length + numD ds
def DigL (l : List Nat) : Prop := ∀ d ∈ l, d ≤ 9
theorem numD_append (a b : List Nat) : numD (a ++ b) = numD a * 10 ^ b.length + numD b := by
  induction a with
  | nil => simp [numD]
  | cons d a ih =>
    simp only [List.cons_append, numD, List.length_append, ih, Nat.pow_add]
    rw [Nat.add_mul, Nat.mul_assoc, Nat.add_assoc]
theorem numD_lt : ∀ {l : List Nat}, DigL l → numD l < 10 ^ l.length
  | [], _ => by simp [numD]
  | d :: ds, h => by
    have h0 := h d (by simp)
    have ih := numD_lt (l := ds) fun x hx => h x (by simp [hx])
    have hm : d * 10 ^ ds.length ≤ 9 * 10 ^ ds.length := Nat.mul_le_mul_right _ h0
    simp only [numD, List.length_cons, Nat.pow_succ]
    omega
theorem numD_ge {d : Nat} {ds : List Nat} (h : d ≠ 0) : 10 ^ ds.length ≤ numD (d :: ds) := by
  have hm : 1 * 10 ^ ds.length ≤ d * 10 ^ ds.length := Nat.mul_le_mul_right _ (by omega)
  simp only [numD]
  omega
def lshC (p : Nat) : List Nat → Nat × List Nat
  | [] => (0, [])
  | d :: ds => (((lshC p ds).1 + d * p) / 10, (((lshC p ds).1 + d * p) % 10) :: (lshC p ds).2)
theorem lshC_length (p : Nat) : ∀ ds, (lshC p ds).2.length = ds.length
  | [] => rfl
  | d :: ds => by simp [lshC, lshC_length p ds]
theorem lshC_dig (p : Nat) : ∀ ds, DigL (lshC p ds).2
  | [] => by intro d h; cases h
  | d :: ds => by
    intro x hx
    simp only [lshC, List.mem_cons] at hx
    rcases hx with rfl | hx
    · omega
    · exact lshC_dig p ds x hx
theorem lshC_num (p : Nat) : ∀ ds, (lshC p ds).1 * 10 ^ ds.length + numD (lshC p ds).2 = numD ds * p
  | [] => by simp [lshC, numD]
  | d :: ds => by
    have ih := lshC_num p ds
    simp only [lshC, numD, List.length_cons, lshC_length, Nat.pow_succ]
    generalize (lshC p ds).1 = c at *
    generalize numD (lshC p ds).2 = q at *
    have h1 : (c + d * p) / 10 * (10 ^ ds.length * 10) + ((c + d * p) % 10 * 10 ^ ds.length + q) = (10 * ((c + d * p) / 10) + (c + d * p) % 10) * 10 ^ ds.length + q := by
      rw [Nat.add_mul, Nat.mul_comm (10 ^ ds.length) 10, ← Nat.mul_assoc, Nat.mul_comm _ 10, Nat.add_assoc]
    rw [h1, Nat.div_add_mod, Nat.add_mul, Nat.add_mul]
    rw [show d * 10 ^ ds.length * p = d * p * 10 ^ ds.length by rw [Nat.mul_assoc, Nat.mul_comm (10 ^ ds.length), ← Nat.mul_assoc]]
    omega
theorem lshC_carry {p : Nat} (hp : 0 < p) : ∀ {ds : List Nat}, DigL ds → (lshC p ds).1 < p
  | [], _ => hp
  | d :: ds, h => by
    have ih := lshC_carry hp (ds := ds) fun x hx => h x (by simp [hx])
    have h0 := h d (by simp)
    have hm : d * p ≤ 9 * p := Nat.mul_le_mul_right _ h0
    simp only [lshC]
    omega
def extD : Nat → Nat → List Nat
  | 0, _ => []
  | f + 1, n => if n = 0 then [] else extD f (n / 10) ++ [n % 10]
theorem extD_dig : ∀ f n, DigL (extD f n)
  | 0, _ => by intro d h; cases h
  | f + 1, n => by
    intro x hx
    simp only [extD] at hx
    split at hx
    · cases hx
    · simp only [List.mem_append, List.mem_singleton] at hx
      rcases hx with hx | rfl
      · exact extD_dig f _ x hx
      · omega
theorem extD_num : ∀ f n, n < 10 ^ f → numD (extD f n) = n
  | 0, n, h => by simp at h; subst h; rfl
  | f + 1, n, h => by
    simp only [extD]
    split
    · rename_i h0; simp [numD, h0]
    · rw [numD_append, extD_num f (n / 10) (by rw [Nat.pow_succ] at h; omega)]
      simp only [numD, List.length_cons, List.length_nil]
      omega
theorem extD_head : ∀ f n, n < 10 ^ f → n ≠ 0 → ∃ d ds, extD f n = d :: ds ∧ d ≠ 0
  | 0, n, h, h0 => by simp at h; exact absurd h h0
  | f + 1, n, h, h0 => by
    simp only [extD, if_neg h0]
    by_cases h1 : n / 10 = 0
    · have : extD f (n / 10) = [] := by cases f <;> simp [extD, h1]
      rw [this]
      exact ⟨n % 10, [], rfl, by omega⟩
    · obtain ⟨d, ds, e, hd⟩ := extD_head f (n / 10) (by rw [Nat.pow_succ] at h; omega) h1
      exact ⟨d, ds ++ [n % 10], by rw [e]; rfl, hd⟩
theorem len_of_bounds {n a b : Nat} (h1 : 10 ^ a ≤ n) (h2 : n < 10 ^ b) : a < b := by
  apply Classical.byContradiction
  intro h
  have := Nat.pow_le_pow_right (n := 10) (by decide) (Nat.le_of_not_lt h)
  omega
def lshD (p : Nat) (ds : List Nat) : List Nat := extD 20 (lshC p ds).1 ++ (lshC p ds).2
theorem lshD_num {p : Nat} (hp : 0 < p) (hp2 : p < 10 ^ 20) {ds : List Nat} (h : DigL ds) : numD (lshD p ds) = numD ds * p := by
  have hc := lshC_carry hp h
  unfold lshD
  rw [numD_append, extD_num 20 _ (Nat.lt_trans hc hp2), lshC_length, lshC_num]
theorem lshD_dig (p : Nat) (ds : List Nat) : DigL (lshD p ds) := by
  intro x hx
  rcases List.mem_append.1 hx with hx | hx
  · exact extD_dig _ _ x hx
  · exact lshC_dig _ _ x hx
theorem lshD_length {p : Nat} (hp : 0 < p) (hp2 : p < 10 ^ 20) {ds : List Nat} (h : DigL ds) {m : Nat} (h1 : 10 ^ m ≤ numD ds * p) (h2 : numD ds * p < 10 ^ (m + 1)) (hm : ds.length ≤ m + 1) : (lshD p ds).length = m + 1 := by
  have hn := lshD_num hp hp2 h
  have hlt := numD_lt (lshD_dig p ds)
  rw [hn] at hlt
  have a := len_of_bounds h1 hlt
  have hc := lshC_carry hp h
  by_cases h0 : (lshC p ds).1 = 0
  · have he : lshD p ds = (lshC p ds).2 := by unfold lshD; rw [h0]; rfl
    rw [he, lshC_length] at a ⊢
    omega
  · obtain ⟨d, l, e, hd⟩ := extD_head 20 _ (Nat.lt_trans hc hp2) h0
    have he : lshD p ds = d :: (l ++ (lshC p ds).2) := by unfold lshD; rw [e]; rfl
    have hge := numD_ge (ds := l ++ (lshC p ds).2) hd
    rw [← he, hn] at hge
    have b := len_of_bounds hge h2
    rw [he, List.length_cons] at a ⊢
    omega
def lessP : List Nat → List Nat → Bool
  | _, [] => false
  | [], _ :: _ => true
  | b :: bs, s :: ss => if b = s then lessP bs ss else decide (b < s)
def endsD : List Nat → Bool
  | [] => true
  | [d] => d != 0
  | _ :: ds => endsD ds
theorem endsD_pos : ∀ {s : Nat} {ss : List Nat}, endsD (s :: ss) = true → 0 < numD (s :: ss)
  | s, [], h => by simp [endsD] at h; simp [numD]; omega
  | s, t :: ss, h => by
    have := endsD_pos (s := t) (ss := ss) h
    rw [numD]
    omega
theorem endsD_tail {s : Nat} {ss : List Nat} (h : endsD (s :: ss) = true) : endsD ss = true := by
  cases ss with
  | nil => rfl
  | cons t ss => exact h
theorem lessP_iff : ∀ {b s : List Nat}, DigL b → DigL s → endsD s = true → (lessP b s = true ↔ numD b * 10 ^ s.length < numD s * 10 ^ b.length)
  | b, [], _, _, _ => by cases b <;> simp [lessP, numD]
  | [], s :: ss, _, _, he => by
    have := endsD_pos he
    simp only [lessP, numD, List.length_nil, Nat.pow_zero, Nat.zero_mul, Nat.mul_one, true_iff]
    exact this
  | b :: bs, s :: ss, hb, hs, he => by
    have hb' : DigL bs := fun x hx => hb x (by simp [hx])
    have hs' : DigL ss := fun x hx => hs x (by simp [hx])
    have ih := lessP_iff hb' hs' (endsD_tail he)
    have lb := numD_lt hb'
    have ls := numD_lt hs'
    simp only [lessP, numD, List.length_cons, Nat.pow_succ]
    generalize hB : 10 ^ bs.length = B at *
    generalize hS : 10 ^ ss.length = S at *
    have hBp : 0 < B := by rw [← hB]; exact Nat.pow_pos (by decide)
    have hSp : 0 < S := by rw [← hS]; exact Nat.pow_pos (by decide)
    generalize numD bs = x at *
    generalize numD ss = y at *
    have e1 : (b * B + x) * (S * 10) = (b * (B * S) + x * S) * 10 := by rw [← Nat.mul_assoc, Nat.add_mul, Nat.mul_assoc]
    have e2 : (s * S + y) * (B * 10) = (s * (B * S) + y * B) * 10 := by rw [← Nat.mul_assoc, Nat.add_mul, Nat.mul_assoc, Nat.mul_comm S B]
    rw [e1, e2]
    have hx : x * S < B * S := Nat.mul_lt_mul_of_pos_right lb hSp
    have hy : y * B < B * S := by rw [Nat.mul_comm B S]; exact Nat.mul_lt_mul_of_pos_right ls hBp
    generalize x * S = X at *
    generalize y * B = Y at *
    generalize B * S = W at *
    split
    · rename_i heq
      subst heq
      rw [ih]
      omega
    · rename_i hne
      simp only [decide_eq_true_eq]
      rcases Nat.lt_or_gt_of_ne hne with h | h
      · have hm : (b + 1) * W ≤ s * W := Nat.mul_le_mul_right _ h
        rw [Nat.add_mul] at hm
        constructor
        · intro _; omega
        · intro _; exact h
      · have hm : (s + 1) * W ≤ b * W := Nat.mul_le_mul_right _ h
        rw [Nat.add_mul] at hm
        constructor
        · intro hh; omega
        · intro hh; omega
structure Cheat (k delta : Nat) (cut : List Nat) : Prop where
  dig : DigL cut
  ends : endsD cut = true
  num : numD cut * 2 ^ k = 10 ^ k
  len : cut.length + delta = k + 1
  lo : 10 ^ delta ≤ 10 * 2 ^ k
  hi : 2 ^ k < 10 ^ delta
  pos : 0 < delta
  top : k < 61
theorem Cheat.length {k delta : Nat} {cut ds : List Nat} {d : Nat} (h : Cheat k delta cut) (hd : DigL (d :: ds)) (h0 : d ≠ 0) :
    (lshD (2 ^ k) (d :: ds)).length = ds.length + 1 + delta - (if lessP (d :: ds) cut then 1 else 0) := by
  have hp : 0 < 2 ^ k := Nat.pow_pos (by decide)
  have hp2 : 2 ^ k < 10 ^ 20 := Nat.lt_of_le_of_lt (Nat.pow_le_pow_right (by decide) (Nat.le_of_lt_succ h.top)) (by decide)
  have lo := numD_ge (ds := ds) h0
  have hi := numD_lt hd
  rw [List.length_cons] at hi
  have hpos := h.pos
  have hl := h.len
  have hlo := h.lo
  have hhi := h.hi
  have hiff := lessP_iff hd h.dig h.ends
  rw [List.length_cons] at hiff
  have hnum := h.num
  have hc : 0 < 10 ^ cut.length := Nat.pow_pos (by decide)
  split
  · rename_i hlt
    have hc1 := hiff.1 hlt
    obtain ⟨e, rfl⟩ : ∃ e, delta = e + 1 := ⟨delta - 1, by omega⟩
    have goal1 : 10 ^ (ds.length + e) ≤ numD (d :: ds) * 2 ^ k := by
      rw [Nat.pow_add]
      refine Nat.mul_le_mul lo ?_
      rw [Nat.pow_succ] at hlo
      omega
    have goal2 : numD (d :: ds) * 2 ^ k < 10 ^ (ds.length + e + 1) := by
      apply Nat.lt_of_mul_lt_mul_right (a := 10 ^ cut.length)
      have s1 : numD (d :: ds) * 2 ^ k * 10 ^ cut.length = numD (d :: ds) * 10 ^ cut.length * 2 ^ k := by rw [Nat.mul_assoc, Nat.mul_comm (2 ^ k), ← Nat.mul_assoc]
      have s2 : numD cut * 10 ^ (ds.length + 1) * 2 ^ k = 10 ^ (ds.length + e + 1) * 10 ^ cut.length := by
        rw [Nat.mul_assoc, Nat.mul_comm (10 ^ (ds.length + 1)), ← Nat.mul_assoc, hnum, ← Nat.pow_add, ← Nat.pow_add]
        congr 1; omega
      rw [s1, ← s2]
      exact Nat.mul_lt_mul_of_pos_right hc1 hp
    rw [lshD_length hp hp2 hd goal1 goal2 (by rw [List.length_cons]; omega)]
    omega
  · rename_i hlt
    have hc1 : ¬ numD (d :: ds) * 10 ^ cut.length < numD cut * 10 ^ (ds.length + 1) := fun hh => hlt (hiff.2 hh)
    obtain ⟨e, rfl⟩ : ∃ e, delta = e + 1 := ⟨delta - 1, by omega⟩
    have goal1 : 10 ^ (ds.length + e + 1) ≤ numD (d :: ds) * 2 ^ k := by
      refine Nat.le_of_mul_le_mul_right (c := 10 ^ cut.length) ?_ hc
      have s1 : numD (d :: ds) * 2 ^ k * 10 ^ cut.length = numD (d :: ds) * 10 ^ cut.length * 2 ^ k := by rw [Nat.mul_assoc, Nat.mul_comm (2 ^ k), ← Nat.mul_assoc]
      have s2 : numD cut * 10 ^ (ds.length + 1) * 2 ^ k = 10 ^ (ds.length + e + 1) * 10 ^ cut.length := by
        rw [Nat.mul_assoc, Nat.mul_comm (10 ^ (ds.length + 1)), ← Nat.mul_assoc, hnum, ← Nat.pow_add, ← Nat.pow_add]
        congr 1; omega
      rw [s1, ← s2]
      exact Nat.mul_le_mul_right _ (Nat.le_of_not_lt hc1)
    have goal2 : numD (d :: ds) * 2 ^ k < 10 ^ (ds.length + e + 1 + 1) := by
      have : 10 ^ (ds.length + e + 1 + 1) = 10 ^ (ds.length + 1) * 10 ^ (e + 1) := by rw [← Nat.pow_add]; congr 1; omega
      rw [this]
      exact Nat.mul_lt_mul_of_lt_of_lt hi hhi
    rw [lshD_length hp hp2 hd goal1 goal2 (by rw [List.length_cons]; omega)]
    omega
theorem lshD_cons_same {p : Nat} {d : Nat} {ds : List Nat} (h : (lshD p (d :: ds)).length = ds.length + 1) : (lshC p (d :: ds)).1 = 0 := by
  apply Classical.byContradiction
  intro h0
  have h1 : (extD 20 (lshC p (d :: ds)).1).length ≠ 0 := by
    simp only [extD, if_neg h0, List.length_append, List.length_cons]
    omega
  have : (lshD p (d :: ds)).length = (extD 20 (lshC p (d :: ds)).1).length + (ds.length + 1) := by
    unfold lshD
    rw [List.length_append, lshC_length, List.length_cons]
  omega
theorem lshD_grows {p : Nat} (hp : 2 ≤ p) {d : Nat} {ds : List Nat} (h0 : d ≠ 0) (h : (lshD p (d :: ds)).length = ds.length + 1) : ∃ e es, lshD p (d :: ds) = e :: es ∧ d < e := by
  have hc := lshD_cons_same h
  have hd : lshD p (d :: ds) = (lshC p (d :: ds)).2 := by unfold lshD; rw [hc]; rfl
  rw [hd]
  simp only [lshC] at hc ⊢
  refine ⟨_, _, rfl, ?_⟩
  have hm : d * 2 ≤ d * p := Nat.mul_le_mul_left _ hp
  have : ((lshC p ds).1 + d * p) % 10 = (lshC p ds).1 + d * p := by omega
  omega
theorem lshD_head {p : Nat} (hp : 0 < p) (hp2 : p < 10 ^ 20) {d : Nat} {ds : List Nat} (hd : DigL (d :: ds)) (h0 : d ≠ 0) : ∃ e es, lshD p (d :: ds) = e :: es ∧ e ≠ 0 := by
  by_cases hc : (lshC p (d :: ds)).1 = 0
  · have he : lshD p (d :: ds) = (lshC p (d :: ds)).2 := by unfold lshD; rw [hc]; rfl
    rw [he]
    simp only [lshC] at hc ⊢
    refine ⟨_, _, rfl, ?_⟩
    have hm : 1 * 1 ≤ d * p := Nat.mul_le_mul (by omega) hp
    omega
  · obtain ⟨e, es, he, hne⟩ := extD_head 20 _ (Nat.lt_trans (lshC_carry hp hd) hp2) hc
    exact ⟨e, es ++ (lshC p (d :: ds)).2, by unfold lshD; rw [he]; rfl, hne⟩
end Go.Proofs.YtaecbclonmhbcaaGreatDoor

namespace Go.Proofs.YtaecbclonmhbcaaGreatDoor
open Go.RowKit
structure DecAt (w : World) (b : Nat) (f : Nat → Int) (nd : Nat) (dp : Int) : Prop where
  dig : ∀ i, i < 800 → w.cell? ⟨b, i, none⟩ = some (.int .u8 (f i))
  nd : w.cell? ⟨b, 800, none⟩ = some (.int .i64 nd)
  dp : w.cell? ⟨b, 801, none⟩ = some (.int .i64 dp)
  neg : ∃ x, w.cell? ⟨b, 802, none⟩ = some (.bool x)
  tr : ∃ x, w.cell? ⟨b, 803, none⟩ = some (.bool x)
  free : ∀ i, w.frozen? ⟨b, i, none⟩ = false
theorem cell_set_same {w : World} {a : Addr} {x v : Value} (h : w.cell? a = some x) : (w.setCell a v).cell? a = some v := by
  exact World.cell?_setCell_same _ _ _ h
theorem cell_set_other {w : World} {b i j : Nat} {x v : Value} (h : w.cell? ⟨b, i, none⟩ = some x) (hn : i ≠ j) : (w.setCell ⟨b, j, none⟩ v).cell? ⟨b, i, none⟩ = some x := by
  rw [← h]
  exact World.cell?_setCell_other _ _ _ _ (by intro e; injection e with _ e2; exact hn e2.symm)
theorem free_set {w : World} {b j : Nat} {v : Value} (h : ∀ i, w.frozen? ⟨b, i, none⟩ = false) (i : Nat) : (w.setCell ⟨b, j, none⟩ v).frozen? ⟨b, i, none⟩ = false := by
  rw [← h i]
  simp [go_sem]
theorem DecAt.drewN {w : World} {b : Nat} {f : Nat → Int} {nd : Nat} {dp : Int} (h : DecAt w b f nd dp) (n : Nat) : DecAt (w.drewN n) b f nd dp := ⟨h.dig, h.nd, h.dp, h.neg, h.tr, h.free⟩
theorem DecAt.setNd {w : World} {b : Nat} {f : Nat → Int} {nd : Nat} {dp : Int} (h : DecAt w b f nd dp) (k : Nat) : DecAt (w.setCell ⟨b, 800, none⟩ (.int .i64 k)) b f k dp :=
  ⟨fun i hi => cell_set_other (h.dig i hi) (by omega), cell_set_same h.nd, cell_set_other h.dp (by decide), h.neg.imp fun _ h => cell_set_other h (by decide), h.tr.imp fun _ h => cell_set_other h (by decide), free_set h.free⟩
theorem DecAt.setDp {w : World} {b : Nat} {f : Nat → Int} {nd : Nat} {dp : Int} (h : DecAt w b f nd dp) (k : Int) : DecAt (w.setCell ⟨b, 801, none⟩ (.int .i64 k)) b f nd k :=
  ⟨fun i hi => cell_set_other (h.dig i hi) (by omega), cell_set_other h.nd (by decide), cell_set_same h.dp, h.neg.imp fun _ h => cell_set_other h (by decide), h.tr.imp fun _ h => cell_set_other h (by decide), free_set h.free⟩
theorem DecAt.setNeg {w : World} {b : Nat} {f : Nat → Int} {nd : Nat} {dp : Int} (h : DecAt w b f nd dp) (k : Bool) : DecAt (w.setCell ⟨b, 802, none⟩ (.bool k)) b f nd dp :=
  ⟨fun i hi => cell_set_other (h.dig i hi) (by omega), cell_set_other h.nd (by decide), cell_set_other h.dp (by decide), h.neg.elim fun _ h => ⟨_, cell_set_same h⟩, h.tr.imp fun _ h => cell_set_other h (by decide), free_set h.free⟩
theorem DecAt.setTr {w : World} {b : Nat} {f : Nat → Int} {nd : Nat} {dp : Int} (h : DecAt w b f nd dp) (k : Bool) : DecAt (w.setCell ⟨b, 803, none⟩ (.bool k)) b f nd dp :=
  ⟨fun i hi => cell_set_other (h.dig i hi) (by omega), cell_set_other h.nd (by decide), cell_set_other h.dp (by decide), h.neg.imp fun _ h => cell_set_other h (by decide), h.tr.elim fun _ h => ⟨_, cell_set_same h⟩, free_set h.free⟩
def putAt (f : Nat → Int) (j : Nat) (c : Int) : Nat → Int := fun i => if i = j then c else f i
theorem DecAt.setDig {w : World} {b : Nat} {f : Nat → Int} {nd : Nat} {dp : Int} (h : DecAt w b f nd dp) {j : Nat} (hj : j < 800) (c : Int) : DecAt (w.setCell ⟨b, j, none⟩ (.int .u8 c)) b (putAt f j c) nd dp := by
  refine ⟨fun i hi => ?_, cell_set_other h.nd (by omega), cell_set_other h.dp (by omega), h.neg.imp fun _ h => cell_set_other h (by omega), h.tr.imp fun _ h => cell_set_other h (by omega), free_set h.free⟩
  by_cases e : i = j
  · subst e; rw [cell_set_same (h.dig i hi)]; simp [putAt]
  · rw [cell_set_other (h.dig i hi) e]; simp [putAt, e]
set_option maxHeartbeats 2000000 in
set_option maxRecDepth 100000 in
theorem trim_any (b : Nat) (f : Nat → Int) (nd : Nat) (dp : Int) (w : World) (h : DecAt w b f nd dp) (h0 : f 0 ≠ 48) (h1 : 1 ≤ nd) (h8 : nd ≤ 800) :
    Calls Tryz.prog 238 #[.pointer (some ⟨b, 0, none⟩)] w fun e w' => e = .returned (.tuple #[]) ∧ ∃ nd' : Nat, 1 ≤ nd' ∧ nd' ≤ nd ∧ DecAt w' b f nd' dp ∧ Kept b w w' := by
  have H := Lib.hid h
  clear h
  go_enter Tryz.func238, Tryz.ntmps238
  go_wp2
  go_loopg [] nd (fun g wr => ∃ k : Nat, g = k ∧ 1 ≤ k ∧ k ≤ nd ∧ DecAt wr b f k dp ∧ Kept b w wr)
  case atStart => exact ⟨nd, rfl, h1, Nat.le_refl _, H.out, Kept.refl _ _⟩
  case round =>
    obtain ⟨k, rfl, hk1, hkn, hd, hK⟩ := hrel
    obtain ⟨j, rfl⟩ : ∃ j, gk = j + 1 := ⟨gk - 1, by omega⟩
    have HD := Lib.hid hd
    have HK := Lib.hid hK
    have f0 := hd.free 800
    have f1 := hd.free 801
    have c1 := hd.nd
    have c2 := hd.dp
    have c3 := hd.dig j (by omega)
    have g0 : (0 : Int) < ((j + 1 : Nat) : Int) := by omega
    have g1 : ((j + 1 : Nat) : Int) - 1 = (j : Int) := by omega
    clear hd hK
    by_cases hc : f j = 48
    · have hj0 : j ≠ 0 := by rintro rfl; exact h0 hc
      rw [hc] at c3
      go_wp2
      go_quiet (fail)
      go_wp2
      go_roundg j
      case measure => omega
      case rel => exact ⟨j, rfl, by omega, by omega, (HD.out.drewN _).setNd j, (HK.out.drewN _).setCell _ _⟩
    · have hc' : (f j == 48) = false := beq_eq_false_iff_ne.2 hc
      have hz : (((j + 1 : Nat) : Int) == 0) = false := beq_eq_false_iff_ne.2 (by omega)
      go_wp2
      go_quiet (fail)
      go_wp2
      exact bodyPost_end (results_none rfl _ _ _) rfl ⟨rfl, j + 1, hk1, hkn, HD.out.drewN _, HK.out.drewN _⟩
end Go.Proofs.YtaecbclonmhbcaaGreatDoor

namespace Go.Proofs.YtaecbclonmhbcaaGreatDoor
open Go.RowKit
structure DGood (f : Nat → Int) (nd : Nat) : Prop where
  pos : 1 ≤ nd
  most : nd ≤ 800
  dig : ∀ i, i < nd → 48 ≤ f i ∧ f i ≤ 57
  head : 49 ≤ f 0
theorem pow2_most {k : Nat} (h : k ≤ 60) : (2 : Int) ^ k ≤ 1152921504606846976 := by
  have h1 := Nat.pow_le_pow_right (n := 2) (by decide) h
  have h2 : ((2 ^ k : Nat) : Int) = (2 : Int) ^ k := by simp
  rw [← h2]
  omega
theorem pow2_least {k : Nat} (h : 1 ≤ k) : 2 ≤ (2 : Int) ^ k := by
  have h1 := Nat.pow_le_pow_right (n := 2) (by decide) h
  have h2 : ((2 ^ k : Nat) : Int) = (2 : Int) ^ k := by simp
  rw [← h2]
  omega
theorem div_le9 {n P : Int} (hP : 0 < P) (h0 : 0 ≤ n) (h1 : n < 10 * P) : 0 ≤ n / P ∧ n / P ≤ 9 := by
  refine ⟨Int.ediv_nonneg h0 (by omega), ?_⟩
  have : n / P < 10 := Int.ediv_lt_of_lt_mul hP h1
  omega
theorem div_zero {n P : Int} (hP : 0 < P) (h0 : 0 ≤ n) (h : (n / P == 0) = true) : n < P := by
  have h := beq_iff_eq.1 h
  have e := Int.mul_ediv_add_emod n P
  have := Int.emod_lt_of_pos n hP
  rw [h] at e
  omega
theorem div_pos' {n P : Int} (hP : 0 < P) (h0 : 0 ≤ n) (h : (n / P == 0) = false) : P ≤ n := by
  apply Classical.byContradiction
  intro hh
  have : n / P = 0 := Int.ediv_eq_zero_of_lt h0 (by omega)
  rw [this] at h
  exact absurd h (by decide)
theorem u64_id (n : Int) (h0 : 0 ≤ n) (h1 : n < 18446744073709551616) : IntKind.u64.wrap n = n := by rw [IntKind.wrap_u64]; omega
theorem mask_and {k : Nat} (hk : k ≤ 60) {n : Int} (h0 : 0 ≤ n) (h1 : n < 18446744073709551616) : bits .and .u64 n (2 ^ k - 1) = n % 2 ^ k :=
  bits_mask .u64 64 (by decide) (fun n h0 h1 => u64_id n h0 (by simpa using h1)) k (by omega) n h0 (by simpa using h1)
theorem shift_step {k j : Nat} {m t P : Int} (hP : (2 : Int) ^ k = P) (hj : j ≤ k) (hm : m = 2 ^ j * t) : (j = k ∧ m % P = 0) ∨ (j < k ∧ ∃ t' : Int, m % P * 10 = 2 ^ (j + 1) * t') := by
  rcases Nat.eq_or_lt_of_le hj with e | e
  · subst e
    exact .inl ⟨rfl, by rw [hm, hP]; exact Int.mul_emod_right _ _⟩
  · refine .inr ⟨e, 5 * (t - 2 ^ (k - j) * (m / P)), ?_⟩
    have e1 : P = 2 ^ j * 2 ^ (k - j) := by rw [← hP, ← Int.pow_add]; congr 1; omega
    have e2 : m % P = 2 ^ j * (t - 2 ^ (k - j) * (m / P)) := by
      rw [Int.mul_sub, ← Int.mul_assoc, ← e1, ← hm]
      have := Int.mul_ediv_add_emod m P
      omega
    rw [e2, Int.pow_succ]
    generalize t - 2 ^ (k - j) * (m / P) = x
    generalize (2 : Int) ^ j = y
    rw [Int.mul_assoc, Int.mul_assoc, ← Int.mul_assoc 2 5 x, Int.mul_comm x 10]
    rfl
set_option maxHeartbeats 4000000 in
set_option maxRecDepth 100000 in
theorem rsh_any (b : Nat) (f : Nat → Int) (nd : Nat) (dp : Int) (k : Nat) (w : World) (h : DecAt w b f nd dp) (hG : DGood f nd) (hk0 : 1 ≤ k) (hk : k ≤ 60) :
    Calls Tryz.prog 222 #[.pointer (some ⟨b, 0, none⟩), .int .u64 k] w fun e w' => e = .returned (.tuple #[]) ∧ ∃ (g : Nat → Int) (nd' : Nat) (r : Int), DecAt w' b g nd' (IntKind.i64.wrap (dp - (r - 1))) ∧ DGood g nd' ∧
      1 ≤ r ∧ r ≤ 2305843009213693952 ∧ (r = 1 → g 0 < f 0) ∧ Kept b w w' := by
  have H := Lib.hid h
  have GG := Lib.hid hG
  have c1 := h.nd
  have c2 := h.dp
  have h1 := hG.pos
  have h8 := hG.most
  clear h hG
  obtain ⟨P, hP⟩ : ∃ P : Int, (2 : Int) ^ k = P := ⟨_, rfl⟩
  have hP0 : 2 ≤ P := by rw [← hP]; exact pow2_least hk0
  have hP1 : P ≤ 1152921504606846976 := by rw [← hP]; exact pow2_most hk
  go_enter Tryz.func222, Tryz.ntmps222
  go_upto_block 0 with fail
  go_cut [4, 6] from 12 to 48 (fun a4 a6 wx => ∃ r n : Int, a4 = .int .i64 r ∧ a6 = .int .u64 n ∧ 1 ≤ r ∧ r ≤ 2305843009213693952 ∧ P ≤ n ∧ n < 10 * P ∧ (r = 1 → n = f 0 - 48) ∧ w = wx)
  case first =>
    go_wp2_with fail
    go_loopg [4, 6] nd (fun g v4 v6 wr => ∃ (r : Nat) (n : Int), g + r = nd ∧ v4 = .int .i64 r ∧ v6 = .int .u64 n ∧ 0 ≤ n ∧ n < 10 * P ∧ (r = 0 → n = 0) ∧ (1 ≤ r → 1 ≤ n) ∧ (r = 1 → n = f 0 - 48) ∧ w = wr)
    case atStart => exact ⟨0, 0, rfl, rfl, rfl, by decide, by omega, fun _ => rfl, fun h => absurd h (by decide), fun h => absurd h (by decide), rfl⟩
    case round =>
      obtain ⟨r, n, hgr, rfl, rfl, hn0, hn1, hr0, hr1, hr2, rfl⟩ := hrel
      have R0 := Lib.hid hr0
      have R1 := Lib.hid hr1
      have R2 := Lib.hid hr2
      clear hr0 hr1 hr2
      cases hz : n / P == 0
      case false =>
        have hge := Lib.hid (div_pos' (by omega) hn0 hz)
        go_wp2_with fail
        go_meet
        have := hge.out
        have hr : r ≠ 0 := by intro e; have := R0.out e; omega
        exact ⟨r, n, rfl, rfl, by omega, by omega, by omega, hn1, fun e => R2.out (by omega), rfl⟩
      case true =>
        have hlt := Lib.hid (div_zero (by omega) hn0 hz)
        by_cases hrn : r < nd
        case pos =>
          have hrn' : ¬ nd ≤ r := by omega
          have c3 := H.out.dig r (by omega)
          have hd := GG.out.dig r hrn
          have hl := hlt.out
          have hw0 : IntKind.u64.wrap (f r) = f r := u64_id _ (by omega) (by omega)
          have hw1 : IntKind.u64.wrap (n * 10) = n * 10 := u64_id _ (by omega) (by omega)
          have hw2 : IntKind.u64.wrap (n * 10 + f r) = n * 10 + f r := u64_id _ (by omega) (by omega)
          have hw3 : IntKind.u64.wrap (n * 10 + f r - 48) = n * 10 + f r - 48 := u64_id _ (by omega) (by omega)
          have HD := Lib.hid hd
          clear hd hl
          go_wp2_with fail
          go_roundg (nd - (r + 1))
          case measure => omega
          case rel =>
            have := hlt.out
            have := HD.out
            refine ⟨r + 1, _, by omega, by go_num, rfl, by omega, by omega, by omega, fun _ => ?_, fun e => ?_, rfl⟩
            · rcases Nat.eq_zero_or_pos r with e | e
              · have := R0.out e; have := GG.out.head; subst e; omega
              · have := R1.out e; omega
            · obtain rfl : r = 0 := by omega
              have := R0.out rfl
              omega
        case neg =>
          obtain rfl : r = nd := by omega
          have hnp := Lib.hid (R1.out h1)
          have hn2 : (n == 0) = false := beq_eq_false_iff_ne.2 (by have := hnp.out; omega)
          go_wp2_with fail
          go_loopg [4, 6] (10 * P - n).toNat (fun g v4 v6 wr => ∃ r' n' : Int, (g : Int) = 10 * P - n' ∧ v4 = .int .i64 r' ∧ v6 = .int .u64 n' ∧ 1 ≤ n' ∧ n' < 10 * P ∧ 1 ≤ r' ∧ r' ≤ r + n' ∧ r' ≤ 2305843009213693952 ∧ (r' = 1 → n' = f 0 - 48) ∧ w = wr)
          case atStart => exact ⟨r, n, by omega, rfl, rfl, hnp.out, hn1, by omega, by omega, by omega, fun e => R2.out (by omega), rfl⟩
          case round =>
            obtain ⟨r', n', hg', rfl, rfl, hn0', hn1', hr0', hr1', hr2', hr3', rfl⟩ := hrel
            have R3 := Lib.hid hr3'
            clear hr3' hz hn2
            cases hz' : n' / P == 0
            case false =>
              have hge := Lib.hid (div_pos' (by omega) (by omega) hz')
              go_wp2_with fail
              go_meet
              have := hge.out
              exact ⟨r', n', rfl, rfl, by omega, by omega, by omega, hn1', R3.out, rfl⟩
            case true =>
              have hlt' := div_zero (by omega) (by omega) hz'
              have hw1 : IntKind.u64.wrap (n' * 10) = n' * 10 := u64_id _ (by omega) (by omega)
              go_wp2_with fail
              go_roundg (10 * P - n' * 10).toNat
              case measure => omega
              case rel => exact ⟨_, _, by omega, by go_num, rfl, by omega, by omega, by omega, by omega, by omega, by omega, rfl⟩
  case rest =>
    obtain ⟨r, n, rfl, rfl, hr0, hr1, hn0, hn1, hr2, rfl⟩ := hcut
    obtain ⟨rn, rfl⟩ := Int.eq_ofNat_of_zero_le (show 0 ≤ r by omega)
    have R2 := Lib.hid hr2
    clear hr2
    obtain ⟨D, hD⟩ : ∃ D, IntKind.i64.wrap (dp - ((rn : Int) - 1)) = D := ⟨_, rfl⟩
    have f0 := H.out.free 801
    go_upto_block 4 with fail
    have HD1 := Lib.hid (H.out.setDp D)
    have HK1 := Lib.hid ((Kept.refl b w).setCell 801 (.int .i64 D))
    have HDE := Lib.hid hD
    clear c1 c2 f0 hD
    go_cut [5, 6] from 61 to 96 (fun a5 a6 wx => ∃ (wi : Nat) (m : Int) (g : Nat → Int), a5 = .int .i64 wi ∧ a6 = .int .u64 m ∧ wi ≤ 800 ∧ 0 ≤ m ∧ m < 10 * P ∧ (wi = 0 → m = n) ∧
      (∀ i, i < wi → 48 ≤ g i ∧ g i ≤ 57) ∧ (1 ≤ wi → g 0 = 48 + n / P) ∧ DecAt wx b g nd D ∧ Kept b w wx)
    case first =>
      go_wp2_with fail
      go_loopg [4, 5, 6] (nd - rn) (fun gk v4 v5 v6 wr => ∃ (r wi : Nat) (m : Int) (g : Nat → Int), gk = nd - r ∧ v4 = .int .i64 r ∧ v5 = .int .i64 wi ∧ v6 = .int .u64 m ∧ wi < r ∧ wi ≤ nd ∧ 0 ≤ m ∧ m < 10 * P ∧ (wi = 0 → m = n) ∧
        (∀ i, i < wi → 48 ≤ g i ∧ g i ≤ 57) ∧ (1 ≤ wi → g 0 = 48 + n / P) ∧ (∀ i, wi ≤ i → g i = f i) ∧ DecAt wr b g nd D ∧ Kept b w wr)
      case atStart => exact ⟨rn, 0, n, f, rfl, rfl, rfl, rfl, by omega, by omega, by omega, hn1, fun _ => rfl, fun i hi => absurd hi (by omega), fun h => absurd h (by decide), fun _ _ => rfl, HD1.out, HK1.out⟩
      case round =>
        obtain ⟨r, wi, m, g, hgk, rfl, rfl, rfl, hwr, hwn, hm0, hm1, hmn, hgd, hg0, hgf, hd, hK⟩ := hrel
        have A1 := Lib.hid hmn
        have A2 := Lib.hid hgd
        have A3 := Lib.hid hg0
        have A4 := Lib.hid hgf
        have A5 := Lib.hid hd
        have A6 := Lib.hid hK
        have c1 := hd.nd
        clear hmn hgd hg0 hgf
        by_cases hrn : r < nd
        case neg =>
          clear hd hK
          have hrn' : nd ≤ r := by omega
          go_wp2_with fail
          go_meet
          exact ⟨wi, m, g, rfl, rfl, by omega, hm0, hm1, A1.out, A2.out, A3.out, A5.out, A6.out⟩
        case pos =>
          have hrn' : ¬ nd ≤ r := by omega
          have c3 := hd.dig r (by omega)
          rw [A4.out r (by omega)] at c3
          have c4 := hd.dig wi (by omega)
          have z4 := hd.free wi
          have hdg := GG.out.dig r hrn
          have hs0 := Int.emod_nonneg m (show P ≠ 0 by omega)
          have hs1 := Int.emod_lt_of_pos m (show 0 < P by omega)
          have hand : bits .and .u64 m (P - 1) = m % P := by rw [← hP]; exact mask_and hk hm0 (by omega)
          have hq9 := div_le9 (show 0 < P by omega) hm0 hm1
          obtain ⟨q, hq⟩ : ∃ q, m / P = q := ⟨_, rfl⟩
          obtain ⟨s, hs⟩ : ∃ s, m % P = s := ⟨_, rfl⟩
          rw [hs] at hs0 hs1 hand
          rw [hq] at hq9
          obtain ⟨c, hc⟩ : ∃ c, f r = c := ⟨_, rfl⟩
          rw [hc] at c3 hdg
          have hw0 : IntKind.u64.wrap c = c := u64_id _ (by omega) (by omega)
          have hw1 : IntKind.u64.wrap (s * 10) = s * 10 := u64_id _ (by omega) (by omega)
          have hw2 : IntKind.u64.wrap (s * 10 + c) = s * 10 + c := u64_id _ (by omega) (by omega)
          have hw3 : IntKind.u64.wrap (s * 10 + c - 48) = s * 10 + c - 48 := u64_id _ (by omega) (by omega)
          have hw4 : IntKind.u64.wrap (q + 48) = q + 48 := u64_id _ (by omega) (by omega)
          have hw5 : IntKind.u8.wrap (q + 48) = q + 48 := by rw [IntKind.wrap_u8]; omega
          have B1 := Lib.hid hdg
          have B2 := Lib.hid hs0
          have B3 := Lib.hid hs1
          have B4 := Lib.hid hq9
          have B5 := Lib.hid hc
          clear hdg hs0 hs1 hq9 hd hK hc
          go_wp2_with fail
          go_roundg (nd - (r + 1))
          case measure => omega
          case rel =>
            have b1 := B1.out
            have b2 := B2.out
            have b3 := B3.out
            have b4 := B4.out
            refine ⟨r + 1, wi + 1, _, putAt g wi (q + 48), rfl, by go_num, by go_num, rfl, by omega, by omega, by omega, by omega, fun h => absurd h (by omega), fun i hi => ?_, fun _ => ?_, fun i hi => ?_, A5.out.setDig (by omega) _, A6.out.setCell _ _⟩
            · by_cases e : i = wi
              · simp only [putAt, e, if_true]; omega
              · simp only [putAt, e, if_false]; exact A2.out i (by omega)
            · by_cases e : wi = 0
              · subst e
                have := A1.out rfl
                subst this
                simp only [putAt, if_true, hq]; omega
              · simp only [putAt, if_neg (show ¬ 0 = wi by omega)]
                exact A3.out (by omega)
            · simp only [putAt, if_neg (show ¬ i = wi by omega)]
              exact A4.out i (by omega)
    case rest =>
      obtain ⟨wi, m, g, rfl, rfl, hwi, hm0, hm1, hmn, hgd, hg0, hd, hK⟩ := hcut
      have HQ := Lib.hid (div_le9 (show 0 < P by omega) (show 0 ≤ n by omega) hn1)
      have HQ1 : Hid (1 ≤ n / P) := by show _; exact Int.le_ediv_of_mul_le (by omega) (by omega)
      go_wp2_with fail
      go_loopg [5, 6] (k + 1) (fun gk v5 v6 wr => ∃ (wi : Nat) (m : Int) (g : Nat → Int), v5 = .int .i64 wi ∧ v6 = .int .u64 m ∧ wi ≤ 800 ∧ 0 ≤ m ∧ m < 10 * P ∧ (wi = 0 → m = n) ∧
        (∀ i, i < wi → 48 ≤ g i ∧ g i ≤ 57) ∧ (1 ≤ wi → g 0 = 48 + n / P) ∧ DecAt wr b g nd D ∧ Kept b w wr ∧ ((m = 0 ∧ gk = 0) ∨ ∃ (j : Nat) (t : Int), j ≤ k ∧ gk + j = k + 1 ∧ m = 2 ^ j * t))
      case atStart => exact ⟨wi, m, g, rfl, rfl, hwi, hm0, hm1, hmn, hgd, hg0, hd, hK, .inr ⟨0, m, Nat.zero_le _, rfl, by simp⟩⟩
      case round =>
        clear hwi hm0 hm1 hmn hgd hg0 hd hK
        obtain ⟨wi, m, g, rfl, rfl, hwi, hm0, hm1, hmn, hgd, hg0, hd, hK, hj⟩ := hrel
        have A1 := Lib.hid hmn
        have A2 := Lib.hid hgd
        have A3 := Lib.hid hg0
        have A5 := Lib.hid hd
        have A6 := Lib.hid hK
        have A7 := Lib.hid hj
        clear hmn hgd hg0 hj
        by_cases hz : m = 0
        case pos =>
          subst hz
          have hwi0 : 1 ≤ wi := by
            rcases Nat.eq_zero_or_pos wi with e | e
            · have := A1.out e; omega
            · exact e
          have z := hd.free 800
          have c1 := hd.nd
          have HT := Lib.hid (trim_any b g wi D _ (hd.setNd wi) (by rw [A3.out hwi0]; have := HQ1.out; omega) hwi0 hwi)
          clear hd hK
          go_wp2_with (go_at_call 238; refine HT.out.mono ?_; rintro e w1 ⟨rfl, nd', ht1, ht2, ht3, ht4⟩)
          refine bodyPost_end (results_none rfl _ _ _) rfl ⟨rfl, g, nd', rn, by rw [HDE.out]; exact ht3, ⟨ht1, by omega, fun i hi => A2.out i (by omega), by rw [A3.out hwi0]; have := HQ1.out; omega⟩, hr0, hr1, fun e => ?_, (A6.out.setCell _ _).trans ht4⟩
          have e1 := R2.out e
          have hh := GG.out.head
          rw [A3.out hwi0]
          have e2 : (n / P) * 2 ≤ (n / P) * P := Int.mul_le_mul_of_nonneg_left hP0 (by have := HQ1.out; omega)
          have e3 := Int.mul_ediv_add_emod n P
          have e4 := Int.emod_nonneg n (show P ≠ 0 by omega)
          rw [Int.mul_comm] at e3
          omega
        case neg =>
          have hpos : 0 < m := by omega
          have hs0 := Int.emod_nonneg m (show P ≠ 0 by omega)
          have hs1 := Int.emod_lt_of_pos m (show 0 < P by omega)
          have hand : bits .and .u64 m (P - 1) = m % P := by rw [← hP]; exact mask_and hk hm0 (by omega)
          have hq9 := div_le9 (show 0 < P by omega) hm0 hm1
          have hstep : Hid (1 ≤ gk ∧ ((m % P = 0 ∧ gk = 1) ∨ ∃ (j : Nat) (t : Int), j + 1 ≤ k ∧ gk + j = k + 1 ∧ m % P * 10 = 2 ^ (j + 1) * t)) := by
            show _ ∧ _
            rcases A7.out with ⟨h, -⟩ | ⟨j, t, hj, hgk, hm⟩
            · exact absurd h hz
            · refine ⟨by omega, ?_⟩
              rcases shift_step hP hj hm with ⟨h1, h2⟩ | ⟨h1, t', h2⟩
              · exact .inl ⟨h2, by omega⟩
              · exact .inr ⟨j, t', by omega, hgk, h2⟩
          obtain ⟨q, hq⟩ : ∃ q, m / P = q := ⟨_, rfl⟩
          obtain ⟨s, hs⟩ : ∃ s, m % P = s := ⟨_, rfl⟩
          rw [hs] at hs0 hs1 hand hstep
          rw [hq] at hq9
          have hw1 : IntKind.u64.wrap (s * 10) = s * 10 := u64_id _ (by omega) (by omega)
          have hw4 : IntKind.u64.wrap (q + 48) = q + 48 := u64_id _ (by omega) (by omega)
          have hw5 : IntKind.u8.wrap (q + 48) = q + 48 := by rw [IntKind.wrap_u8]; omega
          have B2 := Lib.hid hs0
          have B3 := Lib.hid hs1
          have B4 := Lib.hid hq9
          clear hs0 hs1 hq9
          have hend : Hid (1 ≤ gk ∧ ((s * 10 = 0 ∧ gk - 1 = 0) ∨ ∃ (j : Nat) (t : Int), j ≤ k ∧ gk - 1 + j = k + 1 ∧ s * 10 = 2 ^ j * t)) := by
            show _ ∧ _
            obtain ⟨h1, h | ⟨j, t, h2, h3, h4⟩⟩ := hstep.out
            · exact ⟨h1, .inl ⟨by omega, by omega⟩⟩
            · exact ⟨h1, .inr ⟨j + 1, t, h2, by omega, h4⟩⟩
          clear hstep
          by_cases h800 : wi < 800
          case pos =>
            have h800' : (wi : Int) < 800 := by omega
            have c4 := hd.dig wi h800
            have z4 := hd.free wi
            clear hd hK
            go_wp2_with fail
            go_roundg (gk - 1)
            case measure => have := hend.out.1; omega
            case rel =>
              have b2 := B2.out
              have b3 := B3.out
              have b4 := B4.out
              refine ⟨wi + 1, _, putAt g wi (q + 48), by go_num, rfl, by omega, by omega, by omega, fun h => absurd h (by omega), fun i hi => ?_, fun _ => ?_, A5.out.setDig (by omega) _, A6.out.setCell _ _, hend.out.2⟩
              · by_cases e : i = wi
                · simp only [putAt, e, if_true]; omega
                · simp only [putAt, e, if_false]; exact A2.out i (by omega)
              · by_cases e : wi = 0
                · subst e
                  have := A1.out rfl
                  subst this
                  simp only [putAt, if_true, hq]; omega
                · simp only [putAt, if_neg (show ¬ 0 = wi by omega)]
                  exact A3.out (by omega)
          case neg =>
            have h800' : ¬ (wi : Int) < 800 := by omega
            have z4 := hd.free 803
            obtain ⟨tr, c4⟩ := hd.tr
            clear hd hK
            by_cases hq0 : 0 < q
            · go_wp2_with fail
              go_roundg (gk - 1)
              case measure => have := hend.out.1; omega
              case rel =>
                have b2 := B2.out
                have b3 := B3.out
                exact ⟨wi, _, g, rfl, rfl, hwi, by omega, by omega, fun h => absurd h (by omega), A2.out, A3.out, A5.out.setTr _, A6.out.setCell _ _, hend.out.2⟩
            · go_wp2_with fail
              go_roundg (gk - 1)
              case measure => have := hend.out.1; omega
              case rel =>
                have b2 := B2.out
                have b3 := B3.out
                exact ⟨wi, _, g, rfl, rfl, hwi, by omega, by omega, fun h => absurd h (by omega), A2.out, A3.out, A5.out, A6.out, hend.out.2⟩
end Go.Proofs.YtaecbclonmhbcaaGreatDoor

namespace Go.Proofs.YtaecbclonmhbcaaGreatDoor
open Go.RowKit
def Spells (s : ByteArray) (cut : List Nat) : Prop := s.size = cut.length ∧ ∀ i (h : i < s.size), (s[i].toNat : Int) = (cut.getD i 0 : Nat) + 48
theorem lessP_drop_end {ds cut : List Nat} {k : Nat} (h : cut.length ≤ k) : lessP (ds.drop k) (cut.drop k) = false := by
  rw [List.drop_eq_nil_of_le h]; cases ds.drop k <;> rfl
theorem drop_getD {l : List Nat} {k : Nat} (h : k < l.length) : l.drop k = l.getD k 0 :: l.drop (k + 1) := by
  rw [List.drop_eq_getElem_cons h]; simp [List.getD, h]
theorem lessP_drop_short {ds cut : List Nat} {k : Nat} (h : ds.length ≤ k) (h1 : k < cut.length) : lessP (ds.drop k) (cut.drop k) = true := by
  rw [List.drop_eq_nil_of_le h, drop_getD h1]; rfl
theorem lessP_drop_same {ds cut : List Nat} {k : Nat} (h : k < ds.length) (h1 : k < cut.length) (e : ds.getD k 0 = cut.getD k 0) : lessP (ds.drop k) (cut.drop k) = lessP (ds.drop (k + 1)) (cut.drop (k + 1)) := by
  rw [drop_getD h, drop_getD h1, lessP, if_pos e]
theorem lessP_drop_other {ds cut : List Nat} {k : Nat} (h : k < ds.length) (h1 : k < cut.length) (e : ds.getD k 0 ≠ cut.getD k 0) : lessP (ds.drop k) (cut.drop k) = decide (ds.getD k 0 < cut.getD k 0) := by
  rw [drop_getD h, drop_getD h1, lessP, if_neg e]
set_option maxHeartbeats 2000000 in
set_option maxRecDepth 100000 in
theorem prefix_any (b : Nat) (ds cut : List Nat) (nd cp : Nat) (s : ByteArray) (w : World) (hn : ds.length = nd) (h8 : nd ≤ 800) (hs : Spells s cut) (hs8 : s.size ≤ 800)
    (hc : ∀ i, i < nd → w.cell? ⟨b, i, none⟩ = some (.int .u8 ((ds.getD i 0 : Nat) + 48))) :
    Calls Tryz.prog 237 #[.slice (some ⟨b, 0, none⟩) nd cp, .string s] w fun e w' => e = .returned (.bool (lessP ds cut)) ∧ ∃ m, w' = w.drewN m := by
  have HN := Lib.hid hn
  have HS := Lib.hid hs
  have HC := Lib.hid hc
  clear hn hs hc
  go_enter Tryz.func237, Tryz.ntmps237
  go_wp2
  go_loopg [5] s.size (fun g v wr => ∃ k : Nat, g + k = s.size ∧ v = .int .i64 k ∧ lessP ds cut = lessP (ds.drop k) (cut.drop k) ∧ ∃ n, wr = w.drewN n)
  case atStart => exact ⟨0, rfl, rfl, rfl, 0, rfl⟩
  case round =>
    obtain ⟨k, hg, rfl, hl, n, rfl⟩ := hrel
    have HL := Lib.hid hl
    clear hl
    by_cases hks : k < s.size
    case neg =>
      have hks' : s.size ≤ k := by omega
      go_wp2
      go_ret
      have e := HL.out
      rw [lessP_drop_end (by rw [← HS.out.1]; exact hks')] at e
      rw [e]
      exact ⟨rfl, n, rfl⟩
    case pos =>
      by_cases hkn : k < nd
      case neg =>
        have hkn' : nd ≤ k := by omega
        go_wp2
        go_ret
        have e := HL.out
        rw [lessP_drop_short (by rw [HN.out]; exact hkn') (by rw [← HS.out.1]; exact hks)] at e
        rw [e]
        exact ⟨rfl, n, rfl⟩
      case pos =>
        have hkn' : ¬ nd ≤ k := by omega
        have c := HC.out k hkn
        obtain ⟨x, hx⟩ : ∃ x, ds.getD k 0 = x := ⟨_, rfl⟩
        obtain ⟨y, hy⟩ : ∃ y, (s[k].toNat : Int) = y := ⟨_, rfl⟩
        rw [hx] at c
        by_cases he : (x : Int) + 48 = y
        · have he' : (((x : Int) + 48) != y) = false := by simp [he]
          go_wp2
          go_quiet (fail)
          go_wp2
          go_roundg (s.size - (k + 1))
          case measure => omega
          case rel =>
            have e1 := HS.out.2 k hks
            rw [hy] at e1
            refine ⟨k + 1, by omega, by go_num, ?_, _, rfl⟩
            rw [HL.out]
            exact lessP_drop_same (by rw [HN.out]; exact hkn) (by rw [← HS.out.1]; exact hks) (by omega)
        · have he' : (((x : Int) + 48) != y) = true := bne_iff_ne.2 he
          go_wp2
          go_quiet (fail)
          go_wp2
          go_quiet (fail)
          go_wp2
          have e1 := HS.out.2 k hks
          rw [hy] at e1
          refine bodyPost_ret (v := .bool (decide ((x : Int) + 48 < y))) (by simp [results, Tryz.results237, go_sem]) rfl ⟨?_, _, by rw [World.drewN_drewN, World.drewN_drewN]⟩
          rw [HL.out, lessP_drop_other (by rw [HN.out]; exact hkn) (by rw [← HS.out.1]; exact hks) (by omega), hx]
          have e2 : decide ((x : Int) + 48 < y) = decide (x < cut.getD k 0) := decide_eq_decide.2 (by omega)
          rw [e2]
end Go.Proofs.YtaecbclonmhbcaaGreatDoor
