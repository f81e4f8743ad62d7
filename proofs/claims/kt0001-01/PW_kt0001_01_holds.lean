import PyProof.Rows.All
import Wide.All
import OpenK.AllK
import Wide.FinOn
import PySem.Challenge.RW_kt0001_01
set_option Elab.async false
set_option linter.all false
set_option rowWalk.seconds 0
namespace Mine
section
set_option autoImplicit false
noncomputable def d3 (a b c d e f g h i : Int) : Int := a * (e * i - f * h) - b * (d * i - f * g) + c * (d * h - e * g)
noncomputable def d4 (x00 x01 x02 x03 x10 x11 x12 x13 x20 x21 x22 x23 x30 x31 x32 x33 : Int) : Int :=
  x00 * d3 x11 x12 x13 x21 x22 x23 x31 x32 x33 - x01 * d3 x10 x12 x13 x20 x22 x23 x30 x32 x33 + x02 * d3 x10 x11 x13 x20 x21 x23 x30 x31 x33 - x03 * d3 x10 x11 x12 x20 x21 x22 x30 x31 x32
noncomputable def D (q0 q1 q2 q3 a b c d e f : Int) : Int :=
  d4 (q0 + a + b + c) (-a) (-b) (-c) (-a) (q1 + a + d + e) (-d) (-e) (-b) (-d) (q2 + b + d + f) (-f) (-c) (-e) (-f) (q3 + c + e + f)
set_option maxRecDepth 100000 in
theorem cl01 (t x00 x01 x02 x03 x10 x11 x12 x13 x20 x21 x22 x23 x30 x31 x32 x33 : Int) : d4 (x00 + t) (x01 - t) x02 x03 (x10 - t) (x11 + t) x12 x13 x20 x21 x22 x23 x30 x31 x32 x33 = d4 x00 x01 x02 x03 x10 x11 x12 x13 x20 x21 x22 x23 x30 x31 x32 x33 + t * d3 (x00 + x01 + x10 + x11) (x02 + x12) (x03 + x13) (x20 + x21) (x22) (x23) (x30 + x31) (x32) (x33) := by unfold d4 d3; grind (ringSteps := 1000000)
theorem z1 (x00 x02 x03 x20 x22 x23 x30 x32 x33 : Int) : d4 x00 0 x02 x03 0 1 0 0 x20 0 x22 x23 x30 0 x32 x33 = d3 x00 x02 x03 x20 x22 x23 x30 x32 x33 := by unfold d4 d3; grind
theorem s01 (q0 q1 q2 q3 a b c d e f : Int) : D q0 q1 q2 q3 a b c d e f = D q0 q1 q2 q3 0 b c d e f + a * D (q0 + q1) 1 q2 q3 0 (b + d) (c + e) 0 0 f := by
  have h1 : d4 (q0 + a + b + c) (-a) (-b) (-c) (-a) (q1 + a + d + e) (-d) (-e) (-b) (-d) (q2 + b + d + f) (-f) (-c) (-e) (-f) (q3 + c + e + f) = d4 ((q0 + 0 + b + c) + a) ((-0) - a) (-b) (-c) ((-0) - a) ((q1 + 0 + d + e) + a) (-d) (-e) (-b) (-d) (q2 + b + d + f) (-f) (-c) (-e) (-f) (q3 + c + e + f) := by congr 1 <;> omega
  have h2 : d4 ((q0 + q1) + 0 + (b + d) + (c + e)) (-0) (-(b + d)) (-(c + e)) (-0) (1 + 0 + 0 + 0) (-0) (-0) (-(b + d)) (-0) (q2 + (b + d) + 0 + f) (-f) (-(c + e)) (-0) (-f) (q3 + (c + e) + 0 + f) = d4 ((q0 + q1) + 0 + (b + d) + (c + e)) 0 (-(b + d)) (-(c + e)) 0 1 0 0 (-(b + d)) 0 (q2 + (b + d) + 0 + f) (-f) (-(c + e)) 0 (-f) (q3 + (c + e) + 0 + f) := by congr 1
  have h3 : d3 ((q0 + q1) + 0 + (b + d) + (c + e)) (-(b + d)) (-(c + e)) (-(b + d)) (q2 + (b + d) + 0 + f) (-f) (-(c + e)) (-f) (q3 + (c + e) + 0 + f) = d3 ((q0 + 0 + b + c) + (-0) + (-0) + (q1 + 0 + d + e)) ((-b) + (-d)) ((-c) + (-e)) ((-b) + (-d)) ((q2 + b + d + f)) ((-f)) ((-c) + (-e)) ((-f)) ((q3 + c + e + f)) := by congr 1 <;> omega
  unfold D
  rw [h1, cl01, h2, z1, h3]
theorem add_mul_congr {x x' t y y' : Int} (h : x = x') (g : y = y') : x + t * y = x' + t * y' := by rw [h, g]
set_option maxRecDepth 100000 in
theorem t01 (q0 q1 q2 q3 a b c d e f : Int) : D q0 q1 q2 q3 a b c d e f = D q1 q0 q2 q3 a d e b c f := by unfold D d4 d3; grind (ringSteps := 1000000)
set_option maxRecDepth 100000 in
theorem t12 (q0 q1 q2 q3 a b c d e f : Int) : D q0 q1 q2 q3 a b c d e f = D q0 q2 q1 q3 b a c d f e := by unfold D d4 d3; grind (ringSteps := 1000000)
set_option maxRecDepth 100000 in
theorem t23 (q0 q1 q2 q3 a b c d e f : Int) : D q0 q1 q2 q3 a b c d e f = D q0 q1 q3 q2 a c b e d f := by unfold D d4 d3; grind (ringSteps := 1000000)
theorem dbase (q0 q1 q2 q3 : Int) : D q0 q1 q2 q3 0 0 0 0 0 0 = q0 * q1 * q2 * q3 := by
  unfold D d4 d3
  simp only [Int.neg_zero, Int.add_zero, Int.zero_mul, Int.mul_zero, Int.sub_zero, Int.zero_add]
  grind
noncomputable def fil (xs ys : List Int) : List Int := xs.filter fun x => !ys.contains x
noncomputable def lk (k : Int) (kv : List (Int × Int)) : Int := match kv.find? (fun p => p.1 == k) with | some p => p.2 | none => 1
noncomputable def drawOne (n f e : Int) : Int := 4 * (if e / 4 = f then n else e / 4) + (if e % 4 = f then n else e % 4)
noncomputable def both (n f : Int) (kv : List (Int × Int)) : List (Int × Int) := (kv.filter fun p => !(p.1 == f)).map fun p => (p.1, p.2 + if p.1 = n then lk f kv else 0)
noncomputable def prodL : List Int → Int
  | [] => 1
  | x :: r => r.foldl (fun a b => a * b) x
noncomputable def worth : Nat → List Int → List (Int × Int) → Int
  | 0, _, _ => 0
  | k + 1, es, kv => match fil es [0, 5, 10, 15] with
    | [] => prodL (kv.map (·.2))
    | e :: r => worth k (fil (e :: r) [4 * (e / 4) + e % 4, 4 * (e % 4) + e / 4]) kv +
        (((e :: r).length : Int) - ((fil (e :: r) [4 * (e / 4) + e % 4, 4 * (e % 4) + e / 4]).length : Int)) *
          worth k ((fil (e :: r) [4 * (e / 4) + e % 4, 4 * (e % 4) + e / 4]).map (drawOne (e / 4) (e % 4))) (both (e / 4) (e % 4) kv)

noncomputable def ind (i j e : Int) : Int := if e = 4 * i + j ∨ e = 4 * j + i then 1 else 0
noncomputable def cnt (i j : Int) : List Int → Int
  | [] => 0
  | e :: r => ind i j e + cnt i j r

theorem fil_cons (e : Int) (r ys : List Int) : fil (e :: r) ys = if ys.contains e then fil r ys else e :: fil r ys := by
  unfold fil
  rw [List.filter_cons]
  cases ys.contains e <;> simp
theorem fil_mem {x : Int} {xs ys : List Int} : x ∈ fil xs ys ↔ x ∈ xs ∧ x ∉ ys := by
  unfold fil
  rw [List.mem_filter]
  simp
theorem ind_sym (i j e : Int) : ind i j e = ind j i e := by unfold ind; split <;> split <;> first | rfl | omega
theorem cnt_sym (i j : Int) : ∀ l, cnt i j l = cnt j i l
  | [] => rfl
  | e :: r => by unfold cnt; rw [ind_sym, cnt_sym i j r]
theorem cnt_fil {i j : Int} {ys : List Int} (h : ∀ y ∈ ys, ind i j y = 0) : ∀ l, cnt i j (fil l ys) = cnt i j l
  | [] => rfl
  | e :: r => by
    rw [fil_cons]
    cases hc : ys.contains e with
    | true =>
      simp only [if_true]
      rw [cnt_fil h r, cnt, h e (by simpa using hc)]; omega
    | false => simp only [Bool.false_eq_true, if_false, cnt]; rw [cnt_fil h r]
theorem cnt_out {i j : Int} : ∀ l, cnt i j (fil l [4 * i + j, 4 * j + i]) = 0
  | [] => rfl
  | e :: r => by
    rw [fil_cons]
    cases hc : [4 * i + j, 4 * j + i].contains e with
    | true => simp only [if_true]; exact cnt_out r
    | false =>
      simp only [Bool.false_eq_true, if_false, cnt]
      rw [cnt_out r]
      have : ¬ (e = 4 * i + j ∨ e = 4 * j + i) := by simpa using hc
      unfold ind; rw [if_neg this]; rfl
theorem len_out {i j : Int} : ∀ l, (l.length : Int) - ((fil l [4 * i + j, 4 * j + i]).length : Int) = cnt i j l
  | [] => rfl
  | e :: r => by
    have ih := len_out (i := i) (j := j) r
    rw [fil_cons]
    cases hc : [4 * i + j, 4 * j + i].contains e with
    | true =>
      have : e = 4 * i + j ∨ e = 4 * j + i := by simpa using hc
      simp only [if_true, cnt, List.length_cons]
      unfold ind; rw [if_pos this]; omega
    | false =>
      have : ¬ (e = 4 * i + j ∨ e = 4 * j + i) := by simpa using hc
      simp only [Bool.false_eq_true, if_false, cnt, List.length_cons]
      unfold ind; rw [if_neg this]; omega

noncomputable def Edge (e : Int) : Prop := 0 ≤ e ∧ e < 16
theorem fin4 {n : Int} (h : 0 ≤ n ∧ n ≤ 3) : ∃ a : Fin 4, n = (a.val : Int) := ⟨⟨n.toNat, by omega⟩, by show n = (n.toNat : Int); omega⟩
theorem fin16 {n : Int} (h : 0 ≤ n ∧ n < 16) : ∃ a : Fin 16, n = (a.val : Int) := ⟨⟨n.toNat, by omega⟩, by show n = (n.toNat : Int); omega⟩
theorem fin_nk : ∀ (n f k : Fin 4) (e : Fin 16), (n.val : Int) ≠ f.val → (k.val : Int) ≠ n.val → (k.val : Int) ≠ f.val → (e.val : Int) / 4 ≠ (e.val : Int) % 4 → (e.val : Int) ≠ 4 * n.val + f.val → (e.val : Int) ≠ 4 * f.val + n.val →
    ind n.val k.val (drawOne n.val f.val e.val) = ind n.val k.val e.val + ind f.val k.val e.val := by decide +kernel
theorem fin_ij : ∀ (n f i j : Fin 4) (e : Fin 16), (n.val : Int) ≠ f.val → (i.val : Int) ≠ n.val → (i.val : Int) ≠ f.val → (j.val : Int) ≠ n.val → (j.val : Int) ≠ f.val →
    ind i.val j.val (drawOne n.val f.val e.val) = ind i.val j.val e.val := by decide +kernel
theorem fin_fk : ∀ (n f k : Fin 4) (e : Fin 16), (n.val : Int) ≠ f.val → (e.val : Int) / 4 ≠ (e.val : Int) % 4 → (e.val : Int) ≠ 4 * n.val + f.val → (e.val : Int) ≠ 4 * f.val + n.val →
    ind f.val k.val (drawOne n.val f.val e.val) = 0 := by decide +kernel
theorem fin_ok : ∀ (n f : Fin 4) (e : Fin 16), (n.val : Int) ≠ f.val → (e.val : Int) / 4 ≠ (e.val : Int) % 4 → (e.val : Int) ≠ 4 * n.val + f.val → (e.val : Int) ≠ 4 * f.val + n.val →
    (0 ≤ drawOne n.val f.val e.val ∧ drawOne n.val f.val e.val < 16) ∧ (drawOne n.val f.val e.val / 4 = if (e.val : Int) / 4 = f.val then (n.val : Int) else (e.val : Int) / 4) ∧ (drawOne n.val f.val e.val % 4 = if (e.val : Int) % 4 = f.val then (n.val : Int) else (e.val : Int) % 4) := by decide +kernel
section
variable {n f : Int} (hn : 0 ≤ n ∧ n ≤ 3) (hf : 0 ≤ f ∧ f ≤ 3) (hnf : n ≠ f)
include hn hf hnf
theorem draw_nk {k : Int} (hk : 0 ≤ k ∧ k ≤ 3) (h1 : k ≠ n) (h2 : k ≠ f) : ∀ l : List Int, (∀ e ∈ l, Edge e ∧ e / 4 ≠ e % 4 ∧ e ≠ 4 * n + f ∧ e ≠ 4 * f + n) → cnt n k (l.map (drawOne n f)) = cnt n k l + cnt f k l
  | [], _ => rfl
  | e :: r, h => by
    have ih := draw_nk hk h1 h2 r fun x hx => h x (List.mem_cons_of_mem _ hx)
    obtain ⟨⟨e0, e1⟩, e2, e3, e4⟩ := h e List.mem_cons_self
    simp only [List.map_cons, cnt]
    have : ind n k (drawOne n f e) = ind n k e + ind f k e := by
      obtain ⟨a, rfl⟩ := fin4 hn
      obtain ⟨b, rfl⟩ := fin4 hf
      obtain ⟨c, rfl⟩ := fin4 hk
      obtain ⟨d, rfl⟩ := fin16 ⟨e0, e1⟩
      exact fin_nk a b c d hnf h1 h2 e2 e3 e4
    omega
theorem draw_ij {i j : Int} (hi : 0 ≤ i ∧ i ≤ 3) (hj : 0 ≤ j ∧ j ≤ 3) (h1 : i ≠ n) (h2 : i ≠ f) (h3 : j ≠ n) (h4 : j ≠ f) : ∀ l : List Int, (∀ e ∈ l, Edge e ∧ e / 4 ≠ e % 4 ∧ e ≠ 4 * n + f ∧ e ≠ 4 * f + n) → cnt i j (l.map (drawOne n f)) = cnt i j l
  | [], _ => rfl
  | e :: r, h => by
    have ih := draw_ij hi hj h1 h2 h3 h4 r fun x hx => h x (List.mem_cons_of_mem _ hx)
    obtain ⟨⟨e0, e1⟩, e2, e3, e4⟩ := h e List.mem_cons_self
    simp only [List.map_cons, cnt]
    have : ind i j (drawOne n f e) = ind i j e := by
      obtain ⟨a, rfl⟩ := fin4 hn
      obtain ⟨b, rfl⟩ := fin4 hf
      obtain ⟨c, rfl⟩ := fin4 hi
      obtain ⟨c', rfl⟩ := fin4 hj
      obtain ⟨d, rfl⟩ := fin16 ⟨e0, e1⟩
      exact fin_ij a b c c' d hnf h1 h2 h3 h4
    omega
theorem draw_fk {k : Int} (hk : 0 ≤ k ∧ k ≤ 3) : ∀ l : List Int, (∀ e ∈ l, Edge e ∧ e / 4 ≠ e % 4 ∧ e ≠ 4 * n + f ∧ e ≠ 4 * f + n) → cnt f k (l.map (drawOne n f)) = 0
  | [], _ => rfl
  | e :: r, h => by
    have ih := draw_fk hk r fun x hx => h x (List.mem_cons_of_mem _ hx)
    obtain ⟨⟨e0, e1⟩, e2, e3, e4⟩ := h e List.mem_cons_self
    simp only [List.map_cons, cnt]
    have : ind f k (drawOne n f e) = 0 := by
      obtain ⟨a, rfl⟩ := fin4 hn
      obtain ⟨b, rfl⟩ := fin4 hf
      obtain ⟨c, rfl⟩ := fin4 hk
      obtain ⟨d, rfl⟩ := fin16 ⟨e0, e1⟩
      exact fin_fk a b c d hnf e2 e3 e4
    omega
theorem draw_ok {e : Int} (h : Edge e) (h2 : e / 4 ≠ e % 4) (h3 : e ≠ 4 * n + f) (h4 : e ≠ 4 * f + n) : Edge (drawOne n f e) ∧ ((drawOne n f e) / 4 = if e / 4 = f then n else e / 4) ∧ ((drawOne n f e) % 4 = if e % 4 = f then n else e % 4) := by
  obtain ⟨e0, e1⟩ := h
  obtain ⟨a, rfl⟩ := fin4 hn
  obtain ⟨b, rfl⟩ := fin4 hf
  obtain ⟨d, rfl⟩ := fin16 ⟨e0, e1⟩
  exact fin_ok a b d hnf h2 h3 h4
end
theorem lk_cons (k : Int) (p : Int × Int) (r : List (Int × Int)) : lk k (p :: r) = if p.1 = k then p.2 else lk k r := by
  by_cases h : p.1 = k
  · rw [if_pos h]; unfold lk; simp [List.find?_cons, h]
  · rw [if_neg h]; unfold lk; simp [List.find?_cons, h]
theorem lk_out {k : Int} : ∀ {kv : List (Int × Int)}, k ∉ kv.map (·.1) → lk k kv = 1
  | [], _ => rfl
  | p :: r, h => by
    rw [List.map_cons, List.mem_cons, not_or] at h
    rw [lk_cons, if_neg (Ne.symm h.1), lk_out h.2]
noncomputable def bothV (n f v : Int) (kv : List (Int × Int)) : List (Int × Int) := (kv.filter fun p => !(p.1 == f)).map fun p => (p.1, p.2 + if p.1 = n then v else 0)
theorem bothV_cons (n f v : Int) (p : Int × Int) (r : List (Int × Int)) : bothV n f v (p :: r) = if p.1 = f then bothV n f v r else (p.1, p.2 + if p.1 = n then v else 0) :: bothV n f v r := by
  unfold bothV
  rw [List.filter_cons]
  by_cases h : p.1 = f <;> simp [h]
theorem bothV_keys (n f v : Int) : ∀ kv : List (Int × Int), (bothV n f v kv).map (·.1) = (kv.map (·.1)).filter fun k => !(k == f)
  | [] => rfl
  | p :: r => by
    have ih := bothV_keys n f v r
    rw [bothV_cons]
    by_cases h : p.1 = f
    · rw [if_pos h, ih]; simp [h]
    · rw [if_neg h, List.map_cons, ih]; simp [h]
theorem lk_bothV_f {n f v : Int} (kv : List (Int × Int)) : lk f (bothV n f v kv) = 1 := by
  refine lk_out ?_
  rw [bothV_keys]
  simp
theorem lk_bothV_n {n f v : Int} (hnf : n ≠ f) : ∀ {kv : List (Int × Int)}, n ∈ kv.map (·.1) → lk n (bothV n f v kv) = lk n kv + v
  | [], h => by simp at h
  | p :: r, h => by
    rw [bothV_cons, lk_cons]
    by_cases h1 : p.1 = f
    · rw [if_pos h1, if_neg (by omega)]
      refine lk_bothV_n hnf ?_
      rcases List.mem_cons.mp h with e | e
      · exact absurd (e.trans h1) hnf
      · exact e
    · rw [if_neg h1, lk_cons]
      by_cases h2 : p.1 = n
      · simp [h2]
      · simp only [if_neg h2]
        refine lk_bothV_n hnf ?_
        rcases List.mem_cons.mp h with e | e
        · exact absurd e.symm h2
        · exact e
theorem lk_bothV_k {n f v k : Int} (h1 : k ≠ n) (h2 : k ≠ f) : ∀ kv : List (Int × Int), lk k (bothV n f v kv) = lk k kv
  | [] => rfl
  | p :: r => by
    have ih := lk_bothV_k (v := v) h1 h2 r
    rw [bothV_cons, lk_cons]
    by_cases h3 : p.1 = f
    · rw [if_pos h3, if_neg (by omega), ih]
    · rw [if_neg h3, lk_cons]
      by_cases h4 : p.1 = k
      · simp only [h4, if_true]; rw [if_neg h1]; omega
      · simp only [if_neg h4, ih]
theorem both_V (n f : Int) (kv : List (Int × Int)) : both n f kv = bothV n f (lk f kv) kv := rfl

theorem foldl_mul (x y : Int) : ∀ l : List Int, l.foldl (fun a b => a * b) (x * y) = x * l.foldl (fun a b => a * b) y
  | [] => rfl
  | z :: r => by rw [List.foldl_cons, List.foldl_cons, Int.mul_assoc, foldl_mul x (y * z) r]
theorem prodL_foldr : ∀ l : List Int, prodL l = l.foldr (fun a b => a * b) 1
  | [] => rfl
  | x :: r => by
    show r.foldl (fun a b => a * b) x = x * r.foldr (fun a b => a * b) 1
    rw [← prodL_foldr r]
    cases r with
    | nil => simp [prodL]
    | cons y r => rw [List.foldl_cons]; exact foldl_mul x y r
theorem prod_keys {ks l : List Int} (h : l.Sublist ks) (hn : ks.Nodup) : ∀ kv : List (Int × Int), kv.map (·.1) = l → (kv.map (·.2)).foldr (fun a b => a * b) 1 = (ks.map fun k => lk k kv).foldr (fun a b => a * b) 1 := by
  induction h with
  | slnil => intro kv e; cases kv with | nil => rfl | cons p r => simp at e
  | @cons l ks a hs ih =>
    intro kv e
    have hn' := List.nodup_cons.mp hn
    rw [List.map_cons, List.foldr_cons, lk_out (by rw [e]; exact fun q => hn'.1 (hs.subset q)), Int.one_mul]
    exact ih hn'.2 kv e
  | @cons_cons l ks a hs ih =>
    intro kv e
    have hn' := List.nodup_cons.mp hn
    cases kv with
    | nil => simp at e
    | cons p r =>
      rw [List.map_cons] at e
      obtain ⟨e1, e2⟩ := List.cons.inj e
      rw [List.map_cons, List.foldr_cons, List.map_cons, List.foldr_cons, lk_cons, if_pos e1, ih hn'.2 r e2]
      congr 2
      refine List.map_congr_left fun k hk => ?_
      rw [lk_cons, if_neg]
      intro q
      exact hn'.1 (by rw [← e1, q]; exact hk)
theorem prod_D {kv : List (Int × Int)} (h : (kv.map (·.1)).Sublist [0, 1, 2, 3]) : prodL (kv.map (·.2)) = lk 0 kv * lk 1 kv * lk 2 kv * lk 3 kv := by
  rw [prodL_foldr, prod_keys h (by decide) kv rfl]
  simp only [List.map_cons, List.map_nil, List.foldr_cons, List.foldr_nil, Int.mul_one, Int.mul_assoc]

noncomputable def Fits (es : List Int) (kv : List (Int × Int)) : Prop := ∀ e ∈ es, Edge e ∧ e / 4 ∈ kv.map (·.1) ∧ e % 4 ∈ kv.map (·.1)
noncomputable def DD (kv : List (Int × Int)) (es : List Int) : Int := D (lk 0 kv) (lk 1 kv) (lk 2 kv) (lk 3 kv) (cnt 0 1 es) (cnt 0 2 es) (cnt 0 3 es) (cnt 1 2 es) (cnt 1 3 es) (cnt 2 3 es)
theorem loops_none {e : Int} (h : e ∉ [(0 : Int), 5, 10, 15]) (he : Edge e) : e / 4 ≠ e % 4 := by
  obtain ⟨a, rfl⟩ := fin16 he
  exact (show ∀ a : Fin 16, (a.val : Int) ∉ [(0 : Int), 5, 10, 15] → (a.val : Int) / 4 ≠ (a.val : Int) % 4 by decide +kernel) a h
theorem D_congr {q0 q1 q2 q3 a b c d e f q0' q1' q2' q3' a' b' c' d' e' f' : Int} (h0 : q0 = q0') (h1 : q1 = q1') (h2 : q2 = q2') (h3 : q3 = q3') (ha : a = a') (hb : b = b') (hc : c = c') (hd : d = d') (he : e = e') (hf : f = f') : D q0 q1 q2 q3 a b c d e f = D q0' q1' q2' q3' a' b' c' d' e' f' := by subst h0 h1 h2 h3 ha hb hc hd he hf; rfl
noncomputable def Dg (n f i j : Int) (kv : List (Int × Int)) (es : List Int) : Int := D (lk n kv) (lk f kv) (lk i kv) (lk j kv) (cnt n f es) (cnt n i es) (cnt n j es) (cnt f i es) (cnt f j es) (cnt i j es)
theorem g01 (n f i j : Int) (kv : List (Int × Int)) (es : List Int) : Dg n f i j kv es = Dg f n i j kv es := by unfold Dg; rw [t01, cnt_sym n f]
theorem g12 (n f i j : Int) (kv : List (Int × Int)) (es : List Int) : Dg n f i j kv es = Dg n i f j kv es := by unfold Dg; rw [t12, cnt_sym f i]
theorem g23 (n f i j : Int) (kv : List (Int × Int)) (es : List Int) : Dg n f i j kv es = Dg n f j i kv es := by unfold Dg; rw [t23, cnt_sym i j]
noncomputable def Two (n f i j : Int) : Prop := (0 ≤ i ∧ i ≤ 3) ∧ (0 ≤ j ∧ j ≤ 3) ∧ i ≠ n ∧ i ≠ f ∧ j ≠ n ∧ j ≠ f
noncomputable def Perm (n f : Int) : Prop := ∃ i j : Int, Two n f i j ∧ ∀ kv es, Dg n f i j kv es = Dg 0 1 2 3 kv es
theorem Perm.symm {n f : Int} (h : Perm n f) : Perm f n := by
  obtain ⟨i, j, T, k⟩ := h
  exact ⟨i, j, ⟨T.1, T.2.1, T.2.2.2.1, T.2.2.1, T.2.2.2.2.2, T.2.2.2.2.1⟩, fun kv es => (g01 ..).trans (k kv es)⟩
theorem p01 : Perm 0 1 := ⟨2, 3, by unfold Two; decide, fun _ _ => rfl⟩
theorem p02 : Perm 0 2 := ⟨1, 3, by unfold Two; decide, fun _ _ => g12 ..⟩
theorem p03 : Perm 0 3 := ⟨1, 2, by unfold Two; decide, fun _ _ => (g12 ..).trans (g23 ..)⟩
theorem p12 : Perm 1 2 := ⟨0, 3, by unfold Two; decide, fun _ _ => (g12 ..).trans (g01 ..)⟩
theorem p13 : Perm 1 3 := ⟨0, 2, by unfold Two; decide, fun _ _ => (g12 ..).trans ((g01 ..).trans (g23 ..))⟩
theorem p23 : Perm 2 3 := ⟨0, 1, by unfold Two; decide, fun _ _ => (g12 ..).trans ((g01 ..).trans ((g23 ..).trans (g12 ..)))⟩
theorem perm_all (n f : Fin 4) (h : (n.val : Int) ≠ f.val) : Perm n.val f.val := by
  have L : ∀ p ∈ [((0 : Int), (1 : Int)), (0, 2), (0, 3), (1, 2), (1, 3), (2, 3)], Perm p.1 p.2 := List.forall_mem_cons.mpr ⟨p01, List.forall_mem_cons.mpr ⟨p02, List.forall_mem_cons.mpr ⟨p03, List.forall_mem_cons.mpr ⟨p12, List.forall_mem_cons.mpr ⟨p13, List.forall_mem_singleton.mpr p23⟩⟩⟩⟩⟩
  exact ((show ∀ n f : Fin 4, (n.val : Int) ≠ f.val → ((n.val : Int), (f.val : Int)) ∈ [((0 : Int), (1 : Int)), (0, 2), (0, 3), (1, 2), (1, 3), (2, 3)] ∨ ((f.val : Int), (n.val : Int)) ∈ [((0 : Int), (1 : Int)), (0, 2), (0, 3), (1, 2), (1, 3), (2, 3)] by decide +kernel) n f h).elim (fun m => L _ m) fun m => (L _ m).symm
theorem fin_cs : ∀ n f i j : Fin 4, ¬ ((i.val : Int) = n.val ∧ (j.val : Int) = f.val) → ¬ ((i.val : Int) = f.val ∧ (j.val : Int) = n.val) → ind i.val j.val (4 * n.val + f.val) = 0 ∧ ind i.val j.val (4 * f.val + n.val) = 0 := by decide +kernel
theorem cnt_cs {n f i j : Int} (hn : 0 ≤ n ∧ n ≤ 3) (hf : 0 ≤ f ∧ f ≤ 3) (hi : 0 ≤ i ∧ i ≤ 3) (hj : 0 ≤ j ∧ j ≤ 3) (h1 : ¬ (i = n ∧ j = f)) (h2 : ¬ (i = f ∧ j = n)) (l : List Int) : cnt i j (fil l [4 * n + f, 4 * f + n]) = cnt i j l := by
  obtain ⟨a, rfl⟩ := fin4 hn
  obtain ⟨b, rfl⟩ := fin4 hf
  obtain ⟨c, rfl⟩ := fin4 hi
  obtain ⟨d, rfl⟩ := fin4 hj
  have h := fin_cs a b c d h1 h2
  exact cnt_fil (List.forall_mem_cons.mpr ⟨h.1, List.forall_mem_singleton.mpr h.2⟩) l
theorem edge_hi {e : Int} (h : Edge e) : 0 ≤ e / 4 ∧ e / 4 ≤ 3 := by unfold Edge at h; omega
theorem edge_lo {e : Int} (_h : Edge e) : 0 ≤ e % 4 ∧ e % 4 ≤ 3 := by omega
noncomputable def Rest (n f : Int) (l : List Int) : Prop := ∀ e ∈ l, Edge e ∧ e / 4 ≠ e % 4 ∧ e ≠ 4 * n + f ∧ e ≠ 4 * f + n
theorem step_D {n f : Int} (hn : 0 ≤ n ∧ n ≤ 3) (hf : 0 ≤ f ∧ f ≤ 3) (hnf : n ≠ f) {kv : List (Int × Int)} (hk : n ∈ kv.map (·.1)) (es : List Int) (hr : Rest n f (fil es [4 * n + f, 4 * f + n])) :
    Dg 0 1 2 3 kv (fil es [4 * n + f, 4 * f + n]) + cnt n f es * Dg 0 1 2 3 (both n f kv) ((fil es [4 * n + f, 4 * f + n]).map (drawOne n f)) = Dg 0 1 2 3 kv es := by
  obtain ⟨i, j, ⟨hi, hj, i1, i2, j1, j2⟩, P⟩ : Perm n f := by
    obtain ⟨a, rfl⟩ := fin4 hn
    obtain ⟨b, rfl⟩ := fin4 hf
    exact perm_all a b hnf
  rw [← P, ← P, ← P]
  have ni := cnt_cs hn hf hn hi (fun h => i2 h.2) (fun h => hnf h.1) es
  have nj := cnt_cs hn hf hn hj (fun h => j2 h.2) (fun h => hnf h.1) es
  have fi := cnt_cs hn hf hf hi (fun h => hnf h.1.symm) (fun h => i1 h.2) es
  have fj := cnt_cs hn hf hf hj (fun h => hnf h.1.symm) (fun h => j1 h.2) es
  have ij := cnt_cs hn hf hi hj (fun h => i1 h.1) (fun h => i2 h.1) es
  have add : ∀ {a b c d : Int}, a = c → b = d → a + b = c + d := fun h g => by rw [h, g]
  exact (add_mul_congr (D_congr rfl rfl rfl rfl (cnt_out es) ni nj fi fj ij) (D_congr (lk_bothV_n hnf hk) (lk_bothV_f kv) (lk_bothV_k i1 i2 kv) (lk_bothV_k j1 j2 kv) ((cnt_sym n f _).trans (draw_fk hn hf hnf hn _ hr))
    ((draw_nk hn hf hnf hi i1 i2 _ hr).trans (add ni fi)) ((draw_nk hn hf hnf hj j1 j2 _ hr).trans (add nj fj)) (draw_fk hn hf hnf hi _ hr) (draw_fk hn hf hnf hj _ hr) ((draw_ij hn hf hnf hi hj i1 i2 j1 j2 _ hr).trans ij))).trans (s01 ..).symm
theorem worth_D : ∀ (k : Nat) (es : List Int) (kv : List (Int × Int)), es.length < k → Fits es kv → (kv.map (·.1)).Sublist [0, 1, 2, 3] → worth k es kv = DD kv es := by
  intro k
  induction k with
  | zero => exact fun _ _ h => absurd h (Nat.not_lt_zero _)
  | succ k ih =>
    intro es kv hk hes hkv
    unfold worth
    have hlen : (fil es [0, 5, 10, 15]).length ≤ es.length := List.length_filter_le ..
    have hap : ∀ e ∈ fil es [0, 5, 10, 15], (Edge e ∧ e / 4 ∈ kv.map (·.1) ∧ e % 4 ∈ kv.map (·.1)) ∧ e / 4 ≠ e % 4 := fun e he =>
      ⟨hes e (fil_mem.mp he).1, loops_none (fil_mem.mp he).2 (hes e (fil_mem.mp he).1).1⟩
    have hD : DD kv es = DD kv (fil es [0, 5, 10, 15]) := D_congr rfl rfl rfl rfl (cnt_fil (by decide) es).symm (cnt_fil (by decide) es).symm (cnt_fil (by decide) es).symm (cnt_fil (by decide) es).symm (cnt_fil (by decide) es).symm (cnt_fil (by decide) es).symm
    rw [hD]
    have hle := Nat.lt_of_le_of_lt hlen hk
    clear hD hlen hk hes
    generalize fil es [0, 5, 10, 15] = ap at hle hap
    cases ap with
    | nil => exact (prod_D hkv).trans (dbase ..).symm
    | cons e r =>
      obtain ⟨⟨he, hn, hf⟩, hnf⟩ := hap e List.mem_cons_self
      have hr : ∀ x ∈ fil (e :: r) [4 * (e / 4) + e % 4, 4 * (e % 4) + e / 4], (Edge x ∧ x / 4 ∈ kv.map (·.1) ∧ x % 4 ∈ kv.map (·.1)) ∧ x / 4 ≠ x % 4 ∧ x ≠ 4 * (e / 4) + e % 4 ∧ x ≠ 4 * (e % 4) + e / 4 := by
        intro x hx
        obtain ⟨h1, h2⟩ := fil_mem.mp hx
        exact ⟨(hap x h1).1, (hap x h1).2, List.ne_of_not_mem_cons h2, List.ne_of_not_mem_cons (List.not_mem_of_not_mem_cons h2)⟩
      have hlt : (fil (e :: r) [4 * (e / 4) + e % 4, 4 * (e % 4) + e / 4]).length < k := by
        refine Nat.lt_of_le_of_lt ?_ (Nat.lt_of_succ_lt_succ hle)
        rw [fil_cons, if_pos (by rw [Int.mul_ediv_add_emod]; simp)]
        exact List.length_filter_le ..
      dsimp only
      rw [len_out, ih _ kv hlt (fun x hx => (hr x hx).1) hkv]
      have hkb : (both (e / 4) (e % 4) kv).map (·.1) = (kv.map (·.1)).filter fun k => !(k == e % 4) := bothV_keys _ _ _ kv
      have hin : ∀ k, k ∈ kv.map (·.1) → k ≠ e % 4 → k ∈ (both (e / 4) (e % 4) kv).map (·.1) := fun k h1 h2 => by rw [hkb, List.mem_filter]; exact ⟨h1, by simpa using h2⟩
      have hit : ∀ k, k ∈ kv.map (·.1) → (if k = e % 4 then e / 4 else k) ∈ (both (e / 4) (e % 4) kv).map (·.1) := fun k h => by
        split
        · exact hin _ hn hnf
        · rename_i q; exact hin _ h q
      rw [ih _ (both (e / 4) (e % 4) kv) (by rw [List.length_map]; exact hlt) (fun x hx => by
        obtain ⟨y, hy, rfl⟩ := List.mem_map.mp hx
        obtain ⟨⟨y0, y1, y2⟩, y3, y4, y5⟩ := hr y hy
        obtain ⟨h1, h2, h3⟩ := draw_ok (edge_hi he) (edge_lo he) hnf y0 y3 y4 y5
        exact ⟨h1, h2 ▸ hit _ y1, h3 ▸ hit _ y2⟩) (by rw [hkb]; exact List.filter_sublist.trans hkv)]
      exact step_D (edge_hi he) (edge_lo he) hnf hn (e :: r) fun x hx => ⟨(hr x hx).1.1, (hr x hx).2⟩
end
open PySem PySem.W PySem.Spec PySem.Calls PyProof.Rows
set_option maxRecDepth 100000 in
set_option maxHeartbeats 8000000 in
open_top hd for PySem.Challenge.rw_kt0001_01



noncomputable def BackK (g : Heap) (news : List (Addr × Obj)) (s : Shared) (R : Result → Shared → Prop) (v : Value) (s' : Shared) : Prop :=
  ∃ L' m', Fr g L' s'.heap m' ∧ (∀ p ∈ news, s'.heap.get? p.1 = some p.2) ∧ (s.heap.StaysIn s'.heap → R (.ok (.ret v)) s')

section
variable {prog : Program} {w : World} {A₀ A : Around} {s : Shared} {base h₀ : Heap} {outer : List Env} {L : Addr} {m : Str → Option Value} {env : Env} {news : List (Addr × Obj)} {K : Frag}
  {R : Result → Shared → Prop} {name qual : Str} {params : Arguments} {body : List Stmt} {scope : Scope} {dV kV doc pm cdv ct oc : Value} {an od : Option Addr} {osl : Array (Option Value)} {f : Addr} {args : Args} {binds : List (Str × Value)}
  {p : Program} {loose : List Str} {mean : ExcName → Option Value} {mg mb : Str → Option Value}

theorem hideAll_in (l : List (Addr × Obj)) {h : Heap} {b : Addr} {o : Obj} (e : h.get? b = some o) (hb : b ∉ l.map (·.1)) : (hideAll h (l.map (·.1))).get? b = some o := hideAll_get _ e hb

theorem back_stays {g : Heap} {s s' : Shared} {L' : Addr} {m' : Str → Option Value} (hg : ∀ b o, s.heap.get? b = some o → b ∉ news.map (·.1) → g.get? b = some o)
    (hn : ∀ p ∈ news, s.heap.get? p.1 = some p.2) (F : Fr g L' s'.heap m') (hk : ∀ p ∈ news, s'.heap.get? p.1 = some p.2) : s.heap.StaysIn s'.heap := fun b o e => by
  by_cases hb : b ∈ news.map (·.1)
  · obtain ⟨q, hq, rfl⟩ := List.mem_map.mp hb
    have e1 := hn q hq
    rw [e] at e1; cases e1
    exact hk q hq
  · exact F.keep _ _ (hg b o e hb)

theorem enter_plain (B : Below A₀ base outer h₀) (F : Fr h₀ L s.heap m) (X₀ : K.In h₀) (N : News h₀ L s.heap news) (T : Top p loose mean mg mb h₀) (hA : A.frames = some (env :: outer)) (hf : env.frame = some L) (hke : env.scope.kind = .function)
    (ho : K.lookup f = some ⟨oc, od, .func (fnOf name qual params body scope dV kV doc pm an cdv ct), osl⟩) (hcd : codeIn K cdv qual = true) (hroom : A.depth < recursionLimit)
    (hbind : BindsTo s (fnOf name qual params body scope dV kV doc pm an cdv ct) args binds) (hloc : ∀ y ∈ binds, scope.names.lookup y.1 = some .local)
    (h : ∀ g L' h₁, Fr g L' h₁ (fun y => binds.reverse.lookup y) → News g L' h₁ news → Below A base (env :: outer) g → K.In g → Top p loose mean mg mb g → (∀ p ∈ news, p.1 < L') → s.heap.objs.size = L' →
      (∀ b o, s.heap.get? b = some o → b ∉ news.map (·.1) → g.get? b = some o) →
      wpAny (model prog w) (A.deeper (envOf qual scope L' f cdv)) (execs body (envOf qual scope L' f cdv))
        (fun fl s' => BackK g news s R (match fl with | .ret v => v | _ => .none) s')
        (fun e s' => wpAny (model prog w) (A.deeper (envOf qual scope L' f cdv)) (leaving (envOf qual scope L' f cdv) e) (fun _ s'' => R (.error e) s'') (fun e' s'' => R (.error e') s'') s')
        { s with heap := h₁, toks := s.toks + binds.length })
    (hco : scope.isCoroutine = false) (hgen : scope.isGenerator = false) (hk : scope.kind = .function)
    (hcell : ∀ x ∈ scope.names, x.2 ≠ .cell) : codeAny (model prog w) A (.call (.ref f) args) R s := by
  obtain ⟨_, BG, st, _⟩ := groundX (R := R) B F N hA hf hke
  refine codeAny_call_def (fd := fnX name qual params body scope [] dV kV doc pm an cdv ct) (body := body) (binds := binds) hroom ((X₀.keeps F.keep) _ _ ho) rfl (T.nolimit.keeps F.keep) (codeRec_of (X₀.keeps F.keep) hcd) rfl hbind hcell hloc (fun h₁ hns hk₁ => ?_) hco hgen hk
  have hg : ∀ b o, s.heap.get? b = some o → b ∉ news.map (·.1) → (hideAll s.heap (news.map (·.1))).get? b = some o := fun b o e hb => hideAll_get _ e hb
  refine wpAny_mono (h _ s.heap.objs.size h₁ ⟨hns, fun b o e => hk₁ b o (of_hideAll _ e), Nat.le_of_eq (hideAll_size _ _)⟩
    (fun p hp => ⟨hk₁ _ _ (N p hp).1, Nat.ne_of_lt (Heap.lt_size (N p hp).1), hideAll_none _ (List.mem_map_of_mem hp)⟩) BG (X₀.keeps st) (T.keeps st) (fun p hp => Heap.lt_size (N p hp).1) rfl hg) (fun fl s' hl => ?_) fun _ _ y => y
  obtain ⟨L', m', F', hk', k⟩ := hl
  exact k (back_stays hg (fun p hp => (N p hp).1) F' hk')

theorem enter_cells (B : Below A₀ base outer h₀) (F : Fr h₀ L s.heap m) (X₀ : K.In h₀) (N : News h₀ L s.heap news) (T : Top p loose mean mg mb h₀) (hA : A.frames = some (env :: outer)) (hf : env.frame = some L) (hke : env.scope.kind = .function)
    (ho : K.lookup f = some ⟨oc, od, .func (fnOf name qual params body scope dV kV doc pm an cdv ct), osl⟩) (hcd : codeIn K cdv qual = true) (hroom : A.depth < recursionLimit)
    (hbind : BindsTo s (fnOf name qual params body scope dV kV doc pm an cdv ct) args binds) (hkind : (binds.all fun y => scope.names.lookup y.1 == some .local || scope.names.lookup y.1 == some .cell) = true)
    (hnd : ((cellsFrom 0 scope.names []).map (·.1)).Nodup)
    (h : ∀ g L' h₁ tk cells, Fr g L' h₁ (bindL (envOfC qual scope L' f cdv).kindOf binds fun _ => none) → News g L' h₁ (cells ++ news) →
      CellsAre (bindC (envOfC qual scope L' f cdv).kindOf binds fun _ => none) (cellsFrom (L' + 1) scope.names []) cells → Below A base (env :: outer) g → K.In g → Top p loose mean mg mb g → (∀ p ∈ news, p.1 < L') → s.heap.objs.size = L' →
      (∀ b o, s.heap.get? b = some o → b ∉ news.map (·.1) → g.get? b = some o) →
      wpAny (model prog w) (A.deeper (envOfC qual scope L' f cdv)) (execs body (envOfC qual scope L' f cdv))
        (fun fl s' => BackK g news s R (match fl with | .ret v => v | _ => .none) s')
        (fun e s' => wpAny (model prog w) (A.deeper (envOfC qual scope L' f cdv)) (leaving (envOfC qual scope L' f cdv) e) (fun _ s'' => R (.error e) s'') (fun e' s'' => R (.error e') s'') s')
        { s with heap := h₁, toks := tk })
    (hco : scope.isCoroutine = false) (hgen : scope.isGenerator = false) (hk : scope.kind = .function) : codeAny (model prog w) A (.call (.ref f) args) R s := by
  obtain ⟨_, BG, st, _⟩ := groundX (R := R) B F N hA hf hke
  refine codeAny_call_function hroom ((X₀.keeps F.keep) _ _ ho) rfl hco hgen rfl (codeRec_of (X₀.keeps F.keep) hcd) (hbind _ _ _ _ ?_)
  refine wpAny_newFunctionEnv_cells hk (kindsX hkind _) fun env' he s' x => ?_
  subst he
  refine ⟨(T.nolimit.keeps F.keep).keeps x.toInCall.keep, codeAny_func ?_⟩
  obtain ⟨h₁, tk, rfl, _⟩ := x.done
  have hk₁ := x.toInCall.keep
  obtain ⟨cells, NC, Y⟩ := Cl.news (h₀ := s.heap) (Nat.le_refl _) fun n c hm => ⟨x.cell n c (lookup_of_mem_nodup (cellsFrom_names scope.names 0 (s.heap.objs.size + 1) [] [] rfl ▸ hnd) hm), x.above n c hm⟩
  have hg : ∀ b o, s.heap.get? b = some o → b ∉ news.map (·.1) → (hideAll s.heap (news.map (·.1))).get? b = some o := fun b o e hb => hideAll_get _ e hb
  refine wpAny_mono (h _ s.heap.objs.size h₁ tk cells ⟨x.toInCall.ns, fun b o e => hk₁ b o (of_hideAll _ e), Nat.le_of_eq (hideAll_size _ _)⟩ (fun p hp => ?_) Y BG (X₀.keeps st) (T.keeps st) (fun p hp => Heap.lt_size (N p hp).1) rfl hg) (fun fl s' hl => ?_) fun _ _ y => y
  · rcases List.mem_append.mp hp with hp | hp
    · refine ⟨(NC p hp).1, (NC p hp).2.1, ?_⟩
      cases q : (hideAll s.heap (news.map (·.1))).get? p.1 with
      | none => rfl
      | some o => have := of_hideAll _ q; rw [(NC p hp).2.2] at this; cases this
    · exact ⟨hk₁ _ _ (N p hp).1, Nat.ne_of_lt (Heap.lt_size (N p hp).1), hideAll_none _ (List.mem_map_of_mem hp)⟩
  · obtain ⟨L', m', F', hk', k⟩ := hl
    exact k (back_stays hg (fun p hp => (N p hp).1) F' hk')
end

noncomputable def Gives (w : World) (f : Addr) (vs : List Value) (d u : Nat) (news : List (Addr × Obj)) (post : Heap → Heap → Value → Prop) : Prop :=
  ∀ (p : Program) (loose : List Str) (mean : ExcName → Option Value) (mg mb : Str → Option Value) (A₀ : Around) (dp un : Nat) (gd : Option (List Code)) (env : Env) (outer : List Env) (base h₀ : Heap) (L : Addr) (m : Str → Option Value) (s : Shared) (Q E : Value → Shared → Prop),
    Below A₀ base outer h₀ → Fr h₀ L s.heap m → env.frame = some L → env.scope.kind = .function → (hd.heap_39 w.params).In h₀ → Top p loose mean mg mb h₀ → News h₀ L s.heap news →
    dp + d < recursionLimit → un + u < cLine →
    (∀ r h' tk', s.heap.StaysIn h' → post s.heap h' r → Q r { s with heap := h', toks := tk' }) →
    wpAny (model Challenge.rw_kt0001_01.row.prog w) { handled := none, depth := dp, frames := some (env :: outer), guards := gd, units := un } (call (.ref f) vs) Q E s

theorem back_ret {g : Heap} {news news' : List (Addr × Obj)} {s : Shared} {R : Result → Shared → Prop} {v : Value} {L' : Addr} {m' : Str → Option Value} {h : Heap} {tk : Nat}
    (F : Fr g L' h m') (N : News g L' h news') (hs : ∀ p ∈ news, p ∈ news') (k : s.heap.StaysIn h → R (.ok (.ret v)) { s with heap := h, toks := tk }) : BackK g news s R v { s with heap := h, toks := tk } :=
  ⟨L', m', F, fun p hp => (N p (hs p hp)).1, k⟩

theorem gives_use {w : World} {f : Addr} {vs : List Value} {d u : Nat} {news : List (Addr × Obj)} {post : Heap → Heap → Value → Prop} (G : Gives w f vs d u news post)
    {p : Program} {loose : List Str} {mean : ExcName → Option Value} {mg mb : Str → Option Value} {A₀ : Around} {dp un : Nat} {gd : Option (List Code)} {env : Env} {outer : List Env} {base h₀ : Heap} {L : Addr} {m : Str → Option Value} {s : Shared} {Q E : Value → Shared → Prop} {news' : List (Addr × Obj)}
    (B : Below A₀ base outer h₀) (F : Fr h₀ L s.heap m) (hf : env.frame = some L) (hk : env.scope.kind = .function) (X : (hd.heap_39 w.params).In h₀) (T : Top p loose mean mg mb h₀) (N : News h₀ L s.heap news') (hs : ∀ p ∈ news, p ∈ news')
    (hd : dp + d < recursionLimit) (hu : un + u < cLine)
    (ret : ∀ r h' tk', Fr h₀ L h' m → News h₀ L h' news' → s.heap.StaysIn h' → post s.heap h' r → Q r { s with heap := h', toks := tk' }) :
    wpAny (model Challenge.rw_kt0001_01.row.prog w) { handled := none, depth := dp, frames := some (env :: outer), guards := gd, units := un } (call (.ref f) vs) Q E s :=
  G p loose mean mg mb A₀ dp un gd env outer base h₀ L m s Q E B F hf hk X T (fun q hq => N q (hs q hq)) hd hu fun r h' tk' hst hp =>
    ret r h' tk' ⟨F.ns.keeps hst, fun b o e => hst b o (F.keep b o e), F.above⟩ (fun q hq => ⟨hst _ _ (N q hq).1, (N q hq).2⟩) hst hp
section
inductive Del (d : Addr) : List (Addr × Obj) → List (Addr × Obj) → Prop
  | head {o r} : (∀ p ∈ r, p.1 ≠ d) → Del d ((d, o) :: r) r
  | tail {p r r'} : p.1 ≠ d → Del d r r' → Del d (p :: r) (p :: r')
theorem Del.spec {d : Addr} {l l' : List (Addr × Obj)} (h : Del d l l') : ∀ p ∈ l', p ∈ l ∧ p.1 ≠ d := by
  induction h with
  | head h => exact fun q hq => ⟨.tail _ hq, h q hq⟩
  | tail h _ ih =>
    intro q hq
    rcases List.mem_cons.mp hq with rfl | hq
    · exact ⟨.head _, h⟩
    · exact ⟨.tail _ (ih q hq).1, (ih q hq).2⟩
theorem Del.mem {d : Addr} {l l' : List (Addr × Obj)} (h : Del d l l') : ∃ o, (d, o) ∈ l := by
  induction h with
  | head _ => exact ⟨_, .head _⟩
  | tail _ _ ih => exact ih.elim fun o h => ⟨o, .tail _ h⟩

section
variable {prog : Program} {w : World} {A : Around} {E : Value → Shared → Prop} {s : Shared} {h₀ : Heap} {L : Addr} {m : Str → Option Value} {news news' : List (Addr × Obj)} {g : Obj → List (Addr × Obj)} {I : Addr} {R : Result → Shared → Prop} {env : Env} {target : Expr} {body orelse : List Stmt} {it : Value}

theorem fr_ext {h' : Heap} (F : Fr h₀ L s.heap m) (hm : (I, (o : Obj)) ∈ news) (N : News h₀ L s.heap news) (hs : Heap.ExtBut I s.heap h') : Fr h₀ L h' m :=
  ⟨F.ns.extBut hs (Ne.symm (N _ hm).2.1), fun b o e => hs b o (fun q => by have := (N _ hm).2.2; rw [← q, e] at this; cases this) (F.keep b o e), F.above⟩
theorem news_ext {h' : Heap} (N : News h₀ L s.heap news) (D : Del I news news') (hs : Heap.ExtBut I s.heap h') : News h₀ L h' news' :=
  fun p hp => ⟨hs _ _ (D.spec p hp).2 (N p (D.spec p hp).1).1, (N p (D.spec p hp).1).2⟩

noncomputable def FlFlow (prog : Program) (w : World) (A : Around) (R : Result → Shared → Prop) (again : Shared → Prop) (f : Flow) (s₃ : Shared) : Prop := match f with
  | .next => again s₃
  | .cont => again s₃
  | .brk => R (.ok .next) s₃
  | .ret v => R (.ok (.ret v)) s₃
noncomputable def FlTurn (prog : Program) (w : World) (A : Around) (R : Result → Shared → Prop) (target : Expr) (it : Value) (body orelse : List Stmt) (env : Env) (r : Option Value) (s₁ : Shared) : Prop := match r with
  | none => wpAny (model prog w) A (execs orelse env) (fun f s₃ => R (.ok f) s₃) (notedBy (model prog w) A env fun e s' => R (.error e) s') s₁
  | some v => wpAny (model prog w) A (letOwnedTupleGo target it v) (fun _ s₁' => wpAny (model prog w) A (assign target env v)
      (fun _ s₂ => wpAny (model prog w) A (execs body env) (FlFlow prog w A R fun s₃ => codeAny (model prog w) A (.forLoop target it body orelse env) R s₃) (notedBy (model prog w) A env fun e s' => R (.error e) s') s₂)
      (notedBy (model prog w) A env fun e s' => R (.error e) s') s₁') (notedBy (model prog w) A env fun e s' => R (.error e) s') s₁

theorem forLoop_step (h : wpAny (model prog w) A (pyNext it) (FlTurn prog w A R target it body orelse env) (notedBy (model prog w) A env fun e s' => R (.error e) s') s) :
    codeAny (model prog w) A (.forLoop target it body orelse env) R s := by
  refine codeAny_of_tree ?_
  show wpAny _ _ ((forTurn target it body orelse env).onRaise (fun x => do noteFrame x env; theTreesLotGoes x)) _ _ s
  rw [Around.under_of_weight rfl]
  refine wpAny_noted ?_
  simp only [forTurn]
  refine wpAny_bind (wpAny_standAt (wpAny_bind (wpAny_onRaise (wpAny_mono h (fun r s₁ h₁ => ?_) fun _ _ h' => wpAny_standAt h'))))
  cases r with
  | none => exact wpAny_pure ⟨rfl, codeAny_block h₁⟩
  | some v =>
    refine wpAny_bind (wpAny_mono h₁ (fun _ s₁' h₁ => ?_) fun _ _ h' => h')
    refine wpAny_bind (wpAny_mono h₁ (fun _ s₂ h₂ => wpAny_bind (wpAny_mono h₂ (fun f s₃ h₃ => ?_) fun _ _ h' => h')) fun _ _ h' => h')
    cases f with
    | next => exact wpAny_pure ⟨rfl, h₃⟩
    | cont => exact wpAny_pure ⟨rfl, h₃⟩
    | brk => exact wpAny_pure h₃
    | ret v => exact wpAny_pure h₃

theorem next_range {x left x' left' : Int} {Q : Option Value → Shared → Prop} (F : Fr h₀ L s.heap m) (N : News h₀ L s.heap news) (_hm : (I, itR x left) ∈ news) (hl : 0 < left) (hx : x + 1 = x') (hl' : left - 1 = left') (U : UpdF I (itR x left) news g)
    (h : ∀ h', Fr h₀ L h' m → News h₀ L h' (g (itR x' left')) → Q (some (.int x s.toks)) { s with heap := h', toks := s.toks + 1 }) : wpAny (model prog w) A (pyNext (.ref I)) Q E s := by
  subst hx hl'
  obtain ⟨own, rest, rfl, hg, h1, h2⟩ := U.split
  have hm := N (I, itR x left) (List.mem_append_right _ (.head _))
  refine wpAny_pyNext_range_item (hm.1 : IsRangeIter _ _ _ _ _) hl fun h' hi hs => h h' ?_ ?_
  · exact fr_ext (o := itR x left) F (List.mem_append_right _ (.head _)) N hs.extBut
  · rw [hg]; exact N.setAt h1 h2 hs hi
theorem next_range_end {x left : Int} {Q : Option Value → Shared → Prop} (hh : A.handled = none) (F : Fr h₀ L s.heap m) (N : News h₀ L s.heap news) (hm : (I, itR x left) ∈ news) (D : Del I news news') (hl : left ≤ 0)
    (h : ∀ h', Fr h₀ L h' m → News h₀ L h' news' → Q none { s with heap := h' }) : wpAny (model prog w) A (pyNext (.ref I)) Q E s :=
  wpAny_pyNext_range_end hh ((N _ hm).1 : IsRangeIter _ _ _ _ _) hl fun h' hs => h h' (fr_ext F hm N hs) (news_ext N D hs)

theorem iter_range {r : Addr} {a b : Int} {t u v : Tok} {n : Int} {Q : Value → Shared → Prop} (F : Fr h₀ L s.heap m) (N : News h₀ L s.heap news) (hr : IsRange s.heap r a b 1 t u v) (hsm : Builtin.Range.small a b 1 = true) (hn : Builtin.Range.rangeSize a b 1 = n)
    (h : ∀ I h', Fr h₀ L h' m → News h₀ L h' ((I, itR a n) :: news) → (∀ p ∈ news, p.1 < I) → Q (.ref I) { s with heap := h' }) : wpAny (model prog w) A (pyIter (.ref r)) Q E s := by
  refine wpAny_pyIter_range hr hsm ?_
  subst hn
  exact h _ _ (F.push _) (N.push F _) fun p hp => Heap.lt_size (N p hp).1
end

end
section
set_option genSizeOf false in
set_option genInjectivity false in
inductive AL
  | nil
  | new (za : Nat) (zl : AL)
  | old (za : Nat) (zl : AL)
noncomputable def AL.to : AL → List Nat
  | .nil => []
  | .new a r => a :: r.to
  | .old a r => a :: r.to
noncomputable def AL.ups : AL → List Nat
  | .nil => []
  | .new a r => a :: r.ups
  | .old _ r => r.ups
noncomputable def Ap : AL → Prop
  | .nil => True
  | .new a r => (∀ b ∈ r.to, b < a) ∧ Ap r
  | .old a r => (∀ b ∈ r.ups, b ≠ a) ∧ Ap r
theorem AL.ups_to : ∀ {l : AL}, ∀ b ∈ l.ups, b ∈ l.to
  | .nil, _, h => h
  | .new _ r, b, h => by
    rcases List.mem_cons.mp h with rfl | h
    · exact .head _
    · exact .tail _ (ups_to (l := r) b h)
  | .old _ r, b, h => .tail _ (ups_to (l := r) b h)
theorem lt_of_news {l : List Nat} {I : Addr} {news : List (Addr × Obj)} (h : ∀ p ∈ news, p.1 < I) (e : news.map (·.1) = l) : ∀ b ∈ l, b < I := fun b hb => by
  rw [← e] at hb
  obtain ⟨p, hp, rfl⟩ := List.mem_map.mp hb
  exact h p hp
theorem Ap.push {l : AL} {I : Addr} {news : List (Addr × Obj)} (S : Ap l) (h : ∀ p ∈ news, p.1 < I) (e : news.map (·.1) = l.to) : Ap (.new I l) := ⟨lt_of_news h e, S⟩
theorem Ap.up {l : AL} {D C : Addr} (S : Ap (.new D l)) (h : @LT.lt Nat _ D C) : Ap (.new C (.new D l)) := by
  refine ⟨fun b hb => ?_, S⟩
  rcases List.mem_cons.mp hb with rfl | hb
  · exact h
  · exact Nat.lt_trans (S.1 b hb) h
theorem Ap.mixed {l : AL} {c c2 : Addr} {news : List (Addr × Obj)} (S : Ap l) (hc : ∀ b ∈ l.ups, b ≠ c) (h : c2 = c ∨ ∀ p ∈ news, p.1 < c2) (e : news.map (·.1) = l.to) : Ap (.old c2 l) := by
  refine ⟨fun b hb => ?_, S⟩
  rcases h with rfl | h
  · exact hc b hb
  · exact Nat.ne_of_lt (lt_of_news h e b (AL.ups_to b hb))
inductive ShF (zd : Addr) (zo : Obj) : AL → List (Addr × Obj) → (Obj → List (Addr × Obj)) → Prop
  | head {zl zr} : ShF zd zo (.new zd zl) ((zd, zo) :: zr) (fun o' => (zd, o') :: zr)
  | tail {za zl zp zr zg} (zh : ShF zd zo zl zr zg) : ShF zd zo (.new za zl) (zp :: zr) (fun o' => zp :: zg o')
  | tailo {za zl zp zr zg} (zh : ShF zd zo zl zr zg) : ShF zd zo (.old za zl) (zp :: zr) (fun o' => zp :: zg o')
theorem ShF.mem {d : Addr} {o : Obj} {l : AL} {r : List (Addr × Obj)} {g : Obj → List (Addr × Obj)} (h : ShF d o l r g) : d ∈ l.ups := by
  induction h with
  | head => exact .head _
  | tail _ ih => exact .tail _ ih
  | tailo _ ih => exact ih
theorem map_tail {p : Addr × Obj} {r : List (Addr × Obj)} {a : Nat} {l : List Nat} (e : (p :: r).map (·.1) = a :: l) : p.1 = a ∧ r.map (·.1) = l := by
  rw [List.map_cons, List.cons.injEq] at e; exact e
theorem ne_rest {r : List (Addr × Obj)} {a : Nat} {l : List Nat} (e : r.map (·.1) = l) (h : ∀ b ∈ l, b < a) : ∀ p ∈ r, p.1 ≠ a := fun _ hp => Nat.ne_of_lt (h _ (e ▸ List.mem_map_of_mem hp))
theorem updF_of {d : Addr} {o : Obj} {l : AL} {news : List (Addr × Obj)} {g : Obj → List (Addr × Obj)} (S : Ap l) (h : ShF d o l news g) (e : news.map (·.1) = l.to) : UpdF d o news g := by
  induction h with
  | head => exact .head (ne_rest (map_tail e).2 S.1)
  | tail h ih => exact .tail ((map_tail e).1 ▸ Nat.ne_of_gt (S.1 _ (AL.ups_to _ h.mem))) (ih S.2 (map_tail e).2)
  | tailo h ih => exact .tail ((map_tail e).1 ▸ (S.1 _ h.mem).symm) (ih S.2 (map_tail e).2)
inductive ShU (zd : Addr) (zo zo' : Obj) : AL → List (Addr × Obj) → List (Addr × Obj) → Prop
  | head {zl zr} : ShU zd zo zo' (.new zd zl) ((zd, zo) :: zr) ((zd, zo') :: zr)
  | tail {za zl zp zr zs} (zh : ShU zd zo zo' zl zr zs) : ShU zd zo zo' (.new za zl) (zp :: zr) (zp :: zs)
  | tailo {za zl zp zr zs} (zh : ShU zd zo zo' zl zr zs) : ShU zd zo zo' (.old za zl) (zp :: zr) (zp :: zs)
theorem ShU.mem {d : Addr} {o o' : Obj} {l : AL} {r r' : List (Addr × Obj)} (h : ShU d o o' l r r') : d ∈ l.ups := by
  induction h with
  | head => exact .head _
  | tail _ ih => exact .tail _ ih
  | tailo _ ih => exact ih
theorem upd_of {d : Addr} {o o' : Obj} {l : AL} {news news' : List (Addr × Obj)} (S : Ap l) (h : ShU d o o' l news news') (e : news.map (·.1) = l.to) : Upd d o o' news news' := by
  induction h with
  | head => exact .head (ne_rest (map_tail e).2 S.1)
  | tail h ih => exact .tail ((map_tail e).1 ▸ Nat.ne_of_gt (S.1 _ (AL.ups_to _ h.mem))) (ih S.2 (map_tail e).2)
  | tailo h ih => exact .tail ((map_tail e).1 ▸ (S.1 _ h.mem).symm) (ih S.2 (map_tail e).2)
inductive ShD (zd : Addr) : AL → List (Addr × Obj) → List (Addr × Obj) → Prop
  | head {zl zo zr} : ShD zd (.new zd zl) ((zd, zo) :: zr) zr
  | tail {za zl zp zr zs} (zh : ShD zd zl zr zs) : ShD zd (.new za zl) (zp :: zr) (zp :: zs)
  | tailo {za zl zp zr zs} (zh : ShD zd zl zr zs) : ShD zd (.old za zl) (zp :: zr) (zp :: zs)
theorem ShD.mem {d : Addr} {l : AL} {r r' : List (Addr × Obj)} (h : ShD d l r r') : d ∈ l.ups := by
  induction h with
  | head => exact .head _
  | tail _ ih => exact .tail _ ih
  | tailo _ ih => exact ih
theorem del_of {d : Addr} {l : AL} {news news' : List (Addr × Obj)} (S : Ap l) (h : ShD d l news news') (e : news.map (·.1) = l.to) : Del d news news' := by
  induction h with
  | head => exact .head (ne_rest (map_tail e).2 S.1)
  | tail h ih => exact .tail ((map_tail e).1 ▸ Nat.ne_of_gt (S.1 _ (AL.ups_to _ h.mem))) (ih S.2 (map_tail e).2)
  | tailo h ih => exact .tail ((map_tail e).1 ▸ (S.1 _ h.mem).symm) (ih S.2 (map_tail e).2)
inductive ShS : List Nat → AL → AL → Prop
  | nil : ShS [] .nil .nil
  | knew {za zm zj zl} (zh : ShS zm zj zl) : ShS (za :: zm) (.new za zj) (.new za zl)
  | kold {za zm zj zl} (zh : ShS zm zj zl) : ShS (za :: zm) (.old za zj) (.old za zl)
  | snew {za zm zj zl} (zh : ShS zm zj zl) : ShS zm zj (.new za zl)
  | sold {za zm zj zl} (zh : ShS zm zj zl) : ShS zm zj (.old za zl)
theorem ShS.sub {m : List Nat} {j l : AL} (h : ShS m j l) : (∀ b ∈ j.to, b ∈ l.to) ∧ ∀ b ∈ j.ups, b ∈ l.ups := by
  induction h with
  | nil => exact ⟨fun _ h => h, fun _ h => h⟩
  | knew _ ih => exact ⟨fun b hb => (List.mem_cons.mp hb).elim (fun e => e ▸ .head _) (fun q => .tail _ (ih.1 b q)), fun b hb => (List.mem_cons.mp hb).elim (fun e => e ▸ .head _) (fun q => .tail _ (ih.2 b q))⟩
  | kold _ ih => exact ⟨fun b hb => (List.mem_cons.mp hb).elim (fun e => e ▸ .head _) (fun q => .tail _ (ih.1 b q)), ih.2⟩
  | snew _ ih => exact ⟨fun b hb => .tail _ (ih.1 b hb), fun b hb => .tail _ (ih.2 b hb)⟩
  | sold _ ih => exact ⟨fun b hb => .tail _ (ih.1 b hb), ih.2⟩
theorem Ap.sub {m : List Nat} {j l : AL} (S : Ap l) (h : ShS m j l) : Ap j := by
  induction h with
  | nil => trivial
  | knew h ih => exact ⟨fun b hb => S.1 b (h.sub.1 b hb), ih S.2⟩
  | kold h ih => exact ⟨fun b hb => S.1 b (h.sub.2 b hb), ih S.2⟩
  | snew _ ih => exact ih S.2
  | sold _ ih => exact ih S.2
theorem Ap.now {m : List Nat} {j l : AL} {g h : Heap} {L : Addr} {news : List (Addr × Obj)} (_N : News g L h news) (S : Ap l) (e : news.map (·.1) = m) (u : ShS m j l) : Ap j := (fun _ => S.sub u) e
inductive ShO : List Nat → AL → Prop
  | nil : ShO [] .nil
  | cons {za zm zl} (zh : ShO zm zl) : ShO (za :: zm) (.old za zl)
theorem ShO.ups {m : List Nat} {l : AL} (h : ShO m l) : l.ups = [] ∧ l.to = m ∧ Ap l := by
  induction h with
  | nil => exact ⟨rfl, rfl, trivial⟩
  | cons _ ih => exact ⟨ih.1, congrArg (_ :: ·) ih.2.1, (fun b hb => by rw [ih.1] at hb; cases hb), ih.2.2⟩
noncomputable def ApB (l : AL) (a : Nat) : Prop := Ap l ∧ ∀ b ∈ l.to, b ≤ a
theorem ApB.start {m : List Nat} {l : AL} {L : Addr} {news : List (Addr × Obj)} (h : ∀ p ∈ news, p.1 < L) (e : news.map (·.1) = m) (u : ShO m l) : ApB l L := ⟨u.ups.2.2, fun b hb => Nat.le_of_lt (lt_of_news h (e.trans u.ups.2.1.symm) b hb)⟩
theorem ApB.of {l : AL} {L : Addr} {news : List (Addr × Obj)} (h : ∀ p ∈ news, p.1 < L) (S : Ap l) (e : news.map (·.1) = l.to) : ApB l L := ⟨S, fun b hb => Nat.le_of_lt (lt_of_news h e b hb)⟩
theorem ApB.cell {l : AL} {a : Nat} (h : ApB l a) : ApB (.new (a + 1) l) (a + 1) := by
  refine ⟨⟨fun b hb => Nat.lt_succ_of_le (h.2 b hb), h.1⟩, fun b hb => ?_⟩
  rcases List.mem_cons.mp hb with rfl | hb
  · exact Nat.le_refl _
  · exact Nat.le_succ_of_le (h.2 b hb)
theorem Ap.nowB {l : AL} {a : Nat} {g h : Heap} {L : Addr} {news : List (Addr × Obj)} (_N : News g L h news) (S : ApB l a) (_e : news.map (·.1) = l.to) : Ap l := S.1
theorem Ap.subL {m : List Nat} {j l : AL} {I : Addr} {news : List (Addr × Obj)} (S : Ap l) (_h : ∀ p ∈ news, p.1 < I) (_e : news.map (·.1) = m) (u : ShS m j l) : Ap j := S.sub u
inductive ShC (zc : Addr) : AL → Prop
  | head {zl} : ShC zc (.old zc zl)
  | tail {za zl} (zh : ShC zc zl) : ShC zc (.new za zl)
  | tailo {za zl} (zh : ShC zc zl) : ShC zc (.old za zl)
theorem ShC.mem {c : Addr} {l : AL} (h : ShC c l) : c ∈ l.to := by
  induction h with
  | head => exact .head _
  | tail _ ih => exact .tail _ ih
  | tailo _ ih => exact .tail _ ih
theorem ShC.apart {c : Addr} {l : AL} (S : Ap l) (h : ShC c l) : ∀ b ∈ l.ups, b ≠ c := by
  induction h with
  | head => exact S.1
  | tail h ih =>
    intro b hb
    rcases List.mem_cons.mp hb with rfl | hb
    · exact Nat.ne_of_gt (S.1 c h.mem)
    · exact ih S.2 b hb
  | tailo _ ih => exact ih S.2
theorem Ap.call2 {l : AL} {c c2 : Addr} {news : List (Addr × Obj)} (S : Ap l) (u : ShC c l) (h : c2 = c ∨ ∀ p ∈ news, p.1 < c2) (e : news.map (·.1) = l.to) : Ap (.old c2 l) := S.mixed (u.apart S) h e
theorem Ap.lam {l : AL} {c c2 f : Addr} {news : List (Addr × Obj)} (S : Ap l) (u : ShC c l) (l1 : ∀ p ∈ news, p.1 < f) (l2 : @LT.lt Nat _ c2 f) (h : c2 = c ∨ ∀ p ∈ news, p.1 < c2) (e : news.map (·.1) = l.to) : Ap (.new f (.old c2 l)) := by
  refine ⟨fun b hb => ?_, S.call2 u h e⟩
  rcases List.mem_cons.mp hb with rfl | hb
  · exact l2
  · exact lt_of_news l1 e b hb
theorem Ap.worth {a d c : Addr} (ha : @LT.lt Nat _ 99 a) (hd : @LT.lt Nat _ 99 d) (hc : @LT.lt Nat _ 99 c) : Ap (.old a (.old d (.old c (.new 99 .nil)))) := by
  have one : ∀ {x : Nat}, @LT.lt Nat _ 99 x → ∀ b ∈ [99], b ≠ x := fun h b hb => by
    rw [List.mem_singleton.mp hb]; exact Nat.ne_of_lt h
  exact ⟨one ha, one hd, one hc, (fun _ h => by cases h), trivial⟩
theorem ApB.tab {L : Addr} (h : @LT.lt Nat _ 99 L) : ApB (.new 99 .nil) L := ⟨⟨(fun _ q => by cases q), trivial⟩, fun b hb => by rw [List.mem_singleton.mp hb]; exact Nat.le_of_lt h⟩

end
section
open PyProof.Rows.LCg (NsObj lst)
noncomputable def LIt (o : Obj) (l : Addr) (i : Nat) : Prop := o.cls = .type "list_iterator" ∧ o.data = .fields #[.ref l, .int i 0]
noncomputable def TIt (o : Obj) (l : Addr) (i : Nat) : Prop := o.cls = .type "tuple_iterator" ∧ o.data = .fields #[.ref l, .int i 0]

inductive ItemAt : List Value → Nat → Value → Prop
  | zero {v r} : ItemAt (v :: r) 0 v
  | succ {u r i v} : ItemAt r i v → ItemAt (u :: r) (i + 1) v
theorem ItemAt.get {l : List Value} {i : Nat} {v : Value} (h : ItemAt l i v) : l.toArray[i]? = some v := by
  induction h with
  | zero => simp
  | succ _ ih => simpa using ih
inductive OffAt : List Value → Nat → Prop
  | nil {i} : OffAt [] i
  | succ {u r i} : OffAt r i → OffAt (u :: r) (i + 1)
theorem OffAt.get {l : List Value} {i : Nat} (h : OffAt l i) : l.toArray[i]? = none := by
  induction h with
  | nil => simp
  | succ _ ih => simpa using ih

section
variable {prog : Program} {w : World} {A : Around} {E : Value → Shared → Prop} {s : Shared} {h₀ : Heap} {L : Addr} {m : Str → Option Value} {news news' : List (Addr × Obj)} {g : Obj → List (Addr × Obj)} {I l : Addr} {oI : Obj} {i : Nat} {its : Array Value} {vs : List Value} {n : Nat} {v : Value}

theorem append_L {D : Addr} {Q : Value → Shared → Prop} (F : Fr h₀ L s.heap m) (N : News h₀ L s.heap news) (U : Upd D (W.listOf vs.toArray n) (W.listOf (vs ++ [v]).toArray (n + 1)) news news')
    (h : ∀ h', Fr h₀ L h' m → News h₀ L h' news' → Q .none { s with heap := h' }) (hsz : vs.length ≤ sizeLine) : wpAny (model prog w) A (call (.builtin "list.append") [.ref D, v]) Q E s :=
  append_K (its := vs.toArray) F N (by have e : vs.toArray.push v = (vs ++ [v]).toArray := by simp
                                       rw [e]; exact U) h (by simpa using hsz)

theorem iter_list {Q : Value → Shared → Prop} (F : Fr h₀ L s.heap m) (N : News h₀ L s.heap news) (hm : (l, W.listOf its n) ∈ news)
    (h : ∀ I oI h', Fr h₀ L h' m → News h₀ L h' ((I, oI) :: news) → LIt oI l 0 → (∀ p ∈ news, p.1 < I) → Q (.ref I) { s with heap := h' }) : wpAny (model prog w) A (pyIter (.ref l)) Q E s := by
  refine wpAny_pyIter_list (items := its) ⟨_, (N _ hm).1, rfl, n, rfl⟩ ?_
  exact h _ _ _ (F.push _) (N.push F _) ⟨rfl, rfl⟩ fun p hp => Heap.lt_size (N p hp).1
theorem next_list {Q : Option Value → Shared → Prop} (F : Fr h₀ L s.heap m) (N : News h₀ L s.heap news) (_hmI : (I, oI) ∈ news) (hI : LIt oI l i) (U : UpdF I oI news g) (hm : (l, W.listOf vs.toArray n) ∈ news) (hx : ItemAt vs i v)
    (h : ∀ h' oI', Fr h₀ L h' m → News h₀ L h' (g oI') → LIt oI' l (i + 1) → Q (some v) { s with heap := h' }) : wpAny (model prog w) A (pyNext (.ref I)) Q E s := by
  obtain ⟨own, rest, rfl, hg, h1, h2⟩ := U.split
  have hmI := N (I, oI) (List.mem_append_right _ (.head _))
  refine wpAny_pyNext_list_item (items := vs.toArray) ⟨oI, hmI.1, hI⟩ ⟨_, (N _ hm).1, rfl, n, rfl⟩ hx.get fun h' hi hs => ?_
  obtain ⟨oI', e, hI'⟩ := hi
  exact h h' oI' (fr_ext F (List.mem_append_right _ (.head _)) N hs.extBut) (hg oI' ▸ N.setAt h1 h2 hs e) hI'
theorem next_list_end {Q : Option Value → Shared → Prop} (hh : A.handled = none) (F : Fr h₀ L s.heap m) (N : News h₀ L s.heap news) (hI : LIt oI l i) (hmI : (I, oI) ∈ news) (hm : (l, W.listOf vs.toArray n) ∈ news) (hx : OffAt vs i) (D : Del I news news')
    (h : ∀ h', Fr h₀ L h' m → News h₀ L h' news' → Q none { s with heap := h' }) : wpAny (model prog w) A (pyNext (.ref I)) Q E s :=
  wpAny_pyNext_list_end hh ⟨oI, (N _ hmI).1, hI⟩ ⟨_, (N _ hm).1, rfl, n, rfl⟩ hx.get fun h' hs => h h' (fr_ext F hmI N hs) (news_ext N D hs)
theorem self_list {Q : Value → Shared → Prop} (N : News h₀ L s.heap news) (hmI : (I, oI) ∈ news) (hI : LIt oI l i) (h : Q (.ref I) s) : wpAny (model prog w) A (pyIter (.ref I)) Q E s :=
  wpAny_pyIter_listiter ⟨oI, (N _ hmI).1, hI⟩ h

theorem iter_tuple {Q : Value → Shared → Prop} (F : Fr h₀ L s.heap m) (N : News h₀ L s.heap news) (hm : (l, ({ cls := .type "tuple", data := .seq its n } : Obj)) ∈ news)
    (h : ∀ I oI h', Fr h₀ L h' m → News h₀ L h' ((I, oI) :: news) → TIt oI l 0 → (∀ p ∈ news, p.1 < I) → Q (.ref I) { s with heap := h' }) : wpAny (model prog w) A (pyIter (.ref l)) Q E s := by
  refine wpAny_pyIter_tuple (items := its) ⟨_, (N _ hm).1, rfl, n, rfl⟩ ?_
  exact h _ _ _ (F.push _) (N.push F _) ⟨rfl, rfl⟩ fun p hp => Heap.lt_size (N p hp).1
theorem next_tuple {Q : Option Value → Shared → Prop} (F : Fr h₀ L s.heap m) (N : News h₀ L s.heap news) (_hmI : (I, oI) ∈ news) (hI : TIt oI l i) (U : UpdF I oI news g) (hm : (l, ({ cls := .type "tuple", data := .seq vs.toArray n } : Obj)) ∈ news) (hx : ItemAt vs i v)
    (h : ∀ h' oI', Fr h₀ L h' m → News h₀ L h' (g oI') → TIt oI' l (i + 1) → Q (some v) { s with heap := h' }) : wpAny (model prog w) A (pyNext (.ref I)) Q E s := by
  obtain ⟨own, rest, rfl, hg, h1, h2⟩ := U.split
  have hmI := N (I, oI) (List.mem_append_right _ (.head _))
  refine wpAny_pyNext_tuple_item (items := vs.toArray) ⟨oI, hmI.1, hI⟩ ⟨_, (N _ hm).1, rfl, n, rfl⟩ hx.get fun h' hi hs => ?_
  obtain ⟨oI', e, hI'⟩ := hi
  exact h h' oI' (fr_ext F (List.mem_append_right _ (.head _)) N hs.extBut) (hg oI' ▸ N.setAt h1 h2 hs e) hI'
theorem next_tuple_end {Q : Option Value → Shared → Prop} (hh : A.handled = none) (F : Fr h₀ L s.heap m) (N : News h₀ L s.heap news) (hI : TIt oI l i) (hmI : (I, oI) ∈ news) (hm : (l, ({ cls := .type "tuple", data := .seq vs.toArray n } : Obj)) ∈ news) (hx : OffAt vs i) (D : Del I news news')
    (h : ∀ h', Fr h₀ L h' m → News h₀ L h' news' → Q none { s with heap := h' }) : wpAny (model prog w) A (pyNext (.ref I)) Q E s :=
  wpAny_pyNext_tuple_end hh ⟨oI, (N _ hmI).1, hI⟩ ⟨_, (N _ hm).1, rfl, n, rfl⟩ hx.get fun h' hs => h h' (fr_ext F hmI N hs) (news_ext N D hs)
theorem self_range {x left : Int} {Q : Value → Shared → Prop} (N : News h₀ L s.heap news) (hmI : (I, itR x left) ∈ news) (h : Q (.ref I) s) : wpAny (model prog w) A (pyIter (.ref I)) Q E s :=
  wpAny_pyIter_rangeiter ((N _ hmI).1 : IsRangeIter _ _ _ _ _) h
end

section
variable {prog : Program} {w : World} {A : Around} {E : Value → Shared → Prop} {s : Shared} {h₀ : Heap} {L : Addr} {m : Str → Option Value} {env : Env} {R : Result → Shared → Prop} {elt target iter : Expr} {ifs : List Expr} {scope : Scope} {pos : Pos} {it acc : Value}

noncomputable def CTestL (prog : Program) (w : World) (A : Around) (E : Value → Shared → Prop) (R : Result → Shared → Prop) (elt : Expr) (gens : List Comprehension) (scope : Scope) (pos : Pos) (it acc : Value) (env : Env) (ok : Bool) (s₃ : Shared) : Prop := match ok with
  | true => wpAny (model prog w) A (eval elt env) (fun x s₄ => wpAny (model prog w) A (call (.builtin "list.append") [acc, x])
      (fun _ s₅ => codeAny (model prog w) A (.compLoop (.ListComp elt gens scope pos) 0 it acc env) R s₅) E s₄) E s₃
  | false => codeAny (model prog w) A (.compLoop (.ListComp elt gens scope pos) 0 it acc env) R s₃
noncomputable def CTestsL (prog : Program) (w : World) (A : Around) (E : Value → Shared → Prop) (R : Result → Shared → Prop) (elt : Expr) (gens : List Comprehension) (scope : Scope) (pos : Pos) (it acc : Value) (env : Env) (ifs : List Expr) (s₂ : Shared) : Prop := match ifs with
  | [] => CTestL prog w A E R elt gens scope pos it acc env true s₂
  | [c] => wpAny (model prog w) A (isTrue c env (eval c env)) (CTestL prog w A E R elt gens scope pos it acc env) E s₂
  | _ => False
noncomputable def CTurnL (prog : Program) (w : World) (A : Around) (E : Value → Shared → Prop) (R : Result → Shared → Prop) (elt : Expr) (gens : List Comprehension) (scope : Scope) (pos : Pos) (it acc : Value) (env : Env) (target : Expr) (ifs : List Expr) (r : Option Value) (s₁ : Shared) : Prop := match r with
  | none => R (.ok .next) s₁
  | some v => wpAny (model prog w) A (letOwnedTupleGo target it v) (fun _ s₁' => wpAny (model prog w) A (assign target env v) (fun _ s₂ => CTestsL prog w A E R elt gens scope pos it acc env ifs s₂) E s₁') E s₁

theorem compL_step (h : wpAny (model prog w) A (pyNext it) (CTurnL prog w A (notedBy (model prog w) A env fun e s' => R (.error e) s') R elt [⟨target, iter, ifs, 0⟩] scope pos it acc env target ifs) (notedBy (model prog w) A env fun e s' => R (.error e) s') s) :
    codeAny (model prog w) A (.compLoop (.ListComp elt [⟨target, iter, ifs, 0⟩] scope pos) 0 it acc env) R s := by
  refine codeAny_of_tree ?_
  show wpAny _ A ((compTurn (.ListComp elt [⟨target, iter, ifs, 0⟩] scope pos) 0 it acc env).onRaise (fun x => do noteFrame x env; theTreesLotGoes x)) _ _ s
  refine wpAny_noted ?_
  rw [compTurn_list]
  refine wpAny_bind (wpAny_standAt (wpAny_bind (wpAny_mono h (fun r s₁ h₁ => ?_) fun _ _ h' => h')))
  cases r with
  | none => exact wpAny_pure h₁
  | some v =>
    refine wpAny_bind (wpAny_mono h₁ (fun _ s₁' h₁ => ?_) fun _ _ h' => h')
    refine wpAny_bind (wpAny_mono h₁ (fun _ s₂ h₂ => ?_) fun _ _ h' => h')
    have fin : ∀ ok s₃, CTestL prog w A (notedBy (model prog w) A env fun e s' => R (.error e) s') R elt [⟨target, iter, ifs, 0⟩] scope pos it acc env ok s₃ →
        wpAny (model prog w) A (if ok = true then (eval elt env >>= fun x => call (.builtin "list.append") [acc, x] >>= fun _ => pure ()) >>= fun _ => again (.compLoop (.ListComp elt [⟨target, iter, ifs, 0⟩] scope pos) 0 it acc env) else again (.compLoop (.ListComp elt [⟨target, iter, ifs, 0⟩] scope pos) 0 it acc env))
          (fun fin s' => match fin with | .done f => R (.ok f) s' | .again c' => c'.quiet = true ∧ codeAny (model prog w) A c' R s') (notedBy (model prog w) A env fun e s' => R (.error e) s') s₃ := by
      intro ok s₃ h₃
      cases ok with
      | false => exact wpAny_pure ⟨rfl, h₃⟩
      | true => exact wpAny_bind (wpAny_bind (wpAny_mono h₃ (fun x s₄ h₄ => wpAny_bind (wpAny_mono h₄ (fun _ s₅ h₅ => wpAny_pure (wpAny_pure ⟨rfl, h₅⟩)) fun _ _ h' => h')) fun _ _ h' => h'))
    match ifs, h₂, fin with
    | [], h₂, fin => exact wpAny_bind (wpAny_tests_nil (fin true s₂ h₂))
    | [c], h₂, fin => exact wpAny_bind (wpAny_tests_one (wpAny_mono h₂ (fun ok s₃ h₃ => fin ok s₃ h₃) fun _ _ h' => h'))
    | _ :: _ :: _, h₂, _ => exact h₂.elim

theorem compL_start {I : Addr} (hself : ∀ (Q : Value → Shared → Prop) (E : Value → Shared → Prop), Q (.ref I) s → wpAny (model prog w) A (pyIter (.ref I)) Q E s)
    (h : codeAny (model prog w) A (.compLoop (.ListComp elt [⟨target, iter, ifs, 0⟩] scope pos) 0 (.ref I) acc env) R s) :
    codeAny (model prog w) A (.compStart (.ListComp elt [⟨target, iter, ifs, 0⟩] scope pos) 0 (.ref I) acc env) R s := codeAny_compStart_list h (hself _ _ h)

noncomputable def LcFin (h₀ : Heap) (L : Addr) (m : Str → Option Value) (C D : Addr) (Q : Value → Shared → Prop) (s' : Shared) : Prop :=
  ∃ oC m' news news', Fr h₀ L s'.heap m ∧ News h₀ L s'.heap news ∧ (C, oC) ∈ news ∧ NsObj oC m' ∧ Del C news news' ∧ ∀ h'', Fr h₀ L h'' m → News h₀ L h'' news' → Q (.ref D) { s' with heap := h'' }
theorem LcFin.intro {C D : Addr} {Q : Value → Shared → Prop} {oC : Obj} {m' : Str → Option Value} {news news' : List (Addr × Obj)} (F : Fr h₀ L s.heap m) (N : News h₀ L s.heap news) (hC : NsObj oC m') (hm : (C, oC) ∈ news) (hD : Del C news news')
    (h : ∀ h'', Fr h₀ L h'' m → News h₀ L h'' news' → Q (.ref D) { s with heap := h'' }) : LcFin h₀ L m C D Q s := ⟨oC, m', news, news', F, N, hm, hC, hD, h⟩
noncomputable def LcR (prog : Program) (w : World) (A : Around) (E : Value → Shared → Prop) (h₀ : Heap) (L : Addr) (m : Str → Option Value) (C D : Addr) (Q : Value → Shared → Prop) (r : Result) (s' : Shared) : Prop := match r with
  | .ok _ => LcFin h₀ L m C D Q s'
  | .error e => compPost (model prog w) A E none Q (.ref D) C (.error e) s'
theorem LcR.post {C D : Addr} {Q : Value → Shared → Prop} {r : Result} {s' : Shared} (h : LcR prog w A E h₀ L m C D Q r s') : compPost (model prog w) A E none Q (.ref D) C r s' := by
  cases r with
  | error e => exact h
  | ok f =>
    obtain ⟨oC, m', news, news', F, N, hm, hC, hD, k⟩ := h
    refine ⟨m', hC.ns (N _ hm).1, fun h' hs => k h' (fr_ext F hm N hs.extBut) (news_ext N hD hs.extBut)⟩

noncomputable def LcAt (prog : Program) (w : World) (A : Around) (h₀ : Heap) (L : Addr) (m : Str → Option Value) (env : Env) (elt : Expr) (gens : List Comprehension) (scope : Scope) (cl : List (Str × Addr)) (pos : Pos) (RR : Addr → Addr → Result → Shared → Prop) (it : Value) (s₂ : Shared) : Prop :=
  ∃ I news, it = .ref I ∧ Fr h₀ L s₂.heap m ∧ News h₀ L s₂.heap news ∧ ∀ D C oC h' tk', Fr h₀ L h' m → News h₀ L h' ((C, oC) :: (D, W.listOf #[] 0) :: news) → NsObj oC (fun _ => none) → D < C → (∀ p ∈ news, p.1 < D) →
    codeAny (model prog w) A (.compStart (.ListComp elt gens scope pos) 0 (.ref I) (.ref D) (compEnvC scope cl C env)) (RR D C) { s₂ with heap := h', toks := tk' }
theorem LcAt.intro {gens : List Comprehension} {cl : List (Str × Addr)} {RR : Addr → Addr → Result → Shared → Prop} {I : Addr} {news : List (Addr × Obj)} (F : Fr h₀ L s.heap m) (N : News h₀ L s.heap news)
    (h : ∀ D C oC h' tk', Fr h₀ L h' m → News h₀ L h' ((C, oC) :: (D, W.listOf #[] 0) :: news) → NsObj oC (fun _ => none) → D < C → (∀ p ∈ news, p.1 < D) →
      codeAny (model prog w) A (.compStart (.ListComp elt gens scope pos) 0 (.ref I) (.ref D) (compEnvC scope cl C env)) (RR D C) { s with heap := h', toks := tk' }) :
    LcAt prog w A h₀ L m env elt gens scope cl pos RR (.ref I) s := ⟨I, news, rfl, F, N, h⟩

noncomputable def LcFinU (h₀ : Heap) (L : Addr) (C : Addr) (Q : Flow → Shared → Prop) (s' : Shared) : Prop :=
  ∃ oC m' mm news news', Fr h₀ L s'.heap mm ∧ News h₀ L s'.heap news ∧ (C, oC) ∈ news ∧ NsObj oC m' ∧ Del C news news' ∧ ∀ h'', Fr h₀ L h'' mm → News h₀ L h'' news' → Q .next { s' with heap := h'' }
theorem LcFinU.intro {C : Addr} {Q : Flow → Shared → Prop} {oC : Obj} {m' mm : Str → Option Value} {news news' : List (Addr × Obj)} (F : Fr h₀ L s.heap mm) (N : News h₀ L s.heap news) (hC : NsObj oC m') (hm : (C, oC) ∈ news) (hD : Del C news news')
    (h : ∀ h'', Fr h₀ L h'' mm → News h₀ L h'' news' → Q .next { s with heap := h'' }) : LcFinU h₀ L C Q s := ⟨oC, m', mm, news, news', F, N, hm, hC, hD, h⟩
noncomputable def LcRU (prog : Program) (w : World) (A : Around) (E : Value → Shared → Prop) (h₀ : Heap) (L : Addr) (env : Env) (y : Str) (py : Pos) (Q : Flow → Shared → Prop) (D C : Addr) (r : Result) (s' : Shared) : Prop := match r with
  | .ok _ => wpAny (model prog w) A (assign (.Name y py) env (.ref D)) (fun _ s'' => LcFinU h₀ L C Q s'') E s'
  | .error e => compPost (model prog w) A E (some (assign (.Name y py) env)) (fun _ s' => Q .next s') (.ref D) C (.error e) s'
theorem LcRU.post {y : Str} {py : Pos} {D C : Addr} {Q : Flow → Shared → Prop} {r : Result} {s' : Shared} (h : LcRU prog w A E h₀ L env y py Q D C r s') :
    compPost (model prog w) A E (some (assign (.Name y py) env)) (fun _ s' => Q .next s') (.ref D) C r s' := by
  cases r with
  | error e => exact h
  | ok f =>
    refine wpAny_mono (h : wpAny (model prog w) A (assign (.Name y py) env (.ref D)) (fun _ s'' => LcFinU h₀ L C Q s'') E s') (fun _ s'' h₂ => ?_) fun _ _ e => e
    obtain ⟨oC, m', mm, news, news', F, N, hm, hC, hD, k⟩ := h₂
    exact ⟨m', hC.ns (N _ hm).1, fun h' hs => k h' (fr_ext F hm N hs.extBut) (news_ext N hD hs.extBut)⟩

theorem comp_frame {s₂ : Shared} {h₁ : Heap} {oD : Obj} {news : List (Addr × Obj)} (hfree : oD.isFreed = false) (F : Fr h₀ L s₂.heap m) (N : News h₀ L s₂.heap news)
    (hns : h₁.Ns (s₂.heap.push oD).objs.size (fun _ => none)) (hk : ∀ b o, (s₂.heap.push oD).get? b = some o → h₁.get? b = some o) :
    ∃ oC, Fr h₀ L h₁ m ∧ News h₀ L h₁ (((s₂.heap.push oD).objs.size, oC) :: (s₂.heap.objs.size, oD) :: news) ∧ NsObj oC (fun _ => none) ∧ s₂.heap.objs.size < (s₂.heap.push oD).objs.size ∧ ∀ p ∈ news, p.1 < s₂.heap.objs.size := by
  obtain ⟨oC, eC, hC⟩ := LCg.ns_obj hns
  have F₁ := F.push oD
  have N₁ := N.push F oD hfree
  have hlt : s₂.heap.objs.size < (s₂.heap.push oD).objs.size := by rw [Heap.size_push]; exact Nat.lt_succ_self _
  have hL : L < s₂.heap.objs.size := F.ns.lt
  refine ⟨oC, F₁.keeps hk, fun p hp => ?_, hC, hlt, fun p hp => Heap.lt_size (N p hp).1⟩
  rcases List.mem_cons.mp hp with rfl | hp
  · refine ⟨eC, Nat.ne_of_gt (Nat.lt_trans hL hlt), ?_⟩
    exact Heap.get?_none_of_le (Nat.le_trans F.above (Nat.le_of_lt (Nat.lt_trans hL hlt)))
  · exact ⟨hk _ _ (N₁ p hp).1, (N₁ p hp).2⟩

theorem lc_enter {cl : List (Str × Addr)} {Q : Value → Shared → Prop} (_F₀ : Fr h₀ L s.heap m) (hclos : closureFor scope env = pure cl) (hcell : ∀ y ∈ scope.names, y.2 ≠ .cell) (hkind : scope.kind = .function)
    (hnames : ∀ y ∈ scope.names, y.2 = .local → scope.names.lookup y.1 = some .local)
    (h : wpAny (model prog w) A (eval iter env) (fun xv s₁ => wpAny (model prog w) A (pyIter xv) (LcAt prog w A h₀ L m env elt [⟨target, iter, ifs, 0⟩] scope cl pos (fun D C => LcR prog w A E h₀ L m C D Q)) E s₁) E s)
    (hs : ∀ x, foldedSetIterable iter env x = pure x := by intro _; rfl) :
    wpAny (model prog w) A (eval (.ListComp elt [⟨target, iter, ifs, 0⟩] scope pos) env) Q E s := by
  rw [eval_ListComp]
  refine wpAny_comprehension_free (use := none) rfl hs hclos hkind hnames (wpAny_mono h (fun xv s₁ h₁ => wpAny_mono h₁ (fun it s₂ h₂ => ?_) fun _ _ e => e) fun _ _ e => e)
  obtain ⟨I, news, rfl, F, N, k⟩ := h₂
  refine wpAny_newObj_type (wpAny_newFunctionEnv hcell (by intro y hy; simp at hy) (fun h₁ hns₁ hsb₁ => ?_) hkind)
  dsimp only at hns₁ hsb₁ ⊢
  have hk : ∀ b o, (s₂.heap.push (W.listOf #[] 0)).get? b = some o → h₁.get? b = some o := fun b o e => hsb₁.extBut b o (Nat.ne_of_lt (Heap.lt_size e)) (Heap.get?_push_of_some _ e)
  obtain ⟨oC, F', N', hC, hlt, l1⟩ := comp_frame (oD := W.listOf #[] 0) rfl F N hns₁ hk
  exact codeAny_mono (k _ _ oC h₁ _ F' N' hC hlt l1) fun r s' hr => hr.post

theorem lcA_enter {cl : List (Str × Addr)} {y : Str} {py spos : Pos} {Q : Flow → Shared → Prop} (_F₀ : Fr h₀ L s.heap m) (hsw : swapsWith (.ListComp elt [⟨target, iter, ifs, 0⟩] scope pos) (some (.Name y py)) spos.line env = pure true)
    (hclos : closureFor scope env = pure cl) (hcell : ∀ y ∈ scope.names, y.2 ≠ .cell) (hkind : scope.kind = .function)
    (hnames : ∀ y ∈ scope.names, y.2 = .local → scope.names.lookup y.1 = some .local)
    (h : wpAny (model prog w) A (eval iter env) (fun xv s₁ => wpAny (model prog w) A (pyIter xv) (LcAt prog w A h₀ L m env elt [⟨target, iter, ifs, 0⟩] scope cl pos (LcRU prog w A E h₀ L env y py Q)) E s₁) E s)
    (hs : ∀ x, foldedSetIterable iter env x = pure x := by intro _; rfl) :
    wpAny (model prog w) A (exec (.Assign [.Name y py] (.ListComp elt [⟨target, iter, ifs, 0⟩] scope pos) spos) env) Q E s := by
  rw [exec_Assign_Name_used _ _ _ _ hsw]
  refine wpAny_bind (wpAny_standAt (wpAny_bind ?_))
  show wpAny _ A (do let _ ← comprehension (.ListComp elt [⟨target, iter, ifs, 0⟩] scope pos) scope env _ (newList []) false (eval iter env) (some (assign (.Name y py) env))) _ _ s
  refine wpAny_bind (wpAny_mono (wpAny_comprehension_free (use := some (assign (.Name y py) env)) (Q := fun _ s' => Q .next s') rfl hs hclos hkind hnames (wpAny_mono h (fun xv s₁ h₁ => wpAny_mono h₁ (fun it s₂ h₂ => ?_) fun _ _ e => e) fun _ _ e => e)) (fun _ s' hq => wpAny_pure (wpAny_pure hq)) fun _ _ e => e)
  obtain ⟨I, news, rfl, F, N, k⟩ := h₂
  refine wpAny_newObj_type (wpAny_newFunctionEnv hcell (by intro y hy; simp at hy) (fun h₁ hns₁ hsb₁ => ?_) hkind)
  dsimp only at hns₁ hsb₁ ⊢
  have hk : ∀ b o, (s₂.heap.push (W.listOf #[] 0)).get? b = some o → h₁.get? b = some o := fun b o e => hsb₁.extBut b o (Nat.ne_of_lt (Heap.lt_size e)) (Heap.get?_push_of_some _ e)
  obtain ⟨oC, F', N', hC, hlt, l1⟩ := comp_frame (oD := W.listOf #[] 0) rfl F N hns₁ hk
  exact codeAny_mono (k _ _ oC h₁ _ F' N' hC hlt l1) fun r s' hr => hr.post
end

section
variable {M : Model} {A : Around} {E : Value → Shared → Prop} {s : Shared} {h₀ : Heap} {L : Addr} {m m₂ : Str → Option Value} {news : List (Addr × Obj)} {g : Obj → List (Addr × Obj)} {C : Addr} {oC : Obj} {env : Env} {scope : Scope} {cl : List (Str × Addr)} {x : Str} {v : Value}
theorem storeC {Q : Unit → Shared → Prop} (F : Fr h₀ L s.heap m) (N : News h₀ L s.heap news) (U : UpdF C oC news g) (hC : NsObj oC m₂)
    (h : ∀ h' oC', Fr h₀ L h' m → News h₀ L h' (g oC') → NsObj oC' (fun y => if y = x then some v else m₂ y) → Q () { s with heap := h', toks := s.toks + 1 })
    (hk : (compEnvC scope cl C env).scope.kind = .function) (hl : (compEnvC scope cl C env).kindOf x = some .local) : wpAny M A (storeName (compEnvC scope cl C env) x v) Q E s := by
  obtain ⟨own, rest, rfl, hg, h1, h2⟩ := U.split
  have hm := N (C, oC) (List.mem_append_right _ (.head _))
  refine wpAny_storeName_local hl (hC.ns hm.1) (fun h' hn hs => ?_) (by rw [hk]; rfl)
  obtain ⟨oC', e, hC'⟩ := LCg.ns_obj hn
  exact h h' oC' (fr_ext F (List.mem_append_right _ (.head _)) N hs.extBut) (hg oC' ▸ N.setAt h1 h2 hs e) hC'
end

section
variable {prog : Program} {w : World} {A : Around} {E : Value → Shared → Prop} {s : Shared} {h₀ : Heap} {L : Addr} {news : List (Addr × Obj)} {l : Addr} {vs : List Value} {n : Nat} {v : Value}
theorem item_L {value slice : PySem.Expr} {k : Int} {u : Tok} {Q : Value → Shared → Prop} (N : News h₀ L s.heap news) (hm : (l, W.listOf vs.toArray n) ∈ news) (h0 : 0 ≤ k) (hhi : k < 2 ^ 63) (hx : ItemAt vs k.toNat v) (h : Q v s)
    (hs : subscripted slice false (.ref l) (.int k u) = operate [.ref l, .int k u] (getItem (.ref l) (.int k u))) :
    wpAny (model prog w) A (subscriptTail value slice (.ref l) (.int k u)) Q E s :=
  have hl : s.heap.IsList l vs.toArray := ⟨_, (N _ hm).1, rfl, n, rfl⟩
  tail_any hl.typeIs slot_list_getitem.lookup (wpAny_getItem_list hl h0 hhi hx.get h) hs
theorem ItemAt.getL {l : List Value} {i : Nat} {v : Value} (h : ItemAt l i v) : i < l.length ∧ l[i]? = some v := by
  induction h with
  | zero => simp
  | succ _ ih => simpa using ih
theorem item_T {value slice : PySem.Expr} {k : Int} {u : Tok} {Q : Value → Shared → Prop} (N : News h₀ L s.heap news) (hm : (l, ({ cls := .type "tuple", data := .seq vs.toArray n } : Obj)) ∈ news) (h0 : 0 ≤ k) (hhi : k < 2 ^ 63) (hx : ItemAt vs k.toNat v) (h : Q v s)
    (hs : subscripted slice false (.ref l) (.int k u) = operate [.ref l, .int k u] (getItem (.ref l) (.int k u))) :
    wpAny (model prog w) A (subscriptTail value slice (.ref l) (.int k u)) Q E s :=
  item_tupleT (j := k.toNat) ⟨_, (N _ hm).1, rfl, n, rfl⟩ (by omega) hhi (by have := hx.getL.1; unfold seqIndex?; simp; omega) hx.getL.2 h hs
end

end
section
open PyProof.Rows.LCg (NsObj)
section
variable (prog : Program) (w : World)
noncomputable def DictIs (o : Obj) (kvs : List (Int × Value)) (ep : Nat) : Prop := ∃ es, o.ExactDict ∧ o.data = .dict es ep ∧ KeysOf (intKind prog w) es ∧ Pairs (intKind prog w) es.toList kvs ∧ (kvs.map (·.1)).Nodup
end
noncomputable def KIt (o : Obj) (d : Addr) (i n ep : Nat) : Prop := o.cls = .type "dict_keyiterator" ∧ o.data = .fields #[.ref d, .int i 0, .int n 0, .int ep 0]

section
variable {prog : Program} {w : World} {A : Around} {E : Value → Shared → Prop} {s : Shared} {h₀ : Heap} {L : Addr} {m : Str → Option Value} {news news' : List (Addr × Obj)} {g : Obj → List (Addr × Obj)} {I d : Addr} {o oI : Obj} {i n ep : Nat} {kvs : List (Int × Value)} {k : Int} {t : Tok} {v : Value}

theorem DictIs.at (h : DictIs prog w o kvs ep) (N : News h₀ L s.heap news) (hm : (d, o) ∈ news) : s.heap.DictAt (intKind prog w) d kvs ep :=
  let ⟨es, r⟩ := h; ⟨o, es, (N _ hm).1, r⟩
theorem dictAt_map {h : Heap} (x : h.DictAt (intKind prog w) d kvs ep) : h.MapOf (intKind prog w) d (fun k => valueAt kvs k) := by
  obtain ⟨o, es, ho, hc, hd, hk, hp, hn⟩ := x
  refine ⟨o, es, ep, ho, hc, hd, hk, fun k => ?_⟩
  unfold findBy
  rw [← Array.find?_toList]
  exact hp.find k
theorem int_is (k : Int) (t : Tok) : (intKind prog w).is k (.int k t) = true := by simp [intKind, Value.isInt]

theorem item_D {value slice : PySem.Expr} {Q : Value → Shared → Prop} (N : News h₀ L s.heap news) (hm : (d, o) ∈ news) (hD : DictIs prog w o kvs ep) (hk : valueAt kvs k = some v) (h : Q v { s with toks := s.toks + 1 })
    (hs : subscripted slice false (.ref d) (.int k t) = operate [.ref d, .int k t] (getItem (.ref d) (.int k t))) :
    wpAny (model prog w) A (subscriptTail value slice (.ref d) (.int k t)) Q E s :=
  have hm' := dictAt_map (hD.at N hm)
  tail_any hm'.typeIs slot_dict_getitem.lookup (wpAny_getItem_of (int_is k t) hm' hk h) hs

theorem dset_new {Q : Unit → Shared → Prop} (F : Fr h₀ L s.heap m) (N : News h₀ L s.heap news) (_hm : (d, o) ∈ news) (hD : DictIs prog w o kvs ep) (hk : k ∉ kvs.map (·.1)) (hz : kvs.length ≤ 1000) (U : UpdF d o news g)
    (h : ∀ h' o', Fr h₀ L h' m → News h₀ L h' (g o') → DictIs prog w o' (kvs ++ [(k, v)]) (ep + 1) → Q () { s with heap := h', toks := s.toks + 1 }) :
    wpAny (model prog w) A (dictSet d (.int k t) v) Q E s := by
  obtain ⟨own, rest, rfl, hg, h1, h2⟩ := U.split
  have hm := N (d, o) (List.mem_append_right _ (.head _))
  obtain ⟨es, hc, hdat, hkeys, hp, hn⟩ := hD
  have ho := hm.1
  have hkey : (intKind prog w).is k (.int k t) = true := int_is k t
  have hidx : es.findIdx? (fun e => (intKind prog w).is k e.key) = none := by
    have e := hp.findIdx k
    have e2 : kvs.findIdx? (fun kv => decide (kv.1 = k)) = none := by
      rw [List.findIdx?_eq_none_iff]
      intro kv hkv
      refine decide_eq_false fun q => hk ?_
      rw [← q]; exact List.mem_map_of_mem hkv
    rw [e2] at e
    rw [← e, ← List.findIdx?_toArray]
  have hsz : es.size = kvs.length := by rw [← hp.length]; simp
  unfold dictSet
  try with_reducible refine wpAny_holding ?_
  refine wpAny_bind ((intKind prog w).pyHash hkey ?_)
  unfold dictSetHashed
  try with_reducible refine wpAny_holding ?_
  refine wpAny_bind (wpAny_dictFind_of (s := { s with toks := s.toks + 1 }) hkey ho hdat hkeys ?_)
  rw [hidx]
  refine wpAny_bind (wpAny_rule ?_)
  refine wpAny_updateDictKeys (hz := by rw [hsz, sizeLine_eq]; omega) (s := { s with toks := s.toks + 1 }) ho hdat ?_
  obtain ⟨c, dd, dt, sl⟩ := o
  simp only at hdat; subst hdat
  have hget : (s.heap.update d (Obj.mapDictKeys (·.push ⟨(intKind prog w).hash k, .int k t, v⟩))).get? d = some ⟨c, dd, .dict (es.push ⟨(intKind prog w).hash k, .int k t, v⟩) (ep + 1), sl⟩ :=
    Heap.get?_update_self _ ho rfl
  refine h _ ⟨c, dd, .dict (es.push ⟨(intKind prog w).hash k, .int k t, v⟩) (ep + 1), sl⟩ (fr_ext (o := ⟨c, dd, .dict es ep, sl⟩) F (List.mem_append_right _ (.head _)) N (Heap.SameBut.update ..).extBut) (by rw [hg]; exact N.setAt h1 h2 (Heap.SameBut.update ..) hget) ⟨_, hc, rfl, hkeys.push hkey _, ?_, ?_⟩
  · rw [Array.toList_push]
    have app : ∀ {a : List DictEntry} {b : List (Int × Value)}, Pairs (intKind prog w) a b → Pairs (intKind prog w) (a ++ [⟨(intKind prog w).hash k, .int k t, v⟩]) (b ++ [(k, v)]) := by
      intro a b hab
      induction hab with
      | nil => exact .cons hkey rfl .nil
      | cons x y _ ih => exact .cons x y ih
    exact app hp
  · rw [List.map_append, List.nodup_append]
    refine ⟨hn, by simp, ?_⟩
    intro a ha b hb q
    simp at hb
    subst hb
    exact hk (q ▸ ha)

theorem iter_D {Q : Value → Shared → Prop} (F : Fr h₀ L s.heap m) (N : News h₀ L s.heap news) (hm : (d, o) ∈ news) (hD : DictIs prog w o kvs ep) (hs : (d == sysModules) = false)
    (h : ∀ I oI h', Fr h₀ L h' m → News h₀ L h' ((I, oI) :: news) → KIt oI d 0 kvs.length ep → (∀ p ∈ news, p.1 < I) → Q (.ref I) { s with heap := h' }) : wpAny (model prog w) A (pyIter (.ref d)) Q E s := by
  refine wpAny_pyIter_dict hs (hD.at N hm) ?_
  exact h _ _ _ (F.push _) (N.push F _) ⟨rfl, rfl⟩ fun p hp => Heap.lt_size (N p hp).1
theorem next_D {Q : Option Value → Shared → Prop} (F : Fr h₀ L s.heap m) (N : News h₀ L s.heap news) (_hmI : (I, oI) ∈ news) (hI : KIt oI d i n ep) (hm : (d, o) ∈ news) (hD : DictIs prog w o kvs ep) (hn : n = kvs.length) (hx : kvs[i]? = some (k, v)) (U : UpdF I oI news g)
    (h : ∀ t h' oI', Fr h₀ L h' m → News h₀ L h' (g oI') → KIt oI' d (i + 1) n ep → Q (some (.int k t)) { s with heap := h' }) : wpAny (model prog w) A (pyNext (.ref I)) Q E s := by
  obtain ⟨own, rest, rfl, hg, h1, h2⟩ := U.split
  subst hn
  have hmI := N (I, oI) (List.mem_append_right _ (.head _))
  refine wpAny_pyNext_dict_item (knd := intKind prog w) ⟨oI, hmI.1, hI⟩ (hD.at N hm) hx fun key h' hkey hi hs => ?_
  obtain ⟨t, rfl⟩ := Value.isInt_shape (hkey : Value.isInt k key = true)
  obtain ⟨oI', e, hI'⟩ := hi
  exact h t h' oI' (fr_ext F (List.mem_append_right _ (.head _)) N hs.extBut) (hg oI' ▸ N.setAt h1 h2 hs e) hI'
theorem next_D_end {Q : Option Value → Shared → Prop} (hh : A.handled = none) (F : Fr h₀ L s.heap m) (N : News h₀ L s.heap news) (hmI : (I, oI) ∈ news) (hI : KIt oI d i n ep) (hm : (d, o) ∈ news) (hD : DictIs prog w o kvs ep) (hn : n = kvs.length) (hx : kvs[i]? = none) (D : Del I news news')
    (h : ∀ h', Fr h₀ L h' m → News h₀ L h' news' → Q none { s with heap := h' }) : wpAny (model prog w) A (pyNext (.ref I)) Q E s := by
  subst hn
  exact wpAny_pyNext_dict_end (knd := intKind prog w) hh ⟨oI, (N _ hmI).1, hI⟩ (hD.at N hm) hx fun h' hs => h h' (fr_ext F hmI N hs) (news_ext N D hs)
end
section
variable {prog : Program} {w : World} {A : Around} {E : Value → Shared → Prop} {s : Shared} {h₀ : Heap} {L : Addr} {news : List (Addr × Obj)} {I d : Addr} {oI : Obj} {i n ep : Nat}
theorem self_D {Q : Value → Shared → Prop} (N : News h₀ L s.heap news) (hmI : (I, oI) ∈ news) (hI : KIt oI d i n ep) (h : Q (.ref I) s) : wpAny (model prog w) A (pyIter (.ref I)) Q E s :=
  wpAny_pyIter_keyiter ⟨oI, (N _ hmI).1, hI⟩ h
end

end
section
open PyProof.Rows.LCg (NsObj)
section
variable {prog : Program} {w : World} {A : Around} {E : Value → Shared → Prop} {s : Shared} {h₀ : Heap} {L : Addr} {m : Str → Option Value} {env : Env} {R : Result → Shared → Prop} {kx vx elt target iter : Expr} {ifs : List Expr} {scope : Scope} {pos : Pos} {it : Value} {D : Addr}

noncomputable def CTestD (prog : Program) (w : World) (A : Around) (E : Value → Shared → Prop) (R : Result → Shared → Prop) (kx vx : Expr) (gens : List Comprehension) (scope : Scope) (pos : Pos) (it : Value) (D : Addr) (env : Env) (ok : Bool) (s₃ : Shared) : Prop := match ok with
  | true => wpAny (model prog w) A (eval kx env) (fun kv s₄ => wpAny (model prog w) A (eval vx env) (fun vv s₅ => wpAny (model prog w) A (dictSet D kv vv)
      (fun _ s₆ => codeAny (model prog w) A (.compLoop (.DictComp kx vx gens scope pos) 0 it (.ref D) env) R s₆) E s₅) E s₄) E s₃
  | false => codeAny (model prog w) A (.compLoop (.DictComp kx vx gens scope pos) 0 it (.ref D) env) R s₃
noncomputable def CTestsD (prog : Program) (w : World) (A : Around) (E : Value → Shared → Prop) (R : Result → Shared → Prop) (kx vx : Expr) (gens : List Comprehension) (scope : Scope) (pos : Pos) (it : Value) (D : Addr) (env : Env) (ifs : List Expr) (s₂ : Shared) : Prop := match ifs with
  | [] => CTestD prog w A E R kx vx gens scope pos it D env true s₂
  | [c] => wpAny (model prog w) A (isTrue c env (eval c env)) (CTestD prog w A E R kx vx gens scope pos it D env) E s₂
  | _ => False
noncomputable def CTurnD (prog : Program) (w : World) (A : Around) (E : Value → Shared → Prop) (R : Result → Shared → Prop) (kx vx : Expr) (gens : List Comprehension) (scope : Scope) (pos : Pos) (it : Value) (D : Addr) (env : Env) (target : Expr) (ifs : List Expr) (r : Option Value) (s₁ : Shared) : Prop := match r with
  | none => R (.ok .next) s₁
  | some v => wpAny (model prog w) A (letOwnedTupleGo target it v) (fun _ s₁' => wpAny (model prog w) A (assign target env v) (fun _ s₂ => CTestsD prog w A E R kx vx gens scope pos it D env ifs s₂) E s₁') E s₁

theorem compD_step (h : wpAny (model prog w) A (pyNext it) (CTurnD prog w A (notedBy (model prog w) A env fun e s' => R (.error e) s') R kx vx [⟨target, iter, ifs, 0⟩] scope pos it D env target ifs) (notedBy (model prog w) A env fun e s' => R (.error e) s') s) :
    codeAny (model prog w) A (.compLoop (.DictComp kx vx [⟨target, iter, ifs, 0⟩] scope pos) 0 it (.ref D) env) R s := by
  refine codeAny_of_tree ?_
  show wpAny _ A ((compTurn (.DictComp kx vx [⟨target, iter, ifs, 0⟩] scope pos) 0 it (.ref D) env).onRaise (fun x => do noteFrame x env; theTreesLotGoes x)) _ _ s
  refine wpAny_noted ?_
  rw [compTurn_dict]
  refine wpAny_bind (wpAny_standAt (wpAny_bind (wpAny_mono h (fun r s₁ h₁ => ?_) fun _ _ h' => h')))
  cases r with
  | none => exact wpAny_pure h₁
  | some v =>
    refine wpAny_bind (wpAny_mono h₁ (fun _ s₁' h₁ => ?_) fun _ _ h' => h')
    refine wpAny_bind (wpAny_mono h₁ (fun _ s₂ h₂ => ?_) fun _ _ h' => h')
    have fin : ∀ ok s₃, CTestD prog w A (notedBy (model prog w) A env fun e s' => R (.error e) s') R kx vx [⟨target, iter, ifs, 0⟩] scope pos it D env ok s₃ →
        wpAny (model prog w) A (if ok = true then (do let kv ← eval kx env; let vv ← holding [kv] (eval vx env); standAt { kx.pos with endLine := vx.pos.endLine, endCol := vx.pos.endCol }; holding [kv, vv] (dictSet D kv vv)) >>= fun _ => again (.compLoop (.DictComp kx vx [⟨target, iter, ifs, 0⟩] scope pos) 0 it (.ref D) env) else again (.compLoop (.DictComp kx vx [⟨target, iter, ifs, 0⟩] scope pos) 0 it (.ref D) env))
          (fun fin s' => match fin with | .done f => R (.ok f) s' | .again c' => c'.quiet = true ∧ codeAny (model prog w) A c' R s') (notedBy (model prog w) A env fun e s' => R (.error e) s') s₃ := by
      intro ok s₃ h₃
      cases ok with
      | false => exact wpAny_pure ⟨rfl, h₃⟩
      | true =>
        refine wpAny_bind (wpAny_bind (wpAny_mono h₃ (fun kv s₄ h₄ => wpAny_bind (wpAny_holding (wpAny_mono h₄ (fun vv s₅ h₅ => wpAny_bind (wpAny_standAt (wpAny_holding (wpAny_mono h₅ (fun _ s₆ h₆ => wpAny_pure ⟨rfl, h₆⟩) fun _ _ h' => h')))) fun _ _ h' => h'))) fun _ _ h' => h'))
    match ifs, h₂, fin with
    | [], h₂, fin => exact wpAny_bind (wpAny_tests_nil (fin true s₂ h₂))
    | [c], h₂, fin => exact wpAny_bind (wpAny_tests_one (wpAny_mono h₂ (fun ok s₃ h₃ => fin ok s₃ h₃) fun _ _ h' => h'))
    | _ :: _ :: _, h₂, _ => exact h₂.elim

theorem compD_start {I : Addr} {acc : Value} (hself : ∀ (Q : Value → Shared → Prop) (E : Value → Shared → Prop), Q (.ref I) s → wpAny (model prog w) A (pyIter (.ref I)) Q E s)
    (h : codeAny (model prog w) A (.compLoop (.DictComp kx vx [⟨target, iter, ifs, 0⟩] scope pos) 0 (.ref I) acc env) R s) :
    codeAny (model prog w) A (.compStart (.DictComp kx vx [⟨target, iter, ifs, 0⟩] scope pos) 0 (.ref I) acc env) R s := codeAny_compStart_dict h (hself _ _ h)

noncomputable def DcAt (prog : Program) (w : World) (A : Around) (h₀ : Heap) (L : Addr) (m : Str → Option Value) (env : Env) (kx vx : Expr) (gens : List Comprehension) (scope : Scope) (cl : List (Str × Addr)) (pos : Pos) (RR : Addr → Addr → Result → Shared → Prop) (it : Value) (s₂ : Shared) : Prop :=
  ∃ I news, it = .ref I ∧ Fr h₀ L s₂.heap m ∧ News h₀ L s₂.heap news ∧ ∀ D C oD oC h' tk', Fr h₀ L h' m → News h₀ L h' ((C, oC) :: (D, oD) :: news) → NsObj oC (fun _ => none) → DictIs prog w oD [] 0 → D < C → (∀ p ∈ news, p.1 < D) →
    codeAny (model prog w) A (.compStart (.DictComp kx vx gens scope pos) 0 (.ref I) (.ref D) (compEnvC scope cl C env)) (RR D C) { s₂ with heap := h', toks := tk' }
theorem DcAt.intro {gens : List Comprehension} {cl : List (Str × Addr)} {RR : Addr → Addr → Result → Shared → Prop} {I : Addr} {news : List (Addr × Obj)} (F : Fr h₀ L s.heap m) (N : News h₀ L s.heap news)
    (h : ∀ D C oD oC h' tk', Fr h₀ L h' m → News h₀ L h' ((C, oC) :: (D, oD) :: news) → NsObj oC (fun _ => none) → DictIs prog w oD [] 0 → D < C → (∀ p ∈ news, p.1 < D) →
      codeAny (model prog w) A (.compStart (.DictComp kx vx gens scope pos) 0 (.ref I) (.ref D) (compEnvC scope cl C env)) (RR D C) { s with heap := h', toks := tk' }) :
    DcAt prog w A h₀ L m env kx vx gens scope cl pos RR (.ref I) s := ⟨I, news, rfl, F, N, h⟩

theorem dc_enter {cl : List (Str × Addr)} {Q : Value → Shared → Prop} (_F₀ : Fr h₀ L s.heap m) (hclos : closureFor scope env = pure cl) (hcell : ∀ y ∈ scope.names, y.2 ≠ .cell) (hkind : scope.kind = .function)
    (hnames : ∀ y ∈ scope.names, y.2 = .local → scope.names.lookup y.1 = some .local)
    (h : wpAny (model prog w) A (eval iter env) (fun xv s₁ => wpAny (model prog w) A (pyIter xv) (DcAt prog w A h₀ L m env kx vx [⟨target, iter, ifs, 0⟩] scope cl pos (fun D C => LcR prog w A E h₀ L m C D Q)) E s₁) E s)
    (hs : ∀ x, foldedSetIterable iter env x = pure x := by intro _; rfl) :
    wpAny (model prog w) A (eval (.DictComp kx vx [⟨target, iter, ifs, 0⟩] scope pos) env) Q E s := by
  rw [arm_eval_DictComp]
  refine wpAny_comprehension_free (use := none) rfl hs hclos hkind hnames (wpAny_mono h (fun xv s₁ h₁ => wpAny_mono h₁ (fun it s₂ h₂ => ?_) fun _ _ e => e) fun _ _ e => e)
  obtain ⟨I, news, rfl, F, N, k⟩ := h₂
  refine wpAny_newObj_type (wpAny_newFunctionEnv hcell (by intro y hy; simp at hy) (fun h₁ hns₁ hsb₁ => ?_) hkind)
  dsimp only at hns₁ hsb₁ ⊢
  have hk : ∀ b o, (s₂.heap.push { cls := .type "dict", data := .dict #[] }).get? b = some o → h₁.get? b = some o := fun b o e => hsb₁.extBut b o (Nat.ne_of_lt (Heap.lt_size e)) (Heap.get?_push_of_some _ e)
  obtain ⟨oC, F', N', hC, hlt, l1⟩ := comp_frame (oD := { cls := .type "dict", data := .dict #[] }) rfl F N hns₁ hk
  exact codeAny_mono (k _ _ _ oC h₁ _ F' N' hC ⟨#[], ⟨rfl, rfl, rfl⟩, rfl, fun _ he => by simp at he, .nil, .nil⟩ hlt l1) fun r s' hr => hr.post

theorem dcA_enter {cl : List (Str × Addr)} {y : Str} {py spos : Pos} {Q : Flow → Shared → Prop} (_F₀ : Fr h₀ L s.heap m) (hsw : swapsWith (.DictComp kx vx [⟨target, iter, ifs, 0⟩] scope pos) (some (.Name y py)) spos.line env = pure true)
    (hclos : closureFor scope env = pure cl) (hcell : ∀ y ∈ scope.names, y.2 ≠ .cell) (hkind : scope.kind = .function)
    (hnames : ∀ y ∈ scope.names, y.2 = .local → scope.names.lookup y.1 = some .local)
    (h : wpAny (model prog w) A (eval iter env) (fun xv s₁ => wpAny (model prog w) A (pyIter xv) (DcAt prog w A h₀ L m env kx vx [⟨target, iter, ifs, 0⟩] scope cl pos (LcRU prog w A E h₀ L env y py Q)) E s₁) E s)
    (hs : ∀ x, foldedSetIterable iter env x = pure x := by intro _; rfl) :
    wpAny (model prog w) A (exec (.Assign [.Name y py] (.DictComp kx vx [⟨target, iter, ifs, 0⟩] scope pos) spos) env) Q E s := by
  rw [exec_Assign_Name_used _ _ _ _ hsw]
  refine wpAny_bind (wpAny_standAt (wpAny_bind ?_))
  show wpAny _ A (do let _ ← comprehension (.DictComp kx vx [⟨target, iter, ifs, 0⟩] scope pos) scope env _ newDict false (eval iter env) (some (assign (.Name y py) env))) _ _ s
  refine wpAny_bind (wpAny_mono (wpAny_comprehension_free (use := some (assign (.Name y py) env)) (Q := fun _ s' => Q .next s') rfl hs hclos hkind hnames (wpAny_mono h (fun xv s₁ h₁ => wpAny_mono h₁ (fun it s₂ h₂ => ?_) fun _ _ e => e) fun _ _ e => e)) (fun _ s' hq => wpAny_pure (wpAny_pure hq)) fun _ _ e => e)
  obtain ⟨I, news, rfl, F, N, k⟩ := h₂
  refine wpAny_newObj_type (wpAny_newFunctionEnv hcell (by intro y hy; simp at hy) (fun h₁ hns₁ hsb₁ => ?_) hkind)
  dsimp only at hns₁ hsb₁ ⊢
  have hk : ∀ b o, (s₂.heap.push { cls := .type "dict", data := .dict #[] }).get? b = some o → h₁.get? b = some o := fun b o e => hsb₁.extBut b o (Nat.ne_of_lt (Heap.lt_size e)) (Heap.get?_push_of_some _ e)
  obtain ⟨oC, F', N', hC, hlt, l1⟩ := comp_frame (oD := { cls := .type "dict", data := .dict #[] }) rfl F N hns₁ hk
  exact codeAny_mono (k _ _ _ oC h₁ _ F' N' hC ⟨#[], ⟨rfl, rfl, rfl⟩, rfl, fun _ he => by simp at he, .nil, .nil⟩ hlt l1) fun r s' hr => hr.post

theorem lc_enter1 {cl : List (Str × Addr)} {cx : Str} {Q : Value → Shared → Prop} (_F₀ : Fr h₀ L s.heap m) (hclos : closureFor scope env = pure cl) (hone : ∀ n, cellsFrom n scope.names cl = (cx, n) :: cl) (hpush : ∀ h : Heap, pushCells h scope.names = h.push { cls := .type "cell", data := .cell none }) (hkind : scope.kind = .function)
    (hnames : ∀ y ∈ scope.names, y.2 = .local → scope.names.lookup y.1 = some .local)
    (h : wpAny (model prog w) A (eval iter env) (fun xv s₁ => wpAny (model prog w) A (pyIter xv) (fun it s₂ => ∃ I news, it = .ref I ∧ Fr h₀ L s₂.heap m ∧ News h₀ L s₂.heap news ∧ ∀ D C c oC h' tk', Fr h₀ L h' m → News h₀ L h' ((c, ({ cls := .type "cell", data := .cell none } : Obj)) :: (C, oC) :: (D, W.listOf #[] 0) :: news) → NsObj oC (fun _ => none) → C < c → D < C → (∀ p ∈ news, p.1 < D) →
      codeAny (model prog w) A (.compStart (.ListComp elt [⟨target, iter, ifs, 0⟩] scope pos) 0 (.ref I) (.ref D) (compEnvC scope ((cx, c) :: cl) C env)) (LcR prog w A E h₀ L m C D Q) { s₂ with heap := h', toks := tk' }) E s₁) E s)
    (hs : ∀ x, foldedSetIterable iter env x = pure x := by intro _; rfl) :
    wpAny (model prog w) A (eval (.ListComp elt [⟨target, iter, ifs, 0⟩] scope pos) env) Q E s := by
  rw [eval_ListComp]
  refine wpAny_comprehension_free (use := none) rfl hs hclos hkind hnames (wpAny_mono h (fun xv s₁ h₁ => wpAny_mono h₁ (fun it s₂ h₂ => ?_) fun _ _ e => e) fun _ _ e => e)
  obtain ⟨I, news, rfl, F, N, k⟩ := h₂
  refine wpAny_newObj_type ?_
  simp only [newFunctionEnv, Option.isSome_some, if_true]
  refine wpAny_bind (wpAny_alloc ?_)
  refine wpAny_bind (wpAny_layCells _ (fun name kind cells => by cases hkc : kind == NameKind.cell <;> simp [hkc]) _ _ _ _ ?_)
  rw [hone, hpush]
  simp only [List.forIn_nil]
  refine wpAny_bind (wpAny_pure (wpAny_pure ?_))
  have e : ({ s₂ with heap := s₂.heap.push (W.listOf #[] 0) } : Shared).heap = s₂.heap.push (W.listOf #[] 0) := rfl
  have F₁ := F.push (W.listOf #[] 0)
  have N₁ := N.push F (W.listOf #[] 0)
  have F₂ := F₁.push { cls := .type "dict", data := .dict #[] }
  have N₂ := N₁.push F₁ { cls := .type "dict", data := .dict #[] }
  have F₃ := F₂.push { cls := .type "cell", data := .cell none }
  have N₃ := N₂.push F₂ { cls := .type "cell", data := .cell none }
  have hns : NsObj { cls := .type "dict", data := .dict #[] } (fun _ => none) := ⟨#[], 0, rfl, fun _ he => by simp at he, fun _ => rfl⟩
  refine codeAny_mono (k _ _ _ _ _ _ F₃ N₃ hns ?_ ?_ fun p hp => Heap.lt_size (N p hp).1) fun r s' hr => hr.post
  · exact Nat.lt_of_lt_of_eq (Nat.lt_succ_self _) (Heap.size_push ..).symm
  · exact Nat.lt_of_lt_of_eq (Nat.lt_succ_self _) (Heap.size_push ..).symm
theorem lcA_enter1 {cl : List (Str × Addr)} {cx y : Str} {py spos : Pos} {Q : Flow → Shared → Prop} (_F₀ : Fr h₀ L s.heap m) (hsw : swapsWith (.ListComp elt [⟨target, iter, ifs, 0⟩] scope pos) (some (.Name y py)) spos.line env = pure true) (hclos : closureFor scope env = pure cl) (hone : ∀ n, cellsFrom n scope.names cl = (cx, n) :: cl) (hpush : ∀ h : Heap, pushCells h scope.names = h.push { cls := .type "cell", data := .cell none }) (hkind : scope.kind = .function)
    (hnames : ∀ y ∈ scope.names, y.2 = .local → scope.names.lookup y.1 = some .local)
    (h : wpAny (model prog w) A (eval iter env) (fun xv s₁ => wpAny (model prog w) A (pyIter xv) (fun it s₂ => ∃ I news, it = .ref I ∧ Fr h₀ L s₂.heap m ∧ News h₀ L s₂.heap news ∧ ∀ D C c oC h' tk', Fr h₀ L h' m → News h₀ L h' ((c, ({ cls := .type "cell", data := .cell none } : Obj)) :: (C, oC) :: (D, W.listOf #[] 0) :: news) → NsObj oC (fun _ => none) → C < c → D < C → (∀ p ∈ news, p.1 < D) →
      codeAny (model prog w) A (.compStart (.ListComp elt [⟨target, iter, ifs, 0⟩] scope pos) 0 (.ref I) (.ref D) (compEnvC scope ((cx, c) :: cl) C env)) (LcRU prog w A E h₀ L env y py Q D C) { s₂ with heap := h', toks := tk' }) E s₁) E s)
    (hs : ∀ x, foldedSetIterable iter env x = pure x := by intro _; rfl) :
    wpAny (model prog w) A (exec (.Assign [.Name y py] (.ListComp elt [⟨target, iter, ifs, 0⟩] scope pos) spos) env) Q E s := by
  rw [exec_Assign_Name_used _ _ _ _ hsw]
  refine wpAny_bind (wpAny_standAt (wpAny_bind ?_))
  show wpAny _ A (do let _ ← comprehension (.ListComp elt [⟨target, iter, ifs, 0⟩] scope pos) scope env _ (newList []) false (eval iter env) (some (assign (.Name y py) env))) _ _ s
  refine wpAny_bind (wpAny_mono (wpAny_comprehension_free (use := some (assign (.Name y py) env)) (Q := fun _ s' => Q .next s') rfl hs hclos hkind hnames (wpAny_mono h (fun xv s₁ h₁ => wpAny_mono h₁ (fun it s₂ h₂ => ?_) fun _ _ e => e) fun _ _ e => e)) (fun _ s' hq => wpAny_pure (wpAny_pure hq)) fun _ _ e => e)
  obtain ⟨I, news, rfl, F, N, k⟩ := h₂
  refine wpAny_newObj_type ?_
  simp only [newFunctionEnv, Option.isSome_some, if_true]
  refine wpAny_bind (wpAny_alloc ?_)
  refine wpAny_bind (wpAny_layCells _ (fun name kind cells => by cases hkc : kind == NameKind.cell <;> simp [hkc]) _ _ _ _ ?_)
  rw [hone, hpush]
  simp only [List.forIn_nil]
  refine wpAny_bind (wpAny_pure (wpAny_pure ?_))
  have e : ({ s₂ with heap := s₂.heap.push (W.listOf #[] 0) } : Shared).heap = s₂.heap.push (W.listOf #[] 0) := rfl
  have F₁ := F.push (W.listOf #[] 0)
  have N₁ := N.push F (W.listOf #[] 0)
  have F₂ := F₁.push { cls := .type "dict", data := .dict #[] }
  have N₂ := N₁.push F₁ { cls := .type "dict", data := .dict #[] }
  have F₃ := F₂.push { cls := .type "cell", data := .cell none }
  have N₃ := N₂.push F₂ { cls := .type "cell", data := .cell none }
  have hns : NsObj { cls := .type "dict", data := .dict #[] } (fun _ => none) := ⟨#[], 0, rfl, fun _ he => by simp at he, fun _ => rfl⟩
  refine codeAny_mono (k _ _ _ _ _ _ F₃ N₃ hns ?_ ?_ fun p hp => Heap.lt_size (N p hp).1) fun r s' hr => hr.post
  · exact Nat.lt_of_lt_of_eq (Nat.lt_succ_self _) (Heap.size_push ..).symm
  · exact Nat.lt_of_lt_of_eq (Nat.lt_succ_self _) (Heap.size_push ..).symm
end

section
variable {M : Model} {A : Around} {E : Value → Shared → Prop} {s : Shared} {h₀ : Heap} {L : Addr} {m : Str → Option Value} {news : List (Addr × Obj)} {g : Obj → List (Addr × Obj)} {C c : Addr} {o : Obj} {env : Env} {scope : Scope} {cl : List (Str × Addr)} {x : Str} {v : Value} {v₀ : Option Value}
theorem storeCC {Q : Unit → Shared → Prop} (F : Fr h₀ L s.heap m) (N : News h₀ L s.heap news) (hc : cl.lookup x = some c) (_hm : (c, o) ∈ news) (hd : o.data = .cell v₀) (U : UpdF c o news g)
    (h : ∀ h' o', Fr h₀ L h' m → News h₀ L h' (g o') → o'.data = .cell (some v) → Q () { s with heap := h' })
    (hk : (compEnvC scope cl C env).scope.kind = .function) (hl : (compEnvC scope cl C env).kindOf x = some .cell) : wpAny M A (storeName (compEnvC scope cl C env) x v) Q E s := by
  obtain ⟨own, rest, rfl, hg, h1, h2⟩ := U.split
  have hm := N (c, o) (List.mem_append_right _ (.head _))
  refine wpAny_storeName_cell hk hl hc ⟨o, hm.1, hd⟩ fun h' hv hs => ?_
  obtain ⟨o', ho', hd'⟩ := hv
  exact h h' o' (fr_ext F (List.mem_append_right _ (.head _)) N hs.extBut) (hg o' ▸ N.setAt h1 h2 hs ho') hd'
end

end
section
open Builtin Builtin.ObjectAttr
theorem cn_lookup : typeLookup (.type "list") "__contains__" = pure (some (.builtin "list.__contains__")) := by rw [typeLookup_type, builtinLookup_eq_fast]; kernel_rfl
theorem cn_type : typeOf (.builtin "list.__contains__") = pure (.type "wrapper_descriptor") := by show builtinType _ = _; rw [builtinType_eq_fast]; kernel_rfl
theorem cn_get : specialOf (.builtin "list.__contains__") "__get__" = pure (some (.builtin "wrapper_descriptor.__get__")) := by
  unfold specialOf; rw [cn_type]; show typeLookup (.type "wrapper_descriptor") "__get__" = _; rw [typeLookup_type, builtinLookup_eq_fast]; kernel_rfl
theorem cn_set : specialOf (.builtin "list.__contains__") "__set__" = pure none := by
  unfold specialOf; rw [cn_type]; show typeLookup (.type "wrapper_descriptor") "__set__" = _; rw [typeLookup_type, builtinLookup_eq_fast]; kernel_rfl
theorem cn_del : specialOf (.builtin "list.__contains__") "__delete__" = pure none := by
  unfold specialOf; rw [cn_type]; show typeLookup (.type "wrapper_descriptor") "__delete__" = _; rw [typeLookup_type, builtinLookup_eq_fast]; kernel_rfl
theorem cn_stores : takesStores (.builtin "list.__contains__") = pure false := by
  unfold takesStores; rw [cn_set, cn_del]; rfl
theorem cn_slot : Slot "wrapper_descriptor" "__get__" "wrapper_descriptor.__get__" :=
  .of (owner := "wrapper_descriptor") (n := "__get__") (by rw [typeLookup_type, builtinLookup_eq_fast]; kernel_rfl) (by decide +kernel) (by decide +kernel) (by decide +kernel)
    (by first | exact .inl (by decide +kernel) | exact .inr (by decide +kernel)) (by rw [isSubtype_type]; kernel_rfl)
theorem cn_entry : entryFor table "wrapper_descriptor.__get__" = some Builtin.«wrapper_descriptor.__get__» := entryFor_of_tree (by kernel_rfl)
theorem cn_args (a b c : Value) : argsOk "wrapper_descriptor.__get__" ⟨[a, b, c], []⟩ := by unfold argsOk; kernel_rfl
theorem cn_sub : isSubtype (.type "list") (.type "list") = pure true := by rw [isSubtype_type]; kernel_rfl
noncomputable def cnObj (b : Addr) : Obj := { cls := .type "method-wrapper", data := .fields #[.builtin "list.__contains__", .ref b] }
theorem cn_bind (a : Addr) :
    Meets (Builtin.«wrapper_descriptor.__get__» ⟨[.builtin "list.__contains__", .ref a, .type "list"], []⟩) (fun _ R s => s.TypeIs (.ref a) "list" ∧ R (.ok (.ret (.ref s.heap.objs.size))) { s with heap := s.heap.push (cnObj a) }) :=
  Meets.of_wp fun prog w A R s hs => by
    obtain ⟨hp, g, d, tk, os⟩ := s
    obtain ⟨hT, hs⟩ := hs
    have e : ".".intercalate ("list.__contains__".cutAt '.').dropLast = "list" := by decide +kernel
    have c1 : isSubtype (.type "list") (.type (".".intercalate ("list.__contains__".cutAt '.').dropLast)) = pure true := by rw [e]; exact cn_sub
    unfold Builtin.«wrapper_descriptor.__get__»
    repeat (any_goals (first | assumption | wp_step))
    exact ⟨_, rfl, hs⟩
set_option maxRecDepth 8000 in
theorem cn_meets (a : Addr) (xs : Array Value) (k : Nat) (u : Tok) :
    Meets (Builtin.«object.__getattribute__» ⟨[.ref a, .str "__contains__" u], []⟩) (fun _ R s => s.heap.get? a = some (W.listOf xs k) ∧ R (.ok (.ret (.ref s.heap.objs.size))) { s with heap := s.heap.push (cnObj a) }) :=
  Meets.of_wp fun prog w A R s hs => by
    obtain ⟨hp, g, d, tk, os⟩ := s
    obtain ⟨hx, hs⟩ := hs
    have hT : (⟨hp, g, d, tk, os⟩ : Shared).TypeIs (.ref a) "list" := ⟨_, hx, rfl⟩
    have c1 := cn_lookup
    have c2 := cn_get
    have c3 := cn_stores
    unfold Builtin.«object.__getattribute__»
    repeat (any_goals (first | assumption | wp_step))
    have step : codeAny (model prog w) A.in1 (.call (.builtin "wrapper_descriptor.__get__") ⟨[.builtin "list.__contains__", .ref a, .type "list"], []⟩) (fun r s' => r = .ok (.ret (.ref hp.objs.size)) ∧ s' = ⟨hp.push (cnObj a), g, d, tk, os⟩) ⟨hp, g, d, tk, os⟩ :=
      codeAny_call_builtin cn_slot.plain cn_entry (cn_slot.check _ _ _ _ _ _ _ _ cn_type (cn_args _ _ _) (cn_bind a prog w A.in1 (fun r s' => r = .ok (.ret (.ref hp.objs.size)) ∧ s' = ⟨hp.push (cnObj a), g, d, tk, os⟩) _ ⟨hT, rfl, rfl⟩))
    refine codeAny_mono step ?_
    rintro _ _ ⟨rfl, rfl⟩
    exact wpAny_pure ⟨_, rfl, hs⟩

set_option maxRecDepth 8000 in
theorem cn_getattr {prog : Program} {w : World} {A : Around} {E : Value → Shared → Prop} {s : Shared} {a : Addr} {xs : Array Value} {k : Nat} {Q : Value → Shared → Prop} (hx : s.heap.get? a = some (W.listOf xs k))
    (h : ∀ tk', Q (.ref s.heap.objs.size) { s with heap := s.heap.push (cnObj a), toks := tk' }) : wpAny (model prog w) A (getAttr (.ref a) "__contains__" true) Q E s := by
  obtain ⟨hp, g, d, tk, os⟩ := s
  have hT : ∀ tk', (⟨hp, g, d, tk', os⟩ : Shared).TypeIs (.ref a) "list" := fun _ => ⟨_, hx, rfl⟩
  have f3 := F.slot_list_getattribute.lookup
  have f4 := F.slot_list_getattribute.bind (.ref a)
  have f5 := am_list_getattr_none
  unfold getAttr getAttrBy
  repeat (any_goals (first | assumption | exact hT _ | ((with_reducible show wpAny _ _ (call (Value.builtin "list.__getattribute__") _ _) _ _ _); refine call_meets F.slot_list_getattribute (hT _) am_entry_list_getattribute (F.args_list_getattribute_2 _ _) (cn_meets _ _ _ _) ⟨hx, ?_⟩) | wp_step))
  show wpAny _ _ (handedOut (.ref _)) _ _ _
  rw [handedOut_of rfl]
  exact wpAny_pure (h _)
theorem cn_K {prog : Program} {w : World} {A : Around} {E : Value → Shared → Prop} {s : Shared} {h₀ : Heap} {L : Addr} {m : Str → Option Value} {news : List (Addr × Obj)} {b : Addr} {its : Array Value} {n : Nat} {Q : Value → Shared → Prop} (F : Fr h₀ L s.heap m) (N : News h₀ L s.heap news) (hm : (b, W.listOf its n) ∈ news)
    (h : ∀ q h' tk', Fr h₀ L h' m → News h₀ L h' ((q, cnObj b) :: news) → (∀ p ∈ news, p.1 < q) → Q (.ref q) { s with heap := h', toks := tk' }) : wpAny (model prog w) A (getAttr (.ref b) "__contains__" true) Q E s :=
  cn_getattr (N _ hm).1 fun tk' => h _ _ _ (F.push _) (N.push F _) fun p hp => Heap.lt_size (N p hp).1

end
section
section
variable {prog : Program} {w : World} {A : Around} {E : Value → Shared → Prop} {s : Shared} {h₀ : Heap} {L : Addr} {m : Str → Option Value} {news news' : List (Addr × Obj)} {g : Obj → List (Addr × Obj)} {I l : Addr} {oI : Obj} {i : Nat} {its : Array Value} {vs : List Value} {n : Nat} {v : Value}
theorem b_iter {Q : Value → Shared → Prop} (F : Fr h₀ L s.heap m) (N : News h₀ L s.heap news) (hm : (l, W.listOf its n) ∈ news)
    (h : ∀ I oI h', Fr h₀ L h' m → News h₀ L h' ((I, oI) :: news) → LIt oI l 0 → (∀ p ∈ news, p.1 < I) → Q (.ref I) { s with heap := h' }) : wpAny (model prog w) A (call (.builtin "iter") [.ref l]) Q E s := by
  refine call_function_entry (by decide +kernel) (by decide +kernel) kdk_entry_iter (kdk_args_iter _) ?_
  unfold Builtin.«iter»
  refine wpAny_bind (m := someArgs "iter" 1 2 _) (wpAny_of_eq (a := [Value.ref l]) (by first | rfl | kernel_rfl!) ?_)
  show wpAny _ _ (pyIter (.ref l) >>= _) _ _ _
  refine wpAny_bind (iter_list F N hm fun I oI h' F' N' hI l1 => ?_)
  exact wpAny_pure ⟨_, rfl, h _ _ _ F' N' hI l1⟩
theorem b_next {Q : Value → Shared → Prop} (F : Fr h₀ L s.heap m) (N : News h₀ L s.heap news) (_hmI : (I, oI) ∈ news) (hI : LIt oI l i) (U : UpdF I oI news g) (hm : (l, W.listOf vs.toArray n) ∈ news) (hx : vs.toArray[i]? = some v)
    (h : ∀ h' oI', Fr h₀ L h' m → News h₀ L h' (g oI') → LIt oI' l (i + 1) → Q v { s with heap := h' }) : wpAny (model prog w) A (call (.builtin "next") [.ref I]) Q E s := by
  obtain ⟨own, rest, rfl, hg, h1, h2⟩ := U.split
  have hmI := N (I, oI) (List.mem_append_right _ (.head _))
  have hit : s.heap.IsListIter I l i := ⟨oI, hmI.1, hI⟩
  refine call_function_entry (by decide +kernel) (by decide +kernel) kdk_entry_next (kdk_args_next _) ?_
  unfold Builtin.«next»
  refine wpAny_bind (m := someArgs "next" 1 2 _) (wpAny_of_eq (a := [Value.ref I]) (by first | rfl | kernel_rfl!) ?_)
  dsimp only
  refine wpAny_bind (wpAny_specialOf (name := Str.ofString "__next__") hit.typeIs slot_listiter_next.lookup ?_)
  refine wpAny_ite_split (fun hab => absurd hab (by decide)) (fun _ => ?_)
  obtain ⟨o, ho, hc, hd⟩ := id hit
  obtain ⟨ol, hol, _, nl, hdl⟩ : s.heap.IsList l vs.toArray := ⟨_, (N _ hm).1, rfl, n, rfl⟩
  refine wpAny_bind (wpAny_callSpecial?_slot (name := Str.ofString "__next__") hit.typeIs slot_listiter_next
    (wpAny_call_entry slot_listiter_next hit.typeIs entry_listiter_next ?_ (args_listiter_next _)))
  show wpAny _ _ (field (.ref I) 0 >>= _) _ _ s
  refine wpAny_bind (wpAny_field ho hd (x := .ref l) rfl ?_)
  show wpAny _ _ (if (Value.ref l == Value.none) = true then _ else _) _ _ s
  rw [if_neg (show ¬ ((Value.ref l == Value.none) = true) from Bool.false_ne_true)]
  show wpAny _ _ (field (.ref I) 1 >>= _) _ _ s
  refine wpAny_bind (wpAny_field ho hd (x := .int i 0) rfl ?_)
  show wpAny _ _ (seqItems? (.ref l) >>= _) _ _ s
  refine wpAny_bind (wpAny_seqItems hol hdl ?_)
  simp only [Int.toNat_natCast, hx]
  refine wpAny_bind (wpAny_setField ho hd (by simp) ?_)
  have hs : Heap.SameBut I s.heap (s.heap.update I (Obj.mapFields (·.setIfInBounds 1 (rawInt ((i : Int) + 1))))) := Heap.SameBut.update ..
  have e := Heap.get?_update_self (h := s.heap) (a := I) (Obj.mapFields (·.setIfInBounds 1 (rawInt ((i : Int) + 1)))) ho (Obj.isFreed_of_fields (Obj.data_mapFields hd _))
  refine wpAny_pure ⟨_, rfl, wpAny_pure ⟨_, rfl, h _ _ (fr_ext F (List.mem_append_right _ (.head _)) N hs.extBut) (hg _ ▸ N.setAt h1 h2 hs e) ⟨(Obj.cls_mapFields ..).trans hc, by rw [Obj.data_mapFields hd]; simp [rawInt]⟩⟩⟩
theorem b_stop {Q : Value → Shared → Prop} (hh : A.handled = none) (F : Fr h₀ L s.heap m) (N : News h₀ L s.heap news) (hI : LIt oI l i) (hmI : (I, oI) ∈ news) (hm : (l, W.listOf vs.toArray n) ∈ news) (hx : vs.toArray[i]? = none) (D : Del I news news')
    (h : ∀ h₁ h' e, Fr h₀ L h₁ m → News h₀ L h₁ news' → Heap.MadeExcOf h₁ h' e (.type "StopIteration") [] → E (.ref e) { s with heap := h' }) : wpAny (model prog w) A (call (.builtin "next") [.ref I]) Q E s := by
  have hit : s.heap.IsListIter I l i := ⟨oI, (N _ hmI).1, hI⟩
  refine call_function_entry (by decide +kernel) (by decide +kernel) kdk_entry_next (kdk_args_next _) ?_
  unfold Builtin.«next»
  refine wpAny_bind (m := someArgs "next" 1 2 _) (wpAny_of_eq (a := [Value.ref I]) (by first | rfl | kernel_rfl!) ?_)
  dsimp only
  refine wpAny_bind (wpAny_specialOf (name := Str.ofString "__next__") hit.typeIs slot_listiter_next.lookup ?_)
  refine wpAny_ite_split (fun hab => absurd hab (by decide)) (fun _ => ?_)
  obtain ⟨o, ho, hc, hd⟩ := id hit
  obtain ⟨ol, hol, _, nl, hdl⟩ : s.heap.IsList l vs.toArray := ⟨_, (N _ hm).1, rfl, n, rfl⟩
  refine wpAny_bind (wpAny_callSpecial?_slot (name := Str.ofString "__next__") hit.typeIs slot_listiter_next
    (wpAny_call_entry slot_listiter_next hit.typeIs entry_listiter_next ?_ (args_listiter_next _)))
  show wpAny _ _ (field (.ref I) 0 >>= _) _ _ s
  refine wpAny_bind (wpAny_field ho hd (x := .ref l) rfl ?_)
  show wpAny _ _ (if (Value.ref l == Value.none) = true then _ else _) _ _ s
  rw [if_neg (show ¬ ((Value.ref l == Value.none) = true) from Bool.false_ne_true)]
  show wpAny _ _ (field (.ref I) 1 >>= _) _ _ s
  refine wpAny_bind (wpAny_field ho hd (x := .int i 0) rfl ?_)
  show wpAny _ _ (seqItems? (.ref l) >>= _) _ _ s
  refine wpAny_bind (wpAny_seqItems hol hdl ?_)
  simp only [Int.toNat_natCast, hx]
  refine wpAny_bind (wpAny_rule (wpAny_bind (wpAny_setField ho hd (by simp) ?_)))
  show wpAny _ _ (newExc (.type "StopIteration") [] >>= _) _ _ _
  refine wpAny_bind ?_
  simp only [newExc, newTuple]
  refine wpAny_bind (wpAny_newObj_type ?_ (by size_fits))
  refine wpAny_bind (m := firstArgMember _ _) (wpAny_of_eq (a := Value.none) (by first | rfl | (simp only [firstArgMember]; rfl)) ?_)
  refine wpAny_newObj_type ?_ (by size_fits)
  simp only [raiseNew]
  refine wpAny_bind (wpAny_handled ?_)
  rw [show A.in1.in1.handled = none from hh]
  refine wpAny_bind (wpAny_pure (wpAny_throw ?_))
  have hs : Heap.ExtBut I s.heap (s.heap.update I (Obj.mapFields (·.setIfInBounds 0 Value.none))) := (Heap.SameBut.update ..).extBut
  refine h _ _ _ (fr_ext F hmI N hs) (news_ext N D hs) ⟨fun b o e => Heap.get?_push_of_some _ (Heap.get?_push_of_some _ e), ?_, _, Heap.get?_push_size _ rfl, ?_, ?_⟩
  · exact Heap.get?_none_of_le (by rw [Heap.size_push]; exact Nat.le_succ _)
  · exact Heap.get?_none_of_le (Nat.le_refl _)
  · exact Heap.get?_push_of_some _ (Heap.get?_push_size _ rfl)
end
open PySem.MeetsSeq (EqGives list_contains)
theorem cn_check (b : Addr) (v : Value) : checkBoundCall "list.__contains__" ⟨[.ref b, v], []⟩ = pure () := by kernel_rfl
theorem cn_call {prog : Program} {w : World} {A : Around} {E : Value → Shared → Prop} {s : Shared} {q b : Addr} {items : Array Value} {n : Nat} {v : Value} {e : Value → Bool} {Q : Value → Shared → Prop} (hq : s.heap.get? q = some (cnObj b)) (hb : s.heap.get? b = some (W.listOf items n))
    (he : ∀ y, y ∈ items → EqGives y v (e y)) (h : Q (.bool (items.any e)) s) : wpAny (model prog w) A (call (.ref q) [v]) Q E s := by
  refine wpAny_call (codeAny_of_tree ?_)
  show wpAny _ A.in1 (callAny (.ref q) ⟨[v], []⟩) _ _ s
  simp only [callAny]
  refine wpAny_bind (wpAny_load hq ?_)
  have e1 : (cnObj b).data = .fields #[.builtin "list.__contains__", .ref b] := rfl
  have e2 : (cnObj b).cls = .type "method-wrapper" := rfl
  simp only [e1, e2]
  have h0 : (#[Value.builtin "list.__contains__", Value.ref b] : Array Value)[0]? = some (.builtin "list.__contains__") := rfl
  have h1 : (#[Value.builtin "list.__contains__", Value.ref b] : Array Value)[1]? = some (.ref b) := rfl
  rw [if_pos (by decide)]
  simp only [h0, h1]
  rw [if_pos (by decide)]
  refine wpAny_bind (wpAny_of_eq (a := ()) (cn_check b v) ?_)
  refine wpAny_bind (wpAny_pure (wpAny_pure ⟨plainId_quiet (by decide +kernel) _, codeAny_builtin PySem.F.entry_list_contains ?_⟩))
  rw [Around.under_plainId (by decide +kernel) _]
  exact list_contains b items n v e he prog w A _ s ⟨hb, h⟩
noncomputable def isN (x : Int) : Value → Bool | .int y _ => y == x | _ => false
theorem ints_any {x : Int} {us : List Value} {ys : List Int} (h : IntsAre us ys) : us.toArray.any (isN x) = ys.contains x := by
  induction h with
  | nil => simp
  | cons a t _ ih =>
    simp only [List.any_toArray, List.any_cons, List.contains_cons, isN] at ih ⊢
    rw [ih]
    congr 1
    exact Bool.beq_comm
theorem ints_eq {x : Int} {u : Tok} {us : List Value} {ys : List Int} (h : IntsAre us ys) : ∀ y ∈ us, EqGives y (.int x u) (isN x y) := by
  induction h with
  | nil => exact fun _ h => by cases h
  | cons a t _ ih =>
    intro y h
    rcases List.mem_cons.mp h with rfl | h
    · exact EqGives.int _ _ _ _
    · exact ih y h
theorem cn_callN {prog : Program} {w : World} {A : Around} {E : Value → Shared → Prop} {s : Shared} {h₀ : Heap} {L : Addr} {news : List (Addr × Obj)} {q b : Addr} {us : List Value} {ys : List Int} {n : Nat} {x : Int} {u : Tok} {Q : Value → Shared → Prop} (N : News h₀ L s.heap news)
    (hq : (q, cnObj b) ∈ news) (hb : (b, W.listOf us.toArray n) ∈ news) (hu : IntsAre us ys) (h : Q (.bool (ys.contains x)) s) : wpAny (model prog w) A (call (.ref q) [.int x u]) Q E s :=
  cn_call (N _ hq).1 (N _ hb).1 (e := isN x) (fun y hy => ints_eq hu y (by simpa using hy)) (by rw [ints_any hu]; exact h)
noncomputable def CnP (q b : Addr) (h : Heap) : Prop := h.get? q = some (cnObj b)
theorem CnP.of {h₀ h : Heap} {L : Addr} {news : List (Addr × Obj)} {q b : Addr} (N : News h₀ L h news) (hq : (q, cnObj b) ∈ news) : CnP q b h := (N _ hq).1
theorem callWith_cn {M : Model} {A : Around} {E : Value → Shared → Prop} {s : Shared} {env : Env} {pos : Pos} {first : List Value} {Q : Value → Shared → Prop} {h₀ : Heap} {L : Addr} {news : List (Addr × Obj)} {q b : Addr} {e : Expr} {rest : List Expr} (_N : News h₀ L s.heap news) (_q : (q, cnObj b) ∈ news)
    (h : wpAny M A (spliced (backTo pos (starEach (e :: rest) env))) (fun vs s₁ => CnP q b s₁.heap ∧ wpAny M A (call (.ref q) (first ++ vs)) Q E s₁) E s)
    (he : starEach (e :: rest) env = (false, eval e env) :: starEach rest env := by rfl) (hplain : (backTo pos (starEach rest env)).any (·.1) = false := by rfl) :
    wpAny M A (callWith pos (.ref q) first (backTo pos (starEach (e :: rest) env)) []) Q E s := by
  rw [he] at h ⊢
  exact callWith_of (P := CnP q b) (by show ((false || (backTo pos (starEach rest env)).any (·.1)) || false) = false; rw [hplain]; rfl) (fun h X => ⟨.machine, .inr (.inl rfl), (Looks.ld (part := none) X).andThen .now⟩) (evalArgs_plain h)

end
section
noncomputable def Turned (fs : List Addr) (h h' : Heap) : Prop := ∀ b o, h.get? b = some o → (b ∉ fs → h'.get? b = some o) ∧ ∃ sl, h'.get? b = some { o with slots := sl }
theorem Turned.refl {fs : List Addr} {h : Heap} : Turned fs h h := fun _ o e => ⟨fun _ => e, o.slots, e⟩
theorem Turned.of_stays {fs : List Addr} {h h' : Heap} (k : h.StaysIn h') : Turned fs h h' := fun b o e => ⟨fun _ => k b o e, o.slots, k b o e⟩
noncomputable def framesOf (l : List Env) : List Addr := l.filterMap (·.frame)

noncomputable def BackS (fs : List Addr) (g : Heap) (news : List (Addr × Obj)) (s : Shared) (R : Result → Shared → Prop) (v : Value) (s' : Shared) : Prop :=
  ∃ g' L' m', KtsTurn fs g g' ∧ Fr g' L' s'.heap m' ∧ (∀ p ∈ news, s'.heap.get? p.1 = some p.2) ∧ (Turned fs s.heap s'.heap → R (.ok (.ret v)) s')

theorem back_turned {fs : List Addr} {news : List (Addr × Obj)} {g g' : Heap} {s s' : Shared} {L' : Addr} {m' : Str → Option Value} (hg : ∀ b o, s.heap.get? b = some o → b ∉ news.map (·.1) → g.get? b = some o)
    (hn : ∀ p ∈ news, s.heap.get? p.1 = some p.2) (T : KtsTurn fs g g') (F : Fr g' L' s'.heap m') (hk : ∀ p ∈ news, s'.heap.get? p.1 = some p.2) : Turned fs s.heap s'.heap := fun b o e => by
  by_cases hb : b ∈ news.map (·.1)
  · obtain ⟨q, hq, rfl⟩ := List.mem_map.mp hb
    have e1 := hn q hq
    rw [e] at e1; cases e1
    exact ⟨fun _ => hk q hq, _, hk q hq⟩
  · have e1 := hg b o e hb
    refine ⟨fun m => F.keep _ _ (T.other b o e1 m), ?_⟩
    obtain ⟨sl, h⟩ := T.up e1
    exact ⟨sl, F.keep _ _ h⟩

section
variable {prog : Program} {w : World} {A₀ A : Around} {s : Shared} {base h₀ : Heap} {outer : List Env} {L : Addr} {m : Str → Option Value} {env : Env} {news : List (Addr × Obj)} {K : Frag}
  {R : Result → Shared → Prop} {name qual : Str} {params : Arguments} {body : List Stmt} {scope : Scope} {dV kV doc pm cdv ct oc : Value} {an od : Option Addr} {osl : Array (Option Value)} {f : Addr} {args : Args} {binds : List (Str × Value)}
  {p : Program} {loose : List Str} {mean : ExcName → Option Value} {mg mb : Str → Option Value}

theorem enterS_plain (B : Below A₀ base outer h₀) (F : Fr h₀ L s.heap m) (X₀ : K.In h₀) (N : News h₀ L s.heap news) (T : Top p loose mean mg mb h₀) (hA : A.frames = some (env :: outer)) (hf : env.frame = some L) (hke : env.scope.kind = .function)
    (ho : K.lookup f = some ⟨oc, od, .func (fnOf name qual params body scope dV kV doc pm an cdv ct), osl⟩) (hcd : codeIn K cdv qual = true) (hroom : A.depth < recursionLimit)
    (hbind : BindsTo s (fnOf name qual params body scope dV kV doc pm an cdv ct) args binds) (hloc : ∀ y ∈ binds, scope.names.lookup y.1 = some .local)
    (h : ∀ g L' h₁, Fr g L' h₁ (fun y => binds.reverse.lookup y) → News g L' h₁ news → Below A base (env :: outer) g → K.In g → Top p loose mean mg mb g → (∀ p ∈ news, p.1 < L') → s.heap.objs.size = L' →
      (∀ b o, s.heap.get? b = some o → b ∉ news.map (·.1) → g.get? b = some o) →
      wpAny (model prog w) (A.deeper (envOf qual scope L' f cdv)) (execs body (envOf qual scope L' f cdv))
        (fun fl s' => BackS (framesOf (env :: outer)) g news s R (match fl with | .ret v => v | _ => .none) s')
        (fun e s' => wpAny (model prog w) (A.deeper (envOf qual scope L' f cdv)) (leaving (envOf qual scope L' f cdv) e) (fun _ s'' => R (.error e) s'') (fun e' s'' => R (.error e') s'') s')
        { s with heap := h₁, toks := s.toks + binds.length })
    (hco : scope.isCoroutine = false) (hgen : scope.isGenerator = false) (hk : scope.kind = .function)
    (hcell : ∀ x ∈ scope.names, x.2 ≠ .cell) : codeAny (model prog w) A (.call (.ref f) args) R s := by
  obtain ⟨_, BG, st, _⟩ := groundX (R := R) B F N hA hf hke
  refine codeAny_call_def (fd := fnX name qual params body scope [] dV kV doc pm an cdv ct) (body := body) (binds := binds) hroom ((X₀.keeps F.keep) _ _ ho) rfl (T.nolimit.keeps F.keep) (codeRec_of (X₀.keeps F.keep) hcd) rfl hbind hcell hloc (fun h₁ hns hk₁ => ?_) hco hgen hk
  have hg : ∀ b o, s.heap.get? b = some o → b ∉ news.map (·.1) → (hideAll s.heap (news.map (·.1))).get? b = some o := fun b o e hb => hideAll_get _ e hb
  refine wpAny_mono (h _ s.heap.objs.size h₁ ⟨hns, fun b o e => hk₁ b o (of_hideAll _ e), Nat.le_of_eq (hideAll_size _ _)⟩
    (fun p hp => ⟨hk₁ _ _ (N p hp).1, Nat.ne_of_lt (Heap.lt_size (N p hp).1), hideAll_none _ (List.mem_map_of_mem hp)⟩) BG (X₀.keeps st) (T.keeps st) (fun p hp => Heap.lt_size (N p hp).1) rfl hg) (fun fl s' hl => ?_) fun _ _ y => y
  obtain ⟨g', L', m', T', F', hk', k⟩ := hl
  exact k (back_turned hg (fun p hp => (N p hp).1) T' F' hk')

theorem enterS_cells (B : Below A₀ base outer h₀) (F : Fr h₀ L s.heap m) (X₀ : K.In h₀) (N : News h₀ L s.heap news) (T : Top p loose mean mg mb h₀) (hA : A.frames = some (env :: outer)) (hf : env.frame = some L) (hke : env.scope.kind = .function)
    (ho : K.lookup f = some ⟨oc, od, .func (fnOf name qual params body scope dV kV doc pm an cdv ct), osl⟩) (hcd : codeIn K cdv qual = true) (hroom : A.depth < recursionLimit)
    (hbind : BindsTo s (fnOf name qual params body scope dV kV doc pm an cdv ct) args binds) (hkind : (binds.all fun y => scope.names.lookup y.1 == some .local || scope.names.lookup y.1 == some .cell) = true)
    (hnd : ((cellsFrom 0 scope.names []).map (·.1)).Nodup)
    (h : ∀ g L' h₁ tk cells, Fr g L' h₁ (bindL (envOfC qual scope L' f cdv).kindOf binds fun _ => none) → News g L' h₁ (cells ++ news) →
      CellsAre (bindC (envOfC qual scope L' f cdv).kindOf binds fun _ => none) (cellsFrom (L' + 1) scope.names []) cells → Below A base (env :: outer) g → K.In g → Top p loose mean mg mb g → (∀ p ∈ news, p.1 < L') → s.heap.objs.size = L' →
      (∀ b o, s.heap.get? b = some o → b ∉ news.map (·.1) → g.get? b = some o) →
      wpAny (model prog w) (A.deeper (envOfC qual scope L' f cdv)) (execs body (envOfC qual scope L' f cdv))
        (fun fl s' => BackS (framesOf (env :: outer)) g news s R (match fl with | .ret v => v | _ => .none) s')
        (fun e s' => wpAny (model prog w) (A.deeper (envOfC qual scope L' f cdv)) (leaving (envOfC qual scope L' f cdv) e) (fun _ s'' => R (.error e) s'') (fun e' s'' => R (.error e') s'') s')
        { s with heap := h₁, toks := tk })
    (hco : scope.isCoroutine = false) (hgen : scope.isGenerator = false) (hk : scope.kind = .function) : codeAny (model prog w) A (.call (.ref f) args) R s := by
  obtain ⟨_, BG, st, _⟩ := groundX (R := R) B F N hA hf hke
  refine codeAny_call_function hroom ((X₀.keeps F.keep) _ _ ho) rfl hco hgen rfl (codeRec_of (X₀.keeps F.keep) hcd) (hbind _ _ _ _ ?_)
  refine wpAny_newFunctionEnv_cells hk (kindsX hkind _) fun env' he s' x => ?_
  subst he
  refine ⟨(T.nolimit.keeps F.keep).keeps x.toInCall.keep, codeAny_func ?_⟩
  obtain ⟨h₁, tk, rfl, _⟩ := x.done
  have hk₁ := x.toInCall.keep
  obtain ⟨cells, NC, Y⟩ := Cl.news (h₀ := s.heap) (Nat.le_refl _) fun n c hm => ⟨x.cell n c (lookup_of_mem_nodup (cellsFrom_names scope.names 0 (s.heap.objs.size + 1) [] [] rfl ▸ hnd) hm), x.above n c hm⟩
  have hg : ∀ b o, s.heap.get? b = some o → b ∉ news.map (·.1) → (hideAll s.heap (news.map (·.1))).get? b = some o := fun b o e hb => hideAll_get _ e hb
  refine wpAny_mono (h _ s.heap.objs.size h₁ tk cells ⟨x.toInCall.ns, fun b o e => hk₁ b o (of_hideAll _ e), Nat.le_of_eq (hideAll_size _ _)⟩ (fun p hp => ?_) Y BG (X₀.keeps st) (T.keeps st) (fun p hp => Heap.lt_size (N p hp).1) rfl hg) (fun fl s' hl => ?_) fun _ _ y => y
  · rcases List.mem_append.mp hp with hp | hp
    · refine ⟨(NC p hp).1, (NC p hp).2.1, ?_⟩
      cases q : (hideAll s.heap (news.map (·.1))).get? p.1 with
      | none => rfl
      | some o => have := of_hideAll _ q; rw [(NC p hp).2.2] at this; cases this
    · exact ⟨hk₁ _ _ (N p hp).1, Nat.ne_of_lt (Heap.lt_size (N p hp).1), hideAll_none _ (List.mem_map_of_mem hp)⟩
  · obtain ⟨g', L', m', T', F', hk', k⟩ := hl
    exact k (back_turned hg (fun p hp => (N p hp).1) T' F' hk')
end

noncomputable def GivesS (w : World) (f : Addr) (vs : List Value) (d u : Nat) (news : List (Addr × Obj)) (post : Heap → Heap → Value → Prop) : Prop :=
  ∀ (p : Program) (loose : List Str) (mean : ExcName → Option Value) (mg mb : Str → Option Value) (A₀ : Around) (dp un : Nat) (gd : Option (List Code)) (env : Env) (outer : List Env) (base h₀ : Heap) (L : Addr) (m : Str → Option Value) (s : Shared) (Q E : Value → Shared → Prop),
    Below A₀ base outer h₀ → Fr h₀ L s.heap m → env.frame = some L → env.scope.kind = .function → (hd.heap_39 w.params).In base → Top p loose mean mg mb base → News h₀ L s.heap news →
    dp + d < recursionLimit → un + u < cLine →
    (∀ r h' tk', Turned (framesOf (env :: outer)) s.heap h' → post s.heap h' r → Q r { s with heap := h', toks := tk' }) →
    wpAny (model Challenge.rw_kt0001_01.row.prog w) { handled := none, depth := dp, frames := some (env :: outer), guards := gd, units := un } (call (.ref f) vs) Q E s

theorem backS_ret {fs : List Addr} {g g' : Heap} {news news' : List (Addr × Obj)} {s : Shared} {R : Result → Shared → Prop} {v : Value} {L' : Addr} {m' : Str → Option Value} {h : Heap} {tk : Nat}
    (T : KtsTurn fs g g') (F : Fr g' L' h m') (N : News g' L' h news') (hs : ∀ p ∈ news, p ∈ news') (k : Turned fs s.heap h → R (.ok (.ret v)) { s with heap := h, toks := tk }) : BackS fs g news s R v { s with heap := h, toks := tk } :=
  ⟨g', L', m', T, F, fun p hp => (N p (hs p hp)).1, k⟩

theorem fr_turn {A₀ : Around} {base h₀ h h' : Heap} {outer : List Env} {L : Addr} {m : Str → Option Value} {env : Env} {news : List (Addr × Obj)} (B : Below A₀ base outer h₀) (F : Fr h₀ L h m) (hf : env.frame = some L) (N : News h₀ L h news) (Tn : Turned (framesOf (env :: outer)) h h') :
    ∃ g', KtsTurn (framesOf outer) h₀ g' ∧ Fr g' L h' m ∧ News g' L h' news ∧ Below A₀ base outer g' := by
  have hL := kts_self F
  have hfr : framesOf (env :: outer) = L :: framesOf outer := by unfold framesOf; rw [List.filterMap_cons, hf]
  rw [hfr] at Tn
  obtain ⟨T, S⟩ := kts_turn_at (h := h') (fs := framesOf outer) (g := h₀)
    (fun b hb => by
      obtain ⟨_, o, ho, _⟩ := B.frames.mem hb
      exact ⟨o, ho⟩)
    (fun b o e nm => (Tn b o (F.keep b o e)).1 fun hm => by
      rcases List.mem_cons.mp hm with z | z
      · rw [z, hL] at e; cases e
      · exact nm z)
    (fun b o e _ => (Tn b o (F.keep b o e)).2)
  have hns : h'.Ns L m := by
    obtain ⟨o, es, ep, e, r⟩ := F.ns
    obtain ⟨sl, e'⟩ := (Tn L o e).2
    exact ⟨_, es, ep, e', r⟩
  refine ⟨_, T, ⟨hns, S, by rw [T.size]; exact F.above⟩, fun q hq => ?_, ⟨B.stack, fun b o e => T.other b o (B.stays b o e) (fun hm => by
    rw [(B.frames.mem hm).1] at e
    cases e), B.frames.of_keeps fun b o e _ => ?_⟩⟩
  · obtain ⟨x1, x2, x3⟩ := N q hq
    refine ⟨(Tn _ _ x1).1 fun hm => ?_, x2, T.none_ _ x3⟩
    rcases List.mem_cons.mp hm with z | z
    · exact x2 z
    · obtain ⟨_, o, ho, _⟩ := B.frames.mem z
      rw [x3] at ho; cases ho
  · obtain ⟨sl, hs⟩ := T.up e
    exact ⟨_, hs, rfl⟩

theorem givesS_use {w : World} {f : Addr} {vs : List Value} {d u : Nat} {news : List (Addr × Obj)} {post : Heap → Heap → Value → Prop} (G : GivesS w f vs d u news post)
    {p : Program} {loose : List Str} {mean : ExcName → Option Value} {mg mb : Str → Option Value} {A₀ : Around} {dp un : Nat} {gd : Option (List Code)} {env : Env} {outer : List Env} {base g₀ h₀ : Heap} {L : Addr} {m : Str → Option Value} {s : Shared} {Q E : Value → Shared → Prop} {news' : List (Addr × Obj)}
    (B : Below A₀ base outer h₀) (T0 : KtsTurn (framesOf outer) g₀ h₀) (F : Fr h₀ L s.heap m) (hf : env.frame = some L) (hk : env.scope.kind = .function) (X : (hd.heap_39 w.params).In base) (T : Top p loose mean mg mb base) (N : News h₀ L s.heap news') (hs : ∀ p ∈ news, p ∈ news')
    (hd : dp + d < recursionLimit) (hu : un + u < cLine)
    (ret : ∀ g' r h' tk', KtsTurn (framesOf outer) g₀ g' → Below A₀ base outer g' → Fr g' L h' m → News g' L h' news' → (Mine.hd.heap_39 w.params).In g' → Top p loose mean mg mb g' → (∀ b, s.heap.objs.size ≤ b → g'.get? b = none ∧ L < b ∧ ∀ p ∈ news', p.1 < b) → post s.heap h' r → Q r { s with heap := h', toks := tk' }) :
    wpAny (model Challenge.rw_kt0001_01.row.prog w) { handled := none, depth := dp, frames := some (env :: outer), guards := gd, units := un } (call (.ref f) vs) Q E s :=
  G p loose mean mg mb A₀ dp un gd env outer base h₀ L m s Q E B F hf hk X T (fun q hq => N q (hs q hq)) hd hu fun r h' tk' hst hp => by
    obtain ⟨g', T', F', N', B'⟩ := fr_turn B F hf N hst
    exact ret g' r h' tk' (T0.trans T') B' F' N' (X.keeps B'.stays) (T.keeps B'.stays) (fun b hb => ⟨T'.none_ _ (kts_none F.keep (Heap.get?_none_of_le hb)), Nat.lt_of_lt_of_le F.ns.lt hb, fun p hp => Nat.lt_of_lt_of_le (Heap.lt_size (N p hp).1) hb⟩) hp
noncomputable def TurnedX (fs X : List Addr) (h h' : Heap) : Prop := ∀ b o, h.get? b = some o → b ∉ X → (b ∉ fs → h'.get? b = some o) ∧ ∃ sl, h'.get? b = some { o with slots := sl }
noncomputable def BackG (fs : List Addr) (g : Heap) (news : List (Addr × Obj)) (s : Shared) (R : Result → Shared → Prop) (v : Value) (s' : Shared) : Prop :=
  ∃ g' L' m', KtsTurn fs g g' ∧ Fr g' L' s'.heap m' ∧ (TurnedX fs (news.map (·.1)) s.heap s'.heap → R (.ok (.ret v)) s')
theorem back_turnedX {fs X : List Addr} {g g' : Heap} {s s' : Shared} {L' : Addr} {m' : Str → Option Value} (hg : ∀ b o, s.heap.get? b = some o → b ∉ X → g.get? b = some o)
    (T : KtsTurn fs g g') (F : Fr g' L' s'.heap m') : TurnedX fs X s.heap s'.heap := fun b o e hb => by
  have e1 := hg b o e hb
  refine ⟨fun m => F.keep _ _ (T.other b o e1 m), ?_⟩
  obtain ⟨sl, h⟩ := T.up e1
  exact ⟨sl, F.keep _ _ h⟩

section
variable {prog : Program} {w : World} {A₀ A : Around} {s : Shared} {base h₀ : Heap} {outer : List Env} {L : Addr} {m : Str → Option Value} {env : Env} {news : List (Addr × Obj)} {K : Frag}
  {R : Result → Shared → Prop} {name qual : Str} {params : Arguments} {body : List Stmt} {scope : Scope} {dV kV doc pm cdv ct oc : Value} {an od : Option Addr} {osl : Array (Option Value)} {f : Addr} {args : Args} {binds : List (Str × Value)}
  {p : Program} {loose : List Str} {mean : ExcName → Option Value} {mg mb : Str → Option Value}
theorem enterG_cells (B : Below A₀ base outer h₀) (F : Fr h₀ L s.heap m) (X₀ : K.In h₀) (N : News h₀ L s.heap news) (T : Top p loose mean mg mb h₀) (hA : A.frames = some (env :: outer)) (hf : env.frame = some L) (hke : env.scope.kind = .function)
    (ho : K.lookup f = some ⟨oc, od, .func (fnOf name qual params body scope dV kV doc pm an cdv ct), osl⟩) (hcd : codeIn K cdv qual = true) (hroom : A.depth < recursionLimit)
    (hbind : BindsTo s (fnOf name qual params body scope dV kV doc pm an cdv ct) args binds) (hkind : (binds.all fun y => scope.names.lookup y.1 == some .local || scope.names.lookup y.1 == some .cell) = true)
    (hnd : ((cellsFrom 0 scope.names []).map (·.1)).Nodup)
    (h : ∀ g L' h₁ tk cells, Fr g L' h₁ (bindL (envOfC qual scope L' f cdv).kindOf binds fun _ => none) → News g L' h₁ (cells ++ news) →
      CellsAre (bindC (envOfC qual scope L' f cdv).kindOf binds fun _ => none) (cellsFrom (L' + 1) scope.names []) cells → Below A base (env :: outer) g → K.In g → Top p loose mean mg mb g → (∀ p ∈ news, p.1 < L') → s.heap.objs.size = L' →
      (∀ b o, s.heap.get? b = some o → b ∉ news.map (·.1) → g.get? b = some o) →
      wpAny (model prog w) (A.deeper (envOfC qual scope L' f cdv)) (execs body (envOfC qual scope L' f cdv))
        (fun fl s' => BackG (framesOf (env :: outer)) g news s R (match fl with | .ret v => v | _ => .none) s')
        (fun e s' => wpAny (model prog w) (A.deeper (envOfC qual scope L' f cdv)) (leaving (envOfC qual scope L' f cdv) e) (fun _ s'' => R (.error e) s'') (fun e' s'' => R (.error e') s'') s')
        { s with heap := h₁, toks := tk })
    (hco : scope.isCoroutine = false) (hgen : scope.isGenerator = false) (hk : scope.kind = .function) : codeAny (model prog w) A (.call (.ref f) args) R s := by
  obtain ⟨_, BG, st, _⟩ := groundX (R := R) B F N hA hf hke
  refine codeAny_call_function hroom ((X₀.keeps F.keep) _ _ ho) rfl hco hgen rfl (codeRec_of (X₀.keeps F.keep) hcd) (hbind _ _ _ _ ?_)
  refine wpAny_newFunctionEnv_cells hk (kindsX hkind _) fun env' he s' x => ?_
  subst he
  refine ⟨(T.nolimit.keeps F.keep).keeps x.toInCall.keep, codeAny_func ?_⟩
  obtain ⟨h₁, tk, rfl, _⟩ := x.done
  have hk₁ := x.toInCall.keep
  obtain ⟨cells, NC, Y⟩ := Cl.news (h₀ := s.heap) (Nat.le_refl _) fun n c hm => ⟨x.cell n c (lookup_of_mem_nodup (cellsFrom_names scope.names 0 (s.heap.objs.size + 1) [] [] rfl ▸ hnd) hm), x.above n c hm⟩
  have hg : ∀ b o, s.heap.get? b = some o → b ∉ news.map (·.1) → (hideAll s.heap (news.map (·.1))).get? b = some o := fun b o e hb => hideAll_get _ e hb
  refine wpAny_mono (h _ s.heap.objs.size h₁ tk cells ⟨x.toInCall.ns, fun b o e => hk₁ b o (of_hideAll _ e), Nat.le_of_eq (hideAll_size _ _)⟩ (fun p hp => ?_) Y BG (X₀.keeps st) (T.keeps st) (fun p hp => Heap.lt_size (N p hp).1) rfl hg) (fun fl s' hl => ?_) fun _ _ y => y
  · rcases List.mem_append.mp hp with hp | hp
    · refine ⟨(NC p hp).1, (NC p hp).2.1, ?_⟩
      cases q : (hideAll s.heap (news.map (·.1))).get? p.1 with
      | none => rfl
      | some o => have := of_hideAll _ q; rw [(NC p hp).2.2] at this; cases this
    · exact ⟨hk₁ _ _ (N p hp).1, Nat.ne_of_lt (Heap.lt_size (N p hp).1), hideAll_none _ (List.mem_map_of_mem hp)⟩
  · obtain ⟨g', L', m', T', F', k⟩ := hl
    exact k (back_turnedX hg T' F')
end

noncomputable def TabS (c : Addr) (oc : Obj) (ps : Array Value) : Prop := @LT.lt Nat _ 99 c ∧ (ps = #[] ∨ (ps = #[rawInt 74, rawInt 22, .ref c] ∧ ∃ vs t, oc.data = .fields vs ∧ vs[1]? = some (.str "_law_worth.<locals>.<lambda>" t)))

noncomputable def GivesW (w : World) (vs : List Value) (d u : Nat) (news : List (Addr × Obj)) (post : Value → Prop) : Prop :=
  ∀ (p : Program) (loose : List Str) (mean : ExcName → Option Value) (mg mb : Str → Option Value) (A₀ : Around) (dp un : Nat) (gd : Option (List Code)) (env : Env) (outer : List Env) (base h₀ : Heap) (L : Addr) (m : Str → Option Value) (s : Shared) (Q E : Value → Shared → Prop) (c : Addr) (oc : Obj) (ps : Array Value),
    Below A₀ base outer h₀ → Fr h₀ L s.heap m → env.frame = some L → env.scope.kind = .function → (hd.heap_39 w.params).In base → Top p loose mean mg mb base → CodeHd base 101 99 → TabS c oc ps → News h₀ L s.heap (news ++ [(c, oc), (99, tabObj ps)]) →
    dp + d < recursionLimit → un + u < cLine →
    (∀ r h' tk' c2 oc2 ps2, TabS c2 oc2 ps2 → TurnedX (framesOf (env :: outer)) [99] s.heap h' → h'.get? c2 = some oc2 → h'.get? 99 = some (tabObj ps2) → (c2 = c ∨ s.heap.objs.size ≤ c2) → post r → Q r { s with heap := h', toks := tk' }) →
    wpAny (model Challenge.rw_kt0001_01.row.prog w) { handled := none, depth := dp, frames := some (env :: outer), guards := gd, units := un } (call (.ref 102) vs) Q E s

theorem fr_turnX {A₀ : Around} {base h₀ h h' : Heap} {outer : List Env} {L P : Addr} {m : Str → Option Value} {env : Env} {news : List (Addr × Obj)} {o o' : Obj} {g : Obj → List (Addr × Obj)} (B : Below A₀ base outer h₀) (F : Fr h₀ L h m) (hf : env.frame = some L) (N : News h₀ L h news) (U : UpdF P o news g) (Tn : TurnedX (framesOf (env :: outer)) [P] h h') (hP : h'.get? P = some o') :
    ∃ g', KtsTurn (framesOf outer) h₀ g' ∧ Fr g' L h' m ∧ News g' L h' (g o') ∧ Below A₀ base outer g' := by
  obtain ⟨own, rest, rfl, hg, h1, h2⟩ := U.split
  have hm := N (P, o) (List.mem_append_right _ (.head _))
  have hL := kts_self F
  have hfr : framesOf (env :: outer) = L :: framesOf outer := by unfold framesOf; rw [List.filterMap_cons, hf]
  rw [hfr] at Tn
  have np : ∀ b o, h₀.get? b = some o → b ∉ [P] := fun b o e q => by
    have : b = P := by simpa using q
    rw [this, hm.2.2] at e; cases e
  obtain ⟨T, S⟩ := kts_turn_at (h := h') (fs := framesOf outer) (g := h₀)
    (fun b hb => by
      obtain ⟨_, o, ho, _⟩ := B.frames.mem hb
      exact ⟨o, ho⟩)
    (fun b o e nm => (Tn b o (F.keep b o e) (np b o e)).1 fun hm => by
      rcases List.mem_cons.mp hm with z | z
      · rw [z, hL] at e; cases e
      · exact nm z)
    (fun b o e _ => (Tn b o (F.keep b o e) (np b o e)).2)
  have hns : h'.Ns L m := by
    obtain ⟨o, es, ep, e, r⟩ := F.ns
    obtain ⟨sl, e'⟩ := (Tn L o e (by simpa using hm.2.1.symm)).2
    exact ⟨_, es, ep, e', r⟩
  have nf : ∀ q ∈ own ++ (P, o) :: rest, q.1 ∉ L :: framesOf outer := fun q hq hz => by
    obtain ⟨x1, x2, x3⟩ := N q hq
    rcases List.mem_cons.mp hz with z | z
    · exact x2 z
    · obtain ⟨_, o, ho, _⟩ := B.frames.mem z
      rw [x3] at ho; cases ho
  refine ⟨_, T, ⟨hns, S, by rw [T.size]; exact F.above⟩, fun q hq => ?_, ⟨B.stack, fun b o e => T.other b o (B.stays b o e) (fun hm => by
    rw [(B.frames.mem hm).1] at e
    cases e), B.frames.of_keeps fun b o e _ => ?_⟩⟩
  · rw [hg] at hq
    rcases List.mem_append.mp hq with hq | hq
    · have n := N q (List.mem_append_left _ hq)
      exact ⟨(Tn _ _ n.1 (by simpa using h1 q hq)).1 (nf q (List.mem_append_left _ hq)), n.2.1, T.none_ _ n.2.2⟩
    · rcases List.mem_cons.mp hq with rfl | hq
      · exact ⟨hP, hm.2.1, T.none_ _ hm.2.2⟩
      · have n := N q (List.mem_append_right _ (.tail _ hq))
        exact ⟨(Tn _ _ n.1 (by simpa using h2 q hq)).1 (nf q (List.mem_append_right _ (.tail _ hq))), n.2.1, T.none_ _ n.2.2⟩
  · obtain ⟨sl, hs⟩ := T.up e
    exact ⟨_, hs, rfl⟩

theorem givesW_use {w : World} {vs : List Value} {d u : Nat} {news : List (Addr × Obj)} {post : Value → Prop} (G : GivesW w vs d u news post)
    {p : Program} {loose : List Str} {mean : ExcName → Option Value} {mg mb : Str → Option Value} {A₀ : Around} {dp un : Nat} {gd : Option (List Code)} {env : Env} {outer : List Env} {base g₀ h₀ : Heap} {L : Addr} {m : Str → Option Value} {s : Shared} {Q E : Value → Shared → Prop} {news' : List (Addr × Obj)} {c : Addr} {oc : Obj} {ps : Array Value} {gf : Obj → List (Addr × Obj)}
    (B : Below A₀ base outer h₀) (T0 : KtsTurn (framesOf outer) g₀ h₀) (F : Fr h₀ L s.heap m) (hf : env.frame = some L) (hk : env.scope.kind = .function) (X : (hd.heap_39 w.params).In base) (T : Top p loose mean mg mb base) (C : CodeHd base 101 99) (N : News h₀ L s.heap news') (S : TabS c oc ps) (U : UpdF 99 (tabObj ps) news' gf) (hs : ∀ p ∈ news ++ [(c, oc), (99, tabObj ps)], p ∈ news')
    (hd : dp + d < recursionLimit) (hu : un + u < cLine)
    (ret : ∀ g' r h' tk' c2 oc2 ps2, KtsTurn (framesOf outer) g₀ g' → Below A₀ base outer g' → Fr g' L h' m → News g' L h' ((c2, oc2) :: gf (tabObj ps2)) → (Mine.hd.heap_39 w.params).In g' → Top p loose mean mg mb g' → TabS c2 oc2 ps2 → (c2 = c ∨ s.heap.objs.size ≤ c2) → (c2 = c ∨ ∀ p ∈ news', p.1 < c2) → post r → Q r { s with heap := h', toks := tk' }) :
    wpAny (model Challenge.rw_kt0001_01.row.prog w) { handled := none, depth := dp, frames := some (env :: outer), guards := gd, units := un } (call (.ref 102) vs) Q E s :=
  G p loose mean mg mb A₀ dp un gd env outer base h₀ L m s Q E c oc ps B F hf hk X T C S (fun q hq => N q (hs q hq)) hd hu fun r h' tk' c2 oc2 ps2 hS hst h1 h2 hc hp => by
    obtain ⟨g', T', F', N', B'⟩ := fr_turnX B F hf N U hst h2
    refine ret g' r h' tk' c2 oc2 ps2 (T0.trans T') B' F' (fun q hq => ?_) (X.keeps B'.stays) (T.keeps B'.stays) hS hc (hc.imp id fun q p hp => Nat.lt_of_lt_of_le (Heap.lt_size (N p hp).1) q) hp
    rcases List.mem_cons.mp hq with rfl | hq
    · rcases hc with rfl | hc
      · have n := N _ (hs _ (List.mem_append_right _ (.head _)))
        exact ⟨h1, n.2.1, T'.none_ _ n.2.2⟩
      · exact ⟨h1, Nat.ne_of_gt (Nat.lt_of_lt_of_le F.ns.lt hc), T'.none_ _ (kts_none F.keep (Heap.get?_none_of_le hc))⟩
    · exact N' q hq
theorem backW {fs : List Addr} {g g' h₀ h : Heap} {s : Shared} {R : Result → Shared → Prop} {v : Value} {L L' a d c c2 : Addr} {m' : Str → Option Value} {oa od oc oc2 : Obj} {ps ps2 : Array Value} {news' : List (Addr × Obj)} {tk : Tok}
    (N : News h₀ L s.heap [(a, oa), (d, od), (c, oc), (99, tabObj ps)]) (T : KtsTurn fs g g') (F : Fr g' L' h m') (N' : News g' L' h news') (_S : TabS c2 oc2 ps2) (ma : (a, oa) ∈ news') (md : (d, od) ∈ news') (mc : (c, oc) ∈ news') (m2 : (c2, oc2) ∈ news') (m9 : (99, tabObj ps2) ∈ news')
    (k : TurnedX fs [99] s.heap h → h.get? c2 = some oc2 → h.get? 99 = some (tabObj ps2) → R (.ok (.ret v)) { s with heap := h, toks := tk }) : BackG fs g [(a, oa), (d, od), (c, oc), (99, tabObj ps)] s R v { s with heap := h, toks := tk } := by
  refine ⟨g', L', m', T, F, fun Tn => k (fun b o e hb => ?_) (N' _ m2).1 (N' _ m9).1⟩
  have put : ∀ {q : Addr} {oq : Obj}, (q, oq) ∈ [(a, oa), (d, od), (c, oc), (99, tabObj ps)] → (q, oq) ∈ news' → b = q → (b ∉ fs → h.get? b = some o) ∧ ∃ sl, h.get? b = some { o with slots := sl } := by
    intro q oq h1 h2 e1
    subst e1
    have e2 := (N _ h1).1
    rw [e] at e2; cases e2
    exact ⟨fun _ => (N' _ h2).1, _, (N' _ h2).1⟩
  by_cases h1 : b = a
  · exact put (.head _) ma h1
  by_cases h2 : b = d
  · exact put (.tail _ (.head _)) md h2
  by_cases h3 : b = c
  · exact put (.tail _ (.tail _ (.head _))) mc h3
  refine Tn b o e ?_
  simp only [List.map_cons, List.map_nil, List.mem_cons, List.not_mem_nil, or_false, not_or]
  exact ⟨h1, h2, h3, by simpa using hb⟩

end
section
section
variable {M : Model} {A : Around} {E : Value → Shared → Prop} {s : Shared} {h₀ : Heap} {L a cd0 : Addr} {m mg mb : Str → Option Value} {cn : Str} {cs : Scope} {ccd : Value} {cl : List (Str × Addr)} {news : List (Addr × Obj)} {g : Obj → List (Addr × Obj)}
  {p : Program} {loose : List Str} {mean : ExcName → Option Value} {name qual : Str} {params : Arguments} {body : Expr} {scope : Scope} {ps : Array Value} {pos : Pos} {firstLine : Nat} {clos : List (Str × Addr)} {c : Addr} {oc : Obj}
theorem lam_S {Q : Value → Shared → Prop} (F : Fr h₀ L s.heap m) (N : News h₀ L s.heap news) (T : Top p loose mean mg mb h₀) (C : CodeHd h₀ cd0 99) (hcd : ccd = .ref cd0) (U : UpdF 99 (tabObj ps) news g) (S : TabS c oc ps) (hm : (c, oc) ∈ news)
    (hl : pos.line = 74) (hc : pos.col = 22) (hq : qual = "_law_worth.<locals>.<lambda>")
    (hcl : closureFor scope (envX cn cs L a ccd cl) = pure clos)
    (h : ∀ f c2 oc2 ps2 vs t ctv h' tk, Fr h₀ L h' m → News h₀ L h' ((f, kla_obj name qual params body scope clos ((mg "__name__").getD .none) c2 ctv) :: (c2, oc2) :: g (tabObj ps2)) →
      TabS c2 oc2 ps2 → oc2.data = .fields vs → vs[1]? = some (.str qual t) → (∀ q ∈ news, q.1 < f) → c2 < f → (c2 = c ∨ ∀ q ∈ news, q.1 < c2) → Q (.ref f) { s with heap := h', toks := tk }) :
    wpAny M A (makeFunction name qual params (.expr body) scope (envX cn cs L a ccd cl) [] [] [] pos firstLine) Q E s := by
  obtain ⟨pl, pc, pe, pf⟩ := pos
  dsimp only at hl hc
  subst hl hc
  obtain ⟨own, rest, hn, hg, h1, h2⟩ := id U.split
  obtain ⟨o99, rfl | ⟨rfl, vs, t, hd, hv⟩⟩ := S
  · refine kla_nest F N T C hcd U (by first | exact True.intro | simp [TriplesOk]) rfl hcl fun f c' oc' vs t ctv h' tk F' N' d1 d2 l1 l2 => ?_
    have hLc : @LT.lt Nat _ 99 c' := l1 (99, tabObj #[]) (by rw [hn]; exact List.mem_append_right _ (.head _))
    refine h f c' oc' _ vs t ctv h' tk F' N' ⟨hLc, .inr ⟨?_, vs, t, d1, hq ▸ d2⟩⟩ d1 d2 (fun q hq => Nat.lt_trans (l1 q hq) l2) l2 (.inr l1)
    · rfl
  · refine kla_hit F N T C hcd (by rw [hn]; exact List.mem_append_right _ (.head _)) (by kn_triples) (by kn_hit) hcl fun f ctv h' tk F' N' l1 => ?_
    refine h f c oc _ vs t ctv h' tk F' (fun q hq' => ?_) ⟨o99, .inr ⟨rfl, vs, t, hd, hv⟩⟩ hd (hq ▸ hv) l1 (l1 _ hm) (.inl rfl)
    rcases List.mem_cons.mp hq' with rfl | hq'
    · exact N' _ (.head _)
    · rcases List.mem_cons.mp hq' with rfl | hq'
      · exact N' _ (.tail _ hm)
      · rw [hg, ← hn] at hq'
        exact N' _ (.tail _ hq')
end
theorem not_sys {d : Addr} (h : @LT.lt Nat _ 99 d) : (d == sysModules) = false := by
  have : d ≠ sysModules := fun e => by
    rw [e] at h
    exact absurd h (by decide)
  simpa using this

end
section
inductive KV : List (Int × Value) → List (Int × Int) → Prop
  | nil : KV [] []
  | cons (k x : Int) (t : Tok) {r s} : KV r s → KV ((k, .int x t) :: r) ((k, x) :: s)
theorem KV.keys {a : List (Int × Value)} {b : List (Int × Int)} (h : KV a b) : a.map (·.1) = b.map (·.1) := by
  induction h with
  | nil => rfl
  | cons k x t _ ih => simp [ih]
theorem KV.get {a : List (Int × Value)} {b : List (Int × Int)} {i : Nat} {p : Int × Value} (h : KV a b) (e : a[i]? = some p) : ∃ k x t, p = (k, .int x t) ∧ b[i]? = some (k, x) := by
  induction h generalizing i with
  | nil => simp at e
  | cons k x t _ ih =>
    cases i with
    | zero => simp at e; subst e; exact ⟨k, x, t, rfl, by simp⟩
    | succ i =>
      simp at e
      obtain ⟨k', x', t', e1, e2⟩ := ih e
      exact ⟨k', x', t', e1, by simpa using e2⟩
theorem KV.len {a : List (Int × Value)} {b : List (Int × Int)} (h : KV a b) : a.length = b.length := by
  induction h with
  | nil => rfl
  | cons k x t _ ih => simp [ih]
theorem valueAt_get : ∀ {a : List (Int × Value)} {i : Nat} {k : Int} {v : Value}, (a.map (·.1)).Nodup → a[i]? = some (k, v) → valueAt a k = some v
  | [], i, k, v, _, h => by simp at h
  | p :: r, 0, k, v, _, h => by
    simp at h; subst h
    simp [valueAt]
  | p :: r, i + 1, k, v, hn, h => by
    simp at h
    rw [List.map_cons, List.nodup_cons] at hn
    have ih := valueAt_get hn.2 h
    have : p.1 ≠ k := fun e => hn.1 (by
      rw [e]
      exact List.mem_map.mpr ⟨(k, v), List.mem_of_getElem? h, rfl⟩)
    unfold valueAt at ih ⊢
    rw [List.find?_cons]
    simp only [this, decide_false]
    exact ih
theorem DictIs.nodup {prog : Program} {w : World} {o : Obj} {kvs : List (Int × Value)} {ep : Nat} (h : DictIs prog w o kvs ep) : (kvs.map (·.1)).Nodup := let ⟨_, _, _, _, _, r⟩ := h; r
theorem loop_use0 {W : Shared → Prop} {st : Shared} (I : Nat → Shared → Prop) (n : Nat) (h0 : I n st) (step : ∀ n s', (∀ n' s'', n' < n → I n' s'' → W s'') → I n s' → W s') : W st := by
  induction n using Nat.strongRecOn generalizing st with
  | ind n ih => exact step n st (fun n' s'' hlt hI => ih n' hlt hI) h0
noncomputable def WInv (g : Heap) (L : Addr) (m : Str → Option Value) (s0 : Shared) (C D I d : Addr) (rest : List (Addr × Obj)) (kv : List (Int × Int)) (ep : Nat) (n : Nat) (s' : Shared) : Prop :=
  ∃ i oI oC mC acc cnt h tk, kv.length - i = n ∧ i ≤ kv.length ∧ s' = { s0 with heap := h, toks := tk } ∧ Fr g L h m ∧ News g L h ((C, oC) :: (D, W.listOf acc.toArray cnt) :: (I, oI) :: rest) ∧ LCg.NsObj oC mC ∧ KIt oI d i kv.length ep ∧ IntsAre acc ((kv.take i).map (·.2)) ∧ acc.length = i
theorem WInv.mk {g : Heap} {L : Addr} {m : Str → Option Value} {s0 : Shared} {C D I d : Addr} {rest : List (Addr × Obj)} {kv : List (Int × Int)} {ep : Nat} {oI oC : Obj} {mC : Str → Option Value} {h : Heap} {tk : Tok}
    (F : Fr g L h m) (N : News g L h ((C, oC) :: (D, W.listOf #[] 0) :: (I, oI) :: rest)) (hC : LCg.NsObj oC mC) (hI : KIt oI d 0 kv.length ep) : WInv g L m s0 C D I d rest kv ep kv.length { s0 with heap := h, toks := tk } :=
  ⟨0, oI, oC, mC, [], 0, h, tk, rfl, Nat.zero_le _, rfl, F, N, hC, hI, .nil, rfl⟩
theorem take_snd {kv : List (Int × Int)} {i : Nat} {k x : Int} (e : kv[i]? = some (k, x)) : (kv.take (i + 1)).map (·.2) = (kv.take i).map (·.2) ++ [x] := by
  rw [List.take_add_one, e]; simp
theorem WInv.next {g : Heap} {L : Addr} {m : Str → Option Value} {s0 : Shared} {C D I d : Addr} {rest : List (Addr × Obj)} {kv : List (Int × Int)} {ep i cnt : Nat} {k x : Int} {t : Tok} {oI oC : Obj} {mC : Str → Option Value} {acc : List Value} {h : Heap} {tk : Tok}
    (F : Fr g L h m) (N : News g L h ((C, oC) :: (D, W.listOf (acc ++ [Value.int x t]).toArray (cnt + 1)) :: (I, oI) :: rest)) (hC : LCg.NsObj oC mC) (hI : KIt oI d (i + 1) kv.length ep) (hi : i < kv.length) (e : kv[i]? = some (k, x)) (hA : IntsAre acc ((kv.take i).map (·.2))) (al : acc.length = i) :
    WInv g L m s0 C D I d rest kv ep (kv.length - (i + 1)) { s0 with heap := h, toks := tk } := by
  have push : ∀ {us : List Value} {ys : List Int}, IntsAre us ys → IntsAre (us ++ [.int x t]) (ys ++ [x]) := by
    intro us ys h
    induction h with
    | nil => exact .cons _ _ .nil
    | cons a t _ ih => exact .cons a t ih
  exact ⟨i + 1, oI, oC, mC, acc ++ [.int x t], cnt + 1, h, tk, rfl, hi, rfl, F, N, hC, hI, by rw [take_snd e]; exact push hA, by simp [al]⟩

end
section
noncomputable def over (m0 : Str → Option Value) (v e : Option Value) : Str → Option Value := fun y => if y = Str.ofString "value" then v else if y = Str.ofString "element" then e else m0 y
theorem over_start (m0 : Str → Option Value) (v : Value) : (fun y => if y = Str.ofString "value" then some v else m0 y) = over m0 (some v) (m0 (Str.ofString "element")) := by
  funext y
  unfold over
  by_cases h1 : y = Str.ofString "value"
  · rw [if_pos h1, if_pos h1]
  · rw [if_neg h1, if_neg h1]
    by_cases h2 : y = Str.ofString "element"
    · rw [if_pos h2, h2]
    · rw [if_neg h2]
theorem over_next (m0 : Str → Option Value) (v e v' e' : Option Value) : (fun y => if y = Str.ofString "value" then v' else if y = Str.ofString "element" then e' else over m0 v e y) = over m0 v' e' := by
  funext y
  unfold over
  by_cases h1 : y = Str.ofString "value"
  · simp only [if_pos h1]
  · simp only [if_neg h1]
    by_cases h2 : y = Str.ofString "element"
    · simp only [if_pos h2]
    · simp only [if_neg h2]
theorem prodL_push {l : List Int} (h : l ≠ []) (x : Int) : prodL (l ++ [x]) = prodL l * x := by
  cases l with
  | nil => exact absurd rfl h
  | cons a r => simp [prodL, List.foldl_append]
theorem ints_get {us : List Value} {ys : List Int} {i : Nat} {v : Value} (h : IntsAre us ys) (e : us[i]? = some v) : ∃ x t, v = .int x t ∧ ys[i]? = some x := by
  induction h generalizing i with
  | nil => simp at e
  | cons a t _ ih =>
    cases i with
    | zero => simp at e; subst e; exact ⟨a, t, rfl, by simp⟩
    | succ i =>
      simp at e
      obtain ⟨x, t', e1, e2⟩ := ih e
      exact ⟨x, t', e1, by simpa using e2⟩
noncomputable def RInv (g : Heap) (L : Addr) (m0 : Str → Option Value) (s0 : Shared) (I D : Addr) (rest : List (Addr × Obj)) (xs : List Int) (n : Nat) (s' : Shared) : Prop :=
  ∃ i oI y ty e h tk, xs.length - i = n ∧ i ≤ xs.length ∧ 1 ≤ i ∧ s' = { s0 with heap := h, toks := tk } ∧ Fr g L h (over m0 (some (.int y ty)) e) ∧ News g L h ((I, oI) :: rest) ∧ LIt oI D i ∧ y = prodL (xs.take i)
theorem RInv.mk {g : Heap} {L : Addr} {m0 : Str → Option Value} {s0 : Shared} {I D : Addr} {rest : List (Addr × Obj)} {x : Int} {r : List Int} {oI : Obj} {t : Tok} {h : Heap} {tk : Tok}
    (F : Fr g L h (fun y => if y = Str.ofString "value" then some (.int x t) else m0 y)) (N : News g L h ((I, oI) :: rest)) (hI : LIt oI D 1) : RInv g L m0 s0 I D rest (x :: r) r.length { s0 with heap := h, toks := tk } :=
  ⟨1, oI, x, t, _, h, tk, by simp, by simp, Nat.le_refl _, rfl, over_start m0 (.int x t) ▸ F, N, hI, by simp [prodL]⟩
theorem RInv.next {g : Heap} {L : Addr} {m0 : Str → Option Value} {s0 : Shared} {I D : Addr} {rest : List (Addr × Obj)} {xs : List Int} {oI : Obj} {i : Nat} {y y' x : Int} {t' : Tok} {v e e' : Option Value} {h : Heap} {tk : Tok}
    (F : Fr g L h (fun z => if z = Str.ofString "value" then some (.int y' t') else if z = Str.ofString "element" then e' else over m0 v e z)) (N : News g L h ((I, oI) :: rest)) (hI : LIt oI D (i + 1)) (hy : y = prodL (xs.take i)) (h1 : 1 ≤ i) (hx : xs[i]? = some x) (hy' : y' = y * x) :
    RInv g L m0 s0 I D rest xs (xs.length - (i + 1)) { s0 with heap := h, toks := tk } := by
  have hlt : i < xs.length := (List.getElem?_eq_some_iff.mp hx).1
  refine ⟨i + 1, oI, y', t', e', h, tk, rfl, hlt, by omega, rfl, over_next m0 v e _ e' ▸ F, N, hI, ?_⟩
  rw [List.take_add_one, hx, hy', hy]
  exact (prodL_push (by
    intro q
    have := congrArg List.length q
    simp only [List.length_take, List.length_nil] at this
    omega) x).symm
theorem ItemAt.of : ∀ {l : List Value} {i : Nat} {v : Value}, l[i]? = some v → ItemAt l i v
  | [], i, v, h => by simp at h
  | u :: r, 0, v, h => by simp at h; subst h; exact .zero
  | u :: r, i + 1, v, h => .succ (ItemAt.of (by simpa using h))
theorem OffAt.of : ∀ {l : List Value} {i : Nat}, l[i]? = none → OffAt l i
  | [], i, h => .nil
  | u :: r, 0, h => by simp at h
  | u :: r, i + 1, h => .succ (OffAt.of (by simpa using h))

end
section
section
variable {prog : Program} {w : World} {A : Around} {E : Value → Shared → Prop} {s : Shared} {h₀ : Heap} {L : Addr} {m : Str → Option Value} {news : List (Addr × Obj)} {a b : Int} {t u : Tok} {Q : Value → Shared → Prop}
theorem divmod_L (F : Fr h₀ L s.heap m) (N : News h₀ L s.heap news) (hb : 0 < b)
    (h : ∀ T h' t1 t2 tk', Fr h₀ L h' m → News h₀ L h' ((T, ({ cls := .type "tuple", data := .seq #[.int (a / b) t1, .int (a % b) t2] } : Obj)) :: news) → (∀ p ∈ news, p.1 < T) → Q (.ref T) { s with heap := h', toks := tk' })
    (hp : Builtin.divisionGoesByPylong a b = false) : wpAny (model prog w) A (call (.builtin "divmod") [.int a t, .int b u]) Q E s := by
  refine divmod_N F N (Int.ne_of_gt hb) (fun h' F' N' => ?_) (Or.inl hp)
  rw [Int.fdiv_eq_ediv_of_nonneg _ (Int.le_of_lt hb), Int.fmod_eq_emod_of_nonneg _ (Int.le_of_lt hb)] at N'
  exact h _ h' _ _ _ F' N' fun p hp => Heap.lt_size (N p hp).1
end
theorem ints_snoc {x : Int} {t : Tok} {us : List Value} {ys : List Int} (h : IntsAre us ys) : IntsAre (us ++ [.int x t]) (ys ++ [x]) := by
  induction h with
  | nil => exact .cons _ _ .nil
  | cons a t _ ih => exact .cons a t ih
noncomputable def LInv (g : Heap) (L : Addr) (m : Str → Option Value) (s0 : Shared) (C D I l : Addr) (rest : List (Addr × Obj)) (xs : List Int) (f : Int → Int) (n : Nat) (s' : Shared) : Prop :=
  ∃ i oI oC mC acc cnt h tk, xs.length - i = n ∧ i ≤ xs.length ∧ s' = { s0 with heap := h, toks := tk } ∧ Fr g L h m ∧ News g L h ((C, oC) :: (D, W.listOf acc.toArray cnt) :: (I, oI) :: rest) ∧ LCg.NsObj oC mC ∧ LIt oI l i ∧ IntsAre acc ((xs.take i).map f) ∧ acc.length = i
theorem LInv.mk {g : Heap} {L : Addr} {m : Str → Option Value} {s0 : Shared} {C D I l : Addr} {rest : List (Addr × Obj)} {xs : List Int} {f : Int → Int} {oI oC : Obj} {mC : Str → Option Value} {h : Heap} {tk : Tok}
    (F : Fr g L h m) (N : News g L h ((C, oC) :: (D, W.listOf #[] 0) :: (I, oI) :: rest)) (hC : LCg.NsObj oC mC) (hI : LIt oI l 0) : LInv g L m s0 C D I l rest xs f xs.length { s0 with heap := h, toks := tk } :=
  ⟨0, oI, oC, mC, [], 0, h, tk, rfl, Nat.zero_le _, rfl, F, N, hC, hI, .nil, rfl⟩
theorem LInv.next {g : Heap} {L : Addr} {m : Str → Option Value} {s0 : Shared} {C D I l : Addr} {rest : List (Addr × Obj)} {xs : List Int} {f : Int → Int} {i cnt : Nat} {x y : Int} {t : Tok} {oI oC : Obj} {mC : Str → Option Value} {acc : List Value} {h : Heap} {tk : Tok}
    (F : Fr g L h m) (N : News g L h ((C, oC) :: (D, W.listOf (acc ++ [Value.int y t]).toArray (cnt + 1)) :: (I, oI) :: rest)) (hC : LCg.NsObj oC mC) (hI : LIt oI l (i + 1)) (e : xs[i]? = some x) (hA : IntsAre acc ((xs.take i).map f)) (al : acc.length = i) (hy : y = f x) :
    LInv g L m s0 C D I l rest xs f (xs.length - (i + 1)) { s0 with heap := h, toks := tk } := by
  have hi : i < xs.length := (List.getElem?_eq_some_iff.mp e).1
  refine ⟨i + 1, oI, oC, mC, acc ++ [.int y t], cnt + 1, h, tk, rfl, hi, rfl, F, N, hC, hI, ?_, by simp [al]⟩
  rw [List.take_add_one, e, List.map_append, hy]
  exact ints_snoc hA
theorem valueAt_lk {k : Int} {kvs : List (Int × Value)} {kv : List (Int × Int)} (P : KV kvs kv) (h : k ∈ kv.map (·.1)) : ∃ t, valueAt kvs k = some (.int (lk k kv) t) := by
  induction P with
  | nil => simp at h
  | cons k' x t _ ih =>
    by_cases e : k' = k
    · subst e
      exact ⟨t, by simp [valueAt, lk]⟩
    · rw [List.map_cons, List.mem_cons] at h
      obtain ⟨u, hu⟩ := ih (h.resolve_left (Ne.symm e))
      refine ⟨u, ?_⟩
      unfold valueAt at hu ⊢
      rw [List.find?_cons, lk_cons]
      simp only [e, decide_false, if_false]
      exact hu
theorem kv_push {k x : Int} {t : Tok} {a : List (Int × Value)} {b : List (Int × Int)} (h : KV a b) : KV (a ++ [(k, .int x t)]) (b ++ [(k, x)]) := by
  induction h with
  | nil => exact .cons _ _ _ .nil
  | cons _ _ _ _ ih => exact .cons _ _ _ ih
noncomputable def BInv (prog : Program) (w : World) (g : Heap) (L : Addr) (m : Str → Option Value) (s0 : Shared) (C D I d : Addr) (rest : List (Addr × Obj)) (kv : List (Int × Int)) (n0 f0 v0 : Int) (ep : Nat) (n : Nat) (s' : Shared) : Prop :=
  ∃ i oI oC mC oD kvs' ep' h tk, kv.length - i = n ∧ i ≤ kv.length ∧ s' = { s0 with heap := h, toks := tk } ∧ Fr g L h m ∧ News g L h ((C, oC) :: (D, oD) :: (I, oI) :: rest) ∧ LCg.NsObj oC mC ∧ KIt oI d i kv.length ep ∧ DictIs prog w oD kvs' ep' ∧ KV kvs' (bothV n0 f0 v0 (kv.take i))
theorem BInv.mk {prog : Program} {w : World} {g : Heap} {L : Addr} {m : Str → Option Value} {s0 : Shared} {C D I d : Addr} {rest : List (Addr × Obj)} {kv : List (Int × Int)} {n0 f0 v0 : Int} {ep ep' : Nat} {oI oC oD : Obj} {mC : Str → Option Value} {h : Heap} {tk : Tok}
    (F : Fr g L h m) (N : News g L h ((C, oC) :: (D, oD) :: (I, oI) :: rest)) (hC : LCg.NsObj oC mC) (hI : KIt oI d 0 kv.length ep) (hD : DictIs prog w oD [] ep') : BInv prog w g L m s0 C D I d rest kv n0 f0 v0 ep kv.length { s0 with heap := h, toks := tk } :=
  ⟨0, oI, oC, mC, oD, [], ep', h, tk, rfl, Nat.zero_le _, rfl, F, N, hC, hI, hD, .nil⟩
theorem bothV_snoc (n f v : Int) (p : Int × Int) : ∀ r : List (Int × Int), bothV n f v (r ++ [p]) = if p.1 = f then bothV n f v r else bothV n f v r ++ [(p.1, p.2 + if p.1 = n then v else 0)]
  | [] => by rw [List.nil_append, bothV_cons]; rfl
  | q :: r => by
    rw [List.cons_append, bothV_cons, bothV_snoc n f v p r, bothV_cons]
    by_cases h1 : q.1 = f <;> by_cases h2 : p.1 = f <;> simp [h1, h2]
theorem BInv.next {prog : Program} {w : World} {g : Heap} {L : Addr} {m : Str → Option Value} {s0 : Shared} {C D I d : Addr} {rest : List (Addr × Obj)} {kv : List (Int × Int)} {n0 f0 v0 : Int} {ep ep' i : Nat} {oI oC oD : Obj} {mC : Str → Option Value} {h : Heap} {tk : Tok} {kvs' : List (Int × Value)} {k x y : Int} {t : Tok}
    (F : Fr g L h m) (N : News g L h ((C, oC) :: (D, oD) :: (I, oI) :: rest)) (hC : LCg.NsObj oC mC) (hI : KIt oI d (i + 1) kv.length ep) (e : kv[i]? = some (k, x)) (hD : DictIs prog w oD (kvs' ++ [(k, .int y t)]) ep') (hk : KV kvs' (bothV n0 f0 v0 (kv.take i)))
    (hf : k ≠ f0) (hy : y = x + if k = n0 then v0 else 0) : BInv prog w g L m s0 C D I d rest kv n0 f0 v0 ep (kv.length - (i + 1)) { s0 with heap := h, toks := tk } := by
  have hi : i < kv.length := (List.getElem?_eq_some_iff.mp e).1
  refine ⟨i + 1, oI, oC, mC, oD, _, ep', h, tk, rfl, hi, rfl, F, N, hC, hI, hD, ?_⟩
  rw [List.take_add_one, e, Option.toList_some, bothV_snoc, if_neg hf, hy]
  exact kv_push hk
theorem BInv.skip {prog : Program} {w : World} {g : Heap} {L : Addr} {m : Str → Option Value} {s0 : Shared} {C D I d : Addr} {rest : List (Addr × Obj)} {kv : List (Int × Int)} {n0 f0 v0 : Int} {ep ep' i : Nat} {oI oC oD : Obj} {mC : Str → Option Value} {h : Heap} {tk : Tok} {kvs' : List (Int × Value)} {k x : Int}
    (F : Fr g L h m) (N : News g L h ((C, oC) :: (D, oD) :: (I, oI) :: rest)) (hC : LCg.NsObj oC mC) (hI : KIt oI d (i + 1) kv.length ep) (e : kv[i]? = some (k, x)) (hD : DictIs prog w oD kvs' ep') (hk : KV kvs' (bothV n0 f0 v0 (kv.take i)))
    (hf : k = f0) : BInv prog w g L m s0 C D I d rest kv n0 f0 v0 ep (kv.length - (i + 1)) { s0 with heap := h, toks := tk } := by
  have hi : i < kv.length := (List.getElem?_eq_some_iff.mp e).1
  refine ⟨i + 1, oI, oC, mC, oD, _, ep', h, tk, rfl, hi, rfl, F, N, hC, hI, hD, ?_⟩
  rw [List.take_add_one, e, Option.toList_some, bothV_snoc, if_pos hf]
  exact hk
theorem bothV_fresh {kvs' : List (Int × Value)} {kv : List (Int × Int)} {n f v k x : Int} {i : Nat} (hn : (kv.map (·.1)).Nodup) (e : kv[i]? = some (k, x)) (hk : KV kvs' (bothV n f v (kv.take i))) : k ∉ kvs'.map (·.1) := by
  rw [hk.keys, bothV_keys]
  intro h
  have h1 : k ∈ (kv.take i).map (·.1) := (List.mem_filter.mp h).1
  obtain ⟨hi, e1⟩ := List.getElem?_eq_some_iff.mp e
  obtain ⟨p, hp, rfl⟩ := List.mem_map.mp h1
  obtain ⟨j, hj, e2⟩ := List.mem_take_iff_getElem.mp hp
  have hj2 : j < i := by omega
  have := (List.nodup_iff_pairwise_ne.mp hn : _)
  rw [List.pairwise_iff_getElem] at this
  have h3 := this j i (by simp; omega) (by simpa using hi) hj2
  simp only [List.getElem_map, e1, e2] at h3
  exact h3 rfl
theorem drawn_tt {n f x : Int} (h1 : x.fdiv 4 = f) (h2 : x.fmod 4 = f) : 4 * n + n = drawOne n f x := by
  rw [Int.fdiv_eq_ediv_of_nonneg _ (by decide)] at h1
  rw [Int.fmod_eq_emod_of_nonneg _ (by decide)] at h2
  unfold drawOne; rw [if_pos h1, if_pos h2]
theorem drawn_tf {n f x : Int} (h1 : x.fdiv 4 = f) (h2 : x.fmod 4 ≠ f) : 4 * n + x.fmod 4 = drawOne n f x := by
  rw [Int.fdiv_eq_ediv_of_nonneg _ (by decide)] at h1
  rw [Int.fmod_eq_emod_of_nonneg _ (by decide)] at h2 ⊢
  unfold drawOne; rw [if_pos h1, if_neg h2]
theorem drawn_ft {n f x : Int} (h1 : x.fdiv 4 ≠ f) (h2 : x.fmod 4 = f) : 4 * x.fdiv 4 + n = drawOne n f x := by
  rw [Int.fdiv_eq_ediv_of_nonneg _ (by decide)] at h1 ⊢
  rw [Int.fmod_eq_emod_of_nonneg _ (by decide)] at h2
  unfold drawOne; rw [if_neg h1, if_pos h2]
theorem drawn_ff {n f x : Int} (h1 : x.fdiv 4 ≠ f) (h2 : x.fmod 4 ≠ f) : 4 * x.fdiv 4 + x.fmod 4 = drawOne n f x := by
  rw [Int.fdiv_eq_ediv_of_nonneg _ (by decide)] at h1 ⊢
  rw [Int.fmod_eq_emod_of_nonneg _ (by decide)] at h2 ⊢
  unfold drawOne; rw [if_neg h1, if_neg h2]
theorem rest_lt {e : Int} {r : List Int} : (fil (e :: r) [4 * (e / 4) + e % 4, 4 * (e % 4) + e / 4]).length < (e :: r).length := by
  have h1 : 4 * (e / 4) + e % 4 = e := by omega
  rw [h1]
  unfold fil
  rw [List.filter_cons]
  rw [if_neg (by simp)]
  exact Nat.lt_succ_of_le (List.length_filter_le ..)
theorem len_L {prog : Program} {w : World} {A : Around} {E : Value → Shared → Prop} {s : Shared} {h₀ : Heap} {L l : Addr} {news : List (Addr × Obj)} {vs : List Value} {ns : List Int} {n : Nat} {Q : Value → Shared → Prop} (N : News h₀ L s.heap news) (hm : (l, W.listOf vs.toArray n) ∈ news) (hI : IntsAre vs ns) (hz : vs.length ≤ 64)
    (h : ∀ t tk', Q (.int (ns.length : Int) t) { s with toks := tk' }) : wpAny (model prog w) A (call (.builtin "len") [.ref l]) Q E s := by
  have e : vs.toArray.size = ns.length := by simp [hI.length]
  refine PyProof.Rows.len_list (N.isList hm) (by simp only [List.size_toArray]; omega) ?_
  rw [e]
  exact h _ _
theorem bothV_len (n f v : Int) (kv : List (Int × Int)) : (bothV n f v kv).length ≤ kv.length := by
  unfold bothV; rw [List.length_map]; exact List.length_filter_le ..
theorem bothV_ne {n f v : Int} {kv : List (Int × Int)} (hn : n ∈ kv.map (·.1)) (hnf : n ≠ f) : bothV n f v kv ≠ [] := by
  intro h
  have h1 := bothV_keys n f v kv
  rw [h, List.map_nil] at h1
  have : n ∈ (kv.map (·.1)).filter fun k => !(k == f) := List.mem_filter.mpr ⟨hn, by simp [hnf]⟩
  rw [← h1] at this
  cases this
theorem lk_bd {Bd k : Int} (hB : 0 ≤ Bd) : ∀ {kv : List (Int × Int)}, k ∈ kv.map (·.1) → (∀ p ∈ kv, -Bd ≤ p.2 ∧ p.2 ≤ Bd) → -Bd ≤ lk k kv ∧ lk k kv ≤ Bd
  | [], h, _ => by simp at h
  | p :: r, h, hp => by
    rw [lk_cons]
    by_cases e : p.1 = k
    · rw [if_pos e]; exact hp p (.head _)
    · rw [if_neg e]
      rw [List.map_cons, List.mem_cons] at h
      exact lk_bd hB (h.resolve_left (Ne.symm e)) fun q hq => hp q (.tail _ hq)
theorem bothV_bd {n f v Bd : Int} (hB : 0 ≤ Bd) (hv : -Bd ≤ v ∧ v ≤ Bd) : ∀ {kv : List (Int × Int)}, (∀ p ∈ kv, -Bd ≤ p.2 ∧ p.2 ≤ Bd) → ∀ p ∈ bothV n f v kv, -(2 * Bd) ≤ p.2 ∧ p.2 ≤ 2 * Bd
  | [], _, p, h => by cases h
  | q :: r, hp, p, h => by
    rw [bothV_cons] at h
    have ih := bothV_bd (n := n) (f := f) hB hv (kv := r) (fun q hq => hp q (.tail _ hq))
    split at h
    · exact ih p h
    · rcases List.mem_cons.mp h with rfl | h
      · have h1 := hp q (.head _)
        dsimp only
        split <;> omega
      · exact ih p h
theorem fits_drawn {e : Int} {r es : List Int} {kv : List (Int × Int)} (hfil : fil es [0, 5, 10, 15] = e :: r) (hes : Fits es kv) :
    Fits ((fil (e :: r) [4 * (e / 4) + e % 4, 4 * (e % 4) + e / 4]).map (drawOne (e / 4) (e % 4))) (bothV (e / 4) (e % 4) (lk (e % 4) kv) kv) ∧ e / 4 ≠ e % 4 := by
  have hap : ∀ x ∈ e :: r, (Edge x ∧ x / 4 ∈ kv.map (·.1) ∧ x % 4 ∈ kv.map (·.1)) ∧ x / 4 ≠ x % 4 := fun x he => by
    rw [← hfil] at he
    exact ⟨hes x (fil_mem.mp he).1, loops_none (fil_mem.mp he).2 (hes x (fil_mem.mp he).1).1⟩
  obtain ⟨⟨⟨he0, he1⟩, hn, hf⟩, hnf⟩ := hap e List.mem_cons_self
  refine ⟨?_, hnf⟩
  generalize hN : e / 4 = n at *
  generalize hF : e % 4 = f at *
  have hn3 : 0 ≤ n ∧ n ≤ 3 := by omega
  have hf3 : 0 ≤ f ∧ f ≤ 3 := by omega
  have hin : ∀ k, k ∈ (bothV n f (lk f kv) kv).map (·.1) ↔ k ∈ kv.map (·.1) ∧ k ≠ f := fun k => by rw [bothV_keys, List.mem_filter]; simp
  intro x hx
  obtain ⟨y, hy, rfl⟩ := List.mem_map.mp hx
  obtain ⟨g1, g2⟩ := fil_mem.mp hy
  simp only [List.mem_cons, List.not_mem_nil, or_false, not_or] at g2
  have hy' := hap y g1
  obtain ⟨h1, h2, h3⟩ := draw_ok hn3 hf3 hnf hy'.1.1 hy'.2 g2.1 g2.2
  refine ⟨h1, ?_, ?_⟩
  · rw [h2, hin]; split
    · exact ⟨hn, hnf⟩
    · rename_i q; exact ⟨hy'.1.2.1, q⟩
  · rw [h3, hin]; split
    · exact ⟨hn, hnf⟩
    · rename_i q; exact ⟨hy'.1.2.2, q⟩
theorem worth_cons {k : Nat} {es : List Int} {kv : List (Int × Int)} {e : Int} {r : List Int} (hfil : fil es [0, 5, 10, 15] = e :: r) :
    worth k (fil (e :: r) [4 * (e / 4) + e % 4, 4 * (e % 4) + e / 4]) kv + (((e :: r).length : Int) - ((fil (e :: r) [4 * (e / 4) + e % 4, 4 * (e % 4) + e / 4]).length : Int)) *
      worth k ((fil (e :: r) [4 * (e / 4) + e % 4, 4 * (e % 4) + e / 4]).map (drawOne (e / 4) (e % 4))) (bothV (e / 4) (e % 4) (lk (e % 4) kv) kv) = worth (k + 1) es kv := by
  conv => rhs; unfold worth
  rw [hfil]
  rfl

end
section
noncomputable def RowIs (o : Obj) (f : Int → Int) : Prop := ∃ (t : Int → Tok) (n : Nat), o = W.listOf (#[.int (f 0) (t 0), .int (f 1) (t 1), .int (f 2) (t 2), .int (f 3) (t 3)] : Array Value) n
noncomputable def Rows (M : Int → Int → Int) (o0 o1 o2 o3 : Obj) : Prop := RowIs o0 (M 0) ∧ RowIs o1 (M 1) ∧ RowIs o2 (M 2) ∧ RowIs o3 (M 3)
noncomputable def rsel (r0 r1 r2 r3 : Addr) (i : Int) : Addr := if i = 0 then r0 else if i = 1 then r1 else if i = 2 then r2 else r3
noncomputable def put (M : Int → Int → Int) (i j x : Int) : Int → Int → Int := fun a => if a = i then fun b => if b = j then x else M a b else M a
theorem four {i : Int} (h0 : 0 ≤ i) (h4 : i < 4) : i = 0 ∨ i = 1 ∨ i = 2 ∨ i = 3 := by omega
theorem row_put {o : Obj} {f : Int → Int} (R : RowIs o f) {j : Int} (h0 : 0 ≤ j) (h4 : j < 4) (x : Int) (u : Tok) :
    ∃ its n, o = W.listOf its n ∧ its.size = 4 ∧ RowIs (W.listOf (its.setIfInBounds j.toNat (.int x u)) n) (fun b => if b = j then x else f b) := by
  obtain ⟨t, n, rfl⟩ := R
  refine ⟨_, n, rfl, rfl, (fun b => if b = j then u else t b), n, ?_⟩
  rcases four h0 h4 with rfl | rfl | rfl | rfl <;> rfl
theorem row_get {o : Obj} {f : Int → Int} (R : RowIs o f) {j : Int} (h0 : 0 ≤ j) (h4 : j < 4) : ∃ its n t, o = W.listOf its n ∧ its[j.toNat]? = some (.int (f j) t) := by
  obtain ⟨t, n, rfl⟩ := R
  refine ⟨_, n, t j, rfl, ?_⟩
  rcases four h0 h4 with rfl | rfl | rfl | rfl <;> rfl
inductive ShR (z0 z1 z2 z3 : Addr) (y0 y1 y2 y3 : Obj) : AL → List (Addr × Obj) → (Obj → Obj → Obj → Obj → List (Addr × Obj)) → Prop
  | head {zl zr} : ShR z0 z1 z2 z3 y0 y1 y2 y3 (.new z3 (.new z2 (.new z1 (.new z0 zl)))) ((z3, y3) :: (z2, y2) :: (z1, y1) :: (z0, y0) :: zr) (fun a b c d => (z3, d) :: (z2, c) :: (z1, b) :: (z0, a) :: zr)
  | tail {za zl zp zr zg} (zh : ShR z0 z1 z2 z3 y0 y1 y2 y3 zl zr zg) : ShR z0 z1 z2 z3 y0 y1 y2 y3 (.new za zl) (zp :: zr) (fun a b c d => zp :: zg a b c d)
section
variable {r0 r1 r2 r3 : Addr} {o0 o1 o2 o3 : Obj}
theorem ShR.u0 {k : AL} {l : List (Addr × Obj)} {g : Obj → Obj → Obj → Obj → List (Addr × Obj)} (h : ShR r0 r1 r2 r3 o0 o1 o2 o3 k l g) : ShF r0 o0 k l (fun o => g o o1 o2 o3) := by
  induction h with
  | head => exact .tail (.tail (.tail .head))
  | tail _ ih => exact .tail ih
theorem ShR.u1 {k : AL} {l : List (Addr × Obj)} {g : Obj → Obj → Obj → Obj → List (Addr × Obj)} (h : ShR r0 r1 r2 r3 o0 o1 o2 o3 k l g) : ShF r1 o1 k l (fun o => g o0 o o2 o3) := by
  induction h with
  | head => exact .tail (.tail .head)
  | tail _ ih => exact .tail ih
theorem ShR.u2 {k : AL} {l : List (Addr × Obj)} {g : Obj → Obj → Obj → Obj → List (Addr × Obj)} (h : ShR r0 r1 r2 r3 o0 o1 o2 o3 k l g) : ShF r2 o2 k l (fun o => g o0 o1 o o3) := by
  induction h with
  | head => exact .tail .head
  | tail _ ih => exact .tail ih
theorem ShR.u3 {k : AL} {l : List (Addr × Obj)} {g : Obj → Obj → Obj → Obj → List (Addr × Obj)} (h : ShR r0 r1 r2 r3 o0 o1 o2 o3 k l g) : ShF r3 o3 k l (fun o => g o0 o1 o2 o) := by
  induction h with
  | head => exact .head
  | tail _ ih => exact .tail ih
end
theorem ShF.has {d : Addr} {o : Obj} {k : AL} {r : List (Addr × Obj)} {g : Obj → List (Addr × Obj)} (h : ShF d o k r g) : (d, o) ∈ r := by
  induction h with
  | head => exact .head _
  | tail _ ih => exact .tail _ ih
  | tailo _ ih => exact .tail _ ih
section
variable {prog : Program} {w : World} {A : Around} {E : Value → Shared → Prop} {s : Shared} {h₀ : Heap} {L l r0 r1 r2 r3 : Addr} {m : Str → Option Value} {news n1 n2 n3 rest : List (Addr × Obj)} {n : Nat} {i j x : Int} {u v : Tok} {o0 o1 o2 o3 : Obj} {M : Int → Int → Int}
theorem rows_item {value slice : PySem.Expr} {Q : Value → Shared → Prop} (N : News h₀ L s.heap news) (hm : (l, W.listOf #[.ref r0, .ref r1, .ref r2, .ref r3] n) ∈ news) (h0 : 0 ≤ i) (h4 : i < 4) (h : Q (.ref (rsel r0 r1 r2 r3 i)) s)
    (hs : subscripted slice false (.ref l) (.int i u) = operate [.ref l, .int i u] (getItem (.ref l) (.int i u))) :
    wpAny (model prog w) A (subscriptTail value slice (.ref l) (.int i u)) Q E s :=
  have hl : s.heap.IsList l #[.ref r0, .ref r1, .ref r2, .ref r3] := ⟨_, (N _ hm).1, rfl, n, rfl⟩
  tail_any hl.typeIs slot_list_getitem.lookup (wpAny_getItem_list hl h0 (by omega) (x := .ref (rsel r0 r1 r2 r3 i)) (by rcases four h0 h4 with rfl | rfl | rfl | rfl <;> rfl) h) hs
theorem rows_get {k : AL} {g : Obj → Obj → Obj → Obj → List (Addr × Obj)} {Q : Value → Shared → Prop} (R : Rows M o0 o1 o2 o3) (N : News h₀ L s.heap news) (_S : Ap k) (H : ShR r0 r1 r2 r3 o0 o1 o2 o3 k news g) (h0 : 0 ≤ i) (h4 : i < 4) (g0 : 0 ≤ j) (g4 : j < 4)
    (h : ∀ t, Q (.int (M i j) t) s) : wpAny (model prog w) A (getItem (.ref (rsel r0 r1 r2 r3 i)) (.int j u)) Q E s := by
  have hr : ∃ o, s.heap.get? (rsel r0 r1 r2 r3 i) = some o ∧ RowIs o (M i) := by
    rcases four h0 h4 with rfl | rfl | rfl | rfl
    · exact ⟨o0, (N _ H.u0.has).1, R.1⟩
    · exact ⟨o1, (N _ H.u1.has).1, R.2.1⟩
    · exact ⟨o2, (N _ H.u2.has).1, R.2.2.1⟩
    · exact ⟨o3, (N _ H.u3.has).1, R.2.2.2⟩
  obtain ⟨o, e, Ri⟩ := hr
  obtain ⟨its, n, t, rfl, e2⟩ := row_get Ri g0 g4
  exact wpAny_getItem_list ⟨_, e, rfl, n, rfl⟩ g0 (by omega) e2 (h t)
theorem set_U {its : Array Value} {n : Nat} {P : Addr} {g : Obj → List (Addr × Obj)} {Q : Unit → Shared → Prop} {v : Value} (F : Fr h₀ L s.heap m) (N : News h₀ L s.heap news) (U : UpdF P (W.listOf its n) news g) (h0 : 0 ≤ j) (hj : j.toNat < its.size) (hz : j < 2 ^ 63)
    (h : ∀ h', Fr h₀ L h' m → News h₀ L h' (g (W.listOf (its.setIfInBounds j.toNat v) n)) → Q () { s with heap := h' }) : wpAny (model prog w) A (setItem (.ref P) (.int j u) v) Q E s := by
  obtain ⟨own, rest, rfl, hg, h1, h2⟩ := U.split
  have z := N (P, W.listOf its n) (List.mem_append_right _ (.head _))
  refine ki_setAt z.1 h0 hz (by omega) (h _ (F.change (Heap.SameBut.update ..) z.2.1 z.2.2) ?_)
  rw [hg]
  refine ki_turn _ N h1 h2 rfl ?_
  rw [if_pos]
  simp
theorem rows_set {k : AL} {g : Obj → Obj → Obj → Obj → List (Addr × Obj)} {Q : Unit → Shared → Prop} (R : Rows M o0 o1 o2 o3) (F : Fr h₀ L s.heap m) (N : News h₀ L s.heap news) (S : Ap k) (H : ShR r0 r1 r2 r3 o0 o1 o2 o3 k news g) (e : news.map (·.1) = k.to)
    (h0 : 0 ≤ i) (h4 : i < 4) (g0 : 0 ≤ j) (g4 : j < 4)
    (h : ∀ h' o0' o1' o2' o3', Rows (put M i j x) o0' o1' o2' o3' → Fr h₀ L h' m → News h₀ L h' (g o0' o1' o2' o3') → Q () { s with heap := h' }) :
    wpAny (model prog w) A (setItem (.ref (rsel r0 r1 r2 r3 i)) (.int j u) (.int x v)) Q E s := by
  have go : ∀ {P : Addr} {o : Obj} {f : Int → Int} {g : Obj → List (Addr × Obj)}, ShF P o k news g → RowIs o f →
      (∀ h' o', RowIs o' (fun b => if b = j then x else f b) → Fr h₀ L h' m → News h₀ L h' (g o') → Q () { s with heap := h' }) → wpAny (model prog w) A (setItem (.ref P) (.int j u) (.int x v)) Q E s := by
    intro P o f g H Rf k
    obtain ⟨its, n, rfl, hz, R'⟩ := row_put Rf g0 g4 x v
    exact set_U F N (updF_of S H e) g0 (by omega) (by omega) fun h' F' N' => k h' _ R' F' N'
  rcases four h0 h4 with rfl | rfl | rfl | rfl
  · exact go H.u0 R.1 fun h' o' R' F' N' => h h' o' o1 o2 o3 ⟨R', R.2⟩ F' N'
  · exact go H.u1 R.2.1 fun h' o' R' F' N' => h h' o0 o' o2 o3 ⟨R.1, R', R.2.2⟩ F' N'
  · exact go H.u2 R.2.2.1 fun h' o' R' F' N' => h h' o0 o1 o' o3 ⟨R.1, R.2.1, R', R.2.2.2⟩ F' N'
  · exact go H.u3 R.2.2.2 fun h' o' R' F' N' => h h' o0 o1 o2 o' ⟨R.1, R.2.1, R.2.2.1, R'⟩ F' N'
end
noncomputable def over3 (m0 : Str → Option Value) (a b c : Option Value) : Str → Option Value := fun y => if y = Str.ofString "other" then a else if y = Str.ofString "one" then b else if y = Str.ofString "octet" then c else m0 y
theorem over3_of {m m0 : Str → Option Value} (h : ∀ y, y ≠ Str.ofString "other" → y ≠ Str.ofString "one" → y ≠ Str.ofString "octet" → m y = m0 y) : m = over3 m0 (m (Str.ofString "other")) (m (Str.ofString "one")) (m (Str.ofString "octet")) := by
  funext y
  unfold over3
  by_cases h1 : y = Str.ofString "other"
  · rw [if_pos h1, h1]
  by_cases h2 : y = Str.ofString "one"
  · rw [if_neg h1, if_pos h2, h2]
  by_cases h3 : y = Str.ofString "octet"
  · rw [if_neg h1, if_neg h2, if_pos h3, h3]
  · rw [if_neg h1, if_neg h2, if_neg h3]; exact h y h1 h2 h3
noncomputable def edge (M : Int → Int → Int) (p : Int × Int) : Int → Int → Int := if p.1 = p.2 then M else
  let M1 := put M p.1 p.1 (M p.1 p.1 + 1)
  let M2 := put M1 p.2 p.2 (M1 p.2 p.2 + 1)
  let M3 := put M2 p.1 p.2 (M2 p.1 p.2 - 1)
  put M3 p.2 p.1 (M3 p.2 p.1 - 1)
noncomputable def edges2 (M : Int → Int → Int) (o : Int) : Int → Int → Int := edge (edge M (o.fdiv 64, (o.fdiv 16).fmod 4)) ((o.fdiv 4).fmod 4, o.fmod 4)
noncomputable def TInv (g : Heap) (L : Addr) (m0 : Str → Option Value) (s0 : Shared) (I l r0 r1 r2 r3 : Addr) (rest : List (Addr × Obj)) (M0 : Int → Int → Int) (os : List Int) (n : Nat) (s' : Shared) : Prop :=
  ∃ i oI o0 o1 o2 o3 a b c h tk, os.length - i = n ∧ i ≤ os.length ∧ s' = { s0 with heap := h, toks := tk } ∧ Fr g L h (over3 m0 a b c) ∧ News g L h ((I, oI) :: (r3, o3) :: (r2, o2) :: (r1, o1) :: (r0, o0) :: rest) ∧ LIt oI l i ∧ Rows ((os.take i).foldl edges2 M0) o0 o1 o2 o3
theorem TInv.mk {g : Heap} {L : Addr} {m0 : Str → Option Value} {s0 : Shared} {I l r0 r1 r2 r3 : Addr} {rest : List (Addr × Obj)} {M0 : Int → Int → Int} {os : List Int} {oI o0 o1 o2 o3 : Obj} {h : Heap} {tk : Tok}
    (F : Fr g L h m0) (N : News g L h ((I, oI) :: (r3, o3) :: (r2, o2) :: (r1, o1) :: (r0, o0) :: rest)) (hI : LIt oI l 0) (R : Rows M0 o0 o1 o2 o3) : TInv g L m0 s0 I l r0 r1 r2 r3 rest M0 os os.length { s0 with heap := h, toks := tk } :=
  ⟨0, oI, o0, o1, o2, o3, _, _, _, h, tk, rfl, Nat.zero_le _, rfl, over3_of (m := m0) (m0 := m0) (fun _ _ _ _ => rfl) ▸ F, N, hI, R⟩
theorem TInv.next {g : Heap} {L : Addr} {m m0 : Str → Option Value} {s0 : Shared} {I l r0 r1 r2 r3 : Addr} {rest : List (Addr × Obj)} {M0 M : Int → Int → Int} {os : List Int} {oI o0 o1 o2 o3 : Obj} {h : Heap} {tk : Tok} {i : Nat} {x : Int}
    (F : Fr g L h m) (N : News g L h ((I, oI) :: (r3, o3) :: (r2, o2) :: (r1, o1) :: (r0, o0) :: rest)) (hI : LIt oI l (i + 1)) (R : Rows M o0 o1 o2 o3) (e : os[i]? = some x) (hM : M = edges2 ((os.take i).foldl edges2 M0) x)
    (hm : ∀ y, y ≠ Str.ofString "other" → y ≠ Str.ofString "one" → y ≠ Str.ofString "octet" → m y = m0 y) : TInv g L m0 s0 I l r0 r1 r2 r3 rest M0 os (os.length - (i + 1)) { s0 with heap := h, toks := tk } := by
  have hlt : i < os.length := (List.getElem?_eq_some_iff.mp e).1
  refine ⟨i + 1, oI, o0, o1, o2, o3, _, _, _, h, tk, rfl, hlt, rfl, over3_of hm ▸ F, N, hI, ?_⟩
  rw [List.take_add_one, e, Option.toList_some, List.foldl_append, List.foldl_cons, List.foldl_nil, ← hM]
  exact R
theorem RowIs.mk {x0 x1 x2 x3 : Int} {t0 t1 t2 t3 : Tok} {n : Nat} {f : Int → Int} (h0 : f 0 = x0) (h1 : f 1 = x1) (h2 : f 2 = x2) (h3 : f 3 = x3) : RowIs (W.listOf (#[.int x0 t0, .int x1 t1, .int x2 t2, .int x3 t3] : Array Value) n) f :=
  ⟨fun b => if b = 0 then t0 else if b = 1 then t1 else if b = 2 then t2 else t3, n, by subst h0 h1 h2 h3; rfl⟩
noncomputable def base4 (w0 w1 w2 w3 : Int) : Int → Int → Int := fun i j => if i = j then (if i = 0 then w0 else if i = 1 then w1 else if i = 2 then w2 else w3) else 0
theorem tb_bounds {x : Int} (h0 : 0 ≤ x) (h1 : x ≤ 255) : (0 ≤ x.fdiv 64 ∧ x.fdiv 64 < 4) ∧ (0 ≤ (x.fdiv 16).fmod 4 ∧ (x.fdiv 16).fmod 4 < 4) ∧ (0 ≤ (x.fdiv 4).fmod 4 ∧ (x.fdiv 4).fmod 4 < 4) ∧ 0 ≤ x.fmod 4 ∧ x.fmod 4 < 4 := by
  simp only [Int.fdiv_eq_ediv_of_nonneg _ (show (0 : Int) ≤ 64 by decide), Int.fdiv_eq_ediv_of_nonneg _ (show (0 : Int) ≤ 16 by decide), Int.fdiv_eq_ediv_of_nonneg _ (show (0 : Int) ≤ 4 by decide), Int.fmod_eq_emod_of_nonneg _ (show (0 : Int) ≤ 4 by decide)]
  omega
inductive NewTable (zM : Int → Int → Int) (zh zh' : Heap) (zr : Value) : Prop
  | mk (zl z0 z1 z2 z3 : Addr) (y0 y1 y2 y3 : Obj) (zn : Nat) (_ : zr = .ref zl) (_ : zh.objs.size ≤ zl) (_ : zl < z0) (_ : z0 < z1) (_ : z1 < z2) (_ : z2 < z3)
    (_ : zh'.get? zl = some (W.listOf (#[.ref z0, .ref z1, .ref z2, .ref z3] : Array Value) zn)) (_ : zh'.get? z0 = some y0) (_ : zh'.get? z1 = some y1) (_ : zh'.get? z2 = some y2) (_ : zh'.get? z3 = some y3) (_ : Rows zM y0 y1 y2 y3)
theorem own_tup {prog : Program} {w : World} {A : Around} {E : Value → Shared → Prop} {s : Shared} {h₀ : Heap} {L I l T : Addr} {news : List (Addr × Obj)} {oI : Obj} {i : Nat} {elts : List Expr} {x1} {pos : Pos} {Q : Unit → Shared → Prop} (N : News h₀ L s.heap news) (hm : (I, oI) ∈ news) (hI : TIt oI l i) (hQ : Q () s) :
    wpAny (model prog w) A (letOwnedTupleGo (.Tuple elts x1 pos) (.ref I) (.ref T)) Q E s := by
  have ho := (N _ hm).1
  obtain ⟨hc, hd⟩ := hI
  unfold letOwnedTupleGo
  refine wpAny_bind (wpAny_load ho ?_)
  rw [hc, hd]
  exact wpAny_pure hQ
theorem News.sub {g h : Heap} {L : Addr} {news sel : List (Addr × Obj)} (N : News g L h news) (hs : ∀ p ∈ sel, p ∈ news) : News g L h sel := fun p hp => N p (hs p hp)
theorem News.at {g h : Heap} {L a : Addr} {o : Obj} {news : List (Addr × Obj)} (N : News g L h news) (hm : (a, o) ∈ news) : h.get? a = some o := (N _ hm).1
theorem ltAll {l : List (Addr × Obj)} {a b : Addr} {o : Obj} (h : ∀ p ∈ l, p.1 < b) (m : (a, o) ∈ l) : @LT.lt Nat _ a b := h _ m
noncomputable def YInv (g : Heap) (L : Addr) (m : Str → Option Value) (s0 : Shared) (C D I : Addr) (rest : List (Addr × Obj)) (f : Int → Int) (n : Nat) (s' : Shared) : Prop :=
  ∃ (i : Nat) (oC : Obj) (mC : Str → Option Value) (acc : List Value) (cnt : Nat) (h : Heap) (tk : Tok), 4 - i = n ∧ i ≤ 4 ∧ s' = { s0 with heap := h, toks := tk } ∧ Fr g L h m ∧ News g L h ((C, oC) :: (D, W.listOf acc.toArray cnt) :: (I, itR (i : Int) (4 - (i : Int))) :: rest) ∧ LCg.NsObj oC mC ∧ IntsAre acc ((List.range i).map fun n => f ((n : Nat) : Int)) ∧ acc.length = i
theorem YInv.mk {g : Heap} {L : Addr} {m : Str → Option Value} {s0 : Shared} {C D I : Addr} {rest : List (Addr × Obj)} (f : Int → Int) {oC : Obj} {mC : Str → Option Value} {h : Heap} {tk : Tok}
    (F : Fr g L h m) (N : News g L h ((C, oC) :: (D, W.listOf #[] 0) :: (I, itR 0 4) :: rest)) (hC : LCg.NsObj oC mC) : YInv g L m s0 C D I rest f 4 { s0 with heap := h, toks := tk } :=
  ⟨0, oC, mC, [], 0, h, tk, rfl, by decide, rfl, F, N, hC, .nil, rfl⟩
theorem YInv.next {g : Heap} {L : Addr} {m : Str → Option Value} {s0 : Shared} {C D I : Addr} {rest : List (Addr × Obj)} {f : Int → Int} {oC : Obj} {mC : Str → Option Value} {i cnt : Nat} {acc : List Value} {x : Int} {t : Tok} {h : Heap} {tk : Tok}
    (F : Fr g L h m) (N : News g L h ((C, oC) :: (D, W.listOf (acc ++ [Value.int x t]).toArray (cnt + 1)) :: (I, itR ((i : Int) + 1) (4 - (i : Int) - 1)) :: rest)) (hC : LCg.NsObj oC mC) (A : IntsAre acc ((List.range i).map fun n => f ((n : Nat) : Int))) (al : acc.length = i) (hi : i < 4) (hx : x = f i) : YInv g L m s0 C D I rest f (4 - (i + 1)) { s0 with heap := h, toks := tk } := by
  have push : ∀ {us : List Value} {ys : List Int}, IntsAre us ys → IntsAre (us ++ [.int x t]) (ys ++ [x]) := by
    intro us ys h
    induction h with
    | nil => exact .cons _ _ .nil
    | cons a t _ ih => exact .cons a t ih
  refine ⟨i + 1, oC, mC, acc ++ [.int x t], cnt + 1, h, tk, rfl, hi, rfl, F, ?_, hC, ?_, by simp [al]⟩
  · have e1 : ((i + 1 : Nat) : Int) = (i : Int) + 1 := by omega
    have e2 : 4 - ((i + 1 : Nat) : Int) = 4 - (i : Int) - 1 := by omega
    rw [e2, e1]
    exact N
  · rw [List.range_succ, List.map_append, List.map_cons, List.map_nil, ← hx]
    exact push A
theorem RowIs.of {acc : List Value} {f : Int → Int} {n : Nat} (A : IntsAre acc ((List.range 4).map fun n => f ((n : Nat) : Int))) : RowIs (W.listOf acc.toArray n) f := by
  have A : IntsAre acc [f 0, f 1, f 2, f 3] := A
  cases A with
  | cons _ t0 A => cases A with
    | cons _ t1 A => cases A with
      | cons _ t2 A => cases A with
        | cons _ t3 A => cases A; exact RowIs.mk rfl rfl rfl rfl
noncomputable def JInv (g : Heap) (L : Addr) (m0 : Str → Option Value) (s0 : Shared) (T : Addr) (G : Obj → Obj → Obj → Obj → Obj → List (Addr × Obj)) (M : Nat → Int → Int → Int) (n : Nat) (s' : Shared) : Prop :=
  ∃ (oI o0 o1 o2 o3 : Obj) (a b c : Option Value) (h : Heap) (tk : Tok), n ≤ 2 ∧ s' = { s0 with heap := h, toks := tk } ∧ Fr g L h (over3 m0 a b c) ∧ News g L h (G oI o0 o1 o2 o3) ∧ TIt oI T (2 - n) ∧ Rows (M n) o0 o1 o2 o3
theorem JInv.mk {g : Heap} {L : Addr} {m m0 : Str → Option Value} {s0 : Shared} {T : Addr} (G : Obj → Obj → Obj → Obj → Obj → List (Addr × Obj)) {M : Nat → Int → Int → Int} {n : Nat} {oI o0 o1 o2 o3 : Obj} {h : Heap} {tk : Tok}
    (F : Fr g L h m) (N : News g L h (G oI o0 o1 o2 o3)) (hn : n ≤ 2) (hI : TIt oI T (2 - n)) {M' : Int → Int → Int} (R : Rows M' o0 o1 o2 o3) (hM : M' = M n) (hm : ∀ y, y ≠ Str.ofString "other" → y ≠ Str.ofString "one" → y ≠ Str.ofString "octet" → m y = m0 y) : JInv g L m0 s0 T G M n { s0 with heap := h, toks := tk } :=
  ⟨oI, o0, o1, o2, o3, _, _, _, h, tk, hn, rfl, over3_of hm ▸ F, N, hI, hM ▸ R⟩
theorem over3_other {m0 : Str → Option Value} {a b c : Option Value} : ∀ y, y ≠ Str.ofString "other" → y ≠ Str.ofString "one" → y ≠ Str.ofString "octet" → over3 m0 a b c y = m0 y := fun y h1 h2 h3 => by
  unfold over3; rw [if_neg h1, if_neg h2, if_neg h3]

end
section
section
open PySem.Builtin PySem.Builtin._codecs
theorem forIn_two {β : Type} {l : List Nat} {a : Nat} {b b' : β} {F : Nat → β → Sem (ForInStep β)} (h1 : F a b = pure (.yield b')) (h2 : ∀ x, F x b' = pure (.done b')) : (forIn (a :: l) b F : Sem β) = pure b' := by
  rw [List.forIn_cons, h1]
  show (forIn l b' F : Sem β) = _
  cases l with
  | nil => rfl
  | cons y r => rw [List.forIn_cons, h2]; rfl
theorem fold_ascii (l : List Nat) : ∀ acc : Array UInt8, l.foldl (fun acc y => acc ++ (asciiCodec.bytesOf y).toArray) acc = acc ++ (l.map Nat.toUInt8).toArray := by
  induction l with
  | nil => intro acc; simp
  | cons y r ih => intro acc; rw [List.foldl_cons, ih]; simp [asciiCodec]
theorem narrow_ascii {id : String} {self : Value} (s : PySem.Str) (h : ∀ c ∈ s.cps, c < 128) (hsz : s.cps.size ≤ 100) : encodeNarrow id asciiCodec none self s = pure (s.cps.toList.map Nat.toUInt8).toArray := by
  unfold encodeNarrow
  dsimp only
  rw [Std.Legacy.Range.forIn_eq_forIn_range']
  unfold Std.Legacy.Range.size
  dsimp only
  have hn : s.length = s.cps.size := rfl
  have e1 : (s.length - 0 + 1 - 1) / 1 = s.cps.size := by omega
  rw [e1]
  cases hz : s.cps.size with
  | zero =>
    have : s.cps = #[] := Array.eq_empty_of_size_eq_zero hz
    rw [this]
    rfl
  | succ n =>
    rw [List.range'_succ]
    have hlt : 0 < s.cps.size := by omega
    have hc0 : s.cps[0]? = some s.cps[0] := Array.getElem?_eq_getElem hlt
    have hb0 : asciiCodec.bad s.cps[0] = false := by
      have := h s.cps[0] (Array.getElem_mem hlt)
      show decide (s.cps[0] ≥ 128) = false
      exact decide_eq_false (by omega)
    have hx : s.cps.extract 0 s.cps.size = s.cps := Array.extract_size
    have hf : s.cps.findIdx? asciiCodec.bad = none := by
      rw [Array.findIdx?_eq_none_iff]
      intro x hx
      have := h x hx
      show decide (x ≥ 128) = false
      exact decide_eq_false (by omega)
    have hend : s.cps[s.cps.size]? = none := Array.getElem?_eq_none (Nat.le_refl _)
    have hfold : s.cps.foldl (fun acc y => acc ++ (asciiCodec.bytesOf y).toArray) #[] = (s.cps.toList.map Nat.toUInt8).toArray := by
      rw [← Array.foldl_toList, fold_ascii]; simp
    have key := fun F h1 h2 => @forIn_two (Nat × Array UInt8 × Faults) (List.range' (0 + 1) n) 0 (0, #[], {}) (s.cps.size, (s.cps.toList.map Nat.toUInt8).toArray, {}) F h1 h2
    refine Eq.trans (congrArg (fun x : Sem (Nat × Array UInt8 × Faults) => x >>= fun r => pure r.snd.fst) (key _ ?_ ?_)) rfl
    · have hx' : s.cps.extract 0 (n + 1) = s.cps := hz ▸ hx
      have hfold' : Array.foldl (fun acc y => acc ++ (asciiCodec.bytesOf y).toArray) #[] s.cps 0 (n + 1) = (s.cps.toList.map Nat.toUInt8).toArray := hz ▸ hfold
      refine (if_neg (by decide)).trans ?_
      rw [hc0]
      refine (if_pos (show (!asciiCodec.bad s.cps[0]) = true by rw [hb0]; rfl)).trans ?_
      simp only [hx', hf, Option.getD_none, Nat.zero_add, hz, hfold']
    · intro x
      have hl : ((s.cps.toList.map Nat.toUInt8).toArray).size ≤ 100 := by simpa using hsz
      generalize (s.cps.toList.map Nat.toUInt8).toArray = arr at hl
      refine (if_neg (show ¬ arr.size > sizeLine by rw [sizeLine_eq]; omega)).trans ?_
      rw [hend]

noncomputable def hexOut (b : Array UInt8) : Array Nat := b.toList.zipIdx.foldl (fun (out : Array Nat) (p : UInt8 × Nat) => (out.push (Bytes.hexDigit (p.1.toNat / 16))).push (Bytes.hexDigit (p.1.toNat % 16))) #[]
theorem hex_eq (b : Array UInt8) (t : Tok) : «bytes.hex» ⟨[.bytes b t], []⟩ = retStr ⟨hexOut b⟩ := by kernel_rfl
theorem upper_eq (b : Array UInt8) (t : Tok) : «bytes.upper» ⟨[.bytes b t], []⟩ = (do ret (← mkBytes (b.toList.map Bytes.toUpper).toArray)) := by kernel_rfl
theorem enc_eq (x : PySem.Str) (t u : Tok) : «str.encode» ⟨[.str x t, .str (PySem.Str.ofString "ascii") u], []⟩ = (do ret (← encodeRoad "str.encode" (.str x t) x (PySem.Str.ofString "ascii") none)) := by kernel_rfl
theorem road_ascii (id : String) (self : Value) (x : PySem.Str) (errors : Option PySem.Str) : encodeRoad id self x (PySem.Str.ofString "ascii") errors = (do mkBytes (← encodeNarrow id asciiCodec errors self x)) := by
  first | kernel_rfl | rfl

open PySem.F in
theorem slot_bytes_upper : Slot "bytes" "upper" "bytes.upper" :=
  .of (owner := "bytes") (n := "upper") (by rw [typeLookup_type, builtinLookup_eq_fast]; kernel_rfl) (by decide +kernel) (by decide +kernel) (by decide +kernel)
    (by first | exact .inl (by decide +kernel) | exact .inr (by decide +kernel)) (by rw [isSubtype_type]; kernel_rfl)
theorem type_bytes_upper : typeOf (.builtin "bytes.upper") = pure (.type "method_descriptor") := by show builtinType _ = _; rw [builtinType_eq_fast]; kernel_rfl
theorem entry_bytes_upper : entryFor table "bytes.upper" = some Builtin.«bytes.upper» := entryFor_of_tree (by kernel_rfl)
theorem args_bytes_upper (a : Value) : argsOk "bytes.upper" ⟨[a], []⟩ := by
  unfold argsOk; rw [signature?_of (id := "bytes.upper") (n := ['r', 'e', 'p', 'p', 'u']) (o := ['s', 'e', 't', 'y', 'b']) (by kernel_rfl) FB.owner_bytes]; kernel_rfl
theorem meets_hex (b : Array UInt8) (t : Tok) : Meets («bytes.hex» ⟨[.bytes b t], []⟩) (fun _ R s => (⟨hexOut b⟩ : PySem.Str).length ≤ sizeLine ∧ ∀ t' k, R (.ok (.ret (.str ⟨hexOut b⟩ t'))) { s with toks := k }) :=
  Meets.of_wp fun prog w A R s hs => by
    rw [hex_eq]
    exact wpAny_bind (wpAny_mkStr (wpAny_pure ⟨_, rfl, hs.2 _ _⟩) hs.1)
theorem meets_upper (b : Array UInt8) (t : Tok) : Meets («bytes.upper» ⟨[.bytes b t], []⟩) (fun _ R s => b.size ≤ 100 ∧ ∀ t' k, R (.ok (.ret (.bytes (b.toList.map Bytes.toUpper).toArray t'))) { s with toks := k }) :=
  Meets.of_wp fun prog w A R s hs => by
    rw [upper_eq]
    exact wpAny_bind (wpAny_mkBytes (wpAny_pure ⟨_, rfl, hs.2 _ _⟩) (by have := hs.1; simp only [List.size_toArray, List.length_map, Array.length_toList]; rw [sizeLine_eq]; omega))
theorem meets_enc (x : PySem.Str) (t u : Tok) (h : ∀ c ∈ x.cps, c < 128) (hz : x.cps.size ≤ 100) : Meets («str.encode» ⟨[.str x t, .str (PySem.Str.ofString "ascii") u], []⟩) (fun _ R s => ∀ t' k, R (.ok (.ret (.bytes (x.cps.toList.map Nat.toUInt8).toArray t'))) { s with toks := k }) :=
  Meets.of_wp fun prog w A R s hs => by
    rw [enc_eq, road_ascii, narrow_ascii x h hz]
    refine wpAny_bind (wpAny_bind (wpAny_pure ?_))
    exact wpAny_mkBytes (wpAny_pure ⟨_, rfl, hs _ _⟩) (by simp only [List.size_toArray, List.length_map, Array.length_toList]; rw [sizeLine_eq]; omega)
section
variable {prog : Program} {w : World} {A : Around} {E : Value → Shared → Prop} {s : Shared} {b : Array UInt8} {x : PySem.Str} {t u : Tok}
set_option maxRecDepth 100000 in
theorem hex_call {Q : Value → Shared → Prop} (hz : (⟨hexOut b⟩ : PySem.Str).length ≤ sizeLine) (h : ∀ t' k, Q (.str ⟨hexOut b⟩ t') { s with toks := k }) : wpAny (model prog w) A (call (.builtin "bytes.hex") [.bytes b t]) Q E s :=
  call_meets FB.slot_bytes_hex (typeIs_bytes _ _ _) FB.entry_bytes_hex (FB.args_bytes_hex_1 _) (meets_hex b t) ⟨hz, h⟩
set_option maxRecDepth 100000 in
theorem upper_call {Q : Value → Shared → Prop} (hz : b.size ≤ 100) (h : ∀ t' k, Q (.bytes (b.toList.map Bytes.toUpper).toArray t') { s with toks := k }) : wpAny (model prog w) A (call (.builtin "bytes.upper") [.bytes b t]) Q E s :=
  call_meets slot_bytes_upper (typeIs_bytes _ _ _) entry_bytes_upper (args_bytes_upper _) (meets_upper b t) ⟨hz, h⟩
set_option maxRecDepth 100000 in
theorem enc_call {Q : Value → Shared → Prop} (hc : ∀ c ∈ x.cps, c < 128) (hz : x.cps.size ≤ 100) (h : ∀ t' k, Q (.bytes (x.cps.toList.map Nat.toUInt8).toArray t') { s with toks := k }) : wpAny (model prog w) A (call (.builtin "str.encode") [.str x t, .str (PySem.Str.ofString "ascii") u]) Q E s :=
  call_meets F.slot_str_encode (typeIs_str _ _ _) F.entry_str_encode (F.args_str_encode_2 _ _) (meets_enc x t u hc hz) h
theorem bytesNoRef : ∀ a, Value.bytes b t = .ref a → ∃ o, s.heap.get? a = some o ∧ o.dict = none := fun _ e => nomatch e
theorem strNoRef : ∀ a, Value.str x t = .ref a → ∃ o, s.heap.get? a = some o ∧ o.dict = none := fun _ e => nomatch e
set_option maxRecDepth 100000 in
theorem hex_m {M : Model} {pl : Sem Bool} {Q : Value × List Value → Shared → Prop} (h : Q (.builtin "bytes.hex", [.bytes b t]) s) : wpAny M A (getMethod (.bytes b t) (PySem.Str.ofString "hex") pl) Q E s :=
  getMethod_builtin (typeIs_bytes _ _ _) FB.plainAttrs_bytes FB.slot_bytes_hex FB.type_bytes_hex bytesNoRef h
set_option maxRecDepth 100000 in
theorem upper_m {M : Model} {pl : Sem Bool} {Q : Value × List Value → Shared → Prop} (h : Q (.builtin "bytes.upper", [.bytes b t]) s) : wpAny M A (getMethod (.bytes b t) (PySem.Str.ofString "upper") pl) Q E s :=
  getMethod_builtin (typeIs_bytes _ _ _) FB.plainAttrs_bytes slot_bytes_upper type_bytes_upper bytesNoRef h
set_option maxRecDepth 100000 in
theorem enc_m {M : Model} {pl : Sem Bool} {Q : Value × List Value → Shared → Prop} (h : Q (.builtin "str.encode", [.str x t]) s) : wpAny M A (getMethod (.str x t) (PySem.Str.ofString "encode") pl) Q E s :=
  getMethod_builtin (typeIs_str _ _ _) F.plainAttrs_str F.slot_str_encode F.type_str_encode strNoRef h
end
theorem hexOut_list (b : Array UInt8) : (hexOut b).toList = b.toList.flatMap fun c => [Bytes.hexDigit (c.toNat / 16), Bytes.hexDigit (c.toNat % 16)] := by
  unfold hexOut
  have go : ∀ (l : List UInt8) (k : Nat) (acc : Array Nat), (List.foldl (fun (out : Array Nat) (p : UInt8 × Nat) => (out.push (Bytes.hexDigit (p.1.toNat / 16))).push (Bytes.hexDigit (p.1.toNat % 16))) acc (l.zipIdx k)).toList = acc.toList ++ l.flatMap fun c => [Bytes.hexDigit (c.toNat / 16), Bytes.hexDigit (c.toNat % 16)] := by
    intro l
    induction l with
    | nil => intro k acc; simp
    | cons c r ih => intro k acc; rw [List.zipIdx_cons, List.foldl_cons, ih]; simp
  rw [go]; simp
theorem hexDigit_lt {n : Nat} (h : n < 16) : Bytes.hexDigit n < 128 := by unfold Bytes.hexDigit; split <;> omega
theorem hexOut_lt (b : Array UInt8) : ∀ c ∈ hexOut b, c < 128 := by
  intro c hc
  have h1 : c ∈ (hexOut b).toList := by simpa using hc
  rw [hexOut_list] at h1
  obtain ⟨d, _, h2⟩ := List.mem_flatMap.mp h1
  have h3 := d.toNat_lt
  simp only [List.mem_cons, List.not_mem_nil, or_false] at h2
  rcases h2 with rfl | rfl
  · exact hexDigit_lt (by omega)
  · exact hexDigit_lt (by omega)
theorem hexOut_size (b : Array UInt8) : (hexOut b).size = 2 * b.size := by
  rw [← Array.length_toList, hexOut_list]
  simp only [List.length_flatMap, List.length_cons, List.length_nil]
  rw [← Array.length_toList]
  induction b.toList with
  | nil => rfl
  | cons c r ih => simp only [List.map_cons, List.sum_cons, List.length_cons, ih]; omega
noncomputable def written (b : Array UInt8) : Array UInt8 := (((hexOut b).toList.map Nat.toUInt8).toArray.toList.map Bytes.toUpper).toArray
end

end
section
noncomputable def figs : List UInt8 := [48, 49, 50, 51, 52, 53, 54, 55, 56, 57, 65, 66, 67, 68, 69, 70]
noncomputable def fg (k : Int) : Int := (((figs.getD k.toNat 0).toNat : Nat) : Int)
theorem fig_item {prog : Program} {w : World} {A : Around} {E : Value → Shared → Prop} {s : Shared} {i : Int} {t ui : Tok} {value slice : PySem.Expr} {Q : Value → Shared → Prop} (h0 : 0 ≤ i) (h1 : i < 16)
    (h : ∀ u tk, Q (.int (fg i) u) { s with toks := tk })
    (hs : subscripted slice false (.bytes figs.toArray t) (.int i ui) = operate [.bytes figs.toArray t, .int i ui] (getItem (.bytes figs.toArray t) (.int i ui)))
    (ht : ∀ r, letTemporaryGo value (.bytes figs.toArray t) r = pure ()) : wpAny (model prog w) A (subscriptTail value slice (.bytes figs.toArray t) (.int i ui)) Q E s :=
  bytes_item_K (x := figs) (by decide) h0 (by show i < 16; exact h1) rfl (h _ _) hs ht
theorem figs_hex : ∀ n : Nat, n < 16 → Builtin.Bytes.toUpper (Nat.toUInt8 (Builtin.Bytes.hexDigit n)) = figs.getD n 0 := by decide
theorem fg_range (k : Int) (h0 : 0 ≤ k) (h1 : k < 16) : 0 ≤ fg k ∧ fg k < 256 := by
  have : ∀ n : Nat, n < 16 → ((((figs.getD n 0).toNat : Nat) : Int)) < 256 := by decide
  refine ⟨Int.natCast_nonneg _, ?_⟩
  exact this k.toNat (by omega)
theorem fg_byte (k : Int) : (fg k).toNat.toUInt8 = figs.getD k.toNat 0 := by
  unfold fg
  rw [Int.toNat_natCast]
  simp
noncomputable def figInts (os : List Int) : List Int := os.flatMap fun o => [fg ((o.fdiv 16).fmod 16), fg ((o.fdiv 1).fmod 16)]
noncomputable def octBytes (os : List Int) : Array UInt8 := (os.map fun n => n.toNat.toUInt8).toArray
theorem nibbles {o : Int} (h : 0 ≤ o ∧ o ≤ 255) : (o.fdiv 16).fmod 16 = o / 16 ∧ (o.fdiv 1).fmod 16 = o % 16 ∧ 0 ≤ o / 16 ∧ o / 16 < 16 ∧ 0 ≤ o % 16 ∧ o % 16 < 16 ∧ ((o.toNat.toUInt8).toNat : Nat) = o.toNat ∧ o.toNat / 16 = (o / 16).toNat ∧ o.toNat % 16 = (o % 16).toNat := by
  rw [Int.fdiv_eq_ediv_of_nonneg _ (by decide), Int.fmod_eq_emod_of_nonneg _ (by decide), Int.fdiv_eq_ediv_of_nonneg _ (by decide), Int.fmod_eq_emod_of_nonneg _ (by decide)]
  have h1 : o.toNat < 256 := by omega
  refine ⟨by omega, by omega, by omega, by omega, by omega, by omega, ?_, by omega, by omega⟩
  simp only [Nat.toUInt8, UInt8.toNat_ofNat']
  exact Nat.mod_eq_of_lt h1
theorem written_list (b : Array UInt8) : (written b).toList = b.toList.flatMap fun c => [figs.getD (c.toNat / 16) 0, figs.getD (c.toNat % 16) 0] := by
  unfold written
  simp only [hexOut_list, List.map_flatMap, List.map_cons, List.map_nil]
  refine congrArg (fun f => List.flatMap f b.toList) ?_
  funext c
  have := c.toNat_lt
  rw [figs_hex _ (by omega), figs_hex _ (by omega)]
theorem written_is {os : List Int} (h : ∀ x ∈ os, 0 ≤ x ∧ x ≤ 255) : (written (octBytes os)).toList = (figInts os).map fun n => n.toNat.toUInt8 := by
  rw [written_list]
  unfold octBytes figInts
  induction os with
  | nil => rfl
  | cons o r ih =>
    obtain ⟨a1, a2, a3, a4, a5, a6, a7, a8, a9⟩ := nibbles (h o (.head _))
    simp only [List.map_cons, List.flatMap_cons, List.map_append, List.map_nil]
    rw [← ih fun x hx => h x (.tail _ hx), a1, a2, fg_byte, fg_byte, a7, a8, a9]
theorem figInts_range {os : List Int} (h : ∀ x ∈ os, 0 ≤ x ∧ x ≤ 255) : ∀ n ∈ figInts os, 0 ≤ n ∧ n < 256 := by
  intro n hn
  obtain ⟨o, ho, h2⟩ := List.mem_flatMap.mp hn
  obtain ⟨a1, a2, a3, a4, a5, a6, _⟩ := nibbles (h o ho)
  simp only [List.mem_cons, List.not_mem_nil, or_false] at h2
  rcases h2 with rfl | rfl
  · rw [a1]; exact fg_range _ a3 a4
  · rw [a2]; exact fg_range _ a5 a6
noncomputable def halves (os : List Int) : List Int := os.flatMap fun o => [o / 16, o % 16]
noncomputable def dig (c : UInt8) : Int := if c.toNat < 58 then c.toNat - 48 else c.toNat - 55
theorem dig_figs : ∀ n : Nat, n < 16 → dig (figs.getD n 0) = (n : Int) := by decide
theorem dig_written {os : List Int} (h : ∀ x ∈ os, 0 ≤ x ∧ x ≤ 255) : (written (octBytes os)).toList.map dig = halves os := by
  rw [written_is h]
  unfold figInts halves
  induction os with
  | nil => rfl
  | cons o r ih =>
    obtain ⟨a1, a2, a3, a4, a5, a6, a7, a8, a9⟩ := nibbles (h o (.head _))
    simp only [List.flatMap_cons, List.map_append, List.map_cons, List.map_nil]
    rw [ih fun x hx => h x (.tail _ hx), a1, a2, fg_byte, fg_byte, dig_figs _ (by omega), dig_figs _ (by omega)]
    congr 2
    · omega
    · congr 1
      omega
theorem written_fig {os : List Int} (h : ∀ x ∈ os, 0 ≤ x ∧ x ≤ 255) {i : Nat} {c : UInt8} (e : (written (octBytes os))[i]? = some c) : ∃ n, n < 16 ∧ c = figs.getD n 0 := by
  have hc : c ∈ (written (octBytes os)).toList := by
    obtain ⟨hi, q⟩ := Array.getElem?_eq_some_iff.mp e
    rw [← q]; simp
  rw [written_list] at hc
  obtain ⟨d, _, h2⟩ := List.mem_flatMap.mp hc
  have := d.toNat_lt
  simp only [List.mem_cons, List.not_mem_nil, or_false] at h2
  rcases h2 with rfl | rfl
  · exact ⟨_, by omega, rfl⟩
  · exact ⟨_, by omega, rfl⟩
theorem halves_len (os : List Int) : (halves os).length = 2 * os.length := by
  unfold halves
  induction os with
  | nil => rfl
  | cons o r ih => rw [List.flatMap_cons, List.length_append, ih]; simp only [List.length_cons, List.length_nil]; omega
theorem halves_range {os : List Int} (h : ∀ x ∈ os, 0 ≤ x ∧ x ≤ 255) : ∀ e ∈ halves os, 0 ≤ e ∧ e ≤ 15 := by
  intro e he
  obtain ⟨o, ho, h2⟩ := List.mem_flatMap.mp he
  have := h o ho
  simp only [List.mem_cons, List.not_mem_nil, or_false] at h2
  rcases h2 with rfl | rfl <;> omega
theorem written_size {os : List Int} (h : ∀ x ∈ os, 0 ≤ x ∧ x ≤ 255) : (written (octBytes os)).size = 2 * os.length := by
  have := congrArg List.length (dig_written h)
  rw [List.length_map, halves_len] at this
  rw [← Array.length_toList]; exact this
theorem fil_loops : ∀ {es : List Int}, (∀ e ∈ es, 0 ≤ e ∧ e ≤ 15) → es.filter (fun e => e.fdiv 4 != e.fmod 4) = fil es [0, 5, 10, 15]
  | [], _ => rfl
  | e :: r, h => by
    have ih := fil_loops (es := r) fun x hx => h x (.tail _ hx)
    have he := h e (.head _)
    rw [fil_cons, List.filter_cons, ih]
    rw [Int.fdiv_eq_ediv_of_nonneg _ (by decide), Int.fmod_eq_emod_of_nonneg _ (by decide)]
    by_cases q : e / 4 = e % 4
    · rw [if_neg (by simpa using q), if_pos]
      have : e = 0 ∨ e = 5 ∨ e = 10 ∨ e = 15 := by omega
      rcases this with rfl | rfl | rfl | rfl <;> decide
    · rw [if_pos (by simpa using q), if_neg]
      intro hc
      have : e = 0 ∨ e = 5 ∨ e = 10 ∨ e = 15 := by simpa using hc
      rcases this with rfl | rfl | rfl | rfl <;> exact absurd rfl q

end
section
section
variable {prog : Program} {w : World} {A : Around} {E : Value → Shared → Prop} {s : Shared} {h₀ : Heap} {L : Addr} {m : Str → Option Value} {env : Env} {R : Result → Shared → Prop} {elt t1 i1 t2 i2 : Expr} {scope : Scope} {pos : Pos} {it acc : Value}
noncomputable def COut (prog : Program) (w : World) (A : Around) (E : Value → Shared → Prop) (R : Result → Shared → Prop) (e : Expr) (it acc : Value) (env : Env) (t1 i2 : Expr) (r : Option Value) (s₁ : Shared) : Prop := match r with
  | none => R (.ok .next) s₁
  | some v => wpAny (model prog w) A (letOwnedTupleGo t1 it v) (fun _ s₁' => wpAny (model prog w) A (assign t1 env v) (fun _ s₂ => wpAny (model prog w) A (eval i2 env) (fun x s₃ => wpAny (model prog w) A (pyIter x)
      (fun it2 s₄ => codeAny (model prog w) A (.compStart e 1 it2 acc env) (fun r s' => match r with | .ok _ => codeAny (model prog w) A (.compLoop e 0 it acc env) R s' | .error x => cameBackBy (model prog w) A env E x s') s₄) E s₃) E s₂) E s₁') E s₁
theorem compTurn_out : compTurn (.ListComp elt [⟨t1, i1, [], 0⟩, ⟨t2, i2, [], 0⟩] scope pos) 0 it acc env = (standAt i1.pos >>= fun _ => pyNext it >>= fun r => match r with
      | none => pure (.done .next)
      | some v => letOwnedTupleGo t1 it v >>= fun _ => assign t1 env v >>= fun _ => eval i2 env >>= fun x => standAt i2.pos >>= fun _ => foldedSetIterable i2 env x >>= fun x =>
          holding [x] (pyIter x) >>= fun it2 => runOwn (.compStart (.ListComp elt [⟨t1, i1, [], 0⟩, ⟨t2, i2, [], 0⟩] scope pos) 1 it2 acc env) env >>= fun _ => again (.compLoop (.ListComp elt [⟨t1, i1, [], 0⟩, ⟨t2, i2, [], 0⟩] scope pos) 0 it acc env)) := by rfl
theorem comp2_outer (h : wpAny (model prog w) A (pyNext it) (COut prog w A (notedBy (model prog w) A env fun e s' => R (.error e) s') R (.ListComp elt [⟨t1, i1, [], 0⟩, ⟨t2, i2, [], 0⟩] scope pos) it acc env t1 i2) (notedBy (model prog w) A env fun e s' => R (.error e) s') s)
    (hs : ∀ x, foldedSetIterable i2 env x = pure x := by intro _; rfl) :
    codeAny (model prog w) A (.compLoop (.ListComp elt [⟨t1, i1, [], 0⟩, ⟨t2, i2, [], 0⟩] scope pos) 0 it acc env) R s := by
  refine codeAny_of_tree ?_
  show wpAny _ A ((compTurn (.ListComp elt [⟨t1, i1, [], 0⟩, ⟨t2, i2, [], 0⟩] scope pos) 0 it acc env).onRaise (fun x => do noteFrame x env; theTreesLotGoes x)) _ _ s
  refine wpAny_noted ?_
  rw [compTurn_out]
  refine wpAny_bind (wpAny_standAt (wpAny_bind (wpAny_mono h (fun r s₁ h₁ => ?_) fun _ _ h' => h')))
  cases r with
  | none => exact wpAny_pure h₁
  | some v =>
    refine wpAny_bind (wpAny_mono h₁ (fun _ s₁' h₁ => ?_) fun _ _ h' => h')
    refine wpAny_bind (wpAny_mono h₁ (fun _ s₂ h₂ => ?_) fun _ _ h' => h')
    refine wpAny_bind (wpAny_mono h₂ (fun x s₃ h₃ => ?_) fun _ _ h' => h')
    refine wpAny_bind (wpAny_standAt (wpAny_bind (wpAny_of_eq (hs x) (wpAny_bind (wpAny_holding (wpAny_mono h₃ (fun it2 s₄ h₄ => ?_) fun _ _ h' => h'))))))
    exact wpAny_bind (wpAny_runOwn (h := none) (codeAny_mono h₄ (fun r s' hr => match r, hr with
      | .ok _, hr => wpAny_pure ⟨rfl, hr⟩
      | .error _, hr => hr)))
theorem compTurn_in : compTurn (.ListComp elt [⟨t1, i1, [], 0⟩, ⟨t2, i2, [], 0⟩] scope pos) 1 it acc env = (standAt i2.pos >>= fun _ => pyNext it >>= fun r => match r with
      | none => pure (.done .next)
      | some v => letOwnedTupleGo t2 it v >>= fun _ => assign t2 env v >>= fun _ => (eval elt env >>= fun x => call (.builtin "list.append") [acc, x] >>= fun _ => pure ()) >>= fun _ => again (.compLoop (.ListComp elt [⟨t1, i1, [], 0⟩, ⟨t2, i2, [], 0⟩] scope pos) 1 it acc env)) := by rfl
noncomputable def CIn (prog : Program) (w : World) (A : Around) (E : Value → Shared → Prop) (R : Result → Shared → Prop) (e elt : Expr) (it acc : Value) (env : Env) (t2 : Expr) (r : Option Value) (s₁ : Shared) : Prop := match r with
  | none => R (.ok .next) s₁
  | some v => wpAny (model prog w) A (letOwnedTupleGo t2 it v) (fun _ s₁' => wpAny (model prog w) A (assign t2 env v) (fun _ s₂ => wpAny (model prog w) A (eval elt env) (fun x s₃ => wpAny (model prog w) A (call (.builtin "list.append") [acc, x])
      (fun _ s₄ => codeAny (model prog w) A (.compLoop e 1 it acc env) R s₄) E s₃) E s₂) E s₁') E s₁
theorem comp2_inner (h : wpAny (model prog w) A (pyNext it) (CIn prog w A (notedBy (model prog w) A env fun e s' => R (.error e) s') R (.ListComp elt [⟨t1, i1, [], 0⟩, ⟨t2, i2, [], 0⟩] scope pos) elt it acc env t2) (notedBy (model prog w) A env fun e s' => R (.error e) s') s) :
    codeAny (model prog w) A (.compLoop (.ListComp elt [⟨t1, i1, [], 0⟩, ⟨t2, i2, [], 0⟩] scope pos) 1 it acc env) R s := by
  refine codeAny_of_tree ?_
  show wpAny _ A ((compTurn (.ListComp elt [⟨t1, i1, [], 0⟩, ⟨t2, i2, [], 0⟩] scope pos) 1 it acc env).onRaise (fun x => do noteFrame x env; theTreesLotGoes x)) _ _ s
  refine wpAny_noted ?_
  rw [compTurn_in]
  refine wpAny_bind (wpAny_standAt (wpAny_bind (wpAny_mono h (fun r s₁ h₁ => ?_) fun _ _ h' => h')))
  cases r with
  | none => exact wpAny_pure h₁
  | some v =>
    refine wpAny_bind (wpAny_mono h₁ (fun _ s₁' h₁ => ?_) fun _ _ h' => h')
    refine wpAny_bind (wpAny_mono h₁ (fun _ s₂ h₂ => ?_) fun _ _ h' => h')
    exact wpAny_bind (wpAny_bind (wpAny_mono h₂ (fun x s₃ h₃ => wpAny_bind (wpAny_mono h₃ (fun _ s₄ h₄ => wpAny_pure (wpAny_pure ⟨rfl, h₄⟩)) fun _ _ h' => h')) fun _ _ h' => h'))
theorem comp2_start1 {I : Addr} (hself : ∀ (Q : Value → Shared → Prop) (E : Value → Shared → Prop), Q (.ref I) s → wpAny (model prog w) A (pyIter (.ref I)) Q E s)
    (h : codeAny (model prog w) A (.compLoop (.ListComp elt [⟨t1, i1, [], 0⟩, ⟨t2, i2, [], 0⟩] scope pos) 1 (.ref I) acc env) R s) :
    codeAny (model prog w) A (.compStart (.ListComp elt [⟨t1, i1, [], 0⟩, ⟨t2, i2, [], 0⟩] scope pos) 1 (.ref I) acc env) R s := by
  refine codeAny_of_tree ?_
  show wpAny _ _ ((compStart (.ListComp elt [⟨t1, i1, [], 0⟩, ⟨t2, i2, [], 0⟩] scope pos) 1 (.ref I) acc env).onRaise (fun x => do noteFrame x env; standAt theWindowsPlace)) _ _ s
  refine wpAny_notedAt ?_
  unfold compStart
  show wpAny _ _ (ask >>= _) _ _ s
  refine wpAny_bind (wpAny_askSetting (wpAny_ite ?_))
  split
  · first
      | exact wpAny_bind (wpAny_pure (wpAny_pure (And.intro rfl h)))
      | exact wpAny_pure (And.intro rfl h)
  · refine wpAny_bind (wpAny_rule ?_)
    show wpAny _ _ (standAt i2.pos >>= _) _ _ s
    exact wpAny_bind (wpAny_standAt (wpAny_bind (hself _ _ (wpAny_pure (And.intro rfl h)))))
theorem comp2_start0 {I : Addr} (hself : ∀ (Q : Value → Shared → Prop) (E : Value → Shared → Prop), Q (.ref I) s → wpAny (model prog w) A (pyIter (.ref I)) Q E s)
    (h : codeAny (model prog w) A (.compLoop (.ListComp elt [⟨t1, i1, [], 0⟩, ⟨t2, i2, [], 0⟩] scope pos) 0 (.ref I) acc env) R s) :
    codeAny (model prog w) A (.compStart (.ListComp elt [⟨t1, i1, [], 0⟩, ⟨t2, i2, [], 0⟩] scope pos) 0 (.ref I) acc env) R s := codeAny_compStart_list h (hself _ _ h)
theorem lc2_enter {cl : List (Str × Addr)} {Q : Value → Shared → Prop} (_F₀ : Fr h₀ L s.heap m) (hclos : closureFor scope env = pure cl) (hcell : ∀ y ∈ scope.names, y.2 ≠ .cell) (hkind : scope.kind = .function)
    (hnames : ∀ y ∈ scope.names, y.2 = .local → scope.names.lookup y.1 = some .local)
    (h : wpAny (model prog w) A (eval i1 env) (fun xv s₁ => wpAny (model prog w) A (pyIter xv) (LcAt prog w A h₀ L m env elt [⟨t1, i1, [], 0⟩, ⟨t2, i2, [], 0⟩] scope cl pos (fun D C => LcR prog w A E h₀ L m C D Q)) E s₁) E s)
    (hs : ∀ x, foldedSetIterable i1 env x = pure x := by intro _; rfl) :
    wpAny (model prog w) A (eval (.ListComp elt [⟨t1, i1, [], 0⟩, ⟨t2, i2, [], 0⟩] scope pos) env) Q E s := by
  rw [eval_ListComp]
  refine wpAny_comprehension_free (use := none) rfl hs hclos hkind hnames (wpAny_mono h (fun xv s₁ h₁ => wpAny_mono h₁ (fun it s₂ h₂ => ?_) fun _ _ e => e) fun _ _ e => e)
  obtain ⟨I, news, rfl, F, N, k⟩ := h₂
  refine wpAny_newObj_type (wpAny_newFunctionEnv hcell (by intro y hy; simp at hy) (fun h₁ hns₁ hsb₁ => ?_) hkind)
  dsimp only at hns₁ hsb₁ ⊢
  have hk : ∀ b o, (s₂.heap.push (W.listOf #[] 0)).get? b = some o → h₁.get? b = some o := fun b o e => hsb₁.extBut b o (Nat.ne_of_lt (Heap.lt_size e)) (Heap.get?_push_of_some _ e)
  obtain ⟨oC, F', N', hC, hlt, l1⟩ := comp_frame (oD := W.listOf #[] 0) rfl F N hns₁ hk
  exact codeAny_mono (k _ _ oC h₁ _ F' N' hC hlt l1) fun r s' hr => hr.post
theorem self_tup {I l : Addr} {oI : Obj} {i : Nat} {news : List (Addr × Obj)} {Q : Value → Shared → Prop} (N : News h₀ L s.heap news) (hmI : (I, oI) ∈ news) (hI : TIt oI l i) (h : Q (.ref I) s) : wpAny (model prog w) A (pyIter (.ref I)) Q E s :=
  wpAny_pyIter_tupleiter ⟨oI, (N _ hmI).1, hI⟩ h
end
noncomputable def BIt (o : Obj) (b : Array UInt8) (t : Tok) (i : Nat) : Prop := o.cls = .type "bytes_iterator" ∧ o.data = .fields #[.bytes b t, .int i 0]
section
variable {prog : Program} {w : World} {A : Around} {E : Value → Shared → Prop} {s : Shared} {h₀ : Heap} {L : Addr} {m : Str → Option Value} {news news' : List (Addr × Obj)} {g : Obj → List (Addr × Obj)} {I : Addr} {oI : Obj} {i : Nat} {b : Array UInt8} {t : Tok} {c : UInt8}
theorem iter_B {Q : Value → Shared → Prop} (F : Fr h₀ L s.heap m) (N : News h₀ L s.heap news)
    (h : ∀ I oI h', Fr h₀ L h' m → News h₀ L h' ((I, oI) :: news) → BIt oI b t 0 → (∀ p ∈ news, p.1 < I) → Q (.ref I) { s with heap := h' }) : wpAny (model prog w) A (pyIter (.bytes b t)) Q E s :=
  KBw.pyIter_bytes (h _ _ _ (F.push _) (N.push F _) ⟨rfl, rfl⟩ fun p hp => Heap.lt_size (N p hp).1)
theorem next_B {Q : Option Value → Shared → Prop} (F : Fr h₀ L s.heap m) (N : News h₀ L s.heap news) (_hmI : (I, oI) ∈ news) (hI : BIt oI b t i) (U : UpdF I oI news g) (hx : b[i]? = some c)
    (h : ∀ h' oI' u tk, Fr h₀ L h' m → News h₀ L h' (g oI') → BIt oI' b t (i + 1) → Q (some (.int (c.toNat : Int) u)) { s with heap := h', toks := tk }) : wpAny (model prog w) A (pyNext (.ref I)) Q E s := by
  obtain ⟨own, rest, rfl, hg, h1, h2⟩ := U.split
  have hmI := N (I, oI) (List.mem_append_right _ (.head _))
  refine KBw.next_item ⟨oI, hmI.1, hI⟩ hx fun h' hi hs => ?_
  obtain ⟨oI', e, hI'⟩ := hi
  exact h h' oI' _ _ (fr_ext F (List.mem_append_right _ (.head _)) N hs.extBut) (hg oI' ▸ N.setAt h1 h2 hs e) hI'
theorem next_B_end {Q : Option Value → Shared → Prop} (hh : A.handled = none) (F : Fr h₀ L s.heap m) (N : News h₀ L s.heap news) (hI : BIt oI b t i) (hmI : (I, oI) ∈ news) (hx : b[i]? = none) (D : Del I news news')
    (h : ∀ h', Fr h₀ L h' m → News h₀ L h' news' → Q none { s with heap := h' }) : wpAny (model prog w) A (pyNext (.ref I)) Q E s :=
  KBw.next_end hh ⟨oI, (N _ hmI).1, hI⟩ hx fun h' hs => h h' (fr_ext F hmI N hs) (news_ext N D hs)
theorem self_B {Q : Value → Shared → Prop} (N : News h₀ L s.heap news) (hmI : (I, oI) ∈ news) (hI : BIt oI b t i) (h : Q (.ref I) s) : wpAny (model prog w) A (pyIter (.ref I)) Q E s :=
  KBw.pyIter_self ⟨oI, (N _ hmI).1, hI⟩ h
end

end
section
noncomputable def enO (I : Addr) (i : Int) (a old : Value) : Obj := { cls := .type "enumerate", data := .fields #[a, .bool false, .ref I, rawInt i, .none, old] }
inductive Sh2 (ze zI : Addr) (ye yI : Obj) : AL → List (Addr × Obj) → (Obj → Obj → List (Addr × Obj)) → Prop
  | head {zl zr} : Sh2 ze zI ye yI (.new ze (.new zI zl)) ((ze, ye) :: (zI, yI) :: zr) (fun a b => (ze, a) :: (zI, b) :: zr)
  | tail {za zl zp zr zg} (zh : Sh2 ze zI ye yI zl zr zg) : Sh2 ze zI ye yI (.new za zl) (zp :: zr) (fun a b => zp :: zg a b)
theorem Sh2.mem {e I : Addr} {ye yI : Obj} {l : AL} {r : List (Addr × Obj)} {g : Obj → Obj → List (Addr × Obj)} (h : Sh2 e I ye yI l r g) : e ∈ l.to ∧ I ∈ l.to := by
  induction h with
  | head => exact ⟨.head _, .tail _ (.head _)⟩
  | tail _ ih => exact ⟨.tail _ ih.1, .tail _ ih.2⟩
theorem Sh2.spec {e I : Addr} {ye yI : Obj} {l : AL} {r : List (Addr × Obj)} {g : Obj → Obj → List (Addr × Obj)} (h : Sh2 e I ye yI l r g) (S : Ap l) (z : r.map (·.1) = l.to) : (e, ye) ∈ r ∧ (I, yI) ∈ r ∧ @LT.lt Nat _ I e ∧ ∀ a b p, p ∈ g a b → p = (e, a) ∨ p = (I, b) ∨ (p ∈ r ∧ p.1 ≠ e ∧ p.1 ≠ I) := by
  induction h with
  | head =>
    refine ⟨.head _, .tail _ (.head _), S.1 _ (.head _), fun a b p hp => ?_⟩
    rcases List.mem_cons.mp hp with rfl | hp
    · exact .inl rfl
    rcases List.mem_cons.mp hp with rfl | hp
    · exact .inr (.inl rfl)
    · exact .inr (.inr ⟨.tail _ (.tail _ hp), ne_rest (map_tail z).2 S.1 p (.tail _ hp), ne_rest (map_tail (map_tail z).2).2 S.2.1 p hp⟩)
  | tail h ih =>
    obtain ⟨a1, a2, a3, a4⟩ := ih S.2 (map_tail z).2
    refine ⟨.tail _ a1, .tail _ a2, a3, fun a b p hp => ?_⟩
    rcases List.mem_cons.mp hp with rfl | hp
    · exact .inr (.inr ⟨.head _, (map_tail z).1 ▸ Nat.ne_of_gt (S.1 _ h.mem.1), (map_tail z).1 ▸ Nat.ne_of_gt (S.1 _ h.mem.2)⟩)
    · exact (a4 a b p hp).imp id fun q => q.imp id fun q => ⟨.tail _ q.1, q.2⟩
section
variable {prog : Program} {w : World} {A : Around} {E : Value → Shared → Prop} {s : Shared} {h₀ : Heap} {L : Addr} {m : Str → Option Value} {news n1 rest : List (Addr × Obj)} {g : Obj → List (Addr × Obj)} {e I l : Addr} {oI : Obj} {i n : Nat} {its : Array Value} {vs : List Value} {old x : Value}
theorem call_en {Q : Value → Shared → Prop} (F : Fr h₀ L s.heap m) (N : News h₀ L s.heap news) (hm : (l, W.listOf its n) ∈ news)
    (h : ∀ I e oI h', Fr h₀ L h' m → News h₀ L h' ((e, enO I 0 .none .none) :: (I, oI) :: news) → LIt oI l 0 → (∀ p ∈ news, p.1 < I) → I < e → Q (.ref e) { s with heap := h' }) : wpAny (model prog w) A (call (.type "enumerate") [.ref l]) Q E s := by
  refine call_enumerate_list (items := its) ⟨_, (N _ hm).1, rfl, n, rfl⟩ fun h' he hi hz hk => ?_
  obtain ⟨oI, e1, e2⟩ := hi
  have hL := F.ns.lt
  refine h _ _ oI h' (F.keeps hk) (fun p hp => ?_) e2 (fun p hp => Heap.lt_size (N p hp).1) (Nat.lt_succ_self _)
  rcases List.mem_cons.mp hp with rfl | hp
  · exact ⟨he, Nat.ne_of_gt (Nat.lt_succ_of_lt hL), kts_none F.keep (Heap.get?_none_of_le (Nat.le_succ _))⟩
  · rcases List.mem_cons.mp hp with rfl | hp
    · exact ⟨e1, Nat.ne_of_gt hL, kts_none F.keep (Heap.get?_none_of_le (Nat.le_refl _))⟩
    · exact ⟨hk _ _ (N p hp).1, (N p hp).2⟩
theorem next_en {k : AL} {g : Obj → Obj → List (Addr × Obj)} {Q : Option Value → Shared → Prop} (F : Fr h₀ L s.heap m) (N : News h₀ L s.heap news) (_me : (e, enO I (i : Int) .none old) ∈ news) (S : Ap k) (ek : news.map (·.1) = k.to) (H : Sh2 e I (enO I (i : Int) .none old) oI k news g) (hI : LIt oI l i) (ml : (l, W.listOf vs.toArray n) ∈ news) (hx : ItemAt vs i x)
    (h : ∀ T oI' h' u tk, Fr h₀ L h' m → News h₀ L h' ((T, ({ cls := .type "tuple", data := .seq #[.int (i : Int) u, x] } : Obj)) :: g (enO I ((i : Int) + 1) (rawInt T) x) oI') → LIt oI' l (i + 1) → (∀ p ∈ news, p.1 < T) → Q (some (.ref T)) { s with heap := h', toks := tk }) : wpAny (model prog w) A (pyNext (.ref e)) Q E s := by
  obtain ⟨me, mI, hIe, hg⟩ := H.spec S ek
  have nI := N _ mI
  have ne := N _ me
  have hL := F.ns.lt
  refine wpAny_pyNext_enum_item (items := vs.toArray) ne.1 ⟨oI, nI.1, hI⟩ ⟨_, (N _ ml).1, rfl, n, rfl⟩ hx.get (Nat.ne_of_gt hIe) fun h' ho hi ht hz hk => ?_
  obtain ⟨oI', e1, e2⟩ := hi
  refine h s.heap.objs.size oI' h' s.toks (s.toks + 1) ⟨F.ns.at fun o x => hk _ o (Ne.symm ne.2.1) (Ne.symm nI.2.1) x, fun b o q => hk b o (fun z => by rw [z, ne.2.2] at q; cases q) (fun z => by rw [z, nI.2.2] at q; cases q) (F.keep b o q), F.above⟩ (fun p hp => ?_) e2 (fun p hp => Heap.lt_size (N p hp).1)
  rcases List.mem_cons.mp hp with rfl | hp
  · exact ⟨ht, Nat.ne_of_gt hL, kts_none F.keep (Heap.get?_none_of_le (Nat.le_refl _))⟩
  rcases hg _ _ p hp with rfl | rfl | ⟨q1, q2, q3⟩
  · exact ⟨ho, ne.2⟩
  · exact ⟨e1, nI.2⟩
  · exact ⟨hk _ _ q2 q3 (N p q1).1, (N p q1).2⟩
theorem next_en_end {Q : Option Value → Shared → Prop} (hh : A.handled = none) (F : Fr h₀ L s.heap m) (N : News h₀ L s.heap news) (me : (e, enO I (i : Int) .none old) ∈ news) (mI : (I, oI) ∈ news) (hI : LIt oI l i) (ml : (l, W.listOf vs.toArray n) ∈ news) (hx : OffAt vs i) (D : Del I news n1)
    (h : ∀ h', Fr h₀ L h' m → News h₀ L h' n1 → Q none { s with heap := h' }) : wpAny (model prog w) A (pyNext (.ref e)) Q E s :=
  wpAny_pyNext_enum_end hh (N _ me).1 ⟨oI, (N _ mI).1, hI⟩ ⟨_, (N _ ml).1, rfl, n, rfl⟩ hx.get fun h' hs => h h' (fr_ext F mI N hs) (news_ext N D hs)
theorem own_en {T : Addr} {k : Int} {elts : List Expr} {x1} {pos : Pos} {Q : Unit → Shared → Prop} (F : Fr h₀ L s.heap m) (N : News h₀ L s.heap news) (U : UpdF e (enO I k (rawInt T) x) news g)
    (h : ∀ h', Fr h₀ L h' m → News h₀ L h' (g (enO I k .none x)) → Q () { s with heap := h' }) : wpAny (model prog w) A (letOwnedTupleGo (.Tuple elts x1 pos) (.ref e) (.ref T)) Q E s := by
  obtain ⟨own, rest, rfl, hg, h1, h2⟩ := U.split
  have hm := N (e, enO I k (rawInt T) x) (List.mem_append_right _ (.head _))
  refine wpAny_letOwnedTupleGo_enum hm.1 fun h' he hs => h h' (fr_ext (o := enO I k (rawInt T) x) F (List.mem_append_right _ (.head _)) N hs.extBut) ?_
  rw [hg]
  exact N.setAt h1 h2 hs he
theorem self_en {k : Int} {Q : Value → Shared → Prop} (N : News h₀ L s.heap news) (me : (e, enO I k .none old) ∈ news) (h : Q (.ref e) s) : wpAny (model prog w) A (pyIter (.ref e)) Q E s :=
  wpAny_pyIter_enum (N _ me).1 h
end
theorem ints_abs {vs : List Value} {ys : List Int} {k : Nat} (A : IntsAre vs (List.take k ys)) : ∃ xs, IntsAre vs xs ∧ xs.length ≤ k := ⟨_, A, List.length_take_le ..⟩
theorem ints_abs2 {vs : List Value} {ys : List Int} {k : Nat} (A : IntsAre vs ys) (h : vs.length ≤ k) : ∃ xs, IntsAre vs xs ∧ xs.length ≤ k := ⟨ys, A, by have := A.length; omega⟩
theorem sum_pick {prog : Program} {w : World} {A : Around} {E : Value → Shared → Prop} {s : Shared} {h₀ : Heap} {L l : Addr} {m : Str → Option Value} {rest : List (Addr × Obj)} {vs : List Value} {ns : List Int} {lo hi st : Option Int} {Q : Value → Shared → Prop} (hh : A.handled = none) (F : Fr h₀ L s.heap m)
    (N : News h₀ L s.heap ((l, ({ cls := .type "list", data := .seq (slicePick vs.toArray lo hi st) } : Obj)) :: rest)) (hI : IntsAre vs ns)
    (h : ∀ x h' tk t', Fr h₀ L h' m → News h₀ L h' rest → Q (.int x t') { s with heap := h', toks := tk }) : wpAny (model prog w) A (call (.builtin "sum") [.ref l]) Q E s := by
  have hl : s.heap.IsList l ((slicePick vs.toArray lo hi st).toList).toArray := by
    rw [Array.toArray_toList]
    exact ⟨_, (N _ (.head _)).1, rfl, 0, rfl⟩
  exact sumK hh F (fun p hp => N p (.tail _ hp)) hl (hI.pick lo hi st) fun h' tk t' F' N' => h _ h' tk t' F' N'
theorem News.take1 {g h : Heap} {L D : Addr} {o : Obj} {news rest : List (Addr × Obj)} (N : News g L h news) (hs : ∀ p ∈ (D, o) :: rest, p ∈ news) : ∃ d, d = D ∧ News g L h ((d, o) :: rest) := ⟨D, rfl, fun p hp => N p (hs p hp)⟩
theorem oct_abs {ws : List Value} {l : List Int} {k : Nat} (A : IntsAre ws (List.take k l)) (hl : l.length ≤ 4) (h : ∀ x ∈ l, 0 ≤ x ∧ x ≤ 255) : ∃ os, IntsAre ws os ∧ os.length ≤ 4 ∧ ∀ x ∈ os, 0 ≤ x ∧ x ≤ 255 :=
  ⟨_, A, Nat.le_trans (List.length_take_le' ..) hl, fun x hx => h x (List.mem_of_mem_take hx)⟩
theorem fm256 (x : Int) : 0 ≤ x.fmod 256 ∧ x.fmod 256 ≤ 255 := by
  rw [Int.fmod_eq_emod_of_nonneg _ (by decide)]
  omega

end
section
noncomputable def GInv (g : Heap) (L : Addr) (m : Str → Option Value) (s0 : Shared) (C D I l : Addr) (rest : List (Addr × Obj)) (xs : List Int) (f : Int → List Int) (n : Nat) (s' : Shared) : Prop :=
  ∃ i oI oC mC acc cnt h tk, xs.length - i = n ∧ i ≤ xs.length ∧ s' = { s0 with heap := h, toks := tk } ∧ Fr g L h m ∧ News g L h ((C, oC) :: (D, W.listOf acc.toArray cnt) :: (I, oI) :: rest) ∧ LCg.NsObj oC mC ∧ LIt oI l i ∧ IntsAre acc ((xs.take i).flatMap f) ∧ acc.length = 2 * i
theorem GInv.mk {g : Heap} {L : Addr} {m : Str → Option Value} {s0 : Shared} {C D I l : Addr} {rest : List (Addr × Obj)} {xs : List Int} {f : Int → List Int} {oI oC : Obj} {mC : Str → Option Value} {h : Heap} {tk : Tok}
    (F : Fr g L h m) (N : News g L h ((C, oC) :: (D, W.listOf #[] 0) :: (I, oI) :: rest)) (hC : LCg.NsObj oC mC) (hI : LIt oI l 0) : GInv g L m s0 C D I l rest xs f xs.length { s0 with heap := h, toks := tk } :=
  ⟨0, oI, oC, mC, [], 0, h, tk, rfl, Nat.zero_le _, rfl, F, N, hC, hI, .nil, rfl⟩
theorem GInv.next {g : Heap} {L : Addr} {m : Str → Option Value} {s0 : Shared} {C D I l : Addr} {rest : List (Addr × Obj)} {xs : List Int} {f : Int → List Int} {i cnt : Nat} {x y z : Int} {t u : Tok} {oI oC : Obj} {mC : Str → Option Value} {acc : List Value} {h : Heap} {tk : Tok}
    (F : Fr g L h m) (N : News g L h ((C, oC) :: (D, W.listOf (acc ++ [Value.int y t] ++ [Value.int z u]).toArray cnt) :: (I, oI) :: rest)) (hC : LCg.NsObj oC mC) (hI : LIt oI l (i + 1)) (e : xs[i]? = some x) (hA : IntsAre acc ((xs.take i).flatMap f)) (al : acc.length = 2 * i) (hy : [y, z] = f x) :
    GInv g L m s0 C D I l rest xs f (xs.length - (i + 1)) { s0 with heap := h, toks := tk } := by
  have hi : i < xs.length := (List.getElem?_eq_some_iff.mp e).1
  refine ⟨i + 1, oI, oC, mC, acc ++ [.int y t] ++ [.int z u], cnt, h, tk, rfl, hi, rfl, F, N, hC, hI, ?_, by simp [al]; omega⟩
  rw [List.take_add_one, e, Option.toList_some, List.flatMap_append, List.flatMap_cons, List.flatMap_nil, List.append_nil, ← hy]
  have := ints_snoc (t := u) (x := z) (ints_snoc (t := t) (x := y) hA)
  simpa only [List.append_assoc, List.cons_append, List.nil_append] using this
noncomputable def EInv (g : Heap) (L : Addr) (m : Str → Option Value) (s0 : Shared) (C D I : Addr) (b : Array UInt8) (bt : Tok) (rest : List (Addr × Obj)) (n : Nat) (s' : Shared) : Prop :=
  ∃ i oI oC mC acc cnt h tk, b.size - i = n ∧ i ≤ b.size ∧ s' = { s0 with heap := h, toks := tk } ∧ Fr g L h m ∧ News g L h ((C, oC) :: (D, W.listOf acc.toArray cnt) :: (I, oI) :: rest) ∧ LCg.NsObj oC mC ∧ BIt oI b bt i ∧ IntsAre acc ((b.toList.take i).map dig) ∧ acc.length = i
theorem EInv.mk {g : Heap} {L : Addr} {m : Str → Option Value} {s0 : Shared} {C D I : Addr} {b : Array UInt8} {bt : Tok} {rest : List (Addr × Obj)} {oI oC : Obj} {mC : Str → Option Value} {h : Heap} {tk : Tok}
    (F : Fr g L h m) (N : News g L h ((C, oC) :: (D, W.listOf #[] 0) :: (I, oI) :: rest)) (hC : LCg.NsObj oC mC) (hI : BIt oI b bt 0) : EInv g L m s0 C D I b bt rest b.size { s0 with heap := h, toks := tk } :=
  ⟨0, oI, oC, mC, [], 0, h, tk, rfl, Nat.zero_le _, rfl, F, N, hC, hI, .nil, rfl⟩
theorem EInv.next {g : Heap} {L : Addr} {m : Str → Option Value} {s0 : Shared} {C D I : Addr} {b : Array UInt8} {bt : Tok} {rest : List (Addr × Obj)} {i cnt : Nat} {c : UInt8} {y : Int} {t : Tok} {oI oC : Obj} {mC : Str → Option Value} {acc : List Value} {h : Heap} {tk : Tok}
    (F : Fr g L h m) (N : News g L h ((C, oC) :: (D, W.listOf (acc ++ [Value.int y t]).toArray (cnt + 1)) :: (I, oI) :: rest)) (hC : LCg.NsObj oC mC) (hI : BIt oI b bt (i + 1)) (e : b[i]? = some c) (hA : IntsAre acc ((b.toList.take i).map dig)) (al : acc.length = i) (hy : y = dig c) :
    EInv g L m s0 C D I b bt rest (b.size - (i + 1)) { s0 with heap := h, toks := tk } := by
  have hi : i < b.size := (Array.getElem?_eq_some_iff.mp e).1
  have e' : b.toList[i]? = some c := by rw [Array.getElem?_toList]; exact e
  refine ⟨i + 1, oI, oC, mC, acc ++ [.int y t], cnt + 1, h, tk, rfl, hi, rfl, F, N, hC, hI, ?_, by simp [al]⟩
  rw [List.take_add_one, e', Option.toList_some, List.map_append, hy]
  exact ints_snoc hA
noncomputable def FInv (g : Heap) (L : Addr) (m : Str → Option Value) (s0 : Shared) (C D I l : Addr) (rest : List (Addr × Obj)) (xs : List Int) (p : Int → Bool) (n : Nat) (s' : Shared) : Prop :=
  ∃ i oI oC mC acc cnt h tk, xs.length - i = n ∧ i ≤ xs.length ∧ s' = { s0 with heap := h, toks := tk } ∧ Fr g L h m ∧ News g L h ((C, oC) :: (D, W.listOf acc.toArray cnt) :: (I, oI) :: rest) ∧ LCg.NsObj oC mC ∧ LIt oI l i ∧ IntsAre acc ((xs.take i).filter p) ∧ acc.length ≤ i
theorem FInv.mk {g : Heap} {L : Addr} {m : Str → Option Value} {s0 : Shared} {C D I l : Addr} {rest : List (Addr × Obj)} {xs : List Int} {p : Int → Bool} {oI oC : Obj} {mC : Str → Option Value} {h : Heap} {tk : Tok}
    (F : Fr g L h m) (N : News g L h ((C, oC) :: (D, W.listOf #[] 0) :: (I, oI) :: rest)) (hC : LCg.NsObj oC mC) (hI : LIt oI l 0) : FInv g L m s0 C D I l rest xs p xs.length { s0 with heap := h, toks := tk } :=
  ⟨0, oI, oC, mC, [], 0, h, tk, rfl, Nat.zero_le _, rfl, F, N, hC, hI, .nil, Nat.le_refl _⟩
theorem FInv.next {g : Heap} {L : Addr} {m : Str → Option Value} {s0 : Shared} {C D I l : Addr} {rest : List (Addr × Obj)} {xs : List Int} {p : Int → Bool} {i cnt : Nat} {x : Int} {t : Tok} {oI oC : Obj} {mC : Str → Option Value} {acc : List Value} {h : Heap} {tk : Tok}
    (F : Fr g L h m) (N : News g L h ((C, oC) :: (D, W.listOf (acc ++ [Value.int x t]).toArray (cnt + 1)) :: (I, oI) :: rest)) (hC : LCg.NsObj oC mC) (hI : LIt oI l (i + 1)) (e : xs[i]? = some x) (hA : IntsAre acc ((xs.take i).filter p)) (al : acc.length ≤ i) (hp : p x = true) :
    FInv g L m s0 C D I l rest xs p (xs.length - (i + 1)) { s0 with heap := h, toks := tk } := by
  have hi : i < xs.length := (List.getElem?_eq_some_iff.mp e).1
  refine ⟨i + 1, oI, oC, mC, acc ++ [.int x t], cnt + 1, h, tk, rfl, hi, rfl, F, N, hC, hI, ?_, by simp; omega⟩
  rw [List.take_add_one, e, Option.toList_some, List.filter_append, List.filter_cons, if_pos hp]
  exact ints_snoc hA
theorem FInv.skip {g : Heap} {L : Addr} {m : Str → Option Value} {s0 : Shared} {C D I l : Addr} {rest : List (Addr × Obj)} {xs : List Int} {p : Int → Bool} {i cnt : Nat} {x : Int} {oI oC : Obj} {mC : Str → Option Value} {acc : List Value} {h : Heap} {tk : Tok}
    (F : Fr g L h m) (N : News g L h ((C, oC) :: (D, W.listOf acc.toArray cnt) :: (I, oI) :: rest)) (hC : LCg.NsObj oC mC) (hI : LIt oI l (i + 1)) (e : xs[i]? = some x) (hA : IntsAre acc ((xs.take i).filter p)) (al : acc.length ≤ i) (hp : p x = false) :
    FInv g L m s0 C D I l rest xs p (xs.length - (i + 1)) { s0 with heap := h, toks := tk } := by
  have hi : i < xs.length := (List.getElem?_eq_some_iff.mp e).1
  refine ⟨i + 1, oI, oC, mC, acc, cnt, h, tk, rfl, hi, rfl, F, N, hC, hI, ?_, by omega⟩
  rw [List.take_add_one, e, Option.toList_some, List.filter_append, List.filter_cons, if_neg (by rw [hp]; decide), List.filter_nil, List.append_nil]
  exact hA
theorem ne_bytes_eq {prog : Program} {w : World} {A : Around} {E : Value → Shared → Prop} {s : Shared} {b c : Array UInt8} {t u : Tok} {Q : Value → Shared → Prop} (h : b.toList = c.toList) (hq : Q (.bool false) s) : wpAny (model prog w) A (compareOp .NotEq (.bytes b t) (.bytes c u)) Q E s :=
  ne_bytes (by
    rw [h]
    have : (c.toList != c.toList) = false := by simp
    rw [this]
    exact hq)
theorem nib_bd {o : Int} (h : 0 ≤ o ∧ o ≤ 255) : (0 ≤ (o.fdiv 16).fmod 16 ∧ (o.fdiv 16).fmod 16 < 16) ∧ 0 ≤ (o.fdiv 1).fmod 16 ∧ (o.fdiv 1).fmod 16 < 16 := by
  obtain ⟨a1, a2, a3, a4, a5, a6, _⟩ := nibbles h
  rw [a1, a2]
  exact ⟨⟨a3, a4⟩, a5, a6⟩
inductive PlIs : List (Int × Value) → List Int → Prop
  | nil : PlIs [] []
  | cons (k : Int) (t : Tok) {l ks} : PlIs l ks → PlIs ((fg k, .int k t) :: l) (k :: ks)
theorem figs_inj : ∀ a : Nat, a < 16 → ∀ b : Nat, b < 16 → (figs.getD a 0).toNat = (figs.getD b 0).toNat → a = b := by decide
theorem fg_inj {a b : Int} (ha : 0 ≤ a ∧ a < 16) (hb : 0 ≤ b ∧ b < 16) (h : fg a = fg b) : a = b := by
  unfold fg at h
  have := figs_inj a.toNat (by omega) b.toNat (by omega) (by omega)
  omega
theorem PlIs.find {n : Int} (hn : 0 ≤ n ∧ n < 16) {l : List (Int × Value)} {ks : List Int} (P : PlIs l ks) (hk : ∀ k ∈ ks, 0 ≤ k ∧ k < 16) (h : n ∈ ks) : ∃ t, valueAt l (fg n) = some (.int n t) := by
  induction P with
  | nil => cases h
  | cons k t _ ih =>
    by_cases e : k = n
    · subst e
      exact ⟨t, by simp [valueAt]⟩
    · obtain ⟨t', ht⟩ := ih (fun x hx => hk x (.tail _ hx)) ((List.mem_cons.mp h).resolve_left (Ne.symm e))
      refine ⟨t', ?_⟩
      unfold valueAt at ht ⊢
      rw [List.find?_cons]
      have : fg k ≠ fg n := fun q => e (fg_inj (hk k (.head _)) hn q)
      simp only [this, decide_false]
      exact ht
theorem PlIs.snoc (k : Int) (t : Tok) {l : List (Int × Value)} {ks : List Int} (h : PlIs l ks) : PlIs (l ++ [(fg k, .int k t)]) (ks ++ [k]) := by
  induction h with
  | nil => exact .cons k t .nil
  | cons k' t' _ ih => exact .cons k' t' ih
theorem PlIs.keys {l : List (Int × Value)} {ks : List Int} (h : PlIs l ks) : l.map (·.1) = ks.map fg := by
  induction h with
  | nil => rfl
  | cons k t _ ih => simp [ih]
noncomputable def upto (i : Nat) : List Int := (List.range i).map fun (n : Nat) => (n : Int)
theorem upto_succ (i : Nat) : upto (i + 1) = upto i ++ [(i : Int)] := by unfold upto; rw [List.range_succ]; simp
theorem mem_upto {i : Nat} {k : Int} : k ∈ upto i ↔ 0 ≤ k ∧ k < i := by
  unfold upto
  rw [List.mem_map]
  constructor
  · rintro ⟨n, hn, rfl⟩
    have := List.mem_range.mp hn
    omega
  · intro h
    exact ⟨k.toNat, List.mem_range.mpr (by omega), by omega⟩
theorem pl_fresh {i : Nat} {l : List (Int × Value)} (hi : i < 16) (P : PlIs l (upto i)) : fg (i : Int) ∉ l.map (·.1) := by
  rw [P.keys]
  intro h
  obtain ⟨k, hk, e⟩ := List.mem_map.mp h
  have hk' := mem_upto.mp hk
  have := fg_inj (a := k) (b := (i : Int)) (by omega) (by omega) e
  omega
noncomputable def PInv (prog : Program) (w : World) (g : Heap) (L : Addr) (m : Str → Option Value) (s0 : Shared) (C D I : Addr) (rest : List (Addr × Obj)) (n : Nat) (s' : Shared) : Prop :=
  ∃ (i : Nat) (oC : Obj) (mC : Str → Option Value) (oD : Obj) (kvs : List (Int × Value)) (ep : Nat) (h : Heap) (tk : Tok), 16 - i = n ∧ i ≤ 16 ∧ s' = { s0 with heap := h, toks := tk } ∧ Fr g L h m ∧ News g L h ((C, oC) :: (D, oD) :: (I, itR (i : Int) (16 - (i : Int))) :: rest) ∧ LCg.NsObj oC mC ∧ DictIs prog w oD kvs ep ∧ PlIs kvs (upto i) ∧ kvs.length = i
theorem PInv.mk {prog : Program} {w : World} {g : Heap} {L : Addr} {m : Str → Option Value} {s0 : Shared} {C D I : Addr} {rest : List (Addr × Obj)} {oC oD : Obj} {mC : Str → Option Value} {ep : Nat} {h : Heap} {tk : Tok}
    (F : Fr g L h m) (N : News g L h ((C, oC) :: (D, oD) :: (I, itR 0 16) :: rest)) (hC : LCg.NsObj oC mC) (hD : DictIs prog w oD [] ep) : PInv prog w g L m s0 C D I rest 16 { s0 with heap := h, toks := tk } :=
  ⟨0, oC, mC, oD, [], ep, h, tk, rfl, by decide, rfl, F, N, hC, hD, .nil, rfl⟩
theorem PInv.next {prog : Program} {w : World} {g : Heap} {L : Addr} {m : Str → Option Value} {s0 : Shared} {C D I : Addr} {rest : List (Addr × Obj)} {oC oD : Obj} {mC : Str → Option Value} {ep i : Nat} {kvs : List (Int × Value)} {t : Tok} {h : Heap} {tk : Tok}
    (F : Fr g L h m) (N : News g L h ((C, oC) :: (D, oD) :: (I, itR ((i : Int) + 1) (16 - (i : Int) - 1)) :: rest)) (hC : LCg.NsObj oC mC) (hD : DictIs prog w oD (kvs ++ [(fg (i : Int), .int (i : Int) t)]) ep) (P : PlIs kvs (upto i)) (hl : kvs.length = i) (hi : i < 16) : PInv prog w g L m s0 C D I rest (16 - (i + 1)) { s0 with heap := h, toks := tk } := by
  refine ⟨i + 1, oC, mC, oD, _, ep, h, tk, rfl, hi, rfl, F, ?_, hC, hD, ?_, by simp [hl]⟩
  · have e1 : ((i + 1 : Nat) : Int) = (i : Int) + 1 := by omega
    have e2 : 16 - ((i + 1 : Nat) : Int) = 16 - (i : Int) - 1 := by omega
    rw [e2, e1]
    exact N
  · rw [upto_succ]
    exact P.snoc _ t
theorem places_of {kvs : List (Int × Value)} (P : PlIs kvs (upto 16)) : ∀ n : Nat, n < 16 → ∃ t, valueAt kvs (((figs.getD n 0).toNat : Nat) : Int) = some (.int (n : Int) t) := fun n hn =>
  P.find (n := n) (by omega) (fun k hk => mem_upto.mp hk) (mem_upto.mpr (by omega))

end
section
noncomputable def TabIs (M : Int → Int → Int) (q0 q1 q2 q3 a b c d e f : Int) : Prop :=
  (M 0 0 = q0 + a + b + c ∧ M 0 1 = -a ∧ M 0 2 = -b ∧ M 0 3 = -c) ∧ (M 1 0 = -a ∧ M 1 1 = q1 + a + d + e ∧ M 1 2 = -d ∧ M 1 3 = -e) ∧
  (M 2 0 = -b ∧ M 2 1 = -d ∧ M 2 2 = q2 + b + d + f ∧ M 2 3 = -f) ∧ (M 3 0 = -c ∧ M 3 1 = -e ∧ M 3 2 = -f ∧ M 3 3 = q3 + c + e + f)
theorem tab_base (w0 w1 w2 w3 : Int) : TabIs (base4 w0 w1 w2 w3) w0 w1 w2 w3 0 0 0 0 0 0 := by
  simp [TabIs, base4]
noncomputable def dl (x y a b : Int) : Int := if x = y then 0 else (if a = x ∧ b = x then 1 else 0) + (if a = y ∧ b = y then 1 else 0) - (if a = x ∧ b = y then 1 else 0) - (if a = y ∧ b = x then 1 else 0)
theorem put_at (M : Int → Int → Int) (i j x a b : Int) : put M i j x a b = if a = i ∧ b = j then x else M a b := by
  unfold put
  by_cases h : a = i
  · subst h
    by_cases h2 : b = j <;> simp [h2]
  · simp [h]
theorem edge_pt (M : Int → Int → Int) (x y a b : Int) : edge M (x, y) a b = M a b + dl x y a b := by
  unfold edge dl
  dsimp only
  by_cases h : x = y
  · rw [if_pos h, if_pos h, Int.add_zero]
  · rw [if_neg h, if_neg h]
    have h' : ¬ y = x := fun q => h q.symm
    simp only [put_at, h, h', and_true, true_and, and_false, false_and, if_false]
    by_cases h1 : a = x
    · subst h1
      by_cases h3 : b = a
      · subst h3; simp [h]
      · by_cases h4 : b = y
        · subst h4; simp [h, h']; omega
        · simp [h, h3, h4]
    · by_cases h2 : a = y
      · subst h2
        by_cases h3 : b = x
        · subst h3; simp [h, h1]; omega
        · by_cases h4 : b = a
          · subst h4; simp [h1]
          · simp [h1, h3, h4]
      · simp [h1, h2]
theorem fin_dl : ∀ x y : Fin 4, (dl x.val y.val 0 0 = ind 0 1 (4 * x.val + y.val) + ind 0 2 (4 * x.val + y.val) + ind 0 3 (4 * x.val + y.val) ∧ dl x.val y.val 0 1 = - ind 0 1 (4 * x.val + y.val) ∧ dl x.val y.val 0 2 = - ind 0 2 (4 * x.val + y.val) ∧ dl x.val y.val 0 3 = - ind 0 3 (4 * x.val + y.val)) ∧
    (dl x.val y.val 1 0 = - ind 0 1 (4 * x.val + y.val) ∧ dl x.val y.val 1 1 = ind 0 1 (4 * x.val + y.val) + ind 1 2 (4 * x.val + y.val) + ind 1 3 (4 * x.val + y.val) ∧ dl x.val y.val 1 2 = - ind 1 2 (4 * x.val + y.val) ∧ dl x.val y.val 1 3 = - ind 1 3 (4 * x.val + y.val)) ∧
    (dl x.val y.val 2 0 = - ind 0 2 (4 * x.val + y.val) ∧ dl x.val y.val 2 1 = - ind 1 2 (4 * x.val + y.val) ∧ dl x.val y.val 2 2 = ind 0 2 (4 * x.val + y.val) + ind 1 2 (4 * x.val + y.val) + ind 2 3 (4 * x.val + y.val) ∧ dl x.val y.val 2 3 = - ind 2 3 (4 * x.val + y.val)) ∧
    (dl x.val y.val 3 0 = - ind 0 3 (4 * x.val + y.val) ∧ dl x.val y.val 3 1 = - ind 1 3 (4 * x.val + y.val) ∧ dl x.val y.val 3 2 = - ind 2 3 (4 * x.val + y.val) ∧ dl x.val y.val 3 3 = ind 0 3 (4 * x.val + y.val) + ind 1 3 (4 * x.val + y.val) + ind 2 3 (4 * x.val + y.val)) := by decide +kernel
theorem off_eq {m d i x : Int} (h : m = -x) (e : d = -i) : m + d = -(x + i) := by omega
theorem dia_eq {m d q a b c i j k : Int} (h : m = q + a + b + c) (e : d = i + j + k) : m + d = q + (a + i) + (b + j) + (c + k) := by omega
theorem tab_edge {M : Int → Int → Int} {q0 q1 q2 q3 a b c d e f x y k : Int} (T : TabIs M q0 q1 q2 q3 a b c d e f) (hx : 0 ≤ x ∧ x < 4) (hy : 0 ≤ y ∧ y < 4) (hk : k = 4 * x + y) :
    TabIs (edge M (x, y)) q0 q1 q2 q3 (a + ind 0 1 k) (b + ind 0 2 k) (c + ind 0 3 k) (d + ind 1 2 k) (e + ind 1 3 k) (f + ind 2 3 k) := by
  obtain ⟨⟨m00, m01, m02, m03⟩, ⟨m10, m11, m12, m13⟩, ⟨m20, m21, m22, m23⟩, ⟨m30, m31, m32, m33⟩⟩ := T
  obtain ⟨x', rfl⟩ := fin4 (n := x) ⟨hx.1, by omega⟩
  obtain ⟨y', rfl⟩ := fin4 (n := y) ⟨hy.1, by omega⟩
  subst hk
  obtain ⟨⟨n00, n01, n02, n03⟩, ⟨n10, n11, n12, n13⟩, ⟨n20, n21, n22, n23⟩, ⟨n30, n31, n32, n33⟩⟩ := fin_dl x' y'
  unfold TabIs
  simp only [edge_pt]
  exact ⟨⟨dia_eq m00 n00, off_eq m01 n01, off_eq m02 n02, off_eq m03 n03⟩, ⟨off_eq m10 n10, dia_eq m11 n11, off_eq m12 n12, off_eq m13 n13⟩, ⟨off_eq m20 n20, off_eq m21 n21, dia_eq m22 n22, off_eq m23 n23⟩, ⟨off_eq m30 n30, off_eq m31 n31, off_eq m32 n32, dia_eq m33 n33⟩⟩
theorem tab_oct {M : Int → Int → Int} {q0 q1 q2 q3 a b c d e f o : Int} (T : TabIs M q0 q1 q2 q3 a b c d e f) (ho : 0 ≤ o ∧ o ≤ 255) :
    TabIs (edges2 M o) q0 q1 q2 q3 (a + ind 0 1 (o / 16) + ind 0 1 (o % 16)) (b + ind 0 2 (o / 16) + ind 0 2 (o % 16)) (c + ind 0 3 (o / 16) + ind 0 3 (o % 16)) (d + ind 1 2 (o / 16) + ind 1 2 (o % 16)) (e + ind 1 3 (o / 16) + ind 1 3 (o % 16)) (f + ind 2 3 (o / 16) + ind 2 3 (o % 16)) := by
  obtain ⟨⟨b0, b1⟩, ⟨b2, b3⟩, ⟨b4, b5⟩, b6, b7⟩ := tb_bounds ho.1 ho.2
  refine tab_edge (tab_edge T ⟨b0, b1⟩ ⟨b2, b3⟩ ?_) ⟨b4, b5⟩ ⟨b6, b7⟩ ?_
  · rw [Int.fdiv_eq_ediv_of_nonneg _ (by decide), Int.fdiv_eq_ediv_of_nonneg _ (by decide), Int.fmod_eq_emod_of_nonneg _ (by decide)]
    omega
  · rw [Int.fdiv_eq_ediv_of_nonneg _ (by decide), Int.fmod_eq_emod_of_nonneg _ (by decide), Int.fmod_eq_emod_of_nonneg _ (by decide)]
    omega
theorem tab_fold : ∀ {os : List Int} {M : Int → Int → Int} {q0 q1 q2 q3 a b c d e f : Int}, TabIs M q0 q1 q2 q3 a b c d e f → (∀ x ∈ os, 0 ≤ x ∧ x ≤ 255) →
    TabIs (os.foldl edges2 M) q0 q1 q2 q3 (a + cnt 0 1 (halves os)) (b + cnt 0 2 (halves os)) (c + cnt 0 3 (halves os)) (d + cnt 1 2 (halves os)) (e + cnt 1 3 (halves os)) (f + cnt 2 3 (halves os))
  | [], M, q0, q1, q2, q3, a, b, c, d, e, f, T, _ => by
    show TabIs M q0 q1 q2 q3 (a + 0) (b + 0) (c + 0) (d + 0) (e + 0) (f + 0)
    simp only [Int.add_zero]; exact T
  | o :: r, M, q0, q1, q2, q3, a, b, c, d, e, f, T, h => by
    have ih := tab_fold (os := r) (tab_oct T (h o (.head _))) fun x hx => h x (.tail _ hx)
    have e1 : ∀ i j : Int, cnt i j (halves (o :: r)) = ind i j (o / 16) + (ind i j (o % 16) + cnt i j (halves r)) := fun _ _ => rfl
    simp only [Int.add_assoc] at ih
    rw [List.foldl_cons, e1, e1, e1, e1, e1, e1]
    exact ih
theorem cnt_bd (i j : Int) : ∀ l : List Int, 0 ≤ cnt i j l ∧ cnt i j l ≤ (l.length : Int)
  | [] => by simp [cnt]
  | e :: r => by
    have ih := cnt_bd i j r
    have : 0 ≤ ind i j e ∧ ind i j e ≤ 1 := by unfold ind; split <;> omega
    rw [List.length_cons]
    unfold cnt
    omega
theorem halves_fits {os : List Int} (h : ∀ x ∈ os, 0 ≤ x ∧ x ≤ 255) (w0 w1 w2 w3 : Int) : Fits (halves os) [(0, w0), (1, w1), (2, w2), (3, w3)] := by
  intro e he
  have := halves_range h e he
  refine ⟨by unfold Edge; omega, ?_, ?_⟩ <;> simp only [List.map_cons, List.map_nil, List.mem_cons, List.not_mem_nil, or_false] <;> omega
theorem final_eq {os : List Int} (h : ∀ x ∈ os, 0 ≤ x ∧ x ≤ 255) (h4 : os.length ≤ 4) {w0 w1 w2 w3 : Int} (hw0 : -1000 ≤ w0 ∧ w0 ≤ 1000) (hw1 : -1000 ≤ w1 ∧ w1 ≤ 1000) (hw2 : -1000 ≤ w2 ∧ w2 ≤ 1000) (hw3 : -1000 ≤ w3 ∧ w3 ≤ 1000) {M : Int → Int → Int} (hM : M = os.foldl edges2 (base4 w0 w1 w2 w3)) :
    worth 9 (halves os) [(0, w0), (1, w1), (2, w2), (3, w3)] = d4 (M 0 0) (M 0 1) (M 0 2) (M 0 3) (M 1 0) (M 1 1) (M 1 2) (M 1 3) (M 2 0) (M 2 1) (M 2 2) (M 2 3) (M 3 0) (M 3 1) (M 3 2) (M 3 3) ∧
    ∀ i j : Int, 0 ≤ i ∧ i < 4 → 0 ≤ j ∧ j < 4 → -1000000 < M i j ∧ M i j < 1000000 := by
  have hl := halves_len os
  have T := tab_fold (tab_base w0 w1 w2 w3) h
  rw [← hM] at T
  simp only [Int.zero_add] at T
  have c01 := cnt_bd 0 1 (halves os)
  have c02 := cnt_bd 0 2 (halves os)
  have c03 := cnt_bd 0 3 (halves os)
  have c12 := cnt_bd 1 2 (halves os)
  have c13 := cnt_bd 1 3 (halves os)
  have c23 := cnt_bd 2 3 (halves os)
  obtain ⟨⟨m00, m01, m02, m03⟩, ⟨m10, m11, m12, m13⟩, ⟨m20, m21, m22, m23⟩, ⟨m30, m31, m32, m33⟩⟩ := T
  constructor
  · rw [worth_D 9 (halves os) _ (by omega) (halves_fits h w0 w1 w2 w3) (List.Sublist.refl _)]
    rw [m00, m01, m02, m03, m10, m11, m12, m13, m20, m21, m22, m23, m30, m31, m32, m33]
    rfl
  · intro i j hi hj
    rcases four hi.1 hi.2 with rfl | rfl | rfl | rfl <;> rcases four hj.1 hj.2 with rfl | rfl | rfl | rfl <;> omega
theorem fm_weight (x : Int) : -1000 ≤ x.fmod 2001 - 1000 ∧ x.fmod 2001 - 1000 ≤ 1000 := by
  rw [Int.fmod_eq_emod_of_nonneg _ (by decide)]
  omega
inductive TabNews (zM : Int → Int → Int) (zg : Heap) (zL : Addr) (zh : Heap) (zs : List (Addr × Obj)) (zr : Value) : Prop
  | mk (zl z0 z1 z2 z3 : Addr) (zn y0 y1 y2 y3 : Nat) (x0 x1 x2 x3 : List Value) (_ : zr = .ref zl) (_ : IntsAre x0 [zM 0 0, zM 0 1, zM 0 2, zM 0 3]) (_ : IntsAre x1 [zM 1 0, zM 1 1, zM 1 2, zM 1 3]) (_ : IntsAre x2 [zM 2 0, zM 2 1, zM 2 2, zM 2 3]) (_ : IntsAre x3 [zM 3 0, zM 3 1, zM 3 2, zM 3 3])
    (_ : News zg zL zh ((z3, W.listOf x3.toArray y3) :: (z2, W.listOf x2.toArray y2) :: (z1, W.listOf x1.toArray y1) :: (z0, W.listOf x0.toArray y0) :: (zl, W.listOf (#[.ref z0, .ref z1, .ref z2, .ref z3] : Array Value) zn) :: zs)) (_ : [zl, z0, z1, z2, z3].Nodup)
theorem four4 {f : Int → Int} {o : Obj} (h : RowIs o f) : ∃ v n, o = W.listOf (List.toArray v) n ∧ IntsAre v [f 0, f 1, f 2, f 3] := let ⟨_, n, e⟩ := h; ⟨_, n, e, .cons _ _ (.cons _ _ (.cons _ _ (.cons _ _ .nil)))⟩
theorem nd_cons {a : Addr} {l : List Addr} (h : ∀ b ∈ l, @LT.lt Nat _ a b) (n : l.Nodup) : (a :: l).Nodup := List.nodup_cons.mpr ⟨fun m => Nat.lt_irrefl _ (h a m), n⟩
theorem lt_cons {a b : Addr} {l : List Addr} (h : @LT.lt Nat _ a b) (k : ∀ c ∈ l, @LT.lt Nat _ b c) : ∀ c ∈ b :: l, @LT.lt Nat _ a c := fun c hc => by
  rcases List.mem_cons.mp hc with rfl | hc
  · exact h
  · exact Nat.lt_trans h (k c hc)
theorem table_news {g h h' : Heap} {L : Addr} {m : Str → Option Value} {news : List (Addr × Obj)} {M : Int → Int → Int} {r : Value} (F : Fr g L h m) (N : News g L h news) (N' : News g L h' news) (T : NewTable M h h' r) : TabNews M g L h' news r := by
  obtain ⟨l, r0, r1, r2, r3, o0, o1, o2, o3, n, hr, hl, a0, a1, a2, a3, gl, g0, g1, g2, g3, R⟩ := T
  obtain ⟨v0, n0, rfl, i0⟩ := four4 R.1
  obtain ⟨v1, n1, rfl, i1⟩ := four4 R.2.1
  obtain ⟨v2, n2, rfl, i2⟩ := four4 R.2.2.1
  obtain ⟨v3, n3, rfl, i3⟩ := four4 R.2.2.2
  have hL := F.ns.lt
  have add : ∀ {b : Addr} {o : Obj} {nw : List (Addr × Obj)}, h.objs.size ≤ b → h'.get? b = some o → News g L h' nw → News g L h' ((b, o) :: nw) := fun hb e N p hp => by
    rcases List.mem_cons.mp hp with rfl | hp
    · exact ⟨e, Nat.ne_of_gt (Nat.lt_of_lt_of_le hL hb), kts_none F.keep (Heap.get?_none_of_le hb)⟩
    · exact N p hp
  have b0 := Nat.le_trans hl (Nat.le_of_lt a0)
  have b1 := Nat.le_trans b0 (Nat.le_of_lt a1)
  have b2 := Nat.le_trans b1 (Nat.le_of_lt a2)
  have b3 := Nat.le_trans b2 (Nat.le_of_lt a3)
  have z3 : ∀ c ∈ ([] : List Addr), @LT.lt Nat _ r3 c := fun _ h => nomatch h
  have z2 := lt_cons a3 z3
  have z1 := lt_cons a2 z2
  have z0 := lt_cons a1 z1
  exact .mk l r0 r1 r2 r3 n n0 n1 n2 n3 v0 v1 v2 v3 hr i0 i1 i2 i3 (add b3 g3 (add b2 g2 (add b1 g1 (add b0 g0 (add hl gl N'))))) (nd_cons (lt_cons a0 z0) (nd_cons z0 (nd_cons z1 (nd_cons z2 (nd_cons z3 List.nodup_nil)))))
theorem row_bd {M : Int → Int → Int} (fb : ∀ i j : Int, 0 ≤ i ∧ i < 4 → 0 ≤ j ∧ j < 4 → -1000000 < M i j ∧ M i j < 1000000) (i : Int) (hi : 0 ≤ i ∧ i < 4) : ∀ y ∈ [M i 0, M i 1, M i 2, M i 3], -1000000 < y ∧ y < 1000000 := fun y hy => by
  simp only [List.mem_cons, List.not_mem_nil, or_false] at hy
  rcases hy with rfl | rfl | rfl | rfl <;> exact fb _ _ hi (by decide)
theorem final_eq2 {g g' : Heap} {r : Value} {os : List Int} {w0 w1 w2 w3 : Int} (_T : NewTable (os.foldl edges2 (base4 w0 w1 w2 w3)) g g' r) (h : ∀ x ∈ os, 0 ≤ x ∧ x ≤ 255) (h4 : os.length ≤ 4) (hw0 : -1000 ≤ w0 ∧ w0 ≤ 1000) (hw1 : -1000 ≤ w1 ∧ w1 ≤ 1000) (hw2 : -1000 ≤ w2 ∧ w2 ≤ 1000) (hw3 : -1000 ≤ w3 ∧ w3 ≤ 1000) :
    ∃ M, M = os.foldl edges2 (base4 w0 w1 w2 w3) ∧ worth 9 (halves os) [(0, w0), (1, w1), (2, w2), (3, w3)] = d4 (M 0 0) (M 0 1) (M 0 2) (M 0 3) (M 1 0) (M 1 1) (M 1 2) (M 1 3) (M 2 0) (M 2 1) (M 2 2) (M 2 3) (M 3 0) (M 3 1) (M 3 2) (M 3 3) ∧
      ∀ i j : Int, 0 ≤ i ∧ i < 4 → 0 ≤ j ∧ j < 4 → -1000000 < M i j ∧ M i j < 1000000 := ⟨_, rfl, final_eq h h4 hw0 hw1 hw2 hw3 rfl⟩

end
section
theorem gen4 {g h : Heap} {L C D e I l : Addr} {oC oD oe oI : Obj} {a b c d : Int} {ta tb tc td : Tok} {z : Nat} {rest : List (Addr × Obj)} (N : News g L h ((C, oC) :: (D, oD) :: (e, oe) :: (I, oI) :: (l, W.listOf (#[.int a ta, .int b tb, .int c tc, .int d td] : Array Value) z) :: rest)) :
    ∃ vs ns, IntsAre vs ns ∧ ns.length = 4 ∧ News g L h ((C, oC) :: (D, oD) :: (e, oe) :: (I, oI) :: (l, W.listOf vs.toArray z) :: rest) :=
  ⟨[.int a ta, .int b tb, .int c tc, .int d td], [a, b, c, d], .cons _ _ (.cons _ _ (.cons _ _ (.cons _ _ .nil))), rfl, N⟩
noncomputable def NInv (g : Heap) (L : Addr) (m : Str → Option Value) (s0 : Shared) (C D e I l : Addr) (rest : List (Addr × Obj)) (n : Nat) (s' : Shared) : Prop :=
  ∃ (i : Nat) (oI oC : Obj) (mC : Str → Option Value) (acc : List Value) (cnt : Nat) (old : Value) (ys : List Int) (h : Heap) (tk : Tok), 4 - i = n ∧ i ≤ 4 ∧ s' = { s0 with heap := h, toks := tk } ∧ Fr g L h m ∧ News g L h ((C, oC) :: (D, W.listOf acc.toArray cnt) :: (e, enO I (i : Int) .none old) :: (I, oI) :: rest) ∧ LCg.NsObj oC mC ∧ LIt oI l i ∧ IntsAre acc ys ∧ acc.length = i
theorem NInv.mk {g : Heap} {L : Addr} {m : Str → Option Value} {s0 : Shared} {C D e I l : Addr} {rest : List (Addr × Obj)} {oI oC : Obj} {mC : Str → Option Value} {old : Value} {h : Heap} {tk : Tok}
    (F : Fr g L h m) (N : News g L h ((C, oC) :: (D, W.listOf #[] 0) :: (e, enO I 0 .none old) :: (I, oI) :: rest)) (hC : LCg.NsObj oC mC) (hI : LIt oI l 0) : NInv g L m s0 C D e I l rest 4 { s0 with heap := h, toks := tk } :=
  ⟨0, oI, oC, mC, [], 0, old, [], h, tk, rfl, Nat.zero_le _, rfl, F, N, hC, hI, .nil, rfl⟩
theorem NInv.next {g : Heap} {L : Addr} {m : Str → Option Value} {s0 : Shared} {C D e I l : Addr} {rest : List (Addr × Obj)} {oI oC : Obj} {mC : Str → Option Value} {old : Value} {i cnt : Nat} {ys : List Int} {y : Int} {t : Tok} {acc : List Value} {h : Heap} {tk : Tok}
    (F : Fr g L h m) (N : News g L h ((C, oC) :: (D, W.listOf (acc ++ [Value.int y t]).toArray (cnt + 1)) :: (e, enO I ((i : Int) + 1) .none old) :: (I, oI) :: rest)) (hC : LCg.NsObj oC mC) (hI : LIt oI l (i + 1)) (hA : IntsAre acc ys) (al : acc.length = i) (hi : i < 4) : NInv g L m s0 C D e I l rest (4 - (i + 1)) { s0 with heap := h, toks := tk } :=
  ⟨i + 1, oI, oC, mC, acc ++ [.int y t], cnt + 1, old, ys ++ [y], h, tk, rfl, hi, rfl, F, by rw [Int.natCast_add, Int.natCast_one]; exact N, hC, hI, ints_snoc hA, by simp [al]⟩
noncomputable def VInv (prog : Program) (w : World) (g : Heap) (L : Addr) (m : Str → Option Value) (s0 : Shared) (C D I : Addr) (rest : List (Addr × Obj)) (f : Int → Int) (n : Nat) (s' : Shared) : Prop :=
  ∃ (i : Nat) (oC : Obj) (mC : Str → Option Value) (oD : Obj) (kvs : List (Int × Value)) (ep : Nat) (h : Heap) (tk : Tok), 4 - i = n ∧ i ≤ 4 ∧ s' = { s0 with heap := h, toks := tk } ∧ Fr g L h m ∧ News g L h ((C, oC) :: (D, oD) :: (I, itR (i : Int) (4 - (i : Int))) :: rest) ∧ LCg.NsObj oC mC ∧ DictIs prog w oD kvs ep ∧ KV kvs ((upto i).map fun k => (k, f k)) ∧ kvs.length = i
theorem VInv.mk {prog : Program} {w : World} {g : Heap} {L : Addr} {m : Str → Option Value} {s0 : Shared} {C D I : Addr} {rest : List (Addr × Obj)} {f : Int → Int} {oC oD : Obj} {mC : Str → Option Value} {ep : Nat} {h : Heap} {tk : Tok}
    (F : Fr g L h m) (N : News g L h ((C, oC) :: (D, oD) :: (I, itR 0 4) :: rest)) (hC : LCg.NsObj oC mC) (hD : DictIs prog w oD [] ep) : VInv prog w g L m s0 C D I rest f 4 { s0 with heap := h, toks := tk } :=
  ⟨0, oC, mC, oD, [], ep, h, tk, rfl, by decide, rfl, F, N, hC, hD, .nil, rfl⟩
theorem VInv.next {prog : Program} {w : World} {g : Heap} {L : Addr} {m : Str → Option Value} {s0 : Shared} {C D I : Addr} {rest : List (Addr × Obj)} {f : Int → Int} {oC oD : Obj} {mC : Str → Option Value} {ep i : Nat} {kvs : List (Int × Value)} {x : Int} {t : Tok} {h : Heap} {tk : Tok}
    (F : Fr g L h m) (N : News g L h ((C, oC) :: (D, oD) :: (I, itR ((i : Int) + 1) (4 - (i : Int) - 1)) :: rest)) (hC : LCg.NsObj oC mC) (hD : DictIs prog w oD (kvs ++ [((i : Int), .int x t)]) ep) (P : KV kvs ((upto i).map fun k => (k, f k))) (hl : kvs.length = i) (hi : i < 4) (hx : x = f i) : VInv prog w g L m s0 C D I rest f (4 - (i + 1)) { s0 with heap := h, toks := tk } := by
  refine ⟨i + 1, oC, mC, oD, _, ep, h, tk, rfl, hi, rfl, F, ?_, hC, hD, ?_, by simp [hl]⟩
  · have e1 : ((i + 1 : Nat) : Int) = (i : Int) + 1 := by omega
    have e2 : 4 - ((i + 1 : Nat) : Int) = 4 - (i : Int) - 1 := by omega
    rw [e2, e1]
    exact N
  · rw [upto_succ, List.map_append, hx]
    exact kv_push P
theorem v_fresh {i : Nat} {kvs : List (Int × Value)} {f : Int → Int} (P : KV kvs ((upto i).map fun k => (k, f k))) : (i : Int) ∉ kvs.map (·.1) := by
  rw [P.keys, List.map_map]
  intro h
  obtain ⟨k, hk, e⟩ := List.mem_map.mp h
  have := mem_upto.mp hk
  simp at e
  omega
noncomputable def WB (x : Int) : Prop := -1000 ≤ x ∧ x ≤ 1000
theorem v_four {prog : Program} {w : World} {o : Obj} {ep : Nat} {f : Int → Int} {kvs : List (Int × Value)} (D : DictIs prog w o kvs ep) (P : KV kvs ((upto 4).map fun k => (k, f k))) (hf : ∀ k, -1000 ≤ f k ∧ f k ≤ 1000) :
    ∃ w0 w1 w2 w3 u0 u1 u2 u3, WB w0 ∧ WB w1 ∧ WB w2 ∧ WB w3 ∧ DictIs prog w o [(0, .int w0 u0), (1, .int w1 u1), (2, .int w2 u2), (3, .int w3 u3)] ep ∧ KV [(0, .int w0 u0), (1, .int w1 u1), (2, .int w2 u2), (3, .int w3 u3)] [(0, w0), (1, w1), (2, w2), (3, w3)] := by
  have P : KV kvs [(0, f 0), (1, f 1), (2, f 2), (3, f 3)] := P
  cases P with
  | cons _ _ u0 P => cases P with
    | cons _ _ u1 P => cases P with
      | cons _ _ u2 P => cases P with
        | cons _ _ u3 P => cases P; exact ⟨f 0, f 1, f 2, f 3, u0, u1, u2, u3, hf 0, hf 1, hf 2, hf 3, D, .cons _ _ _ (.cons _ _ _ (.cons _ _ _ (.cons _ _ _ .nil)))⟩
theorem map256 {ys : List Int} : ∀ x ∈ ys.map (fun x => x.fmod 256), 0 ≤ x ∧ x ≤ 255 := fun x hx => by
  obtain ⟨y, _, rfl⟩ := List.mem_map.mp hx
  exact fm256 y
noncomputable def wtOf (ns : List Int) (k : Int) : Int := ((ns.getD k.toNat 0).fdiv 256).fmod 2001 - 1000
theorem wtOf_bd (ns : List Int) (k : Int) : -1000 ≤ wtOf ns k ∧ wtOf ns k ≤ 1000 := fm_weight _
theorem wtOf_at {ns : List Int} {i : Nat} {x : Int} (h : ns[i]? = some x) : (x.fdiv 256).fmod 2001 - 1000 = wtOf ns i := by
  unfold wtOf
  rw [Int.toNat_natCast, List.getD_eq_getElem?_getD, h]; rfl

end
section
noncomputable def dsum (f : Nat → Int) : Nat → Int
  | 0 => 0
  | i + 1 => dsum f i + f i
noncomputable def sgn (k : Nat) : Int := if k % 2 = 0 then 1 else -1
noncomputable def minor (k : Nat) (rows : List (List Int)) : List (List Int) := rows.map fun r => r.take k ++ r.drop (k + 1)
noncomputable def detL : Nat → List (List Int) → Int
  | 0, _ => 1
  | n + 1, rows => dsum (fun k => sgn k * (rows.headD []).getD k 0 * detL n (minor k rows.tail)) (n + 1)
theorem detL_4 (a b c d e f g h i j k l m n o p : Int) : detL 4 [[a, b, c, d], [e, f, g, h], [i, j, k, l], [m, n, o, p]] = d4 a b c d e f g h i j k l m n o p := by
  have s0 : sgn 0 = 1 := rfl
  have s1 : sgn 1 = -1 := rfl
  have s2 : sgn 2 = 1 := rfl
  have s3 : sgn 3 = -1 := rfl
  have t2 : ∀ x00 x01 x10 x11 : Int, detL 2 [[x00, x01], [x10, x11]] = x00 * x11 - x01 * x10 := by
    intro x00 x01 x10 x11
    show 0 + sgn 0 * x00 * (0 + sgn 0 * x11 * 1) + sgn 1 * x01 * (0 + sgn 0 * x10 * 1) = _
    rw [s0, s1]
    simp only [Int.zero_add, Int.one_mul, Int.mul_one, Int.neg_mul, Int.sub_eq_add_neg]
  have t3 : ∀ x00 x01 x02 x10 x11 x12 x20 x21 x22 : Int, detL 3 [[x00, x01, x02], [x10, x11, x12], [x20, x21, x22]] = d3 x00 x01 x02 x10 x11 x12 x20 x21 x22 := by
    intro x00 x01 x02 x10 x11 x12 x20 x21 x22
    show 0 + sgn 0 * x00 * detL 2 [[x11, x12], [x21, x22]] + sgn 1 * x01 * detL 2 [[x10, x12], [x20, x22]] + sgn 2 * x02 * detL 2 [[x10, x11], [x20, x21]] = _
    rw [t2, t2, t2, s0, s1, s2]
    unfold d3
    simp only [Int.zero_add, Int.one_mul, Int.neg_mul, Int.sub_eq_add_neg]
  show 0 + sgn 0 * a * detL 3 [[f, g, h], [j, k, l], [n, o, p]] + sgn 1 * b * detL 3 [[e, g, h], [i, k, l], [m, o, p]] + sgn 2 * c * detL 3 [[e, f, h], [i, j, l], [m, n, p]] + sgn 3 * d * detL 3 [[e, f, g], [i, j, k], [m, n, o]] = _
  rw [t3, t3, t3, t3, s0, s1, s2, s3]
  unfold d4
  simp only [Int.zero_add, Int.one_mul, Int.neg_mul, Int.sub_eq_add_neg]

end
section
noncomputable def over1 (m0 : Str → Option Value) (v : Option Value) : Str → Option Value := fun y => if y = Str.ofString "told" then v else m0 y
theorem over1_next (m0 : Str → Option Value) (v v' : Option Value) : (fun y => if y = Str.ofString "told" then v' else over1 m0 v y) = over1 m0 v' := by
  funext y
  unfold over1
  by_cases h : y = Str.ofString "told"
  · simp only [if_pos h]
  · simp only [if_neg h]
section
variable {prog : Program} {w : World} {A : Around} {E : Value → Shared → Prop} {s : Shared} {h₀ : Heap} {L l : Addr} {news : List (Addr × Obj)} {i n : Nat} {u t1 t2 : Tok}
theorem tup_sgn {value slice : PySem.Expr} {Q : Value → Shared → Prop} (N : News h₀ L s.heap news) (hm : (l, ({ cls := .type "tuple", data := .seq #[.int 1 t1, .int (-1) t2] n } : Obj)) ∈ news)
    (h : ∀ t, Q (.int (sgn i) t) s) (hs : subscripted slice false (.ref l) (.int ((i : Int).fmod 2) u) = operate [.ref l, .int ((i : Int).fmod 2) u] (getItem (.ref l) (.int ((i : Int).fmod 2) u))) :
    wpAny (model prog w) A (subscriptTail value slice (.ref l) (.int ((i : Int).fmod 2) u)) Q E s := by
  have hmod : (i : Int).fmod 2 = ((i % 2 : Nat) : Int) := by rw [Int.fmod_eq_emod_of_nonneg _ (by decide)]; omega
  rcases (show i % 2 = 0 ∨ i % 2 = 1 by omega) with q | q
  · have e : (i : Int).fmod 2 = 0 := by rw [hmod, q]; rfl
    have hg : sgn i = 1 := by unfold sgn; rw [if_pos q]
    rw [e] at hs ⊢
    exact item_T (vs := [.int 1 t1, .int (-1) t2]) N hm (by decide) (by decide) .zero (hg ▸ h t1) hs
  · have e : (i : Int).fmod 2 = 1 := by rw [hmod, q]; rfl
    have hg : sgn i = -1 := by unfold sgn; rw [if_neg (by omega)]
    rw [e] at hs ⊢
    exact item_T (vs := [.int 1 t1, .int (-1) t2]) N hm (by decide) (by decide) (.succ .zero) (hg ▸ h t2) hs
end
noncomputable def DInv (g : Heap) (L : Addr) (m0 : Str → Option Value) (s0 : Shared) (I c : Addr) (rest : List (Addr × Obj)) (f : Nat → Int) (n k : Nat) (s' : Shared) : Prop :=
  ∃ (i : Nat) (oc : Obj) (cv : Option Value) (t : Tok) (h : Heap) (tk : Tok), n - i = k ∧ i ≤ n ∧ s' = { s0 with heap := h, toks := tk } ∧ Fr g L h (over1 m0 (some (.int (dsum f i) t))) ∧ News g L h ((I, itR (i : Int) ((n : Int) - (i : Int))) :: (c, oc) :: rest) ∧ oc.data = .cell cv
theorem DInv.mk {g : Heap} {L : Addr} {m0 : Str → Option Value} {s0 : Shared} {I c : Addr} {rest : List (Addr × Obj)} {f : Nat → Int} {n : Nat} {z : Int} {oc : Obj} {cv : Option Value} {t : Tok} {h : Heap} {tk : Tok}
    (F : Fr g L h (fun y => if y = Str.ofString "told" then some (.int 0 t) else m0 y)) (N : News g L h ((I, itR 0 z) :: (c, oc) :: rest)) (hz : z = (n : Int)) (d : oc.data = .cell cv) : DInv g L m0 s0 I c rest f n n { s0 with heap := h, toks := tk } :=
  ⟨0, oc, cv, t, h, tk, rfl, Nat.zero_le _, rfl, F, by rw [hz] at N; simpa using N, d⟩
theorem DInv.next {g : Heap} {L : Addr} {m0 : Str → Option Value} {s0 : Shared} {I c : Addr} {rest : List (Addr × Obj)} {f : Nat → Int} {n i : Nat} {v : Option Value} {x : Int} {oc : Obj} {cv : Option Value} {t : Tok} {h : Heap} {tk : Tok}
    (F : Fr g L h (fun y => if y = Str.ofString "told" then some (.int x t) else over1 m0 v y)) (N : News g L h ((I, itR ((i : Int) + 1) ((n : Int) - (i : Int) - 1)) :: (c, oc) :: rest)) (d : oc.data = .cell cv) (hi : i < n) (hx : x = dsum f i + f i) : DInv g L m0 s0 I c rest f n (n - (i + 1)) { s0 with heap := h, toks := tk } := by
  refine ⟨i + 1, oc, cv, t, h, tk, rfl, hi, rfl, ?_, ?_, d⟩
  · rw [over1_next] at F
    show Fr g L h (over1 m0 (some (.int (dsum f i + f i) t)))
    rw [← hx]; exact F
  · have e1 : ((i + 1 : Nat) : Int) = (i : Int) + 1 := by omega
    have e2 : (n : Int) - ((i + 1 : Nat) : Int) = (n : Int) - (i : Int) - 1 := by omega
    rw [e2, e1]
    exact N
theorem minor_len {x : List Int} {n i : Nat} (h : x.length = n + 1) (hi : i < n + 1) : (x.take i ++ x.drop (i + 1)).length = n := by simp [h]; omega
theorem minor_bd {x : List Int} {i : Nat} {P : Int → Prop} (h : ∀ y ∈ x, P y) : ∀ y ∈ x.take i ++ x.drop (i + 1), P y := fun y hy => by
  rcases List.mem_append.mp hy with q | q
  · exact h y (List.mem_of_mem_take q)
  · exact h y (List.mem_of_mem_drop q)
theorem sgn_bd {i : Nat} {y : Int} (h : -1000000 < y ∧ y < 1000000) : -1000000 < sgn i * y ∧ sgn i * y < 1000000 := by
  unfold sgn
  split
  · rw [Int.one_mul]; exact h
  · rw [Int.neg_mul, Int.one_mul]; omega
theorem getD_of {x : List Int} {i : Nat} {y : Int} (h : x[i]? = some y) : x.getD i 0 = y := by rw [List.getD_eq_getElem?_getD, h]; rfl
theorem sgn_lo (i : Nat) : -2 < sgn i := by unfold sgn; split <;> decide
theorem sgn_hi (i : Nat) : sgn i < 2 := by unfold sgn; split <;> decide

end
section
theorem det_abs {r : Value} {d : Int} (h : ∃ t, r = .int d t) : ∃ v, v = d ∧ ∃ t, r = .int v t := let ⟨t, e⟩ := h; ⟨_, rfl, t, e⟩
theorem law_post (xs : List Int) : Challenge.rw_kt0001_01.row.claim.post [ofPy (PyData.list (xs.map PyData.int))] (.bool true) [ofPy (PyData.list (xs.map PyData.int))] = true := by wrow_post

end
section
theorem WInv.loop {MM : Model} {AA : Around} {cc : Code} {RR : Result → Shared → Prop} {g : Heap} {L : Addr} {m : Str → Option Value} {s0 : Shared} {C : Addr} {D : Addr} {I : Addr} {d : Addr} {rest : List (Addr × Obj)} {kv : List (Int × Int)} {ep : Nat} {nn : Nat} {ss : Shared} (hh : WInv g L m s0 C D I d rest kv ep nn ss)
    (turn : ∀ R' : Result → Shared → Prop, (∀ r s', RR r s' → R' r s') → ∀ i oI oC mC acc cnt h tk, i ≤ kv.length → Fr g L h m → News g L h ((C, oC) :: (D, W.listOf acc.toArray cnt) :: (I, oI) :: rest) → LCg.NsObj oC mC → KIt oI d i kv.length ep → IntsAre acc ((kv.take i).map (·.2)) → acc.length = i → (∀ n' s'', n' < kv.length - i → WInv g L m s0 C D I d rest kv ep n' s'' → codeAny MM AA cc R' s'') → codeAny MM AA cc R' { s0 with heap := h, toks := tk }) : codeAny MM AA cc RR ss := by
  refine loop_use0 (W := codeAny MM AA cc RR) (WInv g L m s0 C D I d rest kv ep) nn hh ?_
  rintro n9 s9 ih ⟨i, oI, oC, mC, acc, cnt, h, tk, rfl, z0, rfl, z1, z2, z3, z4, z5, z6⟩
  exact turn RR (fun _ _ h => h) i oI oC mC acc cnt h tk z0 z1 z2 z3 z4 z5 z6 ih
theorem RInv.loop {MM : Model} {AA : Around} {cc : Code} {RR : Result → Shared → Prop} {g : Heap} {L : Addr} {m0 : Str → Option Value} {s0 : Shared} {I : Addr} {D : Addr} {rest : List (Addr × Obj)} {xs : List Int} {nn : Nat} {ss : Shared} (hh : RInv g L m0 s0 I D rest xs nn ss)
    (turn : ∀ R' : Result → Shared → Prop, (∀ r s', RR r s' → R' r s') → ∀ i oI y ty e h tk, i ≤ xs.length → 1 ≤ i → Fr g L h (over m0 (some (.int y ty)) e) → News g L h ((I, oI) :: rest) → LIt oI D i → y = prodL (xs.take i) → (∀ n' s'', n' < xs.length - i → RInv g L m0 s0 I D rest xs n' s'' → codeAny MM AA cc R' s'') → codeAny MM AA cc R' { s0 with heap := h, toks := tk }) : codeAny MM AA cc RR ss := by
  refine loop_use0 (W := codeAny MM AA cc RR) (RInv g L m0 s0 I D rest xs) nn hh ?_
  rintro n9 s9 ih ⟨i, oI, y, ty, e, h, tk, rfl, z0, z1, rfl, z2, z3, z4, z5⟩
  exact turn RR (fun _ _ h => h) i oI y ty e h tk z0 z1 z2 z3 z4 z5 ih
theorem LInv.loop {MM : Model} {AA : Around} {cc : Code} {RR : Result → Shared → Prop} {g : Heap} {L : Addr} {m : Str → Option Value} {s0 : Shared} {C : Addr} {D : Addr} {I : Addr} {l : Addr} {rest : List (Addr × Obj)} {xs : List Int} {f : Int → Int} {nn : Nat} {ss : Shared} (hh : LInv g L m s0 C D I l rest xs f nn ss)
    (turn : ∀ R' : Result → Shared → Prop, (∀ r s', RR r s' → R' r s') → ∀ i oI oC mC acc cnt h tk, i ≤ xs.length → Fr g L h m → News g L h ((C, oC) :: (D, W.listOf acc.toArray cnt) :: (I, oI) :: rest) → LCg.NsObj oC mC → LIt oI l i → IntsAre acc ((xs.take i).map f) → acc.length = i → (∀ n' s'', n' < xs.length - i → LInv g L m s0 C D I l rest xs f n' s'' → codeAny MM AA cc R' s'') → codeAny MM AA cc R' { s0 with heap := h, toks := tk }) : codeAny MM AA cc RR ss := by
  refine loop_use0 (W := codeAny MM AA cc RR) (LInv g L m s0 C D I l rest xs f) nn hh ?_
  rintro n9 s9 ih ⟨i, oI, oC, mC, acc, cnt, h, tk, rfl, z0, rfl, z1, z2, z3, z4, z5, z6⟩
  exact turn RR (fun _ _ h => h) i oI oC mC acc cnt h tk z0 z1 z2 z3 z4 z5 z6 ih
theorem BInv.loop {MM : Model} {AA : Around} {cc : Code} {RR : Result → Shared → Prop} {prog : Program} {w : World} {g : Heap} {L : Addr} {m : Str → Option Value} {s0 : Shared} {C : Addr} {D : Addr} {I : Addr} {d : Addr} {rest : List (Addr × Obj)} {kv : List (Int × Int)} {n0 : Int} {f0 : Int} {v0 : Int} {ep : Nat} {nn : Nat} {ss : Shared} (hh : BInv prog w g L m s0 C D I d rest kv n0 f0 v0 ep nn ss)
    (turn : ∀ R' : Result → Shared → Prop, (∀ r s', RR r s' → R' r s') → ∀ i oI oC mC oD kvs' ep' h tk, i ≤ kv.length → Fr g L h m → News g L h ((C, oC) :: (D, oD) :: (I, oI) :: rest) → LCg.NsObj oC mC → KIt oI d i kv.length ep → DictIs prog w oD kvs' ep' → KV kvs' (bothV n0 f0 v0 (kv.take i)) → (∀ n' s'', n' < kv.length - i → BInv prog w g L m s0 C D I d rest kv n0 f0 v0 ep n' s'' → codeAny MM AA cc R' s'') → codeAny MM AA cc R' { s0 with heap := h, toks := tk }) : codeAny MM AA cc RR ss := by
  refine loop_use0 (W := codeAny MM AA cc RR) (BInv prog w g L m s0 C D I d rest kv n0 f0 v0 ep) nn hh ?_
  rintro n9 s9 ih ⟨i, oI, oC, mC, oD, kvs', ep', h, tk, rfl, z0, rfl, z1, z2, z3, z4, z5, z6⟩
  exact turn RR (fun _ _ h => h) i oI oC mC oD kvs' ep' h tk z0 z1 z2 z3 z4 z5 z6 ih
theorem TInv.loop {MM : Model} {AA : Around} {cc : Code} {RR : Result → Shared → Prop} {g : Heap} {L : Addr} {m0 : Str → Option Value} {s0 : Shared} {I : Addr} {l : Addr} {r0 : Addr} {r1 : Addr} {r2 : Addr} {r3 : Addr} {rest : List (Addr × Obj)} {M0 : Int → Int → Int} {os : List Int} {nn : Nat} {ss : Shared} (hh : TInv g L m0 s0 I l r0 r1 r2 r3 rest M0 os nn ss)
    (turn : ∀ R' : Result → Shared → Prop, (∀ r s', RR r s' → R' r s') → ∀ i oI o0 o1 o2 o3 a b c h tk, i ≤ os.length → Fr g L h (over3 m0 a b c) → News g L h ((I, oI) :: (r3, o3) :: (r2, o2) :: (r1, o1) :: (r0, o0) :: rest) → LIt oI l i → Rows ((os.take i).foldl edges2 M0) o0 o1 o2 o3 → (∀ n' s'', n' < os.length - i → TInv g L m0 s0 I l r0 r1 r2 r3 rest M0 os n' s'' → codeAny MM AA cc R' s'') → codeAny MM AA cc R' { s0 with heap := h, toks := tk }) : codeAny MM AA cc RR ss := by
  refine loop_use0 (W := codeAny MM AA cc RR) (TInv g L m0 s0 I l r0 r1 r2 r3 rest M0 os) nn hh ?_
  rintro n9 s9 ih ⟨i, oI, o0, o1, o2, o3, a, b, c, h, tk, rfl, z0, rfl, z1, z2, z3, z4⟩
  exact turn RR (fun _ _ h => h) i oI o0 o1 o2 o3 a b c h tk z0 z1 z2 z3 z4 ih
theorem YInv.loop {MM : Model} {AA : Around} {cc : Code} {RR : Result → Shared → Prop} {g : Heap} {L : Addr} {m : Str → Option Value} {s0 : Shared} {C : Addr} {D : Addr} {I : Addr} {rest : List (Addr × Obj)} {f : Int → Int} {nn : Nat} {ss : Shared} (hh : YInv g L m s0 C D I rest f nn ss)
    (turn : ∀ R' : Result → Shared → Prop, (∀ r s', RR r s' → R' r s') → ∀ (i : Nat) (oC : Obj) (mC : Str → Option Value) (acc : List Value) (cnt : Nat) (h : Heap) (tk : Tok), i ≤ 4 → Fr g L h m → News g L h ((C, oC) :: (D, W.listOf acc.toArray cnt) :: (I, itR (i : Int) (4 - (i : Int))) :: rest) → LCg.NsObj oC mC → IntsAre acc ((List.range i).map fun n => f ((n : Nat) : Int)) → acc.length = i → (∀ n' s'', n' < 4 - i → YInv g L m s0 C D I rest f n' s'' → codeAny MM AA cc R' s'') → codeAny MM AA cc R' { s0 with heap := h, toks := tk }) : codeAny MM AA cc RR ss := by
  refine loop_use0 (W := codeAny MM AA cc RR) (YInv g L m s0 C D I rest f) nn hh ?_
  rintro n9 s9 ih ⟨i, oC, mC, acc, cnt, h, tk, rfl, z0, rfl, z1, z2, z3, z4, z5⟩
  exact turn RR (fun _ _ h => h) i oC mC acc cnt h tk z0 z1 z2 z3 z4 z5 ih
theorem JInv.loop {MM : Model} {AA : Around} {cc : Code} {RR : Result → Shared → Prop} {g : Heap} {L : Addr} {m0 : Str → Option Value} {s0 : Shared} {T : Addr} {G : Obj → Obj → Obj → Obj → Obj → List (Addr × Obj)} {M : Nat → Int → Int → Int} {nn : Nat} {ss : Shared} (hh : JInv g L m0 s0 T G M nn ss)
    (turn : ∀ R' : Result → Shared → Prop, (∀ r s', RR r s' → R' r s') → ∀ n, ∀ (oI o0 o1 o2 o3 : Obj) (a b c : Option Value) (h : Heap) (tk : Tok), n ≤ 2 → Fr g L h (over3 m0 a b c) → News g L h (G oI o0 o1 o2 o3) → TIt oI T (2 - n) → Rows (M n) o0 o1 o2 o3 → (∀ n' s'', n' < n → JInv g L m0 s0 T G M n' s'' → codeAny MM AA cc R' s'') → codeAny MM AA cc R' { s0 with heap := h, toks := tk }) : codeAny MM AA cc RR ss := by
  refine loop_use0 (W := codeAny MM AA cc RR) (JInv g L m0 s0 T G M) nn hh ?_
  rintro n9 s9 ih ⟨oI, o0, o1, o2, o3, a, b, c, h, tk, z0, rfl, z1, z2, z3, z4⟩
  exact turn RR (fun _ _ h => h) _ oI o0 o1 o2 o3 a b c h tk z0 z1 z2 z3 z4 ih
theorem GInv.loop {MM : Model} {AA : Around} {cc : Code} {RR : Result → Shared → Prop} {g : Heap} {L : Addr} {m : Str → Option Value} {s0 : Shared} {C : Addr} {D : Addr} {I : Addr} {l : Addr} {rest : List (Addr × Obj)} {xs : List Int} {f : Int → List Int} {nn : Nat} {ss : Shared} (hh : GInv g L m s0 C D I l rest xs f nn ss)
    (turn : ∀ R' : Result → Shared → Prop, (∀ r s', RR r s' → R' r s') → ∀ i oI oC mC acc cnt h tk, i ≤ xs.length → Fr g L h m → News g L h ((C, oC) :: (D, W.listOf acc.toArray cnt) :: (I, oI) :: rest) → LCg.NsObj oC mC → LIt oI l i → IntsAre acc ((xs.take i).flatMap f) → acc.length = 2 * i → (∀ n' s'', n' < xs.length - i → GInv g L m s0 C D I l rest xs f n' s'' → codeAny MM AA cc R' s'') → codeAny MM AA cc R' { s0 with heap := h, toks := tk }) : codeAny MM AA cc RR ss := by
  refine loop_use0 (W := codeAny MM AA cc RR) (GInv g L m s0 C D I l rest xs f) nn hh ?_
  rintro n9 s9 ih ⟨i, oI, oC, mC, acc, cnt, h, tk, rfl, z0, rfl, z1, z2, z3, z4, z5, z6⟩
  exact turn RR (fun _ _ h => h) i oI oC mC acc cnt h tk z0 z1 z2 z3 z4 z5 z6 ih
theorem EInv.loop {MM : Model} {AA : Around} {cc : Code} {RR : Result → Shared → Prop} {g : Heap} {L : Addr} {m : Str → Option Value} {s0 : Shared} {C : Addr} {D : Addr} {I : Addr} {b : Array UInt8} {bt : Tok} {rest : List (Addr × Obj)} {nn : Nat} {ss : Shared} (hh : EInv g L m s0 C D I b bt rest nn ss)
    (turn : ∀ R' : Result → Shared → Prop, (∀ r s', RR r s' → R' r s') → ∀ i oI oC mC acc cnt h tk, i ≤ b.size → Fr g L h m → News g L h ((C, oC) :: (D, W.listOf acc.toArray cnt) :: (I, oI) :: rest) → LCg.NsObj oC mC → BIt oI b bt i → IntsAre acc ((b.toList.take i).map dig) → acc.length = i → (∀ n' s'', n' < b.size - i → EInv g L m s0 C D I b bt rest n' s'' → codeAny MM AA cc R' s'') → codeAny MM AA cc R' { s0 with heap := h, toks := tk }) : codeAny MM AA cc RR ss := by
  refine loop_use0 (W := codeAny MM AA cc RR) (EInv g L m s0 C D I b bt rest) nn hh ?_
  rintro n9 s9 ih ⟨i, oI, oC, mC, acc, cnt, h, tk, rfl, z0, rfl, z1, z2, z3, z4, z5, z6⟩
  exact turn RR (fun _ _ h => h) i oI oC mC acc cnt h tk z0 z1 z2 z3 z4 z5 z6 ih
theorem FInv.loop {MM : Model} {AA : Around} {cc : Code} {RR : Result → Shared → Prop} {g : Heap} {L : Addr} {m : Str → Option Value} {s0 : Shared} {C : Addr} {D : Addr} {I : Addr} {l : Addr} {rest : List (Addr × Obj)} {xs : List Int} {p : Int → Bool} {nn : Nat} {ss : Shared} (hh : FInv g L m s0 C D I l rest xs p nn ss)
    (turn : ∀ R' : Result → Shared → Prop, (∀ r s', RR r s' → R' r s') → ∀ i oI oC mC acc cnt h tk, i ≤ xs.length → Fr g L h m → News g L h ((C, oC) :: (D, W.listOf acc.toArray cnt) :: (I, oI) :: rest) → LCg.NsObj oC mC → LIt oI l i → IntsAre acc ((xs.take i).filter p) → acc.length ≤ i → (∀ n' s'', n' < xs.length - i → FInv g L m s0 C D I l rest xs p n' s'' → codeAny MM AA cc R' s'') → codeAny MM AA cc R' { s0 with heap := h, toks := tk }) : codeAny MM AA cc RR ss := by
  refine loop_use0 (W := codeAny MM AA cc RR) (FInv g L m s0 C D I l rest xs p) nn hh ?_
  rintro n9 s9 ih ⟨i, oI, oC, mC, acc, cnt, h, tk, rfl, z0, rfl, z1, z2, z3, z4, z5, z6⟩
  exact turn RR (fun _ _ h => h) i oI oC mC acc cnt h tk z0 z1 z2 z3 z4 z5 z6 ih
theorem PInv.loop {MM : Model} {AA : Around} {cc : Code} {RR : Result → Shared → Prop} {prog : Program} {w : World} {g : Heap} {L : Addr} {m : Str → Option Value} {s0 : Shared} {C : Addr} {D : Addr} {I : Addr} {rest : List (Addr × Obj)} {nn : Nat} {ss : Shared} (hh : PInv prog w g L m s0 C D I rest nn ss)
    (turn : ∀ R' : Result → Shared → Prop, (∀ r s', RR r s' → R' r s') → ∀ (i : Nat) (oC : Obj) (mC : Str → Option Value) (oD : Obj) (kvs : List (Int × Value)) (ep : Nat) (h : Heap) (tk : Tok), i ≤ 16 → Fr g L h m → News g L h ((C, oC) :: (D, oD) :: (I, itR (i : Int) (16 - (i : Int))) :: rest) → LCg.NsObj oC mC → DictIs prog w oD kvs ep → PlIs kvs (upto i) → kvs.length = i → (∀ n' s'', n' < 16 - i → PInv prog w g L m s0 C D I rest n' s'' → codeAny MM AA cc R' s'') → codeAny MM AA cc R' { s0 with heap := h, toks := tk }) : codeAny MM AA cc RR ss := by
  refine loop_use0 (W := codeAny MM AA cc RR) (PInv prog w g L m s0 C D I rest) nn hh ?_
  rintro n9 s9 ih ⟨i, oC, mC, oD, kvs, ep, h, tk, rfl, z0, rfl, z1, z2, z3, z4, z5, z6⟩
  exact turn RR (fun _ _ h => h) i oC mC oD kvs ep h tk z0 z1 z2 z3 z4 z5 z6 ih
theorem NInv.loop {MM : Model} {AA : Around} {cc : Code} {RR : Result → Shared → Prop} {g : Heap} {L : Addr} {m : Str → Option Value} {s0 : Shared} {C : Addr} {D : Addr} {e : Addr} {I : Addr} {l : Addr} {rest : List (Addr × Obj)} {nn : Nat} {ss : Shared} (hh : NInv g L m s0 C D e I l rest nn ss)
    (turn : ∀ R' : Result → Shared → Prop, (∀ r s', RR r s' → R' r s') → ∀ (i : Nat) (oI oC : Obj) (mC : Str → Option Value) (acc : List Value) (cnt : Nat) (old : Value) (ys : List Int) (h : Heap) (tk : Tok), i ≤ 4 → Fr g L h m → News g L h ((C, oC) :: (D, W.listOf acc.toArray cnt) :: (e, enO I (i : Int) .none old) :: (I, oI) :: rest) → LCg.NsObj oC mC → LIt oI l i → IntsAre acc ys → acc.length = i → (∀ n' s'', n' < 4 - i → NInv g L m s0 C D e I l rest n' s'' → codeAny MM AA cc R' s'') → codeAny MM AA cc R' { s0 with heap := h, toks := tk }) : codeAny MM AA cc RR ss := by
  refine loop_use0 (W := codeAny MM AA cc RR) (NInv g L m s0 C D e I l rest) nn hh ?_
  rintro n9 s9 ih ⟨i, oI, oC, mC, acc, cnt, old, ys, h, tk, rfl, z0, rfl, z1, z2, z3, z4, z5, z6⟩
  exact turn RR (fun _ _ h => h) i oI oC mC acc cnt old ys h tk z0 z1 z2 z3 z4 z5 z6 ih
theorem VInv.loop {MM : Model} {AA : Around} {cc : Code} {RR : Result → Shared → Prop} {prog : Program} {w : World} {g : Heap} {L : Addr} {m : Str → Option Value} {s0 : Shared} {C : Addr} {D : Addr} {I : Addr} {rest : List (Addr × Obj)} {f : Int → Int} {nn : Nat} {ss : Shared} (hh : VInv prog w g L m s0 C D I rest f nn ss)
    (turn : ∀ R' : Result → Shared → Prop, (∀ r s', RR r s' → R' r s') → ∀ (i : Nat) (oC : Obj) (mC : Str → Option Value) (oD : Obj) (kvs : List (Int × Value)) (ep : Nat) (h : Heap) (tk : Tok), i ≤ 4 → Fr g L h m → News g L h ((C, oC) :: (D, oD) :: (I, itR (i : Int) (4 - (i : Int))) :: rest) → LCg.NsObj oC mC → DictIs prog w oD kvs ep → KV kvs ((upto i).map fun k => (k, f k)) → kvs.length = i → (∀ n' s'', n' < 4 - i → VInv prog w g L m s0 C D I rest f n' s'' → codeAny MM AA cc R' s'') → codeAny MM AA cc R' { s0 with heap := h, toks := tk }) : codeAny MM AA cc RR ss := by
  refine loop_use0 (W := codeAny MM AA cc RR) (VInv prog w g L m s0 C D I rest f) nn hh ?_
  rintro n9 s9 ih ⟨i, oC, mC, oD, kvs, ep, h, tk, rfl, z0, rfl, z1, z2, z3, z4, z5, z6⟩
  exact turn RR (fun _ _ h => h) i oC mC oD kvs ep h tk z0 z1 z2 z3 z4 z5 z6 ih
theorem DInv.loop {MM : Model} {AA : Around} {cc : Code} {RR : Result → Shared → Prop} {g : Heap} {L : Addr} {m0 : Str → Option Value} {s0 : Shared} {I : Addr} {c : Addr} {rest : List (Addr × Obj)} {f : Nat → Int} {n : Nat} {nn : Nat} {ss : Shared} (hh : DInv g L m0 s0 I c rest f n nn ss)
    (turn : ∀ R' : Result → Shared → Prop, (∀ r s', RR r s' → R' r s') → ∀ (i : Nat) (oc : Obj) (cv : Option Value) (t : Tok) (h : Heap) (tk : Tok), i ≤ n → Fr g L h (over1 m0 (some (.int (dsum f i) t))) → News g L h ((I, itR (i : Int) ((n : Int) - (i : Int))) :: (c, oc) :: rest) → oc.data = .cell cv → (∀ n' s'', n' < n - i → DInv g L m0 s0 I c rest f n n' s'' → codeAny MM AA cc R' s'') → codeAny MM AA cc R' { s0 with heap := h, toks := tk }) : codeAny MM AA cc RR ss := by
  refine loop_use0 (W := codeAny MM AA cc RR) (DInv g L m0 s0 I c rest f n) nn hh ?_
  rintro n9 s9 ih ⟨i, oc, cv, t, h, tk, rfl, z0, rfl, z1, z2, z3⟩
  exact turn RR (fun _ _ h => h) i oc cv t h tk z0 z1 z2 z3 ih

end
section
open PyProof.Rows.LCg (NsObj)
noncomputable def rV (q : Addr × List Value × List Int × Nat) : Value := .ref q.1
noncomputable def rX (q : Addr × List Value × List Int × Nat) : List Int := q.2.2.1
noncomputable def rO (q : Addr × List Value × List Int × Nat) : Addr × Obj := (q.1, W.listOf q.2.1.toArray q.2.2.2)
section
variable {prog : Program} {w : World} {A : Around} {E : Value → Shared → Prop} {s : Shared} {g : Heap} {L C D I l1 ck : Addr} {m : Str → Option Value} {env : Env} {elt iter : Expr} {scope : Scope} {cl : List (Str × Addr)} {pos px : Pos} {x : Str} {Q : Value → Shared → Prop} {rest : List (Addr × Obj)} {ock : Obj} {n' : Nat} {f : List Int → List Int} {rs : List (Addr × List Value × List Int × Nat)}
noncomputable def EltOk (prog : Program) (w : World) (A : Around) (s : Shared) (g : Heap) (L C ck : Addr) (m : Str → Option Value) (env : Env) (elt : Expr) (scope : Scope) (cl : List (Str × Addr)) (x : Str) (ock : Obj) (f : List Int → List Int) (q : Addr × List Value × List Int × Nat) : Prop :=
  ∀ (E' Q' : Value → Shared → Prop) (h : Heap) (tk : Tok) (oC : Obj) (mC : Str → Option Value) (led : List (Addr × Obj)), Fr g L h m → News g L h ((C, oC) :: (ck, ock) :: led) → NsObj oC (fun y => if y = x then some (.ref q.1) else mC y) →
    (∀ (h' : Heap) (tk' : Tok) (l : Addr) (w' : List Value), Fr g L h' m → News g L h' ((l, W.listOf w'.toArray 0) :: (C, oC) :: (ck, ock) :: led) → IntsAre w' (f q.2.2.1) → (∀ p ∈ (C, oC) :: (ck, ock) :: led, p.1 < l) → Q' (.ref l) { s with heap := h', toks := tk' }) →
    wpAny (model prog w) A (eval elt (compEnvC scope cl C env)) Q' E' { s with heap := h, toks := tk }
theorem comp_rows_go (hh : A.handled = none) (hk : (compEnvC scope cl C env).scope.kind = .function) (hl : (compEnvC scope cl C env).kindOf x = some .local) (hck : (ck, ock) ∈ rest) (hz : rs.length ≤ 4) (hl1 : (l1, W.listOf (rs.map rV).toArray n') ∈ rest)
    (helt : ∀ q ∈ rs, EltOk prog w A s g L C ck m env elt scope cl x ock f q)
    (fin : ∀ (h : Heap) (tk : Tok) (cnt : Nat) (rs' : List (Addr × List Value × List Int × Nat)), Fr g L h m → News g L h ((D, W.listOf (rs'.map rV).toArray cnt) :: (rest ++ rs'.map rO)) → rs'.map rX = (rs.map rX).map f → (∀ q ∈ rs', IntsAre q.2.1 q.2.2.1) → (D :: rs'.map (·.1)).Nodup → Q (.ref D) { s with heap := h, toks := tk }) :
    ∀ (todo pre rs' : List (Addr × List Value × List Int × Nat)) (oC oI : Obj) (mC : Str → Option Value) (h : Heap) (tk : Tok) (cnt : Nat), rs = pre ++ todo → rs'.map rX = (pre.map rX).map f → (∀ q ∈ rs', IntsAre q.2.1 q.2.2.1) → (D :: rs'.map (·.1)).Nodup → Fr g L h m →
      News g L h ((I, oI) :: (C, oC) :: (D, W.listOf (rs'.map rV).toArray cnt) :: (rest ++ rs'.map rO)) → NsObj oC mC → LIt oI l1 pre.length → I ≠ C → I ≠ D → C ≠ D → (∀ p ∈ rest ++ rs'.map rO, p.1 ≠ I ∧ p.1 ≠ C ∧ p.1 ≠ D) →
      codeAny (model prog w) A (.compLoop (.ListComp elt [⟨.Name x px, iter, [], 0⟩] scope pos) 0 (.ref I) (.ref D) (compEnvC scope cl C env)) (LcR prog w A E g L m C D Q) { s with heap := h, toks := tk } := by
  intro todo
  induction todo with
  | nil =>
    intro pre rs' oC oI mC h tk cnt e1 e2 e3 e4 F N hC hI n1 n2 n3 hZ
    rw [List.append_nil] at e1
    subst e1
    refine compL_step (next_list_end (l := l1) (vs := rs.map rV) hh F N hI (.head _) (.tail _ (.tail _ (.tail _ (List.mem_append_left _ hl1)))) (OffAt.of (by simp)) (Del.head ?_) fun h' F' N' => ?_)
    · intro p hp
      rcases List.mem_cons.mp hp with rfl | hp
      · exact n1.symm
      rcases List.mem_cons.mp hp with rfl | hp
      · exact n2.symm
      · exact (hZ p hp).1
    · refine LcFin.intro F' N' hC (.head _) (Del.head fun p hp => ?_) fun h'' F'' N'' => fin h'' _ cnt rs' F'' N'' e2 e3 e4
      rcases List.mem_cons.mp hp with rfl | hp
      · exact n3.symm
      · exact (hZ p hp).2.1
  | cons q todo ih =>
    intro pre rs' oC oI mC h tk cnt e1 e2 e3 e4 F N hC hI n1 n2 n3 hZ
    have hq : q ∈ rs := by rw [e1]; exact List.mem_append_right _ (.head _)
    have hat : (rs.map rV)[pre.length]? = some (rV q) := by rw [e1]; simp
    refine compL_step (next_list (l := l1) (vs := rs.map rV) F N (.head _) hI (UpdF.head ?_) (.tail _ (.tail _ (.tail _ (List.mem_append_left _ hl1)))) (ItemAt.of hat) fun h1 oI1 F1 N1 hI1 => ?_)
    · intro p hp
      rcases List.mem_cons.mp hp with rfl | hp
      · exact n1.symm
      rcases List.mem_cons.mp hp with rfl | hp
      · exact n2.symm
      · exact (hZ p hp).1
    have N1' : News g L h1 ((C, oC) :: (I, oI1) :: (D, W.listOf (rs'.map rV).toArray cnt) :: (rest ++ rs'.map rO)) := fun p hp => N1 p (by
      rcases List.mem_cons.mp hp with rfl | hp
      · exact .tail _ (.head _)
      rcases List.mem_cons.mp hp with rfl | hp
      · exact .head _
      · exact .tail _ (.tail _ hp))
    refine wpAny_of_eq (a := ()) rfl (wpAny_assign_Name (storeC F1 N1' (UpdF.head ?_) hC (fun h2 oC2 F2 N2 hC2 => ?_) hk hl))
    · intro p hp
      rcases List.mem_cons.mp hp with rfl | hp
      · exact n1
      rcases List.mem_cons.mp hp with rfl | hp
      · exact n3.symm
      · exact (hZ p hp).2.1
    refine helt q hq _ _ h2 _ oC2 _ ((I, oI1) :: (D, W.listOf (rs'.map rV).toArray cnt) :: (rest ++ rs'.map rO)) F2 (fun p hp => N2 p ?_) hC2 fun h3 tk3 l w' F3 N3 hw l3 => ?_
    · rcases List.mem_cons.mp hp with rfl | hp
      · exact .head _
      rcases List.mem_cons.mp hp with rfl | hp
      · exact .tail _ (.tail _ (.tail _ (List.mem_append_left _ hck)))
      · exact .tail _ hp
    have hlC : C < l := l3 _ (.head _)
    have hlI : I < l := l3 _ (.tail _ (.tail _ (.head _)))
    have hlD : D < l := l3 _ (.tail _ (.tail _ (.tail _ (.head _))))
    have hlZ : ∀ p ∈ rest ++ rs'.map rO, p.1 < l := fun p hp => l3 p (.tail _ (.tail _ (.tail _ (.tail _ hp))))
    have N3' : News g L h3 ((D, W.listOf (rs'.map rV).toArray cnt) :: (I, oI1) :: (C, oC2) :: (l, W.listOf w'.toArray 0) :: (rest ++ rs'.map rO)) := fun p hp => N3 p (by
      rcases List.mem_cons.mp hp with rfl | hp
      · exact .tail _ (.tail _ (.tail _ (.tail _ (.head _))))
      rcases List.mem_cons.mp hp with rfl | hp
      · exact .tail _ (.tail _ (.tail _ (.head _)))
      rcases List.mem_cons.mp hp with rfl | hp
      · exact .tail _ (.head _)
      rcases List.mem_cons.mp hp with rfl | hp
      · exact .head _
      · exact .tail _ (.tail _ (.tail _ (.tail _ (.tail _ hp)))))
    refine append_L F3 N3' (Upd.head ?_) (fun h4 F4 N4 => ?_) ?_
    · intro p hp
      rcases List.mem_cons.mp hp with rfl | hp
      · exact n2
      rcases List.mem_cons.mp hp with rfl | hp
      · exact n3
      rcases List.mem_cons.mp hp with rfl | hp
      · exact Nat.ne_of_gt hlD
      · exact (hZ p hp).2.2
    · have ev : (rs' ++ [(l, w', f q.2.2.1, 0)]).map rV = rs'.map rV ++ [.ref l] := by rw [List.map_append]; rfl
      have eo : (rs' ++ [(l, w', f q.2.2.1, 0)]).map rO = rs'.map rO ++ [(l, W.listOf w'.toArray 0)] := by rw [List.map_append]; rfl
      refine ih (pre ++ [q]) (rs' ++ [(l, w', f q.2.2.1, 0)]) oC2 oI1 _ h4 _ (cnt + 1) (by rw [e1, List.append_assoc]; rfl) (by simp only [List.map_append, e2]; rfl) ?_ ?_ F4 ?_ hC2 (by rw [List.length_append]; exact hI1) n1 n2 n3 ?_
      · intro p hp
        rcases List.mem_append.mp hp with hp | hp
        · exact e3 p hp
        · rw [List.mem_singleton.mp hp]; exact hw
      · rw [List.map_append, ← List.cons_append]
        refine List.nodup_append.mpr ⟨e4, List.nodup_cons.mpr ⟨List.not_mem_nil, List.nodup_nil⟩, fun a ha b hb => ?_⟩
        rw [List.mem_singleton.mp hb]
        rcases List.mem_cons.mp ha with rfl | ha
        · exact Nat.ne_of_lt hlD
        · obtain ⟨p, hp, rfl⟩ := List.mem_map.mp ha
          exact Nat.ne_of_lt (hlZ (rO p) (List.mem_append_right _ (List.mem_map_of_mem hp)))
      · rw [ev, eo, ← List.append_assoc]
        intro p hp
        rcases List.mem_cons.mp hp with rfl | hp
        · exact N4 _ (.tail _ (.head _))
        rcases List.mem_cons.mp hp with rfl | hp
        · exact N4 _ (.tail _ (.tail _ (.head _)))
        rcases List.mem_cons.mp hp with rfl | hp
        · exact N4 _ (.head _)
        rcases List.mem_append.mp hp with hp | hp
        · exact N4 _ (.tail _ (.tail _ (.tail _ (.tail _ hp))))
        · rw [List.mem_singleton.mp hp]; exact N4 _ (.tail _ (.tail _ (.tail _ (.head _))))
      · rw [eo, ← List.append_assoc]
        intro p hp
        rcases List.mem_append.mp hp with hp | hp
        · exact hZ p hp
        · rw [List.mem_singleton.mp hp]; exact ⟨Nat.ne_of_gt hlI, Nat.ne_of_gt hlC, Nat.ne_of_gt hlD⟩
    · have el := congrArg List.length e2
      have e5 := congrArg List.length e1
      simp only [List.length_map, List.length_append, List.length_cons] at el e5
      rw [List.length_map]
      exact Nat.le_trans (show rs'.length ≤ 4 by omega) (by decide)
theorem comp_rows {oC oI : Obj} {mC : Str → Option Value} {h : Heap} {tk : Tok} {k : AL} (F : Fr g L h m) (N : News g L h ((C, oC) :: (D, W.listOf #[] 0) :: (I, oI) :: rest)) (S : Ap (.new C (.new D (.new I k)))) (e : rest.map (·.1) = k.to) (hC : NsObj oC mC) (hI : LIt oI l1 0)
    (hh : A.handled = none) (hk : (compEnvC scope cl C env).scope.kind = .function) (hl : (compEnvC scope cl C env).kindOf x = some .local) (hck : (ck, ock) ∈ rest) (hz : rs.length ≤ 4) (hl1 : (l1, W.listOf (rs.map rV).toArray n') ∈ rest)
    (helt : ∀ q ∈ rs, EltOk prog w A s g L C ck m env elt scope cl x ock f q)
    (fin : ∀ (h : Heap) (tk : Tok) (cnt : Nat) (rs' : List (Addr × List Value × List Int × Nat)), Fr g L h m → News g L h ((D, W.listOf (rs'.map rV).toArray cnt) :: (rest ++ rs'.map rO)) → rs'.map rX = (rs.map rX).map f → (∀ q ∈ rs', IntsAre q.2.1 q.2.2.1) → (D :: rs'.map (·.1)).Nodup → Q (.ref D) { s with heap := h, toks := tk }) :
    codeAny (model prog w) A (.compStart (.ListComp elt [⟨.Name x px, iter, [], 0⟩] scope pos) 0 (.ref I) (.ref D) (compEnvC scope cl C env)) (LcR prog w A E g L m C D Q) { s with heap := h, toks := tk } := by
  have lt : ∀ p ∈ rest, p.1 ∈ k.to := fun p hp => e ▸ List.mem_map_of_mem hp
  have hID : I < D := S.2.1 I (.head _)
  have hDC : D < C := S.1 D (.head _)
  have hIC : I < C := Nat.lt_trans hID hDC
  refine compL_start (fun _ _ hq => self_list N (.tail _ (.tail _ (.head _))) hI hq) (comp_rows_go hh hk hl hck hz hl1 helt fin rs [] [] oC oI mC h tk 0 rfl rfl (fun _ h => nomatch h) (List.nodup_cons.mpr ⟨List.not_mem_nil, List.nodup_nil⟩) F (fun p hp => N p ?_) hC hI (Nat.ne_of_lt hIC) (Nat.ne_of_lt hID) (Nat.ne_of_gt hDC) fun p hp => ?_)
  · simp only [List.map_nil, List.append_nil] at hp
    rcases List.mem_cons.mp hp with rfl | hp
    · exact .tail _ (.tail _ (.head _))
    rcases List.mem_cons.mp hp with rfl | hp
    · exact .head _
    rcases List.mem_cons.mp hp with rfl | hp
    · exact .tail _ (.head _)
    · exact .tail _ (.tail _ (.tail _ hp))
  · simp only [List.map_nil, List.append_nil] at hp
    have h1 := S.2.2.1 _ (lt p hp)
    exact ⟨Nat.ne_of_lt h1, Nat.ne_of_lt (Nat.lt_trans h1 hIC), Nat.ne_of_lt (Nat.lt_trans h1 hID)⟩
end
noncomputable def RowsOk (n : Nat) (a : Addr) (rs : List (Addr × List Value × List Int × Nat)) : Prop :=
  rs.length = n ∧ (∀ q ∈ rs, IntsAre q.2.1 q.2.2.1) ∧ (∀ q ∈ rs, q.2.2.1.length = n) ∧ (∀ q ∈ rs, ∀ y ∈ q.2.2.1, -1000000 < y ∧ y < 1000000) ∧ (a :: rs.map (·.1)).Nodup
noncomputable def DetP (w : World) (n : Nat) : Prop := ∀ (a : Addr) (c : Nat) (rs : List (Addr × List Value × List Int × Nat)), RowsOk n a rs →
  Gives w 112 [.ref a] (n + 1) (100 * (n + 1)) ((a, W.listOf (rs.map rV).toArray c) :: rs.map rO) (fun _ _ r => ∃ t, r = .int (detL n (rs.map rX)) t)
theorem rows_first {g₀ h : Heap} {L a : Addr} {c n : Nat} {rs : List (Addr × List Value × List Int × Nat)} (N : News g₀ L h ((a, W.listOf (rs.map rV).toArray c) :: rs.map rO)) (H : RowsOk n a rs) :
    ∃ vs z oz, vs = rs.map rV ∧ News g₀ L h [(a, W.listOf vs.toArray c), (z, oz)] ∧ (∀ q rs', rs = q :: rs' → (z, oz) = rO q) ∧ ∀ q ∈ rs.tail, h.get? q.1 = some (rO q).2 ∧ q.1 ∉ [(a, W.listOf vs.toArray c), (z, oz)].map (·.1) := by
  cases rs with
  | nil =>
    refine ⟨[], a, W.listOf ([] : List Value).toArray c, rfl, fun p hp => N p ?_, (fun _ _ h => nomatch h), fun _ h => nomatch h⟩
    rcases List.mem_cons.mp hp with rfl | hp
    · exact .head _
    · rw [List.mem_singleton.mp hp]; exact .head _
  | cons q rs =>
    refine ⟨_, q.1, (rO q).2, rfl, fun p hp => N p ?_, (fun _ _ h => by cases h; rfl), fun r hr => ⟨(N (rO r) (.tail _ (.tail _ (List.mem_map_of_mem hr)))).1, fun hm => ?_⟩⟩
    · rcases List.mem_cons.mp hp with rfl | hp
      · exact .head _
      · rw [List.mem_singleton.mp hp]; exact .tail _ (.head _)
    · have nd := H.2.2.2.2
      rw [List.map_cons, List.nodup_cons, List.nodup_cons] at nd
      rcases List.mem_cons.mp hm with e | hm
      · exact nd.1 (.tail _ (by rw [← show r.1 = a from e]; exact List.mem_map_of_mem hr))
      · exact nd.2.1 (by rw [← show r.1 = q.1 from List.mem_singleton.mp hm]; exact List.mem_map_of_mem hr)
theorem rng_small {n : Nat} (h : n ≤ 4) : Builtin.Range.small 0 (n : Int) 1 = true := by
  rcases (show n = 0 ∨ n = 1 ∨ n = 2 ∨ n = 3 ∨ n = 4 by omega) with rfl | rfl | rfl | rfl | rfl <;> rfl
theorem rng_size {n : Nat} (h : n ≤ 4) : Builtin.Range.rangeSize 0 (n : Int) 1 = (n : Int) := by
  rcases (show n = 0 ∨ n = 1 ∨ n = 2 ∨ n = 3 ∨ n = 4 by omega) with rfl | rfl | rfl | rfl | rfl <;> rfl
theorem pick_tail {v' : Addr} {us : List Value} : W.kms_pick (Value.ref v' :: us).toArray.toList (some 1) none = us := by
  unfold W.kms_pick
  show ((Value.ref v' :: us).drop (min 1 (us.length + 1))).take (us.length + 1 - min 1 (us.length + 1)) = us
  rw [Nat.min_eq_left (by omega)]
  show us.take (us.length + 1 - 1) = us
  exact List.take_length
theorem rows_minor {n i : Nat} {D : Addr} {rs rs' : List (Addr × List Value × List Int × Nat)} (hi : i < n + 1) (hl : rs.length = n) (hn : ∀ q ∈ rs, q.2.2.1.length = n + 1) (hb : ∀ q ∈ rs, ∀ y ∈ q.2.2.1, -1000000 < y ∧ y < 1000000)
    (e : rs'.map rX = (rs.map rX).map fun r => r.take i ++ r.drop (i + 1)) (hI : ∀ q ∈ rs', IntsAre q.2.1 q.2.2.1) (nd : (D :: rs'.map (·.1)).Nodup) : RowsOk n D rs' := by
  have from' : ∀ q ∈ rs', ∃ p ∈ rs, q.2.2.1 = p.2.2.1.take i ++ p.2.2.1.drop (i + 1) := fun q hq => by
    have hm : rX q ∈ rs'.map rX := List.mem_map_of_mem hq
    rw [e, List.map_map] at hm
    obtain ⟨p, hp, ep⟩ := List.mem_map.mp hm
    exact ⟨p, hp, ep.symm⟩
  refine ⟨?_, hI, fun q hq => ?_, fun q hq => ?_, nd⟩
  · have := congrArg List.length e
    simpa [hl] using this
  · obtain ⟨p, hp, ep⟩ := from' q hq
    rw [ep]; exact minor_len (hn p hp) hi
  · obtain ⟨p, hp, ep⟩ := from' q hq
    rw [ep]; exact minor_bd (hb p hp)
theorem ground_list {g h : Heap} {L l : Addr} {m : Str → Option Value} {vs : List Value} {n : Nat} (F : Fr g L h m) (e : g.get? l = some (W.listOf vs.toArray n)) : h.IsList l vs.toArray := ⟨_, F.keep _ _ e, rfl, n, rfl⟩
theorem News.cut {g h : Heap} {L : Addr} {p : Addr × Obj} {a b : List (Addr × Obj)} (N : News g L h (p :: (a ++ b))) : News g L h (p :: a) := fun q hq => N q (by
  rcases List.mem_cons.mp hq with rfl | hq
  · exact .head _
  · exact .tail _ (List.mem_append_left _ hq))
theorem mem_cut {p : Addr × Obj} {a b : List (Addr × Obj)} : ∀ q ∈ p :: b, q ∈ p :: (a ++ b) := fun q hq => by
  rcases List.mem_cons.mp hq with rfl | hq
  · exact .head _
  · exact .tail _ (List.mem_append_right _ hq)
theorem dqI {w : World} (step : ∀ n, n ≤ 4 → (∀ k, k < n → DetP w k) → DetP w n) : ∀ n, n ≤ 4 → DetP w n := by
  intro n
  induction n using Nat.strongRecOn with
  | _ n ih => exact fun h => step n h fun k hk => ih k hk (Nat.le_trans (Nat.le_of_lt hk) h)

end
local macro_rules | `(tactic| walk_at $s:str) => `(tactic| k_extra $s)
local macro_rules | `(tactic| k_ne) => `(tactic| walk_at "g_ne")
local macro_rules | `(tactic| k_room) => `(tactic| walk_at "g_room")
local macro_rules | `(tactic| k_units) => `(tactic| walk_at "g_units")
local macro_rules | `(tactic| k_updF) => `(tactic| walk_at "g_updF")
local macro_rules | `(tactic| k_upd) => `(tactic| walk_at "g_upd")
local macro_rules | `(tactic| k_lt $h) => `(tactic| first | (rename Ap _ => sA'; replace sA' := Ap.push sA' $h rfl) | (rename Ap _ => sA'; replace sA' := Ap.push (Ap.subL sA' $h rfl (by walk_at "g_shs")) $h rfl))
local macro_rules | `(tactic| k_lt2 $h) => `(tactic| (rename Ap _ => sA'; replace sA' := Ap.up sA' $h))
theorem setupF : True := by
  w_top off
  k_with_none
  k_with "g_room" => (first
      | ((try simp only [depth_under_make, depth_under_kw, depth_in1, depth_deeper, depth_caller]); (try dsimp only); omega)
      | ((try simp only [depth_under_make, depth_under_kw, depth_in1, depth_deeper, depth_caller] at *); (try dsimp only at *); omega))
  k_with "g_plain" => ((refine' enter_plain ?k1_zF1 ?k2_zF1 ?k3_zF1 ?k4_zF1 ?k5_zF1 ?kA_zF1 ?kF_zF1 ?kK_zF1 ?k6_zF1 ?k7_zF1 ?k8_zF1 ?k9_zF1 ?kB_zF1 ?_ ?c2_zF1 ?c3_zF1 ?c4_zF1 ?c5_zF1; (case kA_zF1 => exact rfl); (case kF_zF1 => assumption); (case kK_zF1 => assumption); (case k1_zF1 => k_asm); (case k2_zF1 => k_asm); (case k3_zF1 => k_asm); (case k4_zF1 => k_asm); (case k5_zF1 => k_asm); (case k6_zF1 => k_is); (case k7_zF1 => k_is); (case k8_zF1 => walk_at "g_room"); (case k9_zF1 => exact BindsTo.of_eq rfl); (case c5_zF1 => decide); (case kB_zF1 => exact locs rfl); (case c2_zF1 => exact rfl); (case c3_zF1 => exact rfl); (case c4_zF1 => exact rfl); k_whole; intro g'w L'w h'w F'w N'w B'w X'w T'w l1w lzw lgw; (first | (rename Ap _ => sA'w; have sA'w := (ApB.of l1w sA'w rfl).1) | (have sA'w := (ApB.start l1w rfl (by walk_at "g_sho")).1)); (try dsimp only); (try k_fold)))
  k_with "g_cellsS" => ((refine' enterS_cells ?k1_zF2 ?k2_zF2 ?k3_zF2 ?k4_zF2 ?k5_zF2 ?kA_zF2 ?kF_zF2 ?kK_zF2 ?k6_zF2 ?k7_zF2 ?k8_zF2 ?k9_zF2 ?kB_zF2 ?kD_zF2 ?_ ?c2_zF2 ?c3_zF2 ?c4_zF2; (case kA_zF2 => exact rfl); (case kF_zF2 => assumption); (case kK_zF2 => assumption); (case k1_zF2 => k_asm); (case k2_zF2 => k_asm); (case k3_zF2 => k_asm); (case k4_zF2 => k_asm); (case k5_zF2 => k_asm); (case k6_zF2 => k_is); (case k7_zF2 => k_is); (case k8_zF2 => walk_at "g_room"); (case k9_zF2 => exact BindsTo.of_eq rfl); (case kB_zF2 => exact rfl); (case kD_zF2 => decide +kernel); (case c2_zF2 => exact rfl); (case c3_zF2 => exact rfl); (case c4_zF2 => exact rfl); k_whole; intro g'w L'w h'w tk'w cells'w F'w N'w Y'w B'w X'w T'w l1w lzw lgw; k_cells Y'w; (try simp only [List.cons_append, List.nil_append] at N'w); (first | (rename Ap _ => sA'w; have sA'w := ApB.of l1w sA'w rfl) | (have sA'w := ApB.start l1w rfl (by walk_at "g_sho"))); (first | replace sA'w := Ap.nowB N'w sA'w.cell.cell.cell.cell rfl | replace sA'w := Ap.nowB N'w sA'w.cell.cell.cell rfl | replace sA'w := Ap.nowB N'w sA'w.cell.cell rfl | replace sA'w := Ap.nowB N'w sA'w.cell rfl | replace sA'w := Ap.nowB N'w sA'w rfl); (try dsimp only); (try k_fold)))
  k_with "g_plainS" => ((refine' enterS_plain ?k1_zF3 ?k2_zF3 ?k3_zF3 ?k4_zF3 ?k5_zF3 ?kA_zF3 ?kF_zF3 ?kK_zF3 ?k6_zF3 ?k7_zF3 ?k8_zF3 ?k9_zF3 ?kB_zF3 ?_ ?c2_zF3 ?c3_zF3 ?c4_zF3 ?c5_zF3; (case kA_zF3 => exact rfl); (case kF_zF3 => assumption); (case kK_zF3 => assumption); (case k1_zF3 => k_asm); (case k2_zF3 => k_asm); (case k3_zF3 => k_asm); (case k4_zF3 => k_asm); (case k5_zF3 => k_asm); (case k6_zF3 => k_is); (case k7_zF3 => k_is); (case k8_zF3 => walk_at "g_room"); (case k9_zF3 => exact BindsTo.of_eq rfl); (case c5_zF3 => decide); (case kB_zF3 => exact locs rfl); (case c2_zF3 => exact rfl); (case c3_zF3 => exact rfl); (case c4_zF3 => exact rfl); k_whole; intro g'w L'w h'w F'w N'w B'w X'w T'w l1w lzw lgw; (first | (rename Ap _ => sA'w; have sA'w := (ApB.of l1w sA'w rfl).1) | (have sA'w := (ApB.start l1w rfl (by walk_at "g_sho")).1)); (try dsimp only); (try k_fold)))
  k_with "g_own" => ((refine' code_def ?k1_zF4 ?k2_zF4 ?k3_zF4 ?k4_zF4 ?k5_zF4 ?kA_zF4 ?kF_zF4 ?kK_zF4 ?k6_zF4 ?k7_zF4 ?k8_zF4 ?k9_zF4 ?kB_zF4 ?_ ?c2_zF4 ?c3_zF4 ?c4_zF4 ?c5_zF4; (case kA_zF4 => exact rfl); (case kF_zF4 => assumption); (case kK_zF4 => assumption); (case k1_zF4 => k_asm); (case k2_zF4 => k_asm); (case k3_zF4 => k_asm); (case k4_zF4 => k_asm); (case k5_zF4 => k_asm); (case k6_zF4 => k_is); (case k7_zF4 => k_is); (case k8_zF4 => walk_at "g_room"); (case k9_zF4 => exact BindsTo.of_eq rfl); (case c5_zF4 => decide); (case kB_zF4 => exact locs rfl); (case c2_zF4 => exact rfl); (case c3_zF4 => exact rfl); (case c4_zF4 => exact rfl); k_whole; intro g'w L'w h'w FG'w F'w N'w B'w X'w T'w; (try dsimp only); (try k_fold)))
  k_with "g_cells" => ((refine' enter_cells ?k1_zF5 ?k2_zF5 ?k3_zF5 ?k4_zF5 ?k5_zF5 ?kA_zF5 ?kF_zF5 ?kK_zF5 ?k6_zF5 ?k7_zF5 ?k8_zF5 ?k9_zF5 ?kB_zF5 ?kD_zF5 ?_ ?c2_zF5 ?c3_zF5 ?c4_zF5; (case kA_zF5 => exact rfl); (case kF_zF5 => assumption); (case kK_zF5 => assumption); (case k1_zF5 => k_asm); (case k2_zF5 => k_asm); (case k3_zF5 => k_asm); (case k4_zF5 => k_asm); (case k5_zF5 => k_asm); (case k6_zF5 => k_is); (case k7_zF5 => k_is); (case k8_zF5 => walk_at "g_room"); (case k9_zF5 => exact BindsTo.of_eq rfl); (case kB_zF5 => exact rfl); (case kD_zF5 => decide +kernel); (case c2_zF5 => exact rfl); (case c3_zF5 => exact rfl); (case c4_zF5 => exact rfl); k_whole; intro g'w L'w h'w tk'w cells'w F'w N'w Y'w B'w X'w T'w l1w lzw lgw; k_cells Y'w; (try simp only [List.cons_append, List.nil_append] at N'w); (first | (rename Ap _ => sA'w; have sA'w := ApB.of l1w sA'w rfl) | (have sA'w := ApB.start l1w rfl (by walk_at "g_sho"))); (first | replace sA'w := Ap.nowB N'w sA'w.cell.cell.cell.cell rfl | replace sA'w := Ap.nowB N'w sA'w.cell.cell.cell rfl | replace sA'w := Ap.nowB N'w sA'w.cell.cell rfl | replace sA'w := Ap.nowB N'w sA'w.cell rfl | replace sA'w := Ap.nowB N'w sA'w rfl); (try dsimp only); (try k_fold)))
  k_with "g_cellsG" => ((refine' enterG_cells ?k1_zF6 ?k2_zF6 ?k3_zF6 ?k4_zF6 ?k5_zF6 ?kA_zF6 ?kF_zF6 ?kK_zF6 ?k6_zF6 ?k7_zF6 ?k8_zF6 ?k9_zF6 ?kB_zF6 ?kD_zF6 ?_ ?c2_zF6 ?c3_zF6 ?c4_zF6; (case kA_zF6 => exact rfl); (case kF_zF6 => assumption); (case kK_zF6 => assumption); (case k1_zF6 => k_asm); (case k2_zF6 => k_asm); (case k3_zF6 => k_asm); (case k4_zF6 => k_asm); (case k5_zF6 => k_asm); (case k6_zF6 => k_is); (case k7_zF6 => k_is); (case k8_zF6 => walk_at "g_room"); (case k9_zF6 => exact BindsTo.of_eq rfl); (case kB_zF6 => exact rfl); (case kD_zF6 => decide +kernel); (case c2_zF6 => exact rfl); (case c3_zF6 => exact rfl); (case c4_zF6 => exact rfl); k_whole; intro g'w L'w h'w tk'w cells'w F'w N'w Y'w B'w X'w T'w l1w lzw lgw; k_cells Y'w; (try simp only [List.cons_append, List.nil_append] at N'w); (first | (rename Ap _ => sA'w; have sA'w := ApB.of l1w sA'w rfl) | (have sA'w := ApB.start l1w rfl (by walk_at "g_sho"))); (first | replace sA'w := Ap.nowB N'w sA'w.cell.cell.cell.cell rfl | replace sA'w := Ap.nowB N'w sA'w.cell.cell.cell rfl | replace sA'w := Ap.nowB N'w sA'w.cell.cell rfl | replace sA'w := Ap.nowB N'w sA'w.cell rfl | replace sA'w := Ap.nowB N'w sA'w rfl); (try dsimp only); (try k_fold)))
  k_with "g_del" => (first | (refine' Del.head ?a_zF7; (case a_zF7 => k_all)) | (refine' Del.tail ?a_zF7 ?b_zF7; (case a_zF7 => k_ne); (case b_zF7 => walk_at "g_del")))
  k_with "g_self" => ((intro _ _ hqw; first | exact self_list (by k_asm) (by k_mem) (by assumption) hqw | exact self_range (by k_asm) (by k_mem) hqw | exact self_D (by k_asm) (by k_mem) (by assumption) hqw))
  k_with "codeAny" => (first
      | ((with_reducible show codeAny _ _ (Code.forLoop _ _ _ _ _) _ _); refine forLoop_step ?_)
      | ((with_reducible show codeAny _ _ (Code.compLoop (Expr.ListComp _ _ _ _) _ _ _ _) _ _); refine compL_step ?_)
      | ((with_reducible show codeAny _ _ (Code.compStart (Expr.ListComp _ _ _ _) _ _ _ _) _ _); k_dflt (refine compL_start (by walk_at "g_self") ?_))
      | ((with_reducible show codeAny _ _ (Code.compLoop (Expr.DictComp _ _ _ _ _) _ _ _ _) _ _); refine compD_step ?_)
      | ((with_reducible show codeAny _ _ (Code.compStart (Expr.DictComp _ _ _ _ _) _ _ _ _) _ _); k_dflt (refine compD_start (by walk_at "g_self") ?_)))
  k_with "FlTurn" => ((dsimp only [FlTurn]))
  k_with "FlFlow" => ((dsimp only [FlFlow]))
  k_with "letOwnedTupleGo" => ((refine wpAny_of_eq (a := ()) rfl ?_))
  k_with "assign Name" => ((refine wpAny_assign_Name ?_))
  k_with "g_item" => (first | with_reducible assumption | exact ItemAt.zero | exact (ItemAt.succ ItemAt.zero) | exact (ItemAt.succ (ItemAt.succ ItemAt.zero)) | exact (ItemAt.succ (ItemAt.succ (ItemAt.succ ItemAt.zero))) | exact (ItemAt.succ (ItemAt.succ (ItemAt.succ (ItemAt.succ ItemAt.zero)))) | exact (ItemAt.succ (ItemAt.succ (ItemAt.succ (ItemAt.succ (ItemAt.succ ItemAt.zero))))) | exact (ItemAt.succ (ItemAt.succ (ItemAt.succ (ItemAt.succ (ItemAt.succ (ItemAt.succ ItemAt.zero)))))) | exact (ItemAt.succ (ItemAt.succ (ItemAt.succ (ItemAt.succ (ItemAt.succ (ItemAt.succ (ItemAt.succ ItemAt.zero))))))) | exact (ItemAt.succ (ItemAt.succ (ItemAt.succ (ItemAt.succ (ItemAt.succ (ItemAt.succ (ItemAt.succ (ItemAt.succ ItemAt.zero)))))))))
  k_with "g_off" => (first | with_reducible assumption | exact OffAt.nil | exact (OffAt.succ OffAt.nil) | exact (OffAt.succ (OffAt.succ OffAt.nil)) | exact (OffAt.succ (OffAt.succ (OffAt.succ OffAt.nil))) | exact (OffAt.succ (OffAt.succ (OffAt.succ (OffAt.succ OffAt.nil)))) | exact (OffAt.succ (OffAt.succ (OffAt.succ (OffAt.succ (OffAt.succ OffAt.nil))))) | exact (OffAt.succ (OffAt.succ (OffAt.succ (OffAt.succ (OffAt.succ (OffAt.succ OffAt.nil)))))) | exact (OffAt.succ (OffAt.succ (OffAt.succ (OffAt.succ (OffAt.succ (OffAt.succ (OffAt.succ OffAt.nil))))))) | exact (OffAt.succ (OffAt.succ (OffAt.succ (OffAt.succ (OffAt.succ (OffAt.succ (OffAt.succ (OffAt.succ OffAt.nil)))))))))
  k_with "call builtin:list.append" => ((k_here; (with_reducible show wpAny _ _ (call (Value.builtin _) [Value.ref _, _]) _ _ _); k_dflt (refine' append_L ?k1_zF16 ?k2_zF16 ?k3_zF16 ?_ ?z_zF16; (case k1_zF16 => k_asm); (case k2_zF16 => k_asm); (case k3_zF16 => k_upd); (case z_zF16 => first | with_reducible assumption | (simp [sizeLine]; done)); k_whole); intro h'w F'w N'w; (try simp only [List.nil_append, List.cons_append] at N'w); (try k_sweep)))
  k_with "g_num" => (first | ((simp only [Int.reduceAdd, Int.reduceSub]); first | done | rfl) | rfl)
  k_with "g_conj" => ((repeat (with_reducible rename (_ ∧ _) => hcj; have hcj1 := hcj.1; have hcj2 := hcj.2; clear hcj)))
  k_with "g_ne" => (((refine neN ?_); (try dsimp only); first | exact Nat.ne_of_lt (by with_reducible assumption) | exact Nat.ne_of_gt (by with_reducible assumption) | omega))
  k_with "pyNext ref" => ((k_here; (walk_at "g_conj"); k_dflt (first
      | (refine' next_range ?F_zF20 ?N_zF20 ?m_zF20 ?l_zF20 ?x_zF20 ?y_zF20 ?U_zF20 ?_; (case F_zF20 => k_asm); (case N_zF20 => k_asm); (case m_zF20 => k_mem); (case l_zF20 => first | decide | omega); (case x_zF20 => walk_at "g_num"); (case y_zF20 => walk_at "g_num"); (case U_zF20 => k_updF); k_whole; intro h'w F'w N'w; (try dsimp only at N'w); (try k_sweep))
      | (refine' next_range_end ?hh_zF20 ?F_zF20 ?N_zF20 ?m_zF20 ?D_zF20 ?l_zF20 ?_; (case hh_zF20 => rfl); (case F_zF20 => k_asm); (case N_zF20 => k_asm); (case m_zF20 => k_mem); (case l_zF20 => first | decide | omega); (case D_zF20 => walk_at "g_del"); k_whole; intro h'w F'w N'w; (try dsimp only at N'w); (try k_sweep))
      | (refine' next_list ?F_zF20 ?N_zF20 ?mI_zF20 ?I_zF20 ?U_zF20 ?m_zF20 ?x_zF20 ?_; (case F_zF20 => k_asm); (case N_zF20 => k_asm); (case mI_zF20 => k_mem); (case I_zF20 => assumption); (case m_zF20 => k_mem); (case x_zF20 => walk_at "g_item"); (case U_zF20 => k_updF); k_whole; intro h'w o'w F'w N'w hI'w; (try dsimp only at N'w); (try k_sweep))
      | (refine' next_list_end ?hh_zF20 ?F_zF20 ?N_zF20 ?I_zF20 ?mI_zF20 ?m_zF20 ?x_zF20 ?D_zF20 ?_; (case hh_zF20 => rfl); (case F_zF20 => k_asm); (case N_zF20 => k_asm); (case mI_zF20 => k_mem); (case I_zF20 => assumption); (case m_zF20 => k_mem); (case x_zF20 => walk_at "g_off"); (case D_zF20 => walk_at "g_del"); k_whole; intro h'w F'w N'w; (try dsimp only at N'w); (try k_sweep))
      | (refine' next_tuple ?F_zF20 ?N_zF20 ?mI_zF20 ?I_zF20 ?U_zF20 ?m_zF20 ?x_zF20 ?_; (case F_zF20 => k_asm); (case N_zF20 => k_asm); (case mI_zF20 => k_mem); (case I_zF20 => assumption); (case m_zF20 => k_mem); (case x_zF20 => walk_at "g_item"); (case U_zF20 => k_updF); k_whole; intro h'w o'w F'w N'w hI'w; (try dsimp only at N'w); (try k_sweep))
      | (refine' next_tuple_end ?hh_zF20 ?F_zF20 ?N_zF20 ?I_zF20 ?mI_zF20 ?m_zF20 ?x_zF20 ?D_zF20 ?_; (case hh_zF20 => rfl); (case F_zF20 => k_asm); (case N_zF20 => k_asm); (case mI_zF20 => k_mem); (case I_zF20 => assumption); (case m_zF20 => k_mem); (case x_zF20 => walk_at "g_off"); (case D_zF20 => walk_at "g_del"); k_whole; intro h'w F'w N'w; (try dsimp only at N'w); (try k_sweep)))))
  k_with "pyIter ref" => ((k_here; k_dflt (first
      | (refine' iter_range ?F_zF21 ?N_zF21 ?r_zF21 ?s_zF21 ?n_zF21 ?_; (case F_zF21 => k_asm); (case N_zF21 => k_asm); (case r_zF21 => assumption); (case s_zF21 => rfl); (case n_zF21 => (simp [Builtin.Range.rangeSize]; rfl)); k_whole; intro I'w h'w F'w N'w l1w; (try k_lt l1w); (try k_sweep))
      | (refine' iter_list ?F_zF21 ?N_zF21 ?m_zF21 ?_; (case F_zF21 => k_asm); (case N_zF21 => k_asm); (case m_zF21 => k_mem); k_whole; intro I'w o'w h'w F'w N'w hI'w l1w; (try k_lt l1w); (try k_sweep))
      | (refine' iter_tuple ?F_zF21 ?N_zF21 ?m_zF21 ?_; (case F_zF21 => k_asm); (case N_zF21 => k_asm); (case m_zF21 => k_mem); k_whole; intro I'w o'w h'w F'w N'w hI'w l1w; (try k_lt l1w); (try k_sweep)))))
  k_with "CTurnL" => ((dsimp only [CTurnL]))
  k_with "CTestsL" => ((dsimp only [CTestsL]))
  k_with "CTestL" => ((dsimp only [CTestL]))
  k_with "LcR" => ((dsimp only [LcR]))
  k_with "LcAt" => ((k_here; k_dflt (refine' LcAt.intro ?F_zF26 ?N_zF26 ?_; (case F_zF26 => k_asm); (case N_zF26 => k_asm); k_whole; intro D'w C'w oC'w h'w tk'w F'w N'w hC'w l1w l2w; k_lt l2w; k_lt2 l1w; (try k_sweep))))
  k_with "LcRU" => ((dsimp only [LcRU]))
  k_with "LcFinU" => ((k_here; k_dflt (refine' LcFinU.intro ?F_zF28 ?N_zF28 ?C_zF28 ?m_zF28 ?D_zF28 ?_; (case F_zF28 => k_asm); (case N_zF28 => k_asm); (case m_zF28 => k_mem); (case C_zF28 => assumption); (case D_zF28 => walk_at "g_del"); k_whole; intro h'w F'w N'w; (try k_sweep))))
  k_with "exec Assign cons ListComp" => ((k_here; k_dflt (refine' lcA_enter ?F_zF29 ?w_zF29 ?c_zF29 ?ce_zF29 ?k_zF29 ?n_zF29 ?_ ?s_zF29; (case F_zF29 => k_asm); (case w_zF29 => rfl); (case c_zF29 => with_unfolding_all rfl); (case ce_zF29 => decide); (case k_zF29 => rfl); (case n_zF29 => decide); (case s_zF29 => intro _; rfl))))
  k_with "exec Assign cons ListComp" => ((k_here; k_dflt (refine' lcA_enter1 ?F_zF30 ?w_zF30 ?c_zF30 ?o_zF30 ?p_zF30 ?k_zF30 ?n_zF30 ?_ ?s_zF30; (case F_zF30 => k_asm); (case w_zF30 => rfl); (case c_zF30 => with_unfolding_all rfl); (case o_zF30 => intro _; rfl); (case p_zF30 => intro _; rfl); (case k_zF30 => rfl); (case n_zF30 => decide); (case s_zF30 => intro _; rfl))))
  k_with "exec Assign cons DictComp" => ((k_here; k_dflt (refine' dcA_enter ?F_zF31 ?w_zF31 ?c_zF31 ?ce_zF31 ?k_zF31 ?n_zF31 ?_ ?s_zF31; (case F_zF31 => k_asm); (case w_zF31 => rfl); (case c_zF31 => with_unfolding_all rfl); (case ce_zF31 => decide); (case k_zF31 => rfl); (case n_zF31 => decide); (case s_zF31 => intro _; rfl))))
  k_with "LcFin" => ((k_here; k_dflt (refine' LcFin.intro ?F_zF32 ?N_zF32 ?C_zF32 ?m_zF32 ?D_zF32 ?_; (case F_zF32 => k_asm); (case N_zF32 => k_asm); (case m_zF32 => k_mem); (case C_zF32 => assumption); (case D_zF32 => walk_at "g_del"); k_whole; intro h'w F'w N'w; (try k_sweep))))
  k_with "storeName" => ((k_here; (with_reducible show wpAny _ _ (storeName (compEnvC _ _ _ _) _ _) _ _ _); k_dflt (refine' storeC ?F_zF33 ?N_zF33 ?U_zF33 ?C_zF33 ?_ ?k_zF33 ?l_zF33; (case F_zF33 => k_asm); (case N_zF33 => k_asm); (case U_zF33 => k_updF); (case C_zF33 => assumption); (case k_zF33 => rfl); (case l_zF33 => rfl); k_whole; intro h'w o'w F'w N'w hC'w; (try dsimp only at N'w); (try k_sweep))))
  k_with "storeName" => ((k_here; (with_reducible show wpAny _ _ (storeName (compEnvC _ _ _ _) _ _) _ _ _); k_dflt (refine' storeCC ?F_zF34 ?N_zF34 ?c_zF34 ?m_zF34 ?d_zF34 ?U_zF34 ?_ ?k_zF34 ?l_zF34; (case F_zF34 => k_asm); (case N_zF34 => k_asm); (case l_zF34 => rfl); (case k_zF34 => rfl); (case c_zF34 => rfl); (case m_zF34 => k_mem); (case d_zF34 => first | assumption | rfl); (case U_zF34 => k_updF); k_whole; intro h'w o'w F'w N'w hC'w; (try dsimp only at N'w); (try k_sweep))))
  k_with "eval ListComp" => ((k_here; k_dflt (refine' lc_enter ?F_zF35 ?c_zF35 ?ce_zF35 ?k_zF35 ?n_zF35 ?_ ?s_zF35; (case F_zF35 => k_asm); (case c_zF35 => with_unfolding_all rfl); (case ce_zF35 => decide); (case k_zF35 => rfl); (case n_zF35 => decide); (case s_zF35 => intro _; rfl))))
  k_with "eval ListComp ListComp" => ((k_here; k_dflt (refine' lc_enter1 ?F_zF36 ?c_zF36 ?o_zF36 ?p_zF36 ?k_zF36 ?n_zF36 ?_ ?s_zF36; (case F_zF36 => k_asm); (case c_zF36 => with_unfolding_all rfl); (case o_zF36 => intro _; rfl); (case p_zF36 => intro _; rfl); (case k_zF36 => rfl); (case n_zF36 => decide); (case s_zF36 => intro _; rfl))))
  k_with "Exists" => ((k_here; k_dflt (refine' ⟨_, _, rfl, ?F_zF37, ?N_zF37, ?_⟩; (case F_zF37 => k_asm); (case N_zF37 => k_asm); k_whole; intro D'w C'w c'w oC'w h'w tk'w F'w N'w hC'w l1w l1'w l2w; k_lt l2w; k_lt2 l1'w; k_lt2 l1w; (try k_sweep))))
  k_with "eval DictComp" => ((k_here; k_dflt (refine' dc_enter ?F_zF38 ?c_zF38 ?ce_zF38 ?k_zF38 ?n_zF38 ?_ ?s_zF38; (case F_zF38 => k_asm); (case c_zF38 => with_unfolding_all rfl); (case ce_zF38 => decide); (case k_zF38 => rfl); (case n_zF38 => decide); (case s_zF38 => intro _; rfl))))
  k_with "DcAt" => ((k_here; k_dflt (refine' DcAt.intro ?F_zF39 ?N_zF39 ?_; (case F_zF39 => k_asm); (case N_zF39 => k_asm); k_whole; intro D'w C'w oD'w oC'w h'w tk'w F'w N'w hC'w hD'w l1w l2w; k_lt l2w; k_lt2 l1w; (try k_sweep))))
  k_with "CTurnD" => ((dsimp only [CTurnD]))
  k_with "CTestsD" => ((dsimp only [CTestsD]))
  k_with "CTestD" => ((dsimp only [CTestD]))
  k_with "eval Subscript" => (refine Subscript_ ?_)
  k_with "execs cons" => ((dsimp only; walk_at "execs cons"))
  k_with "execs nil" => ((dsimp only; walk_at "execs nil"))
  k_with "eval Call" => ((dsimp only; walk_at "eval Call"))
  k_with "binaryOp" => ((dsimp only; walk_at "binaryOp"))
  k_with "eval Name" => ((k_here; (with_reducible show wpAny _ _ (eval (Expr.Name _ _) (compEnvC _ _ _ _)) _ _ _); k_dflt (refine LCgL.ld_own (by k_asm) (by k_mem) (by assumption) (by rfl) ?_)))
  k_with "g_sub" => ((k_here; (with_reducible show wpAny _ _ (subscriptTail _ _ (Value.ref _) (Value.int _ _)) _ _ _); k_dflt (first
      | (refine' item_L ?N_zF49 ?m_zF49 ?lo_zF49 ?hi_zF49 ?x_zF49 ?_ ?s_zF49; (case N_zF49 => k_asm); (case m_zF49 => k_mem); (case lo_zF49 => decide); (case hi_zF49 => decide); (case x_zF49 => walk_at "g_item"); (case s_zF49 => with_unfolding_all rfl); k_whole)
      | (refine' item_L ?N_zF49 ?m_zF49 ?lo_zF49 ?hi_zF49 ?x_zF49 ?_ ?s_zF49; (case N_zF49 => k_asm); (case m_zF49 => k_mem); (case lo_zF49 => assumption); (case hi_zF49 => omega); (case x_zF49 => assumption); (case s_zF49 => with_unfolding_all rfl); k_whole)
      | (refine' item_T ?N_zF49 ?m_zF49 ?lo_zF49 ?hi_zF49 ?x_zF49 ?_ ?s_zF49; (case N_zF49 => k_asm); (case m_zF49 => k_mem); (case lo_zF49 => decide); (case hi_zF49 => decide); (case x_zF49 => walk_at "g_item"); (case s_zF49 => with_unfolding_all rfl); k_whole)
      | (refine' item_D ?N_zF49 ?m_zF49 ?D_zF49 ?k_zF49 ?_ ?s_zF49; (case N_zF49 => k_asm); (case m_zF49 => k_mem); (case D_zF49 => assumption); (case k_zF49 => first | with_reducible assumption | rfl); (case s_zF49 => with_unfolding_all rfl); k_whole))))
  k_with "subscriptTail Name Constant ref int" => (walk_at "g_sub")
  k_with "subscriptTail Tuple cons BinOp ref int" => (walk_at "g_sub")
  k_with "subscriptTail Subscript Name Constant Name ref int" => (walk_at "g_sub")
  k_with "exec For Name Call cons nil" => ((refine wpAny_For ?_ ?_; rotate_left; (intro _; rfl)))
  k_with "subscriptTail Name Name ref int" => (walk_at "g_sub")
  k_with "getAttr ref" => ((k_here; (with_reducible show wpAny _ _ (getAttr (Value.ref _) (Str.ofString "__contains__") true) _ _ _); k_dflt (refine' cn_K ?F_zF55 ?N_zF55 ?m_zF55 ?_; (case F_zF55 => k_asm); (case N_zF55 => k_asm); (case m_zF55 => k_mem); k_whole); intro q'w h'w tk'w F'w N'w l1w; (try k_lt l1w); (try k_sweep)))
  k_with "g_units" => (((have hcL9 := cLine_is); (try simp only [units_in1, units_deeper, Around.mark_units, units_caller]); (try dsimp only); omega))
  k_with "call builtin:iter" => ((k_here; (with_reducible show wpAny _ _ (call (Value.builtin "iter") [Value.ref _]) _ _ _); k_dflt (refine' b_iter ?F_zF57 ?N_zF57 ?m_zF57 ?_; (case F_zF57 => k_asm); (case N_zF57 => k_asm); (case m_zF57 => k_mem); k_whole; intro I'w o'w h'w F'w N'w hI'w l1w; (try k_lt l1w); (try k_sweep))))
  k_with "call builtin:next" => ((k_here; (with_reducible show wpAny _ _ (call (Value.builtin "next") [Value.ref _]) _ _ _); k_dflt (first
      | (refine' b_next ?F_zF58 ?N_zF58 ?mI_zF58 ?hI_zF58 ?U_zF58 ?m_zF58 ?x_zF58 ?_; (case F_zF58 => k_asm); (case N_zF58 => k_asm); (case mI_zF58 => k_mem); (case hI_zF58 => assumption); (case U_zF58 => k_updF); (case m_zF58 => k_mem); (case x_zF58 => assumption); k_whole; intro h'w o'w F'w N'w hI'w; (try dsimp only at N'w); (try k_sweep))
      | (refine' b_stop ?hh_zF58 ?F_zF58 ?N_zF58 ?hI_zF58 ?mI_zF58 ?m_zF58 ?x_zF58 ?D_zF58 ?_; (case hh_zF58 => rfl); (case F_zF58 => k_asm); (case N_zF58 => k_asm); (case mI_zF58 => k_mem); (case hI_zF58 => assumption); (case m_zF58 => k_mem); (case x_zF58 => assumption); (case D_zF58 => walk_at "g_del"); k_whole; intro h1'w h'w e'w F'w N'w hE'w))))
  k_with "call ref" => ((k_here; (try dsimp only [List.nil_append]); (with_reducible show wpAny _ _ (call (Value.ref _) [Value.int _ _]) _ _ _); k_dflt (refine' cn_callN ?N_zF59 ?q_zF59 ?b_zF59 ?u_zF59 ?_; (case N_zF59 => k_asm); (case q_zF59 => k_mem); (case b_zF59 => k_mem); (case u_zF59 => assumption); k_whole)))
  k_with "callWith ref" => ((k_here; k_dflt (refine' callWith_cn ?N_zF60 ?q_zF60 ?_; (case N_zF60 => k_asm); (case q_zF60 => k_mem); k_whole)))
  k_with "And" => (((with_reducible show CnP _ _ _ ∧ _); refine ⟨CnP.of (by k_asm) (by k_mem), ?_⟩; try dsimp only [List.nil_append, List.cons_append]))
  k_with "CnP" => (exact CnP.of (by k_asm) (by k_mem))
  k_with "g_fill" => ((refine (fun (h : Challenge.rw_kt0001_01 = Challenge.rw_kt0001_01 → _) => h rfl) ?_; k_fill; intro _))
  k_with "g_ints" => (first | with_reducible assumption | exact IntsAre.nil | exact IntsAre.cons _ _ (by walk_at "g_ints"))
  k_with "call ref cons nil" => ((k_here; (with_reducible show wpAny _ _ (call (Value.ref 65) _) _ _ _); k_dflt (refine' filt_use ?B_zF65 ?T0_zF65 ?F_zF65 ?f_zF65 ?k_zF65 ?X_zF65 ?T_zF65 ?N_zF65 ?m1_zF65 ?m2_zF65 ?I_zF65 ?J_zF65 ?z_zF65 ?d_zF65 ?u_zF65 ?_; (case B_zF65 => k_asm); (case F_zF65 => k_asm); (case T0_zF65 => assumption); (case f_zF65 => exact rfl); (case k_zF65 => exact rfl); (case X_zF65 => assumption); (case T_zF65 => assumption); (case N_zF65 => k_asm); (case m1_zF65 => k_mem); (case m2_zF65 => k_mem); (case I_zF65 => walk_at "g_ints"); (case J_zF65 => walk_at "g_ints"); (case z_zF65 => first | assumption | (simp; done)); (case d_zF65 => walk_at "g_room"); (case u_zF65 => walk_at "g_room"); k_whole; intro g'w h'w tk'w l'w acc'w c'w T0'w B'w F'w N'w X'w T'w hA'w hz'w l1w l2w; (try k_lt l1w); (try k_lt2 l2w); (try k_sweep))))
  k_with "eval Lambda" => ((k_here; k_dflt (refine' kla_eval ?d0_zF66 ?_; (case d0_zF66 => exact rfl)); k_dflt (refine' lam_S ?F_zF66 ?N_zF66 ?T_zF66 ?C_zF66 ?cd_zF66 ?U_zF66 ?S_zF66 ?hm_zF66 ?hl_zF66 ?hc_zF66 ?hq_zF66 ?hcl_zF66 ?_; (case F_zF66 => k_asm); (case N_zF66 => k_asm); (case T_zF66 => k_asm); (case cd_zF66 => exact rfl); (case C_zF66 => kn_code); (case U_zF66 => k_updF); (case S_zF66 => assumption); (case hm_zF66 => k_mem); (case hl_zF66 => exact rfl); (case hc_zF66 => exact rfl); (case hq_zF66 => exact rfl); (case hcl_zF66 => exact rfl); k_whole); intro f'w c'w o'w p'w v'w t'w ct'w h'w tk'w F'w N'w S'w d1w d2w l1w l2w l3w; (try dsimp only at N'w); (rename Ap _ => sA'w; (first | replace sA'w := Ap.lam sA'w (by walk_at "g_shc") l1w l2w l3w rfl | (replace sA'w := Ap.subL sA'w l1w rfl (by walk_at "g_shs"); replace sA'w := Ap.lam sA'w (by walk_at "g_shc") l1w l2w l3w rfl)))))
  k_with "pyIter ref" => ((k_here; k_dflt (refine' iter_D ?F_zF67 ?N_zF67 ?m_zF67 ?D_zF67 ?s_zF67 ?_; (case F_zF67 => k_asm); (case N_zF67 => k_asm); (case m_zF67 => k_mem); (case D_zF67 => assumption); (case s_zF67 => walk_at "g_notsys"); k_whole; intro I'w o'w h'w F'w N'w hI'w l1w; (try k_lt l1w); (try k_sweep))))
  k_with "g_notsys" => (first | decide | exact not_sys (by with_reducible assumption))
  k_with "pyNext ref" => ((k_here; k_dflt (first
      | (refine' next_D ?F_zF69 ?N_zF69 ?mI_zF69 ?I_zF69 ?m_zF69 ?D_zF69 ?n_zF69 ?x_zF69 ?U_zF69 ?_; (case F_zF69 => k_asm); (case N_zF69 => k_asm); (case mI_zF69 => k_mem); (case I_zF69 => assumption); (case m_zF69 => k_mem); (case D_zF69 => assumption); (case n_zF69 => first | with_reducible assumption | exact Eq.symm (by with_reducible assumption) | rfl); (case x_zF69 => assumption); (case U_zF69 => k_updF); k_whole; intro t'w h'w o'w F'w N'w hI'w; (try dsimp only at N'w); (try k_sweep))
      | (refine' next_D_end ?hh_zF69 ?F_zF69 ?N_zF69 ?mI_zF69 ?I_zF69 ?m_zF69 ?D_zF69 ?n_zF69 ?x_zF69 ?De_zF69 ?_; (case hh_zF69 => rfl); (case F_zF69 => k_asm); (case N_zF69 => k_asm); (case mI_zF69 => k_mem); (case I_zF69 => assumption); (case m_zF69 => k_mem); (case D_zF69 => assumption); (case n_zF69 => first | with_reducible assumption | exact Eq.symm (by with_reducible assumption) | rfl); (case x_zF69 => assumption); (case De_zF69 => walk_at "g_del"); k_whole; intro h'w F'w N'w; (try dsimp only at N'w); (try k_sweep)))))
  k_with "exec For Name Name cons nil" => ((refine wpAny_For ?_ ?_; rotate_left; (intro _; rfl)))
  k_with "pyIter ref" => ((k_here; k_dflt (refine' self_list ?N_zF71 ?m_zF71 ?I_zF71 ?_; (case N_zF71 => k_asm); (case m_zF71 => k_mem); (case I_zF71 => assumption); k_whole)))
  k_with "call builtin:divmod" => ((k_here; (with_reducible show wpAny _ _ (call (Value.builtin _) [Value.int _ _, Value.int _ _]) _ _ _); k_dflt (refine' divmod_L ?F_zF72 ?N_zF72 ?b_zF72 ?_ ?p_zF72; (case F_zF72 => k_asm); (case N_zF72 => k_asm); (case b_zF72 => decide); (case p_zF72 => exact PyProof.noPylong_small (by omega)); k_whole; intro T'w h'w t1'w t2'w tk'w F'w N'w l1w; (try k_lt l1w); (try k_sweep))))
  k_with "dictSet" => ((k_here; k_dflt (refine' dset_new ?F_zF73 ?N_zF73 ?m_zF73 ?D_zF73 ?k_zF73 ?z_zF73 ?U_zF73 ?_; (case F_zF73 => k_asm); (case N_zF73 => k_asm); (case m_zF73 => k_mem); (case D_zF73 => assumption); (case k_zF73 => assumption); (case z_zF73 => assumption); (case U_zF73 => k_updF); k_whole; intro h'w o'w F'w N'w hD'w; (try dsimp only at N'w); (try k_sweep))))
  k_with "call builtin:len" => ((k_here; (with_reducible show wpAny _ _ (call (Value.builtin "len") [Value.ref _]) _ _ _); k_dflt (refine' len_L ?N_zF74 ?m_zF74 ?I_zF74 ?z_zF74 ?_; (case N_zF74 => k_asm); (case m_zF74 => k_mem); (case I_zF74 => walk_at "g_ints"); (case z_zF74 => assumption); k_whole; intro t'w tk'w)))
  k_with "letOwnedTupleGo" => ((k_here; k_dflt (refine' own_en ?F_zF75 ?N_zF75 ?U_zF75 ?_; (case F_zF75 => k_asm); (case N_zF75 => k_asm); (case U_zF75 => walk_at "g_updF"); k_whole; intro h'w F'w N'w; (try dsimp only at N'w); (try k_sweep))))
  k_with "letOwnedTupleGo" => ((k_here; k_dflt (refine' own_tup ?N_zF76 ?m_zF76 ?I_zF76 ?_; (case N_zF76 => k_asm); (case m_zF76 => k_mem); (case I_zF76 => assumption); k_whole)))
  k_with "call type:type" => ((k_here; (with_reducible show wpAny _ _ (call _ [Value.bytes _ _]) _ _ _); refine call_type_of (Tx := "bytes") rfl (by decide +kernel) ?_))
  k_with "getMethod bytes" => ((k_here; first | with_reducible refine hex_m ?_ | with_reducible refine upper_m ?_))
  k_with "getMethod str" => ((k_here; with_reducible refine enc_m ?_))
  k_with "call builtin:bytes.hex" => ((k_here; (with_reducible show wpAny _ _ (call (Value.builtin _) [Value.bytes _ _]) _ _ _); refine hex_call (by assumption) ?_; intro _ _))
  k_with "call builtin:bytes.upper" => ((k_here; (with_reducible show wpAny _ _ (call (Value.builtin _) [Value.bytes _ _]) _ _ _); refine upper_call (by assumption) ?_; intro _ _))
  k_with "call builtin:str.encode" => ((k_here; (with_reducible show wpAny _ _ (call (Value.builtin _) [Value.str _ _, Value.str _ _]) _ _ _); refine enc_call (by assumption) (by assumption) ?_; intro _ _))
  k_with "g_self" => ((intro _ _ hqw; first | exact self_list (by k_asm) (by k_mem) (by assumption) hqw | exact self_range (by k_asm) (by k_mem) hqw | exact self_D (by k_asm) (by k_mem) (by assumption) hqw | exact self_tup (by k_asm) (by k_mem) (by assumption) hqw | exact self_B (by k_asm) (by k_mem) (by assumption) hqw))
  k_with "codeAny" => (first
      | ((with_reducible show codeAny _ _ (Code.compLoop (Expr.ListComp _ _ _ _) 1 _ _ _) _ _); refine comp2_inner ?_)
      | ((with_reducible show codeAny _ _ (Code.compStart (Expr.ListComp _ _ _ _) 1 _ _ _) _ _); k_dflt (refine comp2_start1 (by walk_at "g_self") ?_))
      | ((with_reducible show codeAny _ _ (Code.compStart (Expr.ListComp _ [_, _] _ _) 0 _ _ _) _ _); k_dflt (refine comp2_start0 (by walk_at "g_self") ?_)))
  k_with "COut" => ((dsimp only [COut]))
  k_with "CIn" => ((dsimp only [CIn]))
  k_with "eval ListComp" => ((k_here; (with_reducible show wpAny _ _ (eval (Expr.ListComp _ [_, _] _ _) _) _ _ _); k_dflt (refine' lc2_enter ?F_zF87 ?c_zF87 ?ce_zF87 ?k_zF87 ?n_zF87 ?_ ?s_zF87; (case F_zF87 => k_asm); (case c_zF87 => with_unfolding_all rfl); (case ce_zF87 => decide); (case k_zF87 => rfl); (case n_zF87 => decide); (case s_zF87 => intro _; rfl))))
  k_with "pyIter bytes" => ((k_here; k_dflt (refine' iter_B ?F_zF88 ?N_zF88 ?_; (case F_zF88 => k_asm); (case N_zF88 => k_asm); k_whole; intro I'w o'w h'w F'w N'w hI'w l1w; (try k_lt l1w); (try k_sweep))))
  k_with "pyNext ref" => ((k_here; k_dflt (first
      | (refine' next_B ?F_zF89 ?N_zF89 ?mI_zF89 ?I_zF89 ?U_zF89 ?x_zF89 ?_; (case F_zF89 => k_asm); (case N_zF89 => k_asm); (case mI_zF89 => k_mem); (case I_zF89 => assumption); (case U_zF89 => k_updF); (case x_zF89 => assumption); k_whole; intro h'w o'w u'w tk'w F'w N'w hI'w; (try dsimp only at N'w); (try k_sweep))
      | (refine' next_B_end ?hh_zF89 ?F_zF89 ?N_zF89 ?I_zF89 ?mI_zF89 ?x_zF89 ?D_zF89 ?_; (case hh_zF89 => rfl); (case F_zF89 => k_asm); (case N_zF89 => k_asm); (case mI_zF89 => k_mem); (case I_zF89 => assumption); (case x_zF89 => assumption); (case D_zF89 => walk_at "g_del"); k_whole; intro h'w F'w N'w; (try dsimp only at N'w); (try k_sweep)))))
  k_with "call type:enumerate" => ((k_here; (with_reducible show wpAny _ _ (call (Value.type _) [Value.ref _]) _ _ _); k_dflt (refine' call_en ?F_zF90 ?N_zF90 ?m_zF90 ?_; (case F_zF90 => k_asm); (case N_zF90 => k_asm); (case m_zF90 => k_mem); k_whole; intro I'w e'w o'w h'w F'w N'w hI'w l1w l2w; (try k_lt l1w); (try k_lt2 l2w); (try k_sweep))))
  k_with "g_self" => ((intro _ _ hqw; exact self_en (by k_asm) (by k_mem) hqw))
  k_with "g_self" => ((intro _ _ hqw; first | exact self_list (by k_asm) (by k_mem) (by assumption) hqw | exact self_range (by k_asm) (by k_mem) hqw | exact self_D (by k_asm) (by k_mem) (by assumption) hqw | exact self_tup (by k_asm) (by k_mem) (by assumption) hqw | exact self_B (by k_asm) (by k_mem) (by assumption) hqw | exact self_en (by k_asm) (by k_mem) hqw))
  k_with "pyIter ref" => ((k_here; k_dflt (refine' self_en ?N_zF93 ?m_zF93 ?_; (case N_zF93 => k_asm); (case m_zF93 => k_mem); k_whole)))
  k_with "pyNext ref" => ((k_here; k_dflt (first
      | (refine' next_en ?F_zF94 ?N_zF94 ?me_zF94 ?S_zF94 ?e_zF94 ?H_zF94 ?hI_zF94 ?ml_zF94 ?x_zF94 ?_; (case F_zF94 => k_asm); (case N_zF94 => k_asm); (case me_zF94 => k_mem); (case S_zF94 => assumption); (case e_zF94 => exact rfl); (case H_zF94 => walk_at "g_sh2"); (case hI_zF94 => assumption); (case ml_zF94 => k_mem); (case x_zF94 => walk_at "g_item"); k_whole; intro T'w o'w h'w u'w tk'w F'w N'w hI'w l1w; (try dsimp only at N'w); (try k_lt l1w); (try k_sweep))
      | (refine' next_en_end ?hh_zF94 ?F_zF94 ?N_zF94 ?me_zF94 ?mI_zF94 ?hI_zF94 ?ml_zF94 ?x_zF94 ?D_zF94 ?_; (case hh_zF94 => rfl); (case F_zF94 => k_asm); (case N_zF94 => k_asm); (case me_zF94 => k_mem); (case mI_zF94 => k_mem); (case hI_zF94 => assumption); (case ml_zF94 => k_mem); (case x_zF94 => walk_at "g_off"); (case D_zF94 => walk_at "g_del"); k_whole; intro h'w F'w N'w; (try dsimp only at N'w); (try k_sweep)))))
  k_with "call builtin:sum" => ((k_here; (with_reducible show wpAny _ _ (call (Value.builtin "sum") [Value.ref _]) _ _ _); k_dflt (refine' sum_pick ?hh_zF95 ?F_zF95 ?N_zF95 ?I_zF95 ?_; (case hh_zF95 => rfl); (case F_zF95 => k_asm); (case N_zF95 => k_asm); (case I_zF95 => assumption); k_whole); intro x'w h'w tk'w t'w F'w N'w; (try k_sweep)))
  k_with "call type:bytes" => ((k_here; (with_reducible show wpAny _ _ (call (Value.type "bytes") [Value.ref _]) _ _ _); k_dflt (refine' bytes_K ?F_zF96 ?N_zF96 ?l_zF96 ?i_zF96 ?r_zF96 ?z_zF96 ?h_zF96 ?_; (case F_zF96 => k_asm); (case N_zF96 => k_asm); (case l_zF96 => exact News.isList (by k_asm) (by k_mem)); (case i_zF96 => assumption); (case r_zF96 => assumption); (case z_zF96 => assumption); (case h_zF96 => rfl); k_whole); intro h'w t'w k'w F'w N'w _; (try k_sweep)))
  k_with "call ref cons nil" => ((k_here; (with_reducible show wpAny _ _ (call (Value.ref 88) [Value.bytes _ _]) _ _ _); k_dflt (refine' gives_use (b16 _ _ _ ?hb_zF97) ?B_zF97 ?F_zF97 ?f_zF97 ?k_zF97 ?X_zF97 ?T_zF97 ?N_zF97 ?s_zF97 ?d_zF97 ?u_zF97 ?_; (case hb_zF97 => assumption); (case B_zF97 => k_asm); (case F_zF97 => k_asm); (case X_zF97 => k_asm); (case T_zF97 => k_asm); (case f_zF97 => exact rfl); (case k_zF97 => exact rfl); (case N_zF97 => k_asm); (case s_zF97 => intro pw hpw; cases hpw); (case d_zF97 => walk_at "g_room"); (case u_zF97 => walk_at "g_room"); k_whole); intro r'w h'w tk'w F'w N'w st'w po'w; obtain ⟨t', e'⟩ := po'w; subst e'; (try clear st'w); (try k_sweep)))
  k_with "dictSet" => ((k_here; k_dflt (refine' dset_new ?F_zF98 ?N_zF98 ?m_zF98 ?D_zF98 ?k_zF98 ?z_zF98 ?U_zF98 ?_; (case F_zF98 => k_asm); (case N_zF98 => k_asm); (case m_zF98 => k_mem); (case D_zF98 => assumption); (case k_zF98 => first | assumption | exact of_decide_eq_false rfl); (case z_zF98 => first | assumption | exact of_decide_eq_true rfl); (case U_zF98 => k_updF); k_whole; intro h'w o'w F'w N'w hD'w; (try dsimp only at N'w); (try k_sweep))))
  k_with "g_fig" => ((k_here; k_dflt (refine' fig_item ?a_zF99 ?b_zF99 ?_ ?s_zF99 ?t_zF99; (case a_zF99 => first | decide | with_reducible assumption | omega); (case b_zF99 => first | decide | with_reducible assumption | omega); (case s_zF99 => with_unfolding_all rfl); (case t_zF99 => intro _; with_unfolding_all rfl); k_whole); intro u'w tk'w))
  k_with "call builtin:list.append" => ((k_here; (with_reducible show wpAny _ _ (call (Value.builtin _) [Value.ref _, _]) _ _ _); k_dflt (refine' append_L ?k1_zF100 ?k2_zF100 ?k3_zF100 ?_ ?z_zF100; (case k1_zF100 => k_asm); (case k2_zF100 => k_asm); (case k3_zF100 => k_upd); (case z_zF100 => first | with_reducible assumption | (simp [sizeLine]; done) | (simp only [List.length_append, List.length_cons, List.length_nil]; rw [sizeLine_eq]; omega)); k_whole); intro h'w F'w N'w; (try simp only [List.nil_append, List.cons_append] at N'w); (try k_sweep)))
  k_with "g_room2" => (first | decide | walk_at "g_room")
  k_with "call ref cons nil" => ((k_here; (with_reducible show wpAny _ _ (call (Value.ref 65) _) _ _ _); k_dflt (refine' filt_use ?B_zF102 ?T0_zF102 ?F_zF102 ?f_zF102 ?k_zF102 ?X_zF102 ?T_zF102 ?N_zF102 ?m1_zF102 ?m2_zF102 ?I_zF102 ?J_zF102 ?z_zF102 ?d_zF102 ?u_zF102 ?_; (case B_zF102 => k_asm); (case F_zF102 => k_asm); (case T0_zF102 => assumption); (case f_zF102 => exact rfl); (case k_zF102 => exact rfl); (case X_zF102 => assumption); (case T_zF102 => assumption); (case N_zF102 => k_asm); (case m1_zF102 => k_mem); (case m2_zF102 => k_mem); (case I_zF102 => walk_at "g_ints"); (case J_zF102 => walk_at "g_ints"); (case z_zF102 => first | assumption | (simp; done)); (case d_zF102 => walk_at "g_room2"); (case u_zF102 => walk_at "g_room2"); k_whole; intro g'w h'w tk'w l'w acc'w c'w T0'w B'w F'w N'w X'w T'w hA'w hz'w l1w l2w; (try k_lt l1w); (try k_lt2 l2w); (try k_sweep))))
  k_with "g_shf" => (first | exact ShF.head | (apply ShF.tail; walk_at "g_shf") | (apply ShF.tailo; walk_at "g_shf") | fail "no shape")
  k_with "g_shu" => (first | exact ShU.head | (apply ShU.tail; walk_at "g_shu") | (apply ShU.tailo; walk_at "g_shu") | fail "no shape")
  k_with "g_shd" => (first | exact ShD.head | (apply ShD.tail; walk_at "g_shd") | (apply ShD.tailo; walk_at "g_shd") | fail "no shape")
  k_with "g_shs1" => (first | exact ShS.nil | (apply ShS.knew; walk_at "g_shs1") | (apply ShS.kold; walk_at "g_shs1") | (apply ShS.snew; walk_at "g_shs1") | (apply ShS.sold; walk_at "g_shs1") | fail "no shape")
  k_with "g_shs" => (((try dsimp only [List.map]); walk_at "g_shs1"))
  k_with "g_sho1" => (first | exact ShO.nil | (apply ShO.cons; walk_at "g_sho1") | fail "no shape")
  k_with "g_sho" => (((try dsimp only [List.map]); walk_at "g_sho1"))
  k_with "g_apnow" => ((rename Ap _ => sA'w; rename News _ _ _ _ => nA'w; replace sA'w := Ap.now nA'w sA'w rfl (by walk_at "g_shs")))
  k_with "g_del" => (first | (refine' del_of ?S_zF111 ?uh_zF111 ?e_zF111; (case S_zF111 => assumption); (case e_zF111 => exact rfl); (case uh_zF111 => walk_at "g_shd")) | (walk_at "g_apnow"; refine' del_of ?S_zF111 ?uh_zF111 ?e_zF111; (case S_zF111 => assumption); (case e_zF111 => exact rfl); (case uh_zF111 => walk_at "g_shd")))
  k_with "g_updF" => (first | (refine' updF_of ?S_zF112 ?uh_zF112 ?e_zF112; (case S_zF112 => assumption); (case e_zF112 => exact rfl); (case uh_zF112 => walk_at "g_shf")) | (walk_at "g_apnow"; refine' updF_of ?S_zF112 ?uh_zF112 ?e_zF112; (case S_zF112 => assumption); (case e_zF112 => exact rfl); (case uh_zF112 => walk_at "g_shf")))
  k_with "g_upd" => (first | (refine' upd_of ?S_zF113 ?uh_zF113 ?e_zF113; (case S_zF113 => assumption); (case e_zF113 => exact rfl); (case uh_zF113 => walk_at "g_shu")) | (walk_at "g_apnow"; refine' upd_of ?S_zF113 ?uh_zF113 ?e_zF113; (case S_zF113 => assumption); (case e_zF113 => exact rfl); (case uh_zF113 => walk_at "g_shu")))
  k_with "g_ltm" => (first | with_reducible assumption | exact ltAll (by assumption) (by k_mem))
  k_with "g_shc" => (first | exact ShC.head | (apply ShC.tail; walk_at "g_shc") | (apply ShC.tailo; walk_at "g_shc") | fail "no shape")
  k_with "g_sh2" => (first | exact Sh2.head | (apply Sh2.tail; walk_at "g_sh2") | fail "no shape")
  trivial
theorem loop_use {W : Nat → Shared → Prop} {k : Nat} {st : Shared} (I : Nat → Shared → Prop) (n : Nat) (h0 : I n st) (step : ∀ n s', (∀ n' s'', n' < n → I n' s'' → W k s'') → I n s' → W k s') : W k st := by
  induction n using Nat.strongRecOn generalizing st with
  | ind n ih => exact step n st (fun n' s'' hlt hI => ih n' hlt hI) h0
noncomputable def nextL (x q : Addr) (it : Option Value) : Str → Option Value := fun y => if y = Str.ofString "item" then it else if y = Str.ofString "func" then some (.ref q) else if y = Str.ofString "self" then some (.ref x) else none
theorem nextL_start {h₀ h : Heap} {L : Addr} {m : Str → Option Value} {x q : Addr} (F : Fr h₀ L h m) (e : ∀ y, m y = if y = Str.ofString "func" then some (Value.ref q) else List.lookup y [(Str.ofString "self", Value.ref x)]) : Fr h₀ L h (nextL x q none) := by
  have : m = nextL x q none := by
    funext y
    rw [e y]
    unfold nextL
    by_cases h1 : y = Str.ofString "func"
    · subst h1; rw [if_pos rfl, if_neg (by decide)]; rw [if_pos rfl]
    · rw [if_neg h1]
      by_cases h2 : y = Str.ofString "item"
      · subst h2; rw [if_pos rfl]; rfl
      · rw [if_neg h2, if_neg h1]
        by_cases h3 : y = Str.ofString "self"
        · subst h3; rw [if_pos rfl]; simp [List.lookup]
        · rw [if_neg h3]; have h4 : (y == Str.ofString "self") = false := by simpa using h3
          simp only [List.lookup, h4]
  exact this ▸ F
theorem nextL_item {h₀ h : Heap} {L : Addr} {x q : Addr} {it : Option Value} {v : Value} (F : Fr h₀ L h (fun y => if y = Str.ofString "item" then some v else nextL x q it y)) : Fr h₀ L h (nextL x q (some v)) := by
  have : (fun y => if y = Str.ofString "item" then some v else nextL x q it y) = nextL x q (some v) := by
    funext y
    unfold nextL
    by_cases h2 : y = Str.ofString "item"
    · rw [if_pos h2, if_pos h2]
    · rw [if_neg h2, if_neg h2, if_neg h2]
  exact this ▸ F
noncomputable def inst54 (d q I : Addr) : Obj := { cls := .ref 54, dict := some d, slots := #[some (.ref q), some (.ref I)] }
set_option maxRecDepth 100000 in
set_option maxHeartbeats 8000000 in
theorem next_ctr (w : World) (S x d I q a b : Addr) (oS oI : Obj) (n k i : Nat) (vs us : List Value) (ys : List Int) (hJ : IntsAre us ys)
    (p : Program) (loose : List Str) (mean : ExcName → Option Value) (mg mb : Str → Option Value) (A₀ : Around) (dp un : Nat) (gd : Option (List Code)) (env : Env) (outer : List Env) (base h₀ : Heap) (L : Addr) (m : Str → Option Value) (s : Shared) (Q E : Value → Shared → Prop)
    (B : Below A₀ base outer h₀) (F : Fr h₀ L s.heap m) (hf : env.frame = some L) (hke : env.scope.kind = .function) (X : (hd.heap_39 w.params).In h₀) (T : Top p loose mean mg mb h₀)
    (N : News h₀ L s.heap [(S, oS), (I, oI), (x, { cls := .ref 54, dict := some d, slots := #[some (.ref q), some (.ref I)] }), (d, dictOf [] 0), (q, cnObj b), (a, W.listOf vs.toArray n), (b, W.listOf us.toArray k)])
    (o1 : @LT.lt Nat _ a q) (o2 : @LT.lt Nat _ b q) (o3 : @LT.lt Nat _ q d) (o4 : @LT.lt Nat _ d x) (o5 : @LT.lt Nat _ x I) (o6 : @LT.lt Nat _ I S) (hdp : dp + 3 < recursionLimit) (hun : un + 300 < cLine) (hI : LIt oI a i) (rest : List Value) (zs : List Int) (hr : vs.drop i = rest) (hz : IntsAre rest zs)
    (hit : ∀ z u j rest' zs' oI' h' tk', vs.drop j = rest' → IntsAre rest' zs' → rest'.length < rest.length → fil zs ys = z :: fil zs' ys → LIt oI' a j → Fr h₀ L h' m →
      News h₀ L h' [(S, oS), (I, oI'), (x, { cls := .ref 54, dict := some d, slots := #[some (.ref q), some (.ref I)] }), (d, dictOf [] 0), (q, cnObj b), (a, W.listOf vs.toArray n), (b, W.listOf us.toArray k)] → Q (.int z u) { s with heap := h', toks := tk' })
    (stop : ∀ g' e t h' tk', fil zs ys = [] → Fr h₀ L g' m → RaisedS base g' (env :: outer) e (.type "StopIteration") t [] [(S, oS), (x, { cls := .ref 54, dict := some d, slots := #[some (.ref q), some (.ref I)] }), (d, dictOf [] 0), (q, cnObj b), (a, W.listOf vs.toArray n), (b, W.listOf us.toArray k)] h' → g'.UpToSlots h' →
      E (.ref e) { s with heap := h', toks := tk' }) :
    wpAny (model Challenge.rw_kt0001_01.row.prog w) { handled := none, depth := dp, frames := some (env :: outer), guards := gd, units := un } (call (.ref 50) [.ref x]) Q E s := by
  revert X
  k_fill
  intro X
  refine wpAny_call ?_
  (refine' code_def ?k1_zq ?k2_zq ?k3_zq ?k4_zq ?k5_zq ?kA_zq ?kF_zq ?kK_zq ?k6_zq ?k7_zq ?k8_zq ?k9_zq ?kB_zq ?_ ?c2_zq ?c3_zq ?c4_zq ?c5_zq; (case kA_zq => exact rfl); (case kF_zq => assumption); (case kK_zq => assumption); (case k1_zq => k_asm); (case k2_zq => k_asm); (case k3_zq => k_asm); (case k4_zq => k_asm); (case k5_zq => k_asm); (case k6_zq => k_is); (case k7_zq => k_is); (case k8_zq => walk_at "g_room"); (case k9_zq => exact BindsTo.of_eq rfl); (case c5_zq => decide); (case kB_zq => exact locs rfl); (case c2_zq => exact rfl); (case c3_zq => exact rfl); (case c4_zq => exact rfl); k_whole; intro g' L' h' FG' F' N' B' X' T'; (try dsimp only); (try k_fold))
  repeat' ((fail_if_success (with_reducible show WhlRest _ _ _ _ _ _ _ _ _ _ _)); first | ((with_reducible show wpAny _ _ (execs (_ :: _) _) _ _ _); k_fold; walk1) | ((with_reducible show wpAny _ _ (eval (Expr.ListComp _ _ _ _) _) _ _ _); k_fold; walk1) | (k_unfold; (try dsimp only)) | (k_end; wrow_close) | walk1 | (dsimp only; walk1) | (leave1; walk_say "STEP leave1"; try dsimp only) | fail "no step")
  rename (Fr g' L' _ _) => F'
  rename News g' L' _ _ => N'
  refine loop_use (fun len s' => ∃ rest' zs' i' oI' it h tk, rest'.length = len ∧ s' = { s with heap := h, toks := tk } ∧ Fr g' L' h (nextL x q it) ∧
    News g' L' h [(S, oS), (I, oI'), (x, { cls := .ref 54, dict := some d, slots := #[some (.ref q), some (.ref I)] }), (d, dictOf [] 0), (q, cnObj b), (a, W.listOf vs.toArray n), (b, W.listOf us.toArray k)] ∧
    LIt oI' a i' ∧ vs.drop i' = rest' ∧ IntsAre rest' zs' ∧ rest'.length ≤ rest.length ∧ fil zs ys = fil zs' ys) rest.length ⟨rest, zs, i, oI, none, _, _, rfl, rfl, ?_, N', hI, hr, hz, Nat.le_refl _, rfl⟩ ?_
  · refine nextL_start F' (fun y => ?_)
    with_unfolding_all rfl
  · clear F' N'
    rintro n' s' ih ⟨rest', zs', i', oI', it, h1, tk1, hlen, rfl, F', N', hI', hr', hz', hle, hfil⟩
    refine (whl_turn (k := 100) ?hE_zq ?_ : WhlRest _ _ _ _ _ _ _ _ _ 101 _)
    case hE_zq => first | passes_own | with_unfolding_all passes_own
    cases rest' with
    | nil =>
      have hx : vs.toArray[i']? = none := by
        have := List.drop_eq_nil_iff.mp hr'
        simp; omega
      repeat' ((fail_if_success (with_reducible show wpAny _ _ (leaving _ _) _ _ _)); first | ((with_reducible show wpAny _ _ (execs (_ :: _) _) _ _ _); k_fold; walk1) | ((with_reducible show wpAny _ _ (eval (Expr.ListComp _ _ _ _) _) _ _ _); k_fold; walk1) | (k_unfold; (try dsimp only)) | (k_end; wrow_close) | walk1 | (dsimp only; walk1) | (leave1; walk_say "STEP leave1"; try dsimp only) | fail "no step")
      cases hz'
      show wpAny _ _ (leaving _ _) _ _ _
      refine leave_raiseS B' (by assumption) (by assumption) (by assumption) (fun h2 t R _ U => ?_)
      exact stop g' _ t h2 _ hfil FG' R U
    | cons v r =>
      cases hz' with
      | cons z u hz2 =>
      have hx : vs.toArray[i']? = some (.int z u) := by
        have := congrArg (fun l => l[0]?) hr'
        simpa using this
      have hr2 : vs.drop (i' + 1) = r := by
        have := congrArg (fun l => l.drop 1) hr'
        simpa using this
      repeat' ((fail_if_success (with_reducible show WhlRest _ _ _ _ _ _ _ _ _ _ _)); first | ((with_reducible show wpAny _ _ (execs (_ :: _) _) _ _ _); k_fold; walk1) | ((with_reducible show wpAny _ _ (eval (Expr.ListComp _ _ _ _) _) _ _ _); k_fold; walk1) | (k_unfold; (try dsimp only)) | (k_end; wrow_close) | walk1 | (dsimp only; walk1) | (leave1; walk_say "STEP leave1"; try dsimp only) | fail "no step")
      · refine ih r.length _ (by rw [← hlen]; exact Nat.lt_succ_self _) ⟨r, _, i' + 1, _, some (.int z u), _, _, rfl, rfl, nextL_item (by assumption), by assumption, by assumption, hr2, hz2, by simp only [List.length_cons] at hle; omega, ?_⟩
        rw [hfil, fil_cons, if_pos (by assumption)]
      · refine hit z u (i' + 1) r _ _ _ _ hr2 hz2 (by simp only [List.length_cons] at hle; omega) ?_ (by assumption) (by assumption) (by assumption)
        rw [hfil, fil_cons, if_neg]
        first | assumption | (rw [Bool.not_eq_true]; assumption) | (rw [Bool.not_eq_true]; exact Bool.eq_false_of_not_eq_true (by assumption))

set_option maxRecDepth 100000 in
theorem f_next (w : World) : findIn (hd.heap_39 w.params) (.ref 54) "__next__" = some (some (.ref 50)) := by walk_at "g_fill"; k_is
set_option maxRecDepth 100000 in
theorem f_nextF (w : World) : isFn (hd.heap_39 w.params) (.ref 50) = true := by walk_at "g_fill"; k_is
set_option maxRecDepth 100000 in
theorem f_iter (w : World) : findIn (hd.heap_39 w.params) (.ref 54) "__iter__" = some (some (.ref 43)) := by walk_at "g_fill"; k_is
set_option maxRecDepth 100000 in
theorem f_iterF (w : World) : isFn (hd.heap_39 w.params) (.ref 43) = true := by walk_at "g_fill"; k_is
set_option maxRecDepth 100000 in
theorem f_len (w : World) : findIn (hd.heap_39 w.params) (.ref 54) "__len__" = some none := by walk_at "g_fill"; k_is
set_option maxRecDepth 100000 in
theorem f_hint (w : World) : findIn (hd.heap_39 w.params) (.ref 54) "__length_hint__" = some none := by walk_at "g_fill"; k_is

noncomputable abbrev ffL (x d I q a b : Addr) (vs us : List Value) (n k : Nat) : List (Addr × Obj) := [(x, { cls := .ref 54, dict := some d, slots := #[some (.ref q), some (.ref I)] }), (d, dictOf [] 0), (q, cnObj b), (a, W.listOf vs.toArray n), (b, W.listOf us.toArray k)]

theorem raisedS_ground {A₀ : Around} {base g G h : Heap} {outer : List Env} {L a e t : Addr} {m : Str → Option Value} {nm : Str} {sc : Scope} {cd cls : Value} {vs : List Value} {news : List (Addr × Obj)}
    (R : RaisedS base G (envOf nm sc L a cd :: outer) e cls t vs news h) (B : Below A₀ base outer g) (F : Fr g L G m) (U : G.UpToSlots h) :
    ∃ g', KtsTurn (framesOf outer) g g' ∧ Fr g' L h m ∧ Below A₀ base outer g' ∧ News g' L h news ∧ ∃ ob, h.get? e = some ob ∧ ob.cls = cls := by
  obtain ⟨⟨B₁, hB, hBG, hl, hfl, hnew⟩, htup⟩ := R
  have hL : B₁.get? L = none := by
    obtain ⟨_, ⟨L', _, hf, hn', _⟩, _⟩ := hfl.2.2.1
    obtain rfl : L = L' := Option.some.inj hf
    exact hn'
  obtain ⟨g', T, F', B'⟩ := kts_ground B F hBG hfl.1 U
  exact ⟨g', T, F', B', fun q hq => ⟨hfl.1 _ _ (hl q hq).1, (fun z => by have := (hl q hq).1; rw [z, hL] at this; cases this), T.none_ _ (kts_none F.keep (hl q hq).2.1)⟩, hfl.there⟩

theorem sub_stop : isSubtype (.type "StopIteration") (.type "StopIteration") = pure true := by rw [isSubtype_type]; kernel_rfl

theorem ints_push {z : Int} {u : Tok} : ∀ {us : List Value} {ys : List Int}, IntsAre us ys → IntsAre (us ++ [.int z u]) (ys ++ [z])
  | _, _, .nil => .cons _ _ .nil
  | _, _, .cons a t h => .cons a t (ints_push h)

theorem ext_loop (w : World) (S x d I q a b : Addr) (n k : Nat) (vs us : List Value) (ys : List Int) (hJ : IntsAre us ys)
    (p : Program) (loose : List Str) (mean : ExcName → Option Value) (mg mb : Str → Option Value) (A₀ : Around) (dp un : Nat) (gd : Option (List Code)) (nm : Str) (sc : Scope) (f : Addr) (cd : Value) (outer : List Env) (base g : Heap) (L : Addr) (m : Str → Option Value) (s : Shared) (R : Result → Shared → Prop)
    (B : Below A₀ base outer g) (hke : sc.kind = .function) (X : (hd.heap_39 w.params).In g) (T : Top p loose mean mg mb g)
    (o1 : @LT.lt Nat _ a q) (o2 : @LT.lt Nat _ b q) (o3 : @LT.lt Nat _ q d) (o4 : @LT.lt Nat _ d x) (o5 : @LT.lt Nat _ x I) (o6 : @LT.lt Nat _ I S) (hdp : dp + 3 < recursionLimit) (hun : un + 301 < cLine) (len : Nat) :
    ∀ (rest : List Value) (zs : List Int) (i c tk : Nat) (oI : Obj) (acc : List Value) (ws : List Int) (h : Heap), rest.length = len → Fr g L h m → News g L h ((S, W.listOf acc.toArray c) :: (I, oI) :: ffL x d I q a b vs us n k) → LIt oI a i → vs.drop i = rest → IntsAre rest zs → IntsAre acc ws → acc.length + rest.length ≤ sizeLine →
    (∀ g' h' tk' acc' c', IntsAre acc' (ws ++ fil zs ys) → KtsTurn (framesOf outer) g g' → Fr g' L h' m → Below A₀ base outer g' → News g' L h' ((S, W.listOf acc'.toArray c') :: ffL x d I q a b vs us n k) → R (.ok (.ret .none)) { s with heap := h', toks := tk' }) →
    codeAny (model Challenge.rw_kt0001_01.row.prog w) { handled := none, depth := dp, frames := some (envOf nm sc L f cd :: outer), guards := gd, units := un } (.builtin "list.extend.loop" ⟨[.ref S, .ref x, .none], []⟩) R { s with heap := h, toks := tk } := by
  induction len using Nat.strongRecOn with
  | ind len ih =>
    intro rest zs i c tk oI acc ws h hlen F N hI hr hz hw hsz done
    refine codeAny_builtin PySem.F.entry_extend_loop ?_
    rw [Around.under_plainId PySem.F.plain_extend_loop _]
    show wpAny _ _ (pyNext (.ref x) >>= _) _ _ _
    refine wpAny_bind (owit_next F X (InstAt.of_news N (.tail _ (.tail _ (.head _))) (.tail _ (.tail _ (.tail _ (.head _))))) (f_next w) (f_nextF w) ?_)
    refine next_ctr w S x d I q a b _ oI n k i vs us ys hJ p loose mean mg mb A₀ dp (un + 1) gd _ outer base g L m _ _ _ B F rfl hke X T N o1 o2 o3 o4 o5 o6 hdp (by omega) hI rest zs hr hz ?_ ?_
    · intro z u j rest' zs' oI' h' tk' hj hz' hlt hfil hI' F' N'
      show wpAny _ _ (updateSeq S (·.push (.int z u)) >>= _) _ _ _
      have hsz' : acc.toArray.size ≤ sizeLine := by simp; omega
      have e : Obj.mapSeq (·.push (Value.int z u)) (W.listOf acc.toArray c) = W.listOf (acc ++ [Value.int z u]).toArray (c + 1) := by simp [Obj.mapSeq, W.listOf]
      obtain ⟨F2, N2⟩ := news_upd (pre := []) F' N' (fun _ hp => by cases hp) (fun p hp => by
        have o7 : ∀ r ∈ (I, oI') :: ffL x d I q a b vs us n k, @LT.lt Nat _ r.1 S := by
          intro r hr
          simp only [ffL, List.mem_cons, List.not_mem_nil, or_false] at hr
          rcases hr with rfl | rfl | rfl | rfl | rfl | rfl <;> dsimp only <;> omega
        exact Nat.ne_of_lt (o7 p hp)) e rfl
      refine wpAny_bind (wpAny_updateSeq (N' _ (.head _)).1 rfl (wpAny_pure ⟨plainId_quiet PySem.F.plain_extend_loop _, ?_⟩) hsz' (by simp; omega))
      refine ih rest'.length (by omega) rest' zs' j (c + 1) _ oI' (acc ++ [Value.int z u]) (ws ++ [z]) _ rfl F2 N2 hI' hj hz' (ints_push hw) (by simp; omega) fun g' h' tk' acc' c' h1 h2 h3 h4 h5 => ?_
      refine done g' h' tk' acc' c' ?_ h2 h3 h4 h5
      rw [hfil]
      simpa using h1
    · intro g' e t h' tk' hnil FG RS U
      obtain ⟨g2, T2, F2, B2, N2, ob, hob, hcls⟩ := raisedS_ground RS B FG U
      unfold OwitStop
      refine wpAny_isInstance (T := "StopIteration") (b := true) ⟨ob, hob, hcls⟩ sub_stop ?_
      rw [if_pos rfl]
      refine wpAny_pure (done g2 h' tk' acc c ?_ T2 F2 B2 N2)
      rw [hnil, List.append_nil]
      exact hw

set_option maxRecDepth 100000 in
set_option maxHeartbeats 8000000 in
theorem iter_ctr (w : World) (x d I q a b : Addr) (oI : Obj) (n k : Nat) (vs us : List Value)
    (p : Program) (loose : List Str) (mean : ExcName → Option Value) (mg mb : Str → Option Value) (A₀ : Around) (dp un : Nat) (gd : Option (List Code)) (env : Env) (outer : List Env) (base h₀ : Heap) (L : Addr) (m : Str → Option Value) (s : Shared) (Q E : Value → Shared → Prop) (S : Addr) (oS : Obj)
    (B : Below A₀ base outer h₀) (F : Fr h₀ L s.heap m) (hf : env.frame = some L) (hke : env.scope.kind = .function) (X : (hd.heap_39 w.params).In h₀) (T : Top p loose mean mg mb h₀)
    (N : News h₀ L s.heap [(S, oS), (I, oI), (x, { cls := .ref 54, dict := some d, slots := #[some (.ref q), some (.ref I)] }), (d, dictOf [] 0), (q, cnObj b), (a, W.listOf vs.toArray n), (b, W.listOf us.toArray k)])
    (hdp : dp + 3 < recursionLimit) (hun : un + 300 < cLine)
    (ret : ∀ h' tk', Fr h₀ L h' m → News h₀ L h' [(S, oS), (I, oI), (x, { cls := .ref 54, dict := some d, slots := #[some (.ref q), some (.ref I)] }), (d, dictOf [] 0), (q, cnObj b), (a, W.listOf vs.toArray n), (b, W.listOf us.toArray k)] → Q (.ref x) { s with heap := h', toks := tk' }) :
    wpAny (model Challenge.rw_kt0001_01.row.prog w) { handled := none, depth := dp, frames := some (env :: outer), guards := gd, units := un } (call (.ref 43) [.ref x]) Q E s := by
  revert X
  k_fill
  intro X
  refine wpAny_call ?_
  (refine' code_def ?k1_zq ?k2_zq ?k3_zq ?k4_zq ?k5_zq ?kA_zq ?kF_zq ?kK_zq ?k6_zq ?k7_zq ?k8_zq ?k9_zq ?kB_zq ?_ ?c2_zq ?c3_zq ?c4_zq ?c5_zq; (case kA_zq => exact rfl); (case kF_zq => assumption); (case kK_zq => assumption); (case k1_zq => k_asm); (case k2_zq => k_asm); (case k3_zq => k_asm); (case k4_zq => k_asm); (case k5_zq => k_asm); (case k6_zq => k_is); (case k7_zq => k_is); (case k8_zq => walk_at "g_room"); (case k9_zq => exact BindsTo.of_eq rfl); (case c5_zq => decide); (case kB_zq => exact locs rfl); (case c2_zq => exact rfl); (case c3_zq => exact rfl); (case c4_zq => exact rfl); k_whole; intro g' L' h' FG' F' N' B' X' T'; (try dsimp only); (try k_fold))
  repeat' (first | ((with_reducible show wpAny _ _ (execs (_ :: _) _) _ _ _); k_fold; walk1) | ((with_reducible show wpAny _ _ (eval (Expr.ListComp _ _ _ _) _) _ _ _); k_fold; walk1) | (k_unfold; (try dsimp only)) | (k_end; wrow_close) | walk1 | (dsimp only; walk1) | (leave1; walk_say "STEP leave1"; try dsimp only) | fail "no step")
  refine ret _ _ (by assumption) (by assumption)

theorem list_ctr (w : World) (x d I q a b : Addr) (oI : Obj) (n k : Nat) (vs us : List Value) (xs ys : List Int) (hV : IntsAre vs xs) (hJ : IntsAre us ys)
    (p : Program) (loose : List Str) (mean : ExcName → Option Value) (mg mb : Str → Option Value) (A₀ : Around) (dp un : Nat) (gd : Option (List Code)) (nm : Str) (sc : Scope) (f : Addr) (cd : Value) (outer : List Env) (base g : Heap) (L : Addr) (m : Str → Option Value) (s : Shared) (Q E : Value → Shared → Prop)
    (B : Below A₀ base outer g) (F : Fr g L s.heap m) (hke : sc.kind = .function) (X : (hd.heap_39 w.params).In g) (T : Top p loose mean mg mb g) (N : News g L s.heap ((I, oI) :: ffL x d I q a b vs us n k)) (hI : LIt oI a 0)
    (o1 : @LT.lt Nat _ a q) (o2 : @LT.lt Nat _ b q) (o3 : @LT.lt Nat _ q d) (o4 : @LT.lt Nat _ d x) (o5 : @LT.lt Nat _ x I) (hdp : dp + 3 < recursionLimit) (hun : un + 310 < cLine) (hsz : vs.length ≤ sizeLine)
    (ret : ∀ g' h' tk' acc' c', IntsAre acc' (fil xs ys) → KtsTurn (framesOf outer) g g' → Fr g' L h' m → Below A₀ base outer g' → News g' L h' ((s.heap.objs.size, W.listOf acc'.toArray c') :: ffL x d I q a b vs us n k) → Q (.ref s.heap.objs.size) { s with heap := h', toks := tk' }) :
    wpAny (model Challenge.rw_kt0001_01.row.prog w) { handled := none, depth := dp, frames := some (envOf nm sc L f cd :: outer), guards := gd, units := un } (call (.type "list") [.ref x]) Q E s := by
  refine callType_codes (Q₁ := fun obj s₁ => obj = .ref s.heap.objs.size ∧ s₁ = { s with heap := s.heap.push { cls := .type "list", data := .seq #[] } }) PySem.F.called_list (PySem.F.typeCall_list_1 _) PySem.F.entry_list_init
    (code_list_new _ ⟨rfl, rfl⟩) fun obj s₁ h₁ => ?_
  obtain ⟨rfl, rfl⟩ := h₁
  have hS : (s.heap.push { cls := .type "list", data := .seq #[] }).get? s.heap.objs.size = some (W.listOf [].toArray 0) := Heap.get?_push_size _ rfl
  have F1 := F.push { cls := .type "list", data := .seq #[] }
  have N1 := N.push F { cls := .type "list", data := .seq #[] }
  have o6 : @LT.lt Nat _ I s.heap.objs.size := Heap.lt_size (N _ (.head _)).1
  refine ⟨⟨_, hS, rfl⟩, PySem.F.args_list_init_2 _ _, ?_⟩
  generalize s.heap.objs.size = S at *
  have o7 : ∀ r ∈ (I, oI) :: ffL x d I q a b vs us n k, r.1 ≠ S := by
    have o7 : ∀ r ∈ (I, oI) :: ffL x d I q a b vs us n k, @LT.lt Nat _ r.1 S := by
      intro r hr
      simp only [ffL, List.mem_cons, List.not_mem_nil, or_false] at hr
      rcases hr with rfl | rfl | rfl | rfl | rfl | rfl <;> dsimp only <;> omega
    exact fun r hr => Nat.ne_of_lt (o7 r hr)
  show wpAny _ _ (do let old ← Builtin.List.listItems (.ref S); Builtin.List.listUpdate (.ref S) (fun _ => #[]); letGo old.toList.reverse; Builtin.List.listExtendWith (.ref S) (.ref x) .none) _ _ _
  refine wpAny_bind ?_
  unfold Builtin.List.listItems
  refine wpAny_bind (wpAny_seqItems hS rfl (wpAny_pure ?_))
  show wpAny _ _ (updateSeq S (fun _ => #[]) >>= fun _ => letGo (#[] : Array Value).toList.reverse >>= fun _ => Builtin.List.listExtendWith (.ref S) (.ref x) .none) _ _ _
  refine wpAny_bind (wpAny_updateSeq hS rfl ?_)
  obtain ⟨F2, N2⟩ := news_upd (pre := []) (o' := W.listOf [].toArray 0) (f := Obj.mapSeq fun _ => #[]) F1 N1 (fun _ hp => by cases hp) o7 rfl rfl
  refine wpAny_bind (wpAny_letGo ?_)
  unfold Builtin.List.listExtendWith
  have I2 := InstAt.of_news N2 (.tail _ (.tail _ (.head _))) (.tail _ (.tail _ (.tail _ (.head _))))
  refine wpAny_bind (I2.type.here ?_)
  have h1 : Builtin.List.listSameRef (.ref S) (.ref x) = false := by
    have : (S == x) = false := by simpa using (fun e : S = x => o7 _ (.tail _ (.head _)) e.symm)
    exact this
  have h2 : (Value.ref 54 == Value.type "list") = false := by decide
  have h3 : (Value.ref 54 == Value.type "tuple") = false := by decide
  simp only [h1, h2, h3, Bool.or_false, Bool.false_eq_true, if_false]
  refine wpAny_bind (owit_iter F2 X I2 (f_iter w) (f_iterF w) ?_)
  refine iter_ctr w x d I q a b oI n k vs us p loose mean mg mb A₀ dp _ gd _ outer base g L m _ _ _ S _ B F2 rfl hke X T N2 hdp (by dsimp only [Around.in1]; omega) fun h3 tk3 F3 N3 => ?_
  have I3 := InstAt.of_news N3 (.tail _ (.tail _ (.head _))) (.tail _ (.tail _ (.tail _ (.head _))))
  refine owit_it F3 X I3 (f_next w) ?_
  refine wpAny_bind (wpAny_holding ?_)
  unfold Builtin.List.listLengthHint
  refine wpAny_bind (wpAny_bind (I3.type.here ((looks_findIn (X.keeps F3.keep) (f_len w)).here ?_)))
  show wpAny _ _ (specialOf (Value.ref x) (Str.ofString "__length_hint__") >>= _) _ _ _
  refine wpAny_bind (wpAny_bind (I3.type.here ((looks_findIn (X.keeps F3.keep) (f_hint w)).here ?_)))
  refine wpAny_pure ?_
  show wpAny _ _ (rule "list.extend.makes-room" >>= fun _ => Builtin.List.listTouch (.ref S) >>= fun _ => again (.builtin "list.extend.loop" ⟨[.ref S, .ref x, .none], []⟩)) _ _ _
  refine wpAny_bind (wpAny_rule ?_)
  refine wpAny_bind ?_
  show wpAny _ _ (updateSeq S (·.push .none) >>= fun _ => updateSeq S (·.pop)) _ _ _
  obtain ⟨F4, N4⟩ := news_upd (pre := []) (o' := W.listOf [Value.none].toArray 1) (f := Obj.mapSeq (·.push .none)) F3 N3 (fun _ hp => by cases hp) o7 rfl rfl
  refine wpAny_bind (wpAny_updateSeq (N3 _ (.head _)).1 rfl ?_)
  obtain ⟨F5, N5⟩ := news_upd (pre := []) (o' := W.listOf [].toArray 2) (f := Obj.mapSeq (·.pop)) F4 N4 (fun _ hp => by cases hp) o7 rfl rfl
  refine wpAny_updateSeq (hz := by seq_fits) (N4 _ (.head _)).1 rfl ?_
  refine wpAny_pure ⟨plainId_quiet PySem.F.plain_extend_loop _, ?_⟩
  refine ext_loop w S x d I q a b n k vs us ys hJ p loose mean mg mb A₀ dp _ gd nm sc f cd outer base g L m s _ B hke X T o1 o2 o3 o4 o5 o6 hdp (by dsimp only [Around.in1]; omega) vs.length vs xs 0 2 tk3 oI [] [] _ rfl F5 N5 hI (List.drop_zero ..) hV .nil (by simpa using hsz) fun g' h' tk' acc' c' h1 h2 h3 h4 h5 => ?_
  exact ⟨rfl, ret g' h' tk' acc' c' h1 h2 h3 h4 h5⟩

noncomputable def NewInts (zs : List Int) (h h' : Heap) (r : Value) : Prop := ∃ l acc c, r = .ref l ∧ h.objs.size ≤ l ∧ h'.get? l = some (W.listOf acc.toArray c) ∧ IntsAre acc zs
set_option maxRecDepth 100000 in
set_option maxHeartbeats 8000000 in
theorem filt (w : World) (a b : Addr) (n k : Nat) (vs us : List Value) (xs ys : List Int) (hI : IntsAre vs xs) (hJ : IntsAre us ys) (hsz : vs.length ≤ sizeLine) :
    GivesS w 65 [.ref a, .ref b] 6 400 [(a, W.listOf vs.toArray n), (b, W.listOf us.toArray k)] (NewInts (fil xs ys)) := by
  unfold GivesS
  k_fill
  intro p loose mean mg mb A₀ dp un gd env outer base h₀ L m s Q E B F hf hke XB TB N hd hu ret
  have X := XB.keeps B.stays
  have T := TB.keeps B.stays
  refine wpAny_call ?_
  (refine' enterS_plain ?k1_zq ?k2_zq ?k3_zq ?k4_zq ?k5_zq ?kA_zq ?kF_zq ?kK_zq ?k6_zq ?k7_zq ?k8_zq ?k9_zq ?kB_zq ?_ ?c2_zq ?c3_zq ?c4_zq ?c5_zq; (case kA_zq => exact rfl); (case kF_zq => assumption); (case kK_zq => assumption); (case k1_zq => k_asm); (case k2_zq => k_asm); (case k3_zq => k_asm); (case k4_zq => k_asm); (case k5_zq => k_asm); (case k6_zq => k_is); (case k7_zq => k_is); (case k8_zq => walk_at "g_room"); (case k9_zq => exact BindsTo.of_eq rfl); (case c5_zq => decide); (case kB_zq => exact locs rfl); (case c2_zq => exact rfl); (case c3_zq => exact rfl); (case c4_zq => exact rfl); k_whole; intro g' L' h' F' N' B' X' T' l1 lz lg; (first | (rename Ap _ => sA'; have sA' := (ApB.of l1 sA' rfl).1) | (have sA' := (ApB.start l1 rfl (by walk_at "g_sho")).1)); (try dsimp only); (try k_fold))
  repeat' (first | ((with_reducible show wpAny _ _ (execs (_ :: _) _) _ _ _); k_fold; walk1) | ((with_reducible show wpAny _ _ (eval (Expr.ListComp _ _ _ _) _) _ _ _); k_fold; walk1) | (k_unfold; (try dsimp only)) | (k_end; wrow_close) | walk1 | (dsimp only; walk1) | (leave1; walk_say "STEP leave1"; try dsimp only) | fail "no step")
  rename News _ _ _ _ => N9
  rename LIt _ a 0 => hI9
  rename (Fr g' L' _ _) => F9
  have hle := Nat.le_of_lt (lz ▸ F9.ns.lt)
  refine list_ctr w _ _ _ _ a b _ n k vs us xs ys hI hJ p loose mean mg mb _ (dp + 1) (un + 3) gd _ _ _ _ (env :: outer) base g' L' _ _ _ _ B' F9 rfl X' T' N9 hI9 ?_ ?_ ?_ ?_ ?_ (by omega) (by omega) hsz ?_
  iterate 5 (first | walk_at "g_ltm" | (walk_at "g_conj"; first | assumption | omega))
  intro g2 h2 tk2 acc c hA T2 F2 B2 N2
  clear F9 N9
  repeat' (first | ((with_reducible show wpAny _ _ (execs (_ :: _) _) _ _ _); k_fold; walk1) | ((with_reducible show wpAny _ _ (eval (Expr.ListComp _ _ _ _) _) _ _ _); k_fold; walk1) | (k_unfold; (try dsimp only)) | (k_end; wrow_close) | walk1 | (dsimp only; walk1) | (leave1; walk_say "STEP leave1"; try dsimp only) | fail "no step")
  refine backS_ret T2 (by assumption) (by assumption) (fun r hr => by simp only [List.mem_cons, List.not_mem_nil, or_false] at hr ⊢; rcases hr with rfl | rfl <;> simp) fun Tn => ?_
  show Q _ _
  exact ret _ _ _ Tn ⟨_, acc, c, rfl, hle, (N2 _ (.head _)).1, hA⟩
theorem ints_len : ∀ {us : List Value} {ys : List Int}, IntsAre us ys → us.length = ys.length
  | _, _, .nil => rfl
  | _, _, .cons _ _ h => by simp [ints_len h]
theorem filt_use {w : World} {a b : Addr} {n k : Nat} {vs us : List Value} {xs ys : List Int}
    {p : Program} {loose : List Str} {mean : ExcName → Option Value} {mg mb : Str → Option Value} {A₀ : Around} {dp un : Nat} {gd : Option (List Code)} {env : Env} {outer : List Env} {base g₀ h₀ : Heap} {L : Addr} {m : Str → Option Value} {s : Shared} {Q E : Value → Shared → Prop} {news' : List (Addr × Obj)}
    (B : Below A₀ base outer h₀) (T0 : KtsTurn (framesOf outer) g₀ h₀) (F : Fr h₀ L s.heap m) (hf : env.frame = some L) (hk : env.scope.kind = .function) (X : (hd.heap_39 w.params).In base) (T : Top p loose mean mg mb base) (N : News h₀ L s.heap news')
    (m1 : (a, W.listOf vs.toArray n) ∈ news') (m2 : (b, W.listOf us.toArray k) ∈ news') (hI : IntsAre vs xs) (hJ : IntsAre us ys) (hsz : vs.length ≤ 64)
    (hd : dp + 6 < recursionLimit) (hu : un + 400 < cLine)
    (ret : ∀ g' h' tk' l acc c, KtsTurn (framesOf outer) g₀ g' → Below A₀ base outer g' → Fr g' L h' m → News g' L h' ((l, W.listOf acc.toArray c) :: news') → (Mine.hd.heap_39 w.params).In g' → Top p loose mean mg mb g' → IntsAre acc (fil xs ys) → acc.length ≤ 64 → (∀ p ∈ news', p.1 < l) → L < l → Q (.ref l) { s with heap := h', toks := tk' }) :
    wpAny (model Challenge.rw_kt0001_01.row.prog w) { handled := none, depth := dp, frames := some (env :: outer), guards := gd, units := un } (call (.ref 65) [.ref a, .ref b]) Q E s := by
  refine givesS_use (filt w a b n k vs us xs ys hI hJ (Nat.le_trans hsz (by decide))) B T0 F hf hk X T N (fun q hq => ?_) hd hu fun g' r h' tk' T' B' F' N' X' TP' hl hp => ?_
  · simp only [List.mem_cons, List.not_mem_nil, or_false] at hq
    rcases hq with rfl | rfl
    · exact m1
    · exact m2
  · obtain ⟨l, acc, c, rfl, hle, hg, hA⟩ := hp
    obtain ⟨x1, x2, x3⟩ := hl l hle
    refine ret g' h' tk' l acc c T' B' F' (fun q hq => ?_) X' TP' hA ?_ x3 x2
    · rcases List.mem_cons.mp hq with rfl | hq
      · exact ⟨hg, Nat.ne_of_gt x2, x1⟩
      · exact N' q hq
    · have h1 := ints_len hA
      have h2 := ints_len hI
      have h3 : (fil xs ys).length ≤ xs.length := List.length_filter_le ..
      omega

theorem setupW2 : True := by
  w_top off
  k_with_none
  k_with "g_room" => (first
      | ((try simp only [depth_under_make, depth_under_kw, depth_in1, depth_deeper, depth_caller]); (try dsimp only); omega)
      | ((try simp only [depth_under_make, depth_under_kw, depth_in1, depth_deeper, depth_caller] at *); (try dsimp only at *); omega))
  k_with "g_plain" => ((refine' enter_plain ?k1_zW21 ?k2_zW21 ?k3_zW21 ?k4_zW21 ?k5_zW21 ?kA_zW21 ?kF_zW21 ?kK_zW21 ?k6_zW21 ?k7_zW21 ?k8_zW21 ?k9_zW21 ?kB_zW21 ?_ ?c2_zW21 ?c3_zW21 ?c4_zW21 ?c5_zW21; (case kA_zW21 => exact rfl); (case kF_zW21 => assumption); (case kK_zW21 => assumption); (case k1_zW21 => k_asm); (case k2_zW21 => k_asm); (case k3_zW21 => k_asm); (case k4_zW21 => k_asm); (case k5_zW21 => k_asm); (case k6_zW21 => k_is); (case k7_zW21 => k_is); (case k8_zW21 => walk_at "g_room"); (case k9_zW21 => exact BindsTo.of_eq rfl); (case c5_zW21 => decide); (case kB_zW21 => exact locs rfl); (case c2_zW21 => exact rfl); (case c3_zW21 => exact rfl); (case c4_zW21 => exact rfl); k_whole; intro g'w L'w h'w F'w N'w B'w X'w T'w l1w lzw lgw; (first | (rename Ap _ => sA'w; have sA'w := (ApB.of l1w sA'w rfl).1) | (have sA'w := (ApB.start l1w rfl (by walk_at "g_sho")).1)); (try dsimp only); (try k_fold)))
  k_with "g_cellsS" => ((refine' enterS_cells ?k1_zW22 ?k2_zW22 ?k3_zW22 ?k4_zW22 ?k5_zW22 ?kA_zW22 ?kF_zW22 ?kK_zW22 ?k6_zW22 ?k7_zW22 ?k8_zW22 ?k9_zW22 ?kB_zW22 ?kD_zW22 ?_ ?c2_zW22 ?c3_zW22 ?c4_zW22; (case kA_zW22 => exact rfl); (case kF_zW22 => assumption); (case kK_zW22 => assumption); (case k1_zW22 => k_asm); (case k2_zW22 => k_asm); (case k3_zW22 => k_asm); (case k4_zW22 => k_asm); (case k5_zW22 => k_asm); (case k6_zW22 => k_is); (case k7_zW22 => k_is); (case k8_zW22 => walk_at "g_room"); (case k9_zW22 => exact BindsTo.of_eq rfl); (case kB_zW22 => exact rfl); (case kD_zW22 => decide +kernel); (case c2_zW22 => exact rfl); (case c3_zW22 => exact rfl); (case c4_zW22 => exact rfl); k_whole; intro g'w L'w h'w tk'w cells'w F'w N'w Y'w B'w X'w T'w l1w lzw lgw; k_cells Y'w; (try simp only [List.cons_append, List.nil_append] at N'w); (first | (rename Ap _ => sA'w; have sA'w := ApB.of l1w sA'w rfl) | (have sA'w := ApB.start l1w rfl (by walk_at "g_sho"))); (first | replace sA'w := Ap.nowB N'w sA'w.cell.cell.cell.cell rfl | replace sA'w := Ap.nowB N'w sA'w.cell.cell.cell rfl | replace sA'w := Ap.nowB N'w sA'w.cell.cell rfl | replace sA'w := Ap.nowB N'w sA'w.cell rfl | replace sA'w := Ap.nowB N'w sA'w rfl); (try dsimp only); (try k_fold)))
  k_with "g_plainS" => ((refine' enterS_plain ?k1_zW23 ?k2_zW23 ?k3_zW23 ?k4_zW23 ?k5_zW23 ?kA_zW23 ?kF_zW23 ?kK_zW23 ?k6_zW23 ?k7_zW23 ?k8_zW23 ?k9_zW23 ?kB_zW23 ?_ ?c2_zW23 ?c3_zW23 ?c4_zW23 ?c5_zW23; (case kA_zW23 => exact rfl); (case kF_zW23 => assumption); (case kK_zW23 => assumption); (case k1_zW23 => k_asm); (case k2_zW23 => k_asm); (case k3_zW23 => k_asm); (case k4_zW23 => k_asm); (case k5_zW23 => k_asm); (case k6_zW23 => k_is); (case k7_zW23 => k_is); (case k8_zW23 => walk_at "g_room"); (case k9_zW23 => exact BindsTo.of_eq rfl); (case c5_zW23 => decide); (case kB_zW23 => exact locs rfl); (case c2_zW23 => exact rfl); (case c3_zW23 => exact rfl); (case c4_zW23 => exact rfl); k_whole; intro g'w L'w h'w F'w N'w B'w X'w T'w l1w lzw lgw; (first | (rename Ap _ => sA'w; have sA'w := (ApB.of l1w sA'w rfl).1) | (have sA'w := (ApB.start l1w rfl (by walk_at "g_sho")).1)); (try dsimp only); (try k_fold)))
  k_with "g_own" => ((refine' code_def ?k1_zW24 ?k2_zW24 ?k3_zW24 ?k4_zW24 ?k5_zW24 ?kA_zW24 ?kF_zW24 ?kK_zW24 ?k6_zW24 ?k7_zW24 ?k8_zW24 ?k9_zW24 ?kB_zW24 ?_ ?c2_zW24 ?c3_zW24 ?c4_zW24 ?c5_zW24; (case kA_zW24 => exact rfl); (case kF_zW24 => assumption); (case kK_zW24 => assumption); (case k1_zW24 => k_asm); (case k2_zW24 => k_asm); (case k3_zW24 => k_asm); (case k4_zW24 => k_asm); (case k5_zW24 => k_asm); (case k6_zW24 => k_is); (case k7_zW24 => k_is); (case k8_zW24 => walk_at "g_room"); (case k9_zW24 => exact BindsTo.of_eq rfl); (case c5_zW24 => decide); (case kB_zW24 => exact locs rfl); (case c2_zW24 => exact rfl); (case c3_zW24 => exact rfl); (case c4_zW24 => exact rfl); k_whole; intro g'w L'w h'w FG'w F'w N'w B'w X'w T'w; (try dsimp only); (try k_fold)))
  k_with "g_cells" => ((refine' enter_cells ?k1_zW25 ?k2_zW25 ?k3_zW25 ?k4_zW25 ?k5_zW25 ?kA_zW25 ?kF_zW25 ?kK_zW25 ?k6_zW25 ?k7_zW25 ?k8_zW25 ?k9_zW25 ?kB_zW25 ?kD_zW25 ?_ ?c2_zW25 ?c3_zW25 ?c4_zW25; (case kA_zW25 => exact rfl); (case kF_zW25 => assumption); (case kK_zW25 => assumption); (case k1_zW25 => k_asm); (case k2_zW25 => k_asm); (case k3_zW25 => k_asm); (case k4_zW25 => k_asm); (case k5_zW25 => k_asm); (case k6_zW25 => k_is); (case k7_zW25 => k_is); (case k8_zW25 => walk_at "g_room"); (case k9_zW25 => exact BindsTo.of_eq rfl); (case kB_zW25 => exact rfl); (case kD_zW25 => decide +kernel); (case c2_zW25 => exact rfl); (case c3_zW25 => exact rfl); (case c4_zW25 => exact rfl); k_whole; intro g'w L'w h'w tk'w cells'w F'w N'w Y'w B'w X'w T'w l1w lzw lgw; k_cells Y'w; (try simp only [List.cons_append, List.nil_append] at N'w); (first | (rename Ap _ => sA'w; have sA'w := ApB.of l1w sA'w rfl) | (have sA'w := ApB.start l1w rfl (by walk_at "g_sho"))); (first | replace sA'w := Ap.nowB N'w sA'w.cell.cell.cell.cell rfl | replace sA'w := Ap.nowB N'w sA'w.cell.cell.cell rfl | replace sA'w := Ap.nowB N'w sA'w.cell.cell rfl | replace sA'w := Ap.nowB N'w sA'w.cell rfl | replace sA'w := Ap.nowB N'w sA'w rfl); (try dsimp only); (try k_fold)))
  k_with "g_cellsG" => ((refine' enterG_cells ?k1_zW26 ?k2_zW26 ?k3_zW26 ?k4_zW26 ?k5_zW26 ?kA_zW26 ?kF_zW26 ?kK_zW26 ?k6_zW26 ?k7_zW26 ?k8_zW26 ?k9_zW26 ?kB_zW26 ?kD_zW26 ?_ ?c2_zW26 ?c3_zW26 ?c4_zW26; (case kA_zW26 => exact rfl); (case kF_zW26 => assumption); (case kK_zW26 => assumption); (case k1_zW26 => k_asm); (case k2_zW26 => k_asm); (case k3_zW26 => k_asm); (case k4_zW26 => k_asm); (case k5_zW26 => k_asm); (case k6_zW26 => k_is); (case k7_zW26 => k_is); (case k8_zW26 => walk_at "g_room"); (case k9_zW26 => exact BindsTo.of_eq rfl); (case kB_zW26 => exact rfl); (case kD_zW26 => decide +kernel); (case c2_zW26 => exact rfl); (case c3_zW26 => exact rfl); (case c4_zW26 => exact rfl); k_whole; intro g'w L'w h'w tk'w cells'w F'w N'w Y'w B'w X'w T'w l1w lzw lgw; k_cells Y'w; (try simp only [List.cons_append, List.nil_append] at N'w); (first | (rename Ap _ => sA'w; have sA'w := ApB.of l1w sA'w rfl) | (have sA'w := ApB.start l1w rfl (by walk_at "g_sho"))); (first | replace sA'w := Ap.nowB N'w sA'w.cell.cell.cell.cell rfl | replace sA'w := Ap.nowB N'w sA'w.cell.cell.cell rfl | replace sA'w := Ap.nowB N'w sA'w.cell.cell rfl | replace sA'w := Ap.nowB N'w sA'w.cell rfl | replace sA'w := Ap.nowB N'w sA'w rfl); (try dsimp only); (try k_fold)))
  k_with "g_del" => (first | (refine' Del.head ?a_zW27; (case a_zW27 => k_all)) | (refine' Del.tail ?a_zW27 ?b_zW27; (case a_zW27 => k_ne); (case b_zW27 => walk_at "g_del")))
  k_with "g_self" => ((intro _ _ hqw; first | exact self_list (by k_asm) (by k_mem) (by assumption) hqw | exact self_range (by k_asm) (by k_mem) hqw | exact self_D (by k_asm) (by k_mem) (by assumption) hqw))
  k_with "codeAny" => (first
      | ((with_reducible show codeAny _ _ (Code.forLoop _ _ _ _ _) _ _); refine forLoop_step ?_)
      | ((with_reducible show codeAny _ _ (Code.compLoop (Expr.ListComp _ _ _ _) _ _ _ _) _ _); refine compL_step ?_)
      | ((with_reducible show codeAny _ _ (Code.compStart (Expr.ListComp _ _ _ _) _ _ _ _) _ _); k_dflt (refine compL_start (by walk_at "g_self") ?_))
      | ((with_reducible show codeAny _ _ (Code.compLoop (Expr.DictComp _ _ _ _ _) _ _ _ _) _ _); refine compD_step ?_)
      | ((with_reducible show codeAny _ _ (Code.compStart (Expr.DictComp _ _ _ _ _) _ _ _ _) _ _); k_dflt (refine compD_start (by walk_at "g_self") ?_)))
  k_with "FlTurn" => ((dsimp only [FlTurn]))
  k_with "FlFlow" => ((dsimp only [FlFlow]))
  k_with "letOwnedTupleGo" => ((refine wpAny_of_eq (a := ()) rfl ?_))
  k_with "assign Name" => ((refine wpAny_assign_Name ?_))
  k_with "g_item" => (first | with_reducible assumption | exact ItemAt.zero | exact (ItemAt.succ ItemAt.zero) | exact (ItemAt.succ (ItemAt.succ ItemAt.zero)) | exact (ItemAt.succ (ItemAt.succ (ItemAt.succ ItemAt.zero))) | exact (ItemAt.succ (ItemAt.succ (ItemAt.succ (ItemAt.succ ItemAt.zero)))) | exact (ItemAt.succ (ItemAt.succ (ItemAt.succ (ItemAt.succ (ItemAt.succ ItemAt.zero))))) | exact (ItemAt.succ (ItemAt.succ (ItemAt.succ (ItemAt.succ (ItemAt.succ (ItemAt.succ ItemAt.zero)))))) | exact (ItemAt.succ (ItemAt.succ (ItemAt.succ (ItemAt.succ (ItemAt.succ (ItemAt.succ (ItemAt.succ ItemAt.zero))))))) | exact (ItemAt.succ (ItemAt.succ (ItemAt.succ (ItemAt.succ (ItemAt.succ (ItemAt.succ (ItemAt.succ (ItemAt.succ ItemAt.zero)))))))))
  k_with "g_off" => (first | with_reducible assumption | exact OffAt.nil | exact (OffAt.succ OffAt.nil) | exact (OffAt.succ (OffAt.succ OffAt.nil)) | exact (OffAt.succ (OffAt.succ (OffAt.succ OffAt.nil))) | exact (OffAt.succ (OffAt.succ (OffAt.succ (OffAt.succ OffAt.nil)))) | exact (OffAt.succ (OffAt.succ (OffAt.succ (OffAt.succ (OffAt.succ OffAt.nil))))) | exact (OffAt.succ (OffAt.succ (OffAt.succ (OffAt.succ (OffAt.succ (OffAt.succ OffAt.nil)))))) | exact (OffAt.succ (OffAt.succ (OffAt.succ (OffAt.succ (OffAt.succ (OffAt.succ (OffAt.succ OffAt.nil))))))) | exact (OffAt.succ (OffAt.succ (OffAt.succ (OffAt.succ (OffAt.succ (OffAt.succ (OffAt.succ (OffAt.succ OffAt.nil)))))))))
  k_with "call builtin:list.append" => ((k_here; (with_reducible show wpAny _ _ (call (Value.builtin _) [Value.ref _, _]) _ _ _); k_dflt (refine' append_L ?k1_zW216 ?k2_zW216 ?k3_zW216 ?_ ?z_zW216; (case k1_zW216 => k_asm); (case k2_zW216 => k_asm); (case k3_zW216 => k_upd); (case z_zW216 => first | with_reducible assumption | (simp [sizeLine]; done)); k_whole); intro h'w F'w N'w; (try simp only [List.nil_append, List.cons_append] at N'w); (try k_sweep)))
  k_with "g_num" => (first | ((simp only [Int.reduceAdd, Int.reduceSub]); first | done | rfl) | rfl)
  k_with "g_conj" => ((repeat (with_reducible rename (_ ∧ _) => hcj; have hcj1 := hcj.1; have hcj2 := hcj.2; clear hcj)))
  k_with "g_ne" => (((refine neN ?_); (try dsimp only); first | exact Nat.ne_of_lt (by with_reducible assumption) | exact Nat.ne_of_gt (by with_reducible assumption) | omega))
  k_with "pyNext ref" => ((k_here; (walk_at "g_conj"); k_dflt (first
      | (refine' next_range ?F_zW220 ?N_zW220 ?m_zW220 ?l_zW220 ?x_zW220 ?y_zW220 ?U_zW220 ?_; (case F_zW220 => k_asm); (case N_zW220 => k_asm); (case m_zW220 => k_mem); (case l_zW220 => first | decide | omega); (case x_zW220 => walk_at "g_num"); (case y_zW220 => walk_at "g_num"); (case U_zW220 => k_updF); k_whole; intro h'w F'w N'w; (try dsimp only at N'w); (try k_sweep))
      | (refine' next_range_end ?hh_zW220 ?F_zW220 ?N_zW220 ?m_zW220 ?D_zW220 ?l_zW220 ?_; (case hh_zW220 => rfl); (case F_zW220 => k_asm); (case N_zW220 => k_asm); (case m_zW220 => k_mem); (case l_zW220 => first | decide | omega); (case D_zW220 => walk_at "g_del"); k_whole; intro h'w F'w N'w; (try dsimp only at N'w); (try k_sweep))
      | (refine' next_list ?F_zW220 ?N_zW220 ?mI_zW220 ?I_zW220 ?U_zW220 ?m_zW220 ?x_zW220 ?_; (case F_zW220 => k_asm); (case N_zW220 => k_asm); (case mI_zW220 => k_mem); (case I_zW220 => assumption); (case m_zW220 => k_mem); (case x_zW220 => walk_at "g_item"); (case U_zW220 => k_updF); k_whole; intro h'w o'w F'w N'w hI'w; (try dsimp only at N'w); (try k_sweep))
      | (refine' next_list_end ?hh_zW220 ?F_zW220 ?N_zW220 ?I_zW220 ?mI_zW220 ?m_zW220 ?x_zW220 ?D_zW220 ?_; (case hh_zW220 => rfl); (case F_zW220 => k_asm); (case N_zW220 => k_asm); (case mI_zW220 => k_mem); (case I_zW220 => assumption); (case m_zW220 => k_mem); (case x_zW220 => walk_at "g_off"); (case D_zW220 => walk_at "g_del"); k_whole; intro h'w F'w N'w; (try dsimp only at N'w); (try k_sweep))
      | (refine' next_tuple ?F_zW220 ?N_zW220 ?mI_zW220 ?I_zW220 ?U_zW220 ?m_zW220 ?x_zW220 ?_; (case F_zW220 => k_asm); (case N_zW220 => k_asm); (case mI_zW220 => k_mem); (case I_zW220 => assumption); (case m_zW220 => k_mem); (case x_zW220 => walk_at "g_item"); (case U_zW220 => k_updF); k_whole; intro h'w o'w F'w N'w hI'w; (try dsimp only at N'w); (try k_sweep))
      | (refine' next_tuple_end ?hh_zW220 ?F_zW220 ?N_zW220 ?I_zW220 ?mI_zW220 ?m_zW220 ?x_zW220 ?D_zW220 ?_; (case hh_zW220 => rfl); (case F_zW220 => k_asm); (case N_zW220 => k_asm); (case mI_zW220 => k_mem); (case I_zW220 => assumption); (case m_zW220 => k_mem); (case x_zW220 => walk_at "g_off"); (case D_zW220 => walk_at "g_del"); k_whole; intro h'w F'w N'w; (try dsimp only at N'w); (try k_sweep)))))
  k_with "pyIter ref" => ((k_here; k_dflt (first
      | (refine' iter_range ?F_zW221 ?N_zW221 ?r_zW221 ?s_zW221 ?n_zW221 ?_; (case F_zW221 => k_asm); (case N_zW221 => k_asm); (case r_zW221 => assumption); (case s_zW221 => rfl); (case n_zW221 => (simp [Builtin.Range.rangeSize]; rfl)); k_whole; intro I'w h'w F'w N'w l1w; (try k_lt l1w); (try k_sweep))
      | (refine' iter_list ?F_zW221 ?N_zW221 ?m_zW221 ?_; (case F_zW221 => k_asm); (case N_zW221 => k_asm); (case m_zW221 => k_mem); k_whole; intro I'w o'w h'w F'w N'w hI'w l1w; (try k_lt l1w); (try k_sweep))
      | (refine' iter_tuple ?F_zW221 ?N_zW221 ?m_zW221 ?_; (case F_zW221 => k_asm); (case N_zW221 => k_asm); (case m_zW221 => k_mem); k_whole; intro I'w o'w h'w F'w N'w hI'w l1w; (try k_lt l1w); (try k_sweep)))))
  k_with "CTurnL" => ((dsimp only [CTurnL]))
  k_with "CTestsL" => ((dsimp only [CTestsL]))
  k_with "CTestL" => ((dsimp only [CTestL]))
  k_with "LcR" => ((dsimp only [LcR]))
  k_with "LcAt" => ((k_here; k_dflt (refine' LcAt.intro ?F_zW226 ?N_zW226 ?_; (case F_zW226 => k_asm); (case N_zW226 => k_asm); k_whole; intro D'w C'w oC'w h'w tk'w F'w N'w hC'w l1w l2w; k_lt l2w; k_lt2 l1w; (try k_sweep))))
  k_with "LcRU" => ((dsimp only [LcRU]))
  k_with "LcFinU" => ((k_here; k_dflt (refine' LcFinU.intro ?F_zW228 ?N_zW228 ?C_zW228 ?m_zW228 ?D_zW228 ?_; (case F_zW228 => k_asm); (case N_zW228 => k_asm); (case m_zW228 => k_mem); (case C_zW228 => assumption); (case D_zW228 => walk_at "g_del"); k_whole; intro h'w F'w N'w; (try k_sweep))))
  k_with "exec Assign cons ListComp" => ((k_here; k_dflt (refine' lcA_enter ?F_zW229 ?w_zW229 ?c_zW229 ?ce_zW229 ?k_zW229 ?n_zW229 ?_ ?s_zW229; (case F_zW229 => k_asm); (case w_zW229 => rfl); (case c_zW229 => with_unfolding_all rfl); (case ce_zW229 => decide); (case k_zW229 => rfl); (case n_zW229 => decide); (case s_zW229 => intro _; rfl))))
  k_with "exec Assign cons ListComp" => ((k_here; k_dflt (refine' lcA_enter1 ?F_zW230 ?w_zW230 ?c_zW230 ?o_zW230 ?p_zW230 ?k_zW230 ?n_zW230 ?_ ?s_zW230; (case F_zW230 => k_asm); (case w_zW230 => rfl); (case c_zW230 => with_unfolding_all rfl); (case o_zW230 => intro _; rfl); (case p_zW230 => intro _; rfl); (case k_zW230 => rfl); (case n_zW230 => decide); (case s_zW230 => intro _; rfl))))
  k_with "exec Assign cons DictComp" => ((k_here; k_dflt (refine' dcA_enter ?F_zW231 ?w_zW231 ?c_zW231 ?ce_zW231 ?k_zW231 ?n_zW231 ?_ ?s_zW231; (case F_zW231 => k_asm); (case w_zW231 => rfl); (case c_zW231 => with_unfolding_all rfl); (case ce_zW231 => decide); (case k_zW231 => rfl); (case n_zW231 => decide); (case s_zW231 => intro _; rfl))))
  k_with "LcFin" => ((k_here; k_dflt (refine' LcFin.intro ?F_zW232 ?N_zW232 ?C_zW232 ?m_zW232 ?D_zW232 ?_; (case F_zW232 => k_asm); (case N_zW232 => k_asm); (case m_zW232 => k_mem); (case C_zW232 => assumption); (case D_zW232 => walk_at "g_del"); k_whole; intro h'w F'w N'w; (try k_sweep))))
  k_with "storeName" => ((k_here; (with_reducible show wpAny _ _ (storeName (compEnvC _ _ _ _) _ _) _ _ _); k_dflt (refine' storeC ?F_zW233 ?N_zW233 ?U_zW233 ?C_zW233 ?_ ?k_zW233 ?l_zW233; (case F_zW233 => k_asm); (case N_zW233 => k_asm); (case U_zW233 => k_updF); (case C_zW233 => assumption); (case k_zW233 => rfl); (case l_zW233 => rfl); k_whole; intro h'w o'w F'w N'w hC'w; (try dsimp only at N'w); (try k_sweep))))
  k_with "storeName" => ((k_here; (with_reducible show wpAny _ _ (storeName (compEnvC _ _ _ _) _ _) _ _ _); k_dflt (refine' storeCC ?F_zW234 ?N_zW234 ?c_zW234 ?m_zW234 ?d_zW234 ?U_zW234 ?_ ?k_zW234 ?l_zW234; (case F_zW234 => k_asm); (case N_zW234 => k_asm); (case l_zW234 => rfl); (case k_zW234 => rfl); (case c_zW234 => rfl); (case m_zW234 => k_mem); (case d_zW234 => first | assumption | rfl); (case U_zW234 => k_updF); k_whole; intro h'w o'w F'w N'w hC'w; (try dsimp only at N'w); (try k_sweep))))
  k_with "eval ListComp" => ((k_here; k_dflt (refine' lc_enter ?F_zW235 ?c_zW235 ?ce_zW235 ?k_zW235 ?n_zW235 ?_ ?s_zW235; (case F_zW235 => k_asm); (case c_zW235 => with_unfolding_all rfl); (case ce_zW235 => decide); (case k_zW235 => rfl); (case n_zW235 => decide); (case s_zW235 => intro _; rfl))))
  k_with "eval ListComp ListComp" => ((k_here; k_dflt (refine' lc_enter1 ?F_zW236 ?c_zW236 ?o_zW236 ?p_zW236 ?k_zW236 ?n_zW236 ?_ ?s_zW236; (case F_zW236 => k_asm); (case c_zW236 => with_unfolding_all rfl); (case o_zW236 => intro _; rfl); (case p_zW236 => intro _; rfl); (case k_zW236 => rfl); (case n_zW236 => decide); (case s_zW236 => intro _; rfl))))
  k_with "Exists" => ((k_here; k_dflt (refine' ⟨_, _, rfl, ?F_zW237, ?N_zW237, ?_⟩; (case F_zW237 => k_asm); (case N_zW237 => k_asm); k_whole; intro D'w C'w c'w oC'w h'w tk'w F'w N'w hC'w l1w l1'w l2w; k_lt l2w; k_lt2 l1'w; k_lt2 l1w; (try k_sweep))))
  k_with "eval DictComp" => ((k_here; k_dflt (refine' dc_enter ?F_zW238 ?c_zW238 ?ce_zW238 ?k_zW238 ?n_zW238 ?_ ?s_zW238; (case F_zW238 => k_asm); (case c_zW238 => with_unfolding_all rfl); (case ce_zW238 => decide); (case k_zW238 => rfl); (case n_zW238 => decide); (case s_zW238 => intro _; rfl))))
  k_with "DcAt" => ((k_here; k_dflt (refine' DcAt.intro ?F_zW239 ?N_zW239 ?_; (case F_zW239 => k_asm); (case N_zW239 => k_asm); k_whole; intro D'w C'w oD'w oC'w h'w tk'w F'w N'w hC'w hD'w l1w l2w; k_lt l2w; k_lt2 l1w; (try k_sweep))))
  k_with "CTurnD" => ((dsimp only [CTurnD]))
  k_with "CTestsD" => ((dsimp only [CTestsD]))
  k_with "CTestD" => ((dsimp only [CTestD]))
  k_with "eval Subscript" => (refine Subscript_ ?_)
  k_with "execs cons" => ((dsimp only; walk_at "execs cons"))
  k_with "execs nil" => ((dsimp only; walk_at "execs nil"))
  k_with "eval Call" => ((dsimp only; walk_at "eval Call"))
  k_with "binaryOp" => ((dsimp only; walk_at "binaryOp"))
  k_with "eval Name" => ((k_here; (with_reducible show wpAny _ _ (eval (Expr.Name _ _) (compEnvC _ _ _ _)) _ _ _); k_dflt (refine LCgL.ld_own (by k_asm) (by k_mem) (by assumption) (by rfl) ?_)))
  k_with "g_sub" => ((k_here; (with_reducible show wpAny _ _ (subscriptTail _ _ (Value.ref _) (Value.int _ _)) _ _ _); k_dflt (first
      | (refine' item_L ?N_zW249 ?m_zW249 ?lo_zW249 ?hi_zW249 ?x_zW249 ?_ ?s_zW249; (case N_zW249 => k_asm); (case m_zW249 => k_mem); (case lo_zW249 => decide); (case hi_zW249 => decide); (case x_zW249 => walk_at "g_item"); (case s_zW249 => with_unfolding_all rfl); k_whole)
      | (refine' item_L ?N_zW249 ?m_zW249 ?lo_zW249 ?hi_zW249 ?x_zW249 ?_ ?s_zW249; (case N_zW249 => k_asm); (case m_zW249 => k_mem); (case lo_zW249 => assumption); (case hi_zW249 => omega); (case x_zW249 => assumption); (case s_zW249 => with_unfolding_all rfl); k_whole)
      | (refine' item_T ?N_zW249 ?m_zW249 ?lo_zW249 ?hi_zW249 ?x_zW249 ?_ ?s_zW249; (case N_zW249 => k_asm); (case m_zW249 => k_mem); (case lo_zW249 => decide); (case hi_zW249 => decide); (case x_zW249 => walk_at "g_item"); (case s_zW249 => with_unfolding_all rfl); k_whole)
      | (refine' item_D ?N_zW249 ?m_zW249 ?D_zW249 ?k_zW249 ?_ ?s_zW249; (case N_zW249 => k_asm); (case m_zW249 => k_mem); (case D_zW249 => assumption); (case k_zW249 => first | with_reducible assumption | rfl); (case s_zW249 => with_unfolding_all rfl); k_whole))))
  k_with "subscriptTail Name Constant ref int" => (walk_at "g_sub")
  k_with "subscriptTail Tuple cons BinOp ref int" => (walk_at "g_sub")
  k_with "subscriptTail Subscript Name Constant Name ref int" => (walk_at "g_sub")
  k_with "exec For Name Call cons nil" => ((refine wpAny_For ?_ ?_; rotate_left; (intro _; rfl)))
  k_with "subscriptTail Name Name ref int" => (walk_at "g_sub")
  k_with "getAttr ref" => ((k_here; (with_reducible show wpAny _ _ (getAttr (Value.ref _) (Str.ofString "__contains__") true) _ _ _); k_dflt (refine' cn_K ?F_zW255 ?N_zW255 ?m_zW255 ?_; (case F_zW255 => k_asm); (case N_zW255 => k_asm); (case m_zW255 => k_mem); k_whole); intro q'w h'w tk'w F'w N'w l1w; (try k_lt l1w); (try k_sweep)))
  k_with "g_units" => (((have hcL9 := cLine_is); (try simp only [units_in1, units_deeper, Around.mark_units, units_caller]); (try dsimp only); omega))
  k_with "call builtin:iter" => ((k_here; (with_reducible show wpAny _ _ (call (Value.builtin "iter") [Value.ref _]) _ _ _); k_dflt (refine' b_iter ?F_zW257 ?N_zW257 ?m_zW257 ?_; (case F_zW257 => k_asm); (case N_zW257 => k_asm); (case m_zW257 => k_mem); k_whole; intro I'w o'w h'w F'w N'w hI'w l1w; (try k_lt l1w); (try k_sweep))))
  k_with "call builtin:next" => ((k_here; (with_reducible show wpAny _ _ (call (Value.builtin "next") [Value.ref _]) _ _ _); k_dflt (first
      | (refine' b_next ?F_zW258 ?N_zW258 ?mI_zW258 ?hI_zW258 ?U_zW258 ?m_zW258 ?x_zW258 ?_; (case F_zW258 => k_asm); (case N_zW258 => k_asm); (case mI_zW258 => k_mem); (case hI_zW258 => assumption); (case U_zW258 => k_updF); (case m_zW258 => k_mem); (case x_zW258 => assumption); k_whole; intro h'w o'w F'w N'w hI'w; (try dsimp only at N'w); (try k_sweep))
      | (refine' b_stop ?hh_zW258 ?F_zW258 ?N_zW258 ?hI_zW258 ?mI_zW258 ?m_zW258 ?x_zW258 ?D_zW258 ?_; (case hh_zW258 => rfl); (case F_zW258 => k_asm); (case N_zW258 => k_asm); (case mI_zW258 => k_mem); (case hI_zW258 => assumption); (case m_zW258 => k_mem); (case x_zW258 => assumption); (case D_zW258 => walk_at "g_del"); k_whole; intro h1'w h'w e'w F'w N'w hE'w))))
  k_with "call ref" => ((k_here; (try dsimp only [List.nil_append]); (with_reducible show wpAny _ _ (call (Value.ref _) [Value.int _ _]) _ _ _); k_dflt (refine' cn_callN ?N_zW259 ?q_zW259 ?b_zW259 ?u_zW259 ?_; (case N_zW259 => k_asm); (case q_zW259 => k_mem); (case b_zW259 => k_mem); (case u_zW259 => assumption); k_whole)))
  k_with "callWith ref" => ((k_here; k_dflt (refine' callWith_cn ?N_zW260 ?q_zW260 ?_; (case N_zW260 => k_asm); (case q_zW260 => k_mem); k_whole)))
  k_with "And" => (((with_reducible show CnP _ _ _ ∧ _); refine ⟨CnP.of (by k_asm) (by k_mem), ?_⟩; try dsimp only [List.nil_append, List.cons_append]))
  k_with "CnP" => (exact CnP.of (by k_asm) (by k_mem))
  k_with "g_fill" => ((refine (fun (h : Challenge.rw_kt0001_01 = Challenge.rw_kt0001_01 → _) => h rfl) ?_; k_fill; intro _))
  k_with "g_ints" => (first | with_reducible assumption | exact IntsAre.nil | exact IntsAre.cons _ _ (by walk_at "g_ints"))
  k_with "call ref cons nil" => ((k_here; (with_reducible show wpAny _ _ (call (Value.ref 65) _) _ _ _); k_dflt (refine' filt_use ?B_zW265 ?T0_zW265 ?F_zW265 ?f_zW265 ?k_zW265 ?X_zW265 ?T_zW265 ?N_zW265 ?m1_zW265 ?m2_zW265 ?I_zW265 ?J_zW265 ?z_zW265 ?d_zW265 ?u_zW265 ?_; (case B_zW265 => k_asm); (case F_zW265 => k_asm); (case T0_zW265 => assumption); (case f_zW265 => exact rfl); (case k_zW265 => exact rfl); (case X_zW265 => assumption); (case T_zW265 => assumption); (case N_zW265 => k_asm); (case m1_zW265 => k_mem); (case m2_zW265 => k_mem); (case I_zW265 => walk_at "g_ints"); (case J_zW265 => walk_at "g_ints"); (case z_zW265 => first | assumption | (simp; done)); (case d_zW265 => walk_at "g_room"); (case u_zW265 => walk_at "g_room"); k_whole; intro g'w h'w tk'w l'w acc'w c'w T0'w B'w F'w N'w X'w T'w hA'w hz'w l1w l2w; (try k_lt l1w); (try k_lt2 l2w); (try k_sweep))))
  k_with "eval Lambda" => ((k_here; k_dflt (refine' kla_eval ?d0_zW266 ?_; (case d0_zW266 => exact rfl)); k_dflt (refine' lam_S ?F_zW266 ?N_zW266 ?T_zW266 ?C_zW266 ?cd_zW266 ?U_zW266 ?S_zW266 ?hm_zW266 ?hl_zW266 ?hc_zW266 ?hq_zW266 ?hcl_zW266 ?_; (case F_zW266 => k_asm); (case N_zW266 => k_asm); (case T_zW266 => k_asm); (case cd_zW266 => exact rfl); (case C_zW266 => kn_code); (case U_zW266 => k_updF); (case S_zW266 => assumption); (case hm_zW266 => k_mem); (case hl_zW266 => exact rfl); (case hc_zW266 => exact rfl); (case hq_zW266 => exact rfl); (case hcl_zW266 => exact rfl); k_whole); intro f'w c'w o'w p'w v'w t'w ct'w h'w tk'w F'w N'w S'w d1w d2w l1w l2w l3w; (try dsimp only at N'w); (rename Ap _ => sA'w; (first | replace sA'w := Ap.lam sA'w (by walk_at "g_shc") l1w l2w l3w rfl | (replace sA'w := Ap.subL sA'w l1w rfl (by walk_at "g_shs"); replace sA'w := Ap.lam sA'w (by walk_at "g_shc") l1w l2w l3w rfl)))))
  k_with "pyIter ref" => ((k_here; k_dflt (refine' iter_D ?F_zW267 ?N_zW267 ?m_zW267 ?D_zW267 ?s_zW267 ?_; (case F_zW267 => k_asm); (case N_zW267 => k_asm); (case m_zW267 => k_mem); (case D_zW267 => assumption); (case s_zW267 => walk_at "g_notsys"); k_whole; intro I'w o'w h'w F'w N'w hI'w l1w; (try k_lt l1w); (try k_sweep))))
  k_with "g_notsys" => (first | decide | exact not_sys (by with_reducible assumption))
  k_with "pyNext ref" => ((k_here; k_dflt (first
      | (refine' next_D ?F_zW269 ?N_zW269 ?mI_zW269 ?I_zW269 ?m_zW269 ?D_zW269 ?n_zW269 ?x_zW269 ?U_zW269 ?_; (case F_zW269 => k_asm); (case N_zW269 => k_asm); (case mI_zW269 => k_mem); (case I_zW269 => assumption); (case m_zW269 => k_mem); (case D_zW269 => assumption); (case n_zW269 => first | with_reducible assumption | exact Eq.symm (by with_reducible assumption) | rfl); (case x_zW269 => assumption); (case U_zW269 => k_updF); k_whole; intro t'w h'w o'w F'w N'w hI'w; (try dsimp only at N'w); (try k_sweep))
      | (refine' next_D_end ?hh_zW269 ?F_zW269 ?N_zW269 ?mI_zW269 ?I_zW269 ?m_zW269 ?D_zW269 ?n_zW269 ?x_zW269 ?De_zW269 ?_; (case hh_zW269 => rfl); (case F_zW269 => k_asm); (case N_zW269 => k_asm); (case mI_zW269 => k_mem); (case I_zW269 => assumption); (case m_zW269 => k_mem); (case D_zW269 => assumption); (case n_zW269 => first | with_reducible assumption | exact Eq.symm (by with_reducible assumption) | rfl); (case x_zW269 => assumption); (case De_zW269 => walk_at "g_del"); k_whole; intro h'w F'w N'w; (try dsimp only at N'w); (try k_sweep)))))
  k_with "exec For Name Name cons nil" => ((refine wpAny_For ?_ ?_; rotate_left; (intro _; rfl)))
  k_with "pyIter ref" => ((k_here; k_dflt (refine' self_list ?N_zW271 ?m_zW271 ?I_zW271 ?_; (case N_zW271 => k_asm); (case m_zW271 => k_mem); (case I_zW271 => assumption); k_whole)))
  k_with "call builtin:divmod" => ((k_here; (with_reducible show wpAny _ _ (call (Value.builtin _) [Value.int _ _, Value.int _ _]) _ _ _); k_dflt (refine' divmod_L ?F_zW272 ?N_zW272 ?b_zW272 ?_ ?p_zW272; (case F_zW272 => k_asm); (case N_zW272 => k_asm); (case b_zW272 => decide); (case p_zW272 => exact PyProof.noPylong_small (by omega)); k_whole; intro T'w h'w t1'w t2'w tk'w F'w N'w l1w; (try k_lt l1w); (try k_sweep))))
  k_with "dictSet" => ((k_here; k_dflt (refine' dset_new ?F_zW273 ?N_zW273 ?m_zW273 ?D_zW273 ?k_zW273 ?z_zW273 ?U_zW273 ?_; (case F_zW273 => k_asm); (case N_zW273 => k_asm); (case m_zW273 => k_mem); (case D_zW273 => assumption); (case k_zW273 => assumption); (case z_zW273 => assumption); (case U_zW273 => k_updF); k_whole; intro h'w o'w F'w N'w hD'w; (try dsimp only at N'w); (try k_sweep))))
  k_with "call builtin:len" => ((k_here; (with_reducible show wpAny _ _ (call (Value.builtin "len") [Value.ref _]) _ _ _); k_dflt (refine' len_L ?N_zW274 ?m_zW274 ?I_zW274 ?z_zW274 ?_; (case N_zW274 => k_asm); (case m_zW274 => k_mem); (case I_zW274 => walk_at "g_ints"); (case z_zW274 => assumption); k_whole; intro t'w tk'w)))
  k_with "letOwnedTupleGo" => ((k_here; k_dflt (refine' own_en ?F_zW275 ?N_zW275 ?U_zW275 ?_; (case F_zW275 => k_asm); (case N_zW275 => k_asm); (case U_zW275 => walk_at "g_updF"); k_whole; intro h'w F'w N'w; (try dsimp only at N'w); (try k_sweep))))
  k_with "letOwnedTupleGo" => ((k_here; k_dflt (refine' own_tup ?N_zW276 ?m_zW276 ?I_zW276 ?_; (case N_zW276 => k_asm); (case m_zW276 => k_mem); (case I_zW276 => assumption); k_whole)))
  k_with "call type:type" => ((k_here; (with_reducible show wpAny _ _ (call _ [Value.bytes _ _]) _ _ _); refine call_type_of (Tx := "bytes") rfl (by decide +kernel) ?_))
  k_with "getMethod bytes" => ((k_here; first | with_reducible refine hex_m ?_ | with_reducible refine upper_m ?_))
  k_with "getMethod str" => ((k_here; with_reducible refine enc_m ?_))
  k_with "call builtin:bytes.hex" => ((k_here; (with_reducible show wpAny _ _ (call (Value.builtin _) [Value.bytes _ _]) _ _ _); refine hex_call (by assumption) ?_; intro _ _))
  k_with "call builtin:bytes.upper" => ((k_here; (with_reducible show wpAny _ _ (call (Value.builtin _) [Value.bytes _ _]) _ _ _); refine upper_call (by assumption) ?_; intro _ _))
  k_with "call builtin:str.encode" => ((k_here; (with_reducible show wpAny _ _ (call (Value.builtin _) [Value.str _ _, Value.str _ _]) _ _ _); refine enc_call (by assumption) (by assumption) ?_; intro _ _))
  k_with "g_self" => ((intro _ _ hqw; first | exact self_list (by k_asm) (by k_mem) (by assumption) hqw | exact self_range (by k_asm) (by k_mem) hqw | exact self_D (by k_asm) (by k_mem) (by assumption) hqw | exact self_tup (by k_asm) (by k_mem) (by assumption) hqw | exact self_B (by k_asm) (by k_mem) (by assumption) hqw))
  k_with "codeAny" => (first
      | ((with_reducible show codeAny _ _ (Code.compLoop (Expr.ListComp _ _ _ _) 1 _ _ _) _ _); refine comp2_inner ?_)
      | ((with_reducible show codeAny _ _ (Code.compStart (Expr.ListComp _ _ _ _) 1 _ _ _) _ _); k_dflt (refine comp2_start1 (by walk_at "g_self") ?_))
      | ((with_reducible show codeAny _ _ (Code.compStart (Expr.ListComp _ [_, _] _ _) 0 _ _ _) _ _); k_dflt (refine comp2_start0 (by walk_at "g_self") ?_)))
  k_with "COut" => ((dsimp only [COut]))
  k_with "CIn" => ((dsimp only [CIn]))
  k_with "eval ListComp" => ((k_here; (with_reducible show wpAny _ _ (eval (Expr.ListComp _ [_, _] _ _) _) _ _ _); k_dflt (refine' lc2_enter ?F_zW287 ?c_zW287 ?ce_zW287 ?k_zW287 ?n_zW287 ?_ ?s_zW287; (case F_zW287 => k_asm); (case c_zW287 => with_unfolding_all rfl); (case ce_zW287 => decide); (case k_zW287 => rfl); (case n_zW287 => decide); (case s_zW287 => intro _; rfl))))
  k_with "pyIter bytes" => ((k_here; k_dflt (refine' iter_B ?F_zW288 ?N_zW288 ?_; (case F_zW288 => k_asm); (case N_zW288 => k_asm); k_whole; intro I'w o'w h'w F'w N'w hI'w l1w; (try k_lt l1w); (try k_sweep))))
  k_with "pyNext ref" => ((k_here; k_dflt (first
      | (refine' next_B ?F_zW289 ?N_zW289 ?mI_zW289 ?I_zW289 ?U_zW289 ?x_zW289 ?_; (case F_zW289 => k_asm); (case N_zW289 => k_asm); (case mI_zW289 => k_mem); (case I_zW289 => assumption); (case U_zW289 => k_updF); (case x_zW289 => assumption); k_whole; intro h'w o'w u'w tk'w F'w N'w hI'w; (try dsimp only at N'w); (try k_sweep))
      | (refine' next_B_end ?hh_zW289 ?F_zW289 ?N_zW289 ?I_zW289 ?mI_zW289 ?x_zW289 ?D_zW289 ?_; (case hh_zW289 => rfl); (case F_zW289 => k_asm); (case N_zW289 => k_asm); (case mI_zW289 => k_mem); (case I_zW289 => assumption); (case x_zW289 => assumption); (case D_zW289 => walk_at "g_del"); k_whole; intro h'w F'w N'w; (try dsimp only at N'w); (try k_sweep)))))
  k_with "call type:enumerate" => ((k_here; (with_reducible show wpAny _ _ (call (Value.type _) [Value.ref _]) _ _ _); k_dflt (refine' call_en ?F_zW290 ?N_zW290 ?m_zW290 ?_; (case F_zW290 => k_asm); (case N_zW290 => k_asm); (case m_zW290 => k_mem); k_whole; intro I'w e'w o'w h'w F'w N'w hI'w l1w l2w; (try k_lt l1w); (try k_lt2 l2w); (try k_sweep))))
  k_with "g_self" => ((intro _ _ hqw; exact self_en (by k_asm) (by k_mem) hqw))
  k_with "g_self" => ((intro _ _ hqw; first | exact self_list (by k_asm) (by k_mem) (by assumption) hqw | exact self_range (by k_asm) (by k_mem) hqw | exact self_D (by k_asm) (by k_mem) (by assumption) hqw | exact self_tup (by k_asm) (by k_mem) (by assumption) hqw | exact self_B (by k_asm) (by k_mem) (by assumption) hqw | exact self_en (by k_asm) (by k_mem) hqw))
  k_with "pyIter ref" => ((k_here; k_dflt (refine' self_en ?N_zW293 ?m_zW293 ?_; (case N_zW293 => k_asm); (case m_zW293 => k_mem); k_whole)))
  k_with "pyNext ref" => ((k_here; k_dflt (first
      | (refine' next_en ?F_zW294 ?N_zW294 ?me_zW294 ?S_zW294 ?e_zW294 ?H_zW294 ?hI_zW294 ?ml_zW294 ?x_zW294 ?_; (case F_zW294 => k_asm); (case N_zW294 => k_asm); (case me_zW294 => k_mem); (case S_zW294 => assumption); (case e_zW294 => exact rfl); (case H_zW294 => walk_at "g_sh2"); (case hI_zW294 => assumption); (case ml_zW294 => k_mem); (case x_zW294 => walk_at "g_item"); k_whole; intro T'w o'w h'w u'w tk'w F'w N'w hI'w l1w; (try dsimp only at N'w); (try k_lt l1w); (try k_sweep))
      | (refine' next_en_end ?hh_zW294 ?F_zW294 ?N_zW294 ?me_zW294 ?mI_zW294 ?hI_zW294 ?ml_zW294 ?x_zW294 ?D_zW294 ?_; (case hh_zW294 => rfl); (case F_zW294 => k_asm); (case N_zW294 => k_asm); (case me_zW294 => k_mem); (case mI_zW294 => k_mem); (case hI_zW294 => assumption); (case ml_zW294 => k_mem); (case x_zW294 => walk_at "g_off"); (case D_zW294 => walk_at "g_del"); k_whole; intro h'w F'w N'w; (try dsimp only at N'w); (try k_sweep)))))
  k_with "call builtin:sum" => ((k_here; (with_reducible show wpAny _ _ (call (Value.builtin "sum") [Value.ref _]) _ _ _); k_dflt (refine' sum_pick ?hh_zW295 ?F_zW295 ?N_zW295 ?I_zW295 ?_; (case hh_zW295 => rfl); (case F_zW295 => k_asm); (case N_zW295 => k_asm); (case I_zW295 => assumption); k_whole); intro x'w h'w tk'w t'w F'w N'w; (try k_sweep)))
  k_with "call type:bytes" => ((k_here; (with_reducible show wpAny _ _ (call (Value.type "bytes") [Value.ref _]) _ _ _); k_dflt (refine' bytes_K ?F_zW296 ?N_zW296 ?l_zW296 ?i_zW296 ?r_zW296 ?z_zW296 ?h_zW296 ?_; (case F_zW296 => k_asm); (case N_zW296 => k_asm); (case l_zW296 => exact News.isList (by k_asm) (by k_mem)); (case i_zW296 => assumption); (case r_zW296 => assumption); (case z_zW296 => assumption); (case h_zW296 => rfl); k_whole); intro h'w t'w k'w F'w N'w _; (try k_sweep)))
  k_with "call ref cons nil" => ((k_here; (with_reducible show wpAny _ _ (call (Value.ref 88) [Value.bytes _ _]) _ _ _); k_dflt (refine' gives_use (b16 _ _ _ ?hb_zW297) ?B_zW297 ?F_zW297 ?f_zW297 ?k_zW297 ?X_zW297 ?T_zW297 ?N_zW297 ?s_zW297 ?d_zW297 ?u_zW297 ?_; (case hb_zW297 => assumption); (case B_zW297 => k_asm); (case F_zW297 => k_asm); (case X_zW297 => k_asm); (case T_zW297 => k_asm); (case f_zW297 => exact rfl); (case k_zW297 => exact rfl); (case N_zW297 => k_asm); (case s_zW297 => intro pw hpw; cases hpw); (case d_zW297 => walk_at "g_room"); (case u_zW297 => walk_at "g_room"); k_whole); intro r'w h'w tk'w F'w N'w st'w po'w; obtain ⟨t', e'⟩ := po'w; subst e'; (try clear st'w); (try k_sweep)))
  k_with "dictSet" => ((k_here; k_dflt (refine' dset_new ?F_zW298 ?N_zW298 ?m_zW298 ?D_zW298 ?k_zW298 ?z_zW298 ?U_zW298 ?_; (case F_zW298 => k_asm); (case N_zW298 => k_asm); (case m_zW298 => k_mem); (case D_zW298 => assumption); (case k_zW298 => first | assumption | exact of_decide_eq_false rfl); (case z_zW298 => first | assumption | exact of_decide_eq_true rfl); (case U_zW298 => k_updF); k_whole; intro h'w o'w F'w N'w hD'w; (try dsimp only at N'w); (try k_sweep))))
  k_with "g_fig" => ((k_here; k_dflt (refine' fig_item ?a_zW299 ?b_zW299 ?_ ?s_zW299 ?t_zW299; (case a_zW299 => first | decide | with_reducible assumption | omega); (case b_zW299 => first | decide | with_reducible assumption | omega); (case s_zW299 => with_unfolding_all rfl); (case t_zW299 => intro _; with_unfolding_all rfl); k_whole); intro u'w tk'w))
  k_with "call builtin:list.append" => ((k_here; (with_reducible show wpAny _ _ (call (Value.builtin _) [Value.ref _, _]) _ _ _); k_dflt (refine' append_L ?k1_zW2100 ?k2_zW2100 ?k3_zW2100 ?_ ?z_zW2100; (case k1_zW2100 => k_asm); (case k2_zW2100 => k_asm); (case k3_zW2100 => k_upd); (case z_zW2100 => first | with_reducible assumption | (simp [sizeLine]; done) | (simp only [List.length_append, List.length_cons, List.length_nil]; rw [sizeLine_eq]; omega)); k_whole); intro h'w F'w N'w; (try simp only [List.nil_append, List.cons_append] at N'w); (try k_sweep)))
  k_with "g_room2" => (first | decide | walk_at "g_room")
  k_with "call ref cons nil" => ((k_here; (with_reducible show wpAny _ _ (call (Value.ref 65) _) _ _ _); k_dflt (refine' filt_use ?B_zW2102 ?T0_zW2102 ?F_zW2102 ?f_zW2102 ?k_zW2102 ?X_zW2102 ?T_zW2102 ?N_zW2102 ?m1_zW2102 ?m2_zW2102 ?I_zW2102 ?J_zW2102 ?z_zW2102 ?d_zW2102 ?u_zW2102 ?_; (case B_zW2102 => k_asm); (case F_zW2102 => k_asm); (case T0_zW2102 => assumption); (case f_zW2102 => exact rfl); (case k_zW2102 => exact rfl); (case X_zW2102 => assumption); (case T_zW2102 => assumption); (case N_zW2102 => k_asm); (case m1_zW2102 => k_mem); (case m2_zW2102 => k_mem); (case I_zW2102 => walk_at "g_ints"); (case J_zW2102 => walk_at "g_ints"); (case z_zW2102 => first | assumption | (simp; done)); (case d_zW2102 => walk_at "g_room2"); (case u_zW2102 => walk_at "g_room2"); k_whole; intro g'w h'w tk'w l'w acc'w c'w T0'w B'w F'w N'w X'w T'w hA'w hz'w l1w l2w; (try k_lt l1w); (try k_lt2 l2w); (try k_sweep))))
  k_with "g_shf" => (first | exact ShF.head | (apply ShF.tail; walk_at "g_shf") | (apply ShF.tailo; walk_at "g_shf") | fail "no shape")
  k_with "g_shu" => (first | exact ShU.head | (apply ShU.tail; walk_at "g_shu") | (apply ShU.tailo; walk_at "g_shu") | fail "no shape")
  k_with "g_shd" => (first | exact ShD.head | (apply ShD.tail; walk_at "g_shd") | (apply ShD.tailo; walk_at "g_shd") | fail "no shape")
  k_with "g_shs1" => (first | exact ShS.nil | (apply ShS.knew; walk_at "g_shs1") | (apply ShS.kold; walk_at "g_shs1") | (apply ShS.snew; walk_at "g_shs1") | (apply ShS.sold; walk_at "g_shs1") | fail "no shape")
  k_with "g_shs" => (((try dsimp only [List.map]); walk_at "g_shs1"))
  k_with "g_sho1" => (first | exact ShO.nil | (apply ShO.cons; walk_at "g_sho1") | fail "no shape")
  k_with "g_sho" => (((try dsimp only [List.map]); walk_at "g_sho1"))
  k_with "g_apnow" => ((rename Ap _ => sA'w; rename News _ _ _ _ => nA'w; replace sA'w := Ap.now nA'w sA'w rfl (by walk_at "g_shs")))
  k_with "g_del" => (first | (refine' del_of ?S_zW2111 ?uh_zW2111 ?e_zW2111; (case S_zW2111 => assumption); (case e_zW2111 => exact rfl); (case uh_zW2111 => walk_at "g_shd")) | (walk_at "g_apnow"; refine' del_of ?S_zW2111 ?uh_zW2111 ?e_zW2111; (case S_zW2111 => assumption); (case e_zW2111 => exact rfl); (case uh_zW2111 => walk_at "g_shd")))
  k_with "g_updF" => (first | (refine' updF_of ?S_zW2112 ?uh_zW2112 ?e_zW2112; (case S_zW2112 => assumption); (case e_zW2112 => exact rfl); (case uh_zW2112 => walk_at "g_shf")) | (walk_at "g_apnow"; refine' updF_of ?S_zW2112 ?uh_zW2112 ?e_zW2112; (case S_zW2112 => assumption); (case e_zW2112 => exact rfl); (case uh_zW2112 => walk_at "g_shf")))
  k_with "g_upd" => (first | (refine' upd_of ?S_zW2113 ?uh_zW2113 ?e_zW2113; (case S_zW2113 => assumption); (case e_zW2113 => exact rfl); (case uh_zW2113 => walk_at "g_shu")) | (walk_at "g_apnow"; refine' upd_of ?S_zW2113 ?uh_zW2113 ?e_zW2113; (case S_zW2113 => assumption); (case e_zW2113 => exact rfl); (case uh_zW2113 => walk_at "g_shu")))
  k_with "g_ltm" => (first | with_reducible assumption | exact ltAll (by assumption) (by k_mem))
  k_with "g_shc" => (first | exact ShC.head | (apply ShC.tail; walk_at "g_shc") | (apply ShC.tailo; walk_at "g_shc") | fail "no shape")
  k_with "g_sh2" => (first | exact Sh2.head | (apply Sh2.tail; walk_at "g_sh2") | fail "no shape")
  trivial
set_option maxRecDepth 100000 in
set_option maxHeartbeats 8000000 in
theorem worthI (w : World) : ∀ (k : Nat) (Bd : Int) (a d : Addr) (n ep : Nat) (vs : List Value) (es : List Int) (od : Obj) (kvs : List (Int × Value)) (kv : List (Int × Int)), IntsAre vs es → DictIs Challenge.rw_kt0001_01.row.prog w od kvs ep → KV kvs kv → vs.length ≤ 64 → kv.length ≤ 4 → kv ≠ [] →
    (∀ p ∈ kv, -Bd ≤ p.2 ∧ p.2 ≤ Bd) → 0 ≤ Bd → Bd * 2 ^ k ≤ 1000000 → Fits es kv → es.length < k → @LT.lt Nat _ 99 a → @LT.lt Nat _ 99 d →
    GivesW w [.ref a, .ref d] (10 + k) (500 + 100 * k) [(a, W.listOf vs.toArray n), (d, od)] (fun r => ∃ t, r = .int (worth k es kv) t) := by
  intro k
  induction k with
  | zero => intros; rename_i h _ _; exact absurd h (Nat.not_lt_zero _)
  | succ k ihk =>
  intro Bd a d n ep vs es od kvs kv hI hD hkv hsz hk4 hk0 hBd hB0 hBk hfit hlk ha hd9
  have hBs : Bd ≤ 1000000 := by
    have h1 : (1 : Int) ≤ 2 ^ (k + 1) := by
      have : (0 : Int) < 2 ^ (k + 1) := Int.pow_pos (by decide)
      omega
    have h2 : Bd * 1 ≤ Bd * 2 ^ (k + 1) := Int.mul_le_mul_of_nonneg_left h1 hB0
    omega
  have hp0 : (0 : Int) ≤ Bd * 2 ^ k := Int.mul_nonneg hB0 (Int.le_of_lt (Int.pow_pos (by decide)))
  have hB2 : Bd * 2 ^ k ≤ 1000000 := by rw [Int.pow_succ, ← Int.mul_assoc] at hBk; omega
  have hB3 : 2 * Bd * 2 ^ k ≤ 1000000 := by rw [Int.pow_succ, ← Int.mul_assoc] at hBk; rw [Int.mul_assoc]; omega
  unfold GivesW
  k_fill
  intro p loose mean mg mb A₀ dp un gd env outer base h₀ L m s Q E c oc ps B F hf hke XB TB CB hS N hd hu ret
  dsimp only [List.cons_append, List.nil_append] at N
  have S0 := Ap.worth ha hd9 hS.1
  have X := XB.keeps B.stays
  have T := TB.keeps B.stays
  refine wpAny_call ?_
  (refine' enterG_cells ?k1_zq ?k2_zq ?k3_zq ?k4_zq ?k5_zq ?kA_zq ?kF_zq ?kK_zq ?k6_zq ?k7_zq ?k8_zq ?k9_zq ?kB_zq ?kD_zq ?_ ?c2_zq ?c3_zq ?c4_zq; (case kA_zq => exact rfl); (case kF_zq => assumption); (case kK_zq => assumption); (case k1_zq => k_asm); (case k2_zq => k_asm); (case k3_zq => k_asm); (case k4_zq => k_asm); (case k5_zq => k_asm); (case k6_zq => k_is); (case k7_zq => k_is); (case k8_zq => walk_at "g_room"); (case k9_zq => exact BindsTo.of_eq rfl); (case kB_zq => exact rfl); (case kD_zq => decide +kernel); (case c2_zq => exact rfl); (case c3_zq => exact rfl); (case c4_zq => exact rfl); k_whole; intro g' L' h' tk' cells' F' N' Y' B' X' T' l1 lz lg; k_cells Y'; (try simp only [List.cons_append, List.nil_append] at N'); (first | (rename Ap _ => sA'; have sA' := ApB.of l1 sA' rfl) | (have sA' := ApB.start l1 rfl (by walk_at "g_sho"))); (first | replace sA' := Ap.nowB N' sA'.cell.cell.cell.cell rfl | replace sA' := Ap.nowB N' sA'.cell.cell.cell rfl | replace sA' := Ap.nowB N' sA'.cell.cell rfl | replace sA' := Ap.nowB N' sA'.cell rfl | replace sA' := Ap.nowB N' sA' rfl); (try dsimp only); (try k_fold))
  have o99 := hS.1
  have T0 := KtsTurn.refl (fs := framesOf (env :: outer)) (g := g')
  repeat' ((fail_if_success (with_reducible show codeAny _ _ (Code.compLoop _ _ _ _ _) _ _)); (first | ((with_reducible show wpAny _ _ (execs (_ :: _) _) _ _ _); k_fold; walk1) | ((with_reducible show wpAny _ _ (eval (Expr.ListComp _ _ _ _) _) _ _ _); k_fold; walk1) | (k_unfold; (try dsimp only)) | (refine hR9 _ _ ?_; try dsimp only) | (refine hR8 _ _ ?_; try dsimp only) | (k_end; wrow_close) | walk1 | (dsimp only; walk1) | (leave1; walk_say "STEP leave1"; try dsimp only) | fail "no step"))
  · rename (Fr _ L' _ _) => F9
    rename News _ L' _ _ => N9
    rename LCg.NsObj _ _ => C9
    rename KIt _ d 0 _ ep => I9
    have hln := hkv.len
    rw [hln] at I9
    refine WInv.loop (s0 := s) (d := d) (kv := kv) (ep := ep) (WInv.mk F9 N9 C9 I9) ?_
    clear F9 N9 C9 I9
    intro R9 hR9 i oI oC mC acc cnt h1 tk1 hi F9 N9 C9 I9 A9 al ih
    refine compL_step ?_
    rcases Nat.lt_or_ge i kv.length with hlt | hge
    · obtain ⟨kx, e0⟩ : ∃ p, kvs[i]? = some p := ⟨_, List.getElem?_eq_getElem (by omega)⟩
      obtain ⟨k9, x9, t9, rfl, e1⟩ := hkv.get e0
      have e2 := valueAt_get hD.nodup e0
      have hal : acc.length ≤ sizeLine := Nat.le_trans (by omega : acc.length ≤ 4) (by decide)
      repeat' ((fail_if_success (with_reducible show codeAny _ _ (Code.compLoop _ _ _ _ _) _ _)); (first | ((with_reducible show wpAny _ _ (execs (_ :: _) _) _ _ _); k_fold; walk1) | ((with_reducible show wpAny _ _ (eval (Expr.ListComp _ _ _ _) _) _ _ _); k_fold; walk1) | (k_unfold; (try dsimp only)) | (refine hR9 _ _ ?_; try dsimp only) | (refine hR8 _ _ ?_; try dsimp only) | (k_end; wrow_close) | walk1 | (dsimp only; walk1) | (leave1; walk_say "STEP leave1"; try dsimp only) | fail "no step"))
      refine ih _ _ (by omega) (WInv.next (by assumption) (by assumption) (by assumption) (by assumption) hlt e1 A9 al)
    · have e0 : kvs[i]? = none := List.getElem?_eq_none (by omega)
      have hi2 : i = kv.length := Nat.le_antisymm hi hge
      rw [hi2, List.take_length] at A9
      clear ih
      obtain ⟨k0, x0, kvr, rfl⟩ : ∃ k0 x0 r, kv = (k0, x0) :: r := by
        cases kv with
        | nil => exact absurd rfl hk0
        | cons p r => exact ⟨p.1, p.2, r, rfl⟩
      rw [List.map_cons] at A9
      cases A9 with
      | cons _ t0 A9 =>
      rename_i accr
      have hx0 : (Value.int x0 t0 :: accr).toArray[0]? = some (.int x0 t0) := by simp
      repeat' ((fail_if_success (with_reducible show codeAny _ _ (Code.compLoop _ _ _ _ _) _ _)); (fail_if_success (with_reducible show codeAny _ _ (Code.forLoop _ _ _ _ _) _ _)); (fail_if_success (with_reducible show wpAny _ _ (exec (Stmt.For _ _ _ _ _) _) _ _ _)); (first | ((with_reducible show wpAny _ _ (execs (_ :: _) _) _ _ _); k_fold; walk1) | ((with_reducible show wpAny _ _ (eval (Expr.ListComp _ _ _ _) _) _ _ _); k_fold; walk1) | (k_unfold; (try dsimp only)) | (refine hR9 _ _ ?_; try dsimp only) | (refine hR8 _ _ ?_; try dsimp only) | (k_end; wrow_close) | walk1 | (dsimp only; walk1) | (leave1; walk_say "STEP leave1"; try dsimp only) | fail "no step"))
      refine wpAny_For ?_ ?_
      rotate_left
      · intro _; rfl
      repeat' ((fail_if_success (with_reducible show codeAny _ _ (Code.forLoop _ _ _ _ _) _ _)); (first | ((with_reducible show wpAny _ _ (execs (_ :: _) _) _ _ _); k_fold; walk1) | ((with_reducible show wpAny _ _ (eval (Expr.ListComp _ _ _ _) _) _ _ _); k_fold; walk1) | (k_unfold; (try dsimp only)) | (refine hR9 _ _ ?_; try dsimp only) | (refine hR8 _ _ ?_; try dsimp only) | (k_end; wrow_close) | walk1 | (dsimp only; walk1) | (leave1; walk_say "STEP leave1"; try dsimp only) | fail "no step"))
      rename (Fr _ _ _ (fun y => if y = Str.ofString "value" then _ else _)) => F9
      rename LIt _ _ 1 => I9
      rename News _ _ _ ((_, _) :: (_, W.listOf (Value.int x0 t0 :: accr).toArray _) :: _) => N9
      refine RInv.loop (s0 := s) (xs := (x0 :: kvr.map (·.2))) (RInv.mk F9 N9 I9) ?_
      clear F9 N9 I9
      intro R9 hR9 i2 oI2 y ty e h2 tk2 hi2' h1i F9 N9 I9 hy ih
      have hlen := ints_len A9
      rcases Nat.lt_or_ge i2 (x0 :: kvr.map (·.2)).length with hlt2 | hge2
      · obtain ⟨v9, e0v⟩ : ∃ p, (Value.int x0 t0 :: accr)[i2]? = some p := ⟨_, List.getElem?_eq_getElem (by simp only [List.length_cons] at hlt2 ⊢; omega)⟩
        obtain ⟨x9, t9, rfl, e1⟩ := ints_get (IntsAre.cons x0 t0 A9) e0v
        have e2 := ItemAt.of e0v
        have hx9 : -1000000000 < x9 ∧ x9 < 1000000000 := by
          obtain ⟨p9, hp9, rfl⟩ := List.mem_map.mp (show x9 ∈ ((k0, x0) :: kvr).map (·.2) from List.mem_of_getElem? e1)
          have := hBd p9 hp9
          omega
        refine forLoop_step ?_
        repeat' ((fail_if_success (with_reducible show codeAny _ _ (Code.forLoop _ _ _ _ _) _ _)); (first | ((with_reducible show wpAny _ _ (execs (_ :: _) _) _ _ _); k_fold; walk1) | ((with_reducible show wpAny _ _ (eval (Expr.ListComp _ _ _ _) _) _ _ _); k_fold; walk1) | (k_unfold; (try dsimp only)) | (refine hR9 _ _ ?_; try dsimp only) | (refine hR8 _ _ ?_; try dsimp only) | (k_end; wrow_close) | walk1 | (dsimp only; walk1) | (leave1; walk_say "STEP leave1"; try dsimp only) | fail "no step"))
        refine ih _ _ (by omega) (RInv.next (by assumption) (by assumption) (by assumption) hy h1i e1 rfl)
      · have e0v : (Value.int x0 t0 :: accr)[i2]? = none := List.getElem?_eq_none (by simp only [List.length_cons] at hge2 ⊢; omega)
        have e2 := OffAt.of e0v
        refine forLoop_step ?_
        repeat' ((fail_if_success (with_reducible show codeAny _ _ (Code.forLoop _ _ _ _ _) _ _)); (first | ((with_reducible show wpAny _ _ (execs (_ :: _) _) _ _ _); k_fold; walk1) | ((with_reducible show wpAny _ _ (eval (Expr.ListComp _ _ _ _) _) _ _ _); k_fold; walk1) | (k_unfold; (try dsimp only)) | (refine hR9 _ _ ?_; try dsimp only) | (refine hR8 _ _ ?_; try dsimp only) | (k_end; wrow_close) | walk1 | (dsimp only; walk1) | (leave1; walk_say "STEP leave1"; try dsimp only) | fail "no step"))
        rename TabS _ _ _ => S9
        rename KtsTurn _ _ _ => T9
        rename (_ = c ∨ _) => c9
        refine backW N T9 (by assumption) (by assumption) S9 (by k_mem) (by k_mem) (by k_mem) (by k_mem) (by k_mem) (fun Tn hg1 hg2 => ?_)
        show Q _ _
        refine ret _ _ _ _ _ _ S9 Tn hg1 hg2 (c9.imp id fun q9 => ?_) ⟨ty, ?_⟩
        · rw [lz]
          exact Nat.le_of_lt (Nat.lt_of_succ_lt (q9 (L' + 1, _) (by k_mem)))
        · rename (decide (fil es [0, 5, 10, 15] = []) = true) => hnil
          have hnil' := of_decide_eq_true hnil
          have hi3 : i2 = (x0 :: kvr.map (·.2)).length := Nat.le_antisymm hi2' hge2
          rw [hy, hi3, List.take_length]
          unfold worth
          rw [hnil']
          rfl
  · rename (decide (fil es [0, 5, 10, 15] = []) = false) => hnil
    rename IntsAre _ (fil es [0, 5, 10, 15]) => A9
    have hcons := of_decide_eq_false hnil
    obtain ⟨e0, r0, hfil⟩ : ∃ e r, fil es [0, 5, 10, 15] = e :: r := by
      cases hq : fil es [0, 5, 10, 15] with
      | nil => exact absurd hq hcons
      | cons e r => exact ⟨e, r, rfl⟩
    rw [hfil] at A9
    cases A9 with
    | cons _ t0 A9 =>
    rename_i accr
    repeat' ((fail_if_success (with_reducible show codeAny _ _ (Code.compLoop _ _ _ _ _) _ _)); (first | ((with_reducible show wpAny _ _ (execs (_ :: _) _) _ _ _); k_fold; walk1) | ((with_reducible show wpAny _ _ (eval (Expr.ListComp _ _ _ _) _) _ _ _); k_fold; walk1) | (k_unfold; (try dsimp only)) | (refine hR9 _ _ ?_; try dsimp only) | (refine hR8 _ _ ?_; try dsimp only) | (k_end; wrow_close) | walk1 | (dsimp only; walk1) | (leave1; walk_say "STEP leave1"; try dsimp only) | fail "no step"))
    rename (Fr _ L' _ _) => F9
    rename News _ L' _ _ => N9
    rename LCg.NsObj _ _ => C9
    rename LIt _ _ 0 => I9
    rename IntsAre _ (fil (e0 :: r0) _) => A8
    have hmem : ∀ x ∈ e0 :: r0, x ∈ fil es [0, 5, 10, 15] := fun x hx => hfil ▸ hx
    have hall : ∀ x ∈ fil (e0 :: r0) [4 * (e0 / 4) + e0 % 4, 4 * (e0 % 4) + e0 / 4], 0 ≤ x ∧ x ≤ 15 := fun x hx => by
      have := (hfit x (fil_mem.mp (hmem x (fil_mem.mp hx).1)).1).1
      unfold Edge at this; omega
    have hE0 := (hfit e0 (fil_mem.mp (hmem e0 (.head _))).1)
    have hnear := hE0.2.1
    have hfar := hE0.2.2
    have hq0 : 0 ≤ e0 / 4 := by have := hE0.1; unfold Edge at this; omega
    have hq1 : e0 / 4 ≤ 3 := by have := hE0.1; unfold Edge at this; omega
    have hlen8 := ints_len A8
    refine LInv.loop (s0 := s) (xs := (fil (e0 :: r0) [4 * (e0 / 4) + e0 % 4, 4 * (e0 % 4) + e0 / 4])) (f := (drawOne (e0 / 4) (e0 % 4))) (LInv.mk F9 N9 C9 I9) ?_
    clear F9 N9 C9 I9
    intro R9 hR9 i oI oC mC acc cnt h1 tk1 hi F9 N9 C9 I9 A7 al ih
    refine compL_step ?_
    rcases Nat.lt_or_ge i (fil (e0 :: r0) [4 * (e0 / 4) + e0 % 4, 4 * (e0 % 4) + e0 / 4]).length with hlt | hge
    · obtain ⟨v9, e0v⟩ : ∃ p, _ = some p := ⟨_, List.getElem?_eq_getElem (hlen8 ▸ hlt)⟩
      obtain ⟨x9, t9, rfl, e1⟩ := ints_get A8 e0v
      have e2 := ItemAt.of e0v
      have hx0 : 0 ≤ x9 := (hall x9 (List.mem_of_getElem? e1)).1
      have hx1 : x9 ≤ 15 := (hall x9 (List.mem_of_getElem? e1)).2
      have hal : acc.length ≤ sizeLine := Nat.le_trans (by omega : acc.length ≤ 64) (by decide)
      repeat' ((fail_if_success (with_reducible show codeAny _ _ (Code.compLoop _ _ _ _ _) _ _)); (first | ((with_reducible show wpAny _ _ (execs (_ :: _) _) _ _ _); k_fold; walk1) | ((with_reducible show wpAny _ _ (eval (Expr.ListComp _ _ _ _) _) _ _ _); k_fold; walk1) | (k_unfold; (try dsimp only)) | (refine hR9 _ _ ?_; try dsimp only) | (refine hR8 _ _ ?_; try dsimp only) | (k_end; wrow_close) | walk1 | (dsimp only; walk1) | (leave1; walk_say "STEP leave1"; try dsimp only) | fail "no step"))
      all_goals refine ih _ _ (by omega) (LInv.next (by assumption) (by assumption) (by assumption) (by assumption) e1 A7 al ?_)
      · exact drawn_tt (by assumption) (by assumption)
      · exact drawn_tf (by assumption) (by assumption)
      · exact drawn_ft (by assumption) (by assumption)
      · exact drawn_ff (by assumption) (by assumption)
    · have e0v : _ = none := List.getElem?_eq_none (hlen8 ▸ hge)
      have e2 := OffAt.of e0v
      have hi2 := Nat.le_antisymm hi hge
      rw [hi2, List.take_length] at A7
      clear ih
      repeat' ((fail_if_success (with_reducible show codeAny _ _ (Code.compLoop _ _ _ _ _) _ _)); (first | ((with_reducible show wpAny _ _ (execs (_ :: _) _) _ _ _); k_fold; walk1) | ((with_reducible show wpAny _ _ (eval (Expr.ListComp _ _ _ _) _) _ _ _); k_fold; walk1) | (k_unfold; (try dsimp only)) | (refine hR9 _ _ ?_; try dsimp only) | (refine hR8 _ _ ?_; try dsimp only) | (k_end; wrow_close) | walk1 | (dsimp only; walk1) | (leave1; walk_say "STEP leave1"; try dsimp only) | fail "no step"))
      rename (Fr _ L' _ _) => F9
      rename News _ L' _ _ => N9
      rename LCg.NsObj _ (fun _ => none) => C9
      rename KIt _ d 0 _ ep => I9
      rename DictIs _ _ _ [] _ => D9
      have hln := hkv.len
      rw [hln] at I9
      obtain ⟨tf, ef⟩ := valueAt_lk hkv hfar
      refine BInv.loop (prog := Challenge.rw_kt0001_01.row.prog) (w := w) (s0 := s) (d := d) (kv := kv) (n0 := (e0 / 4)) (f0 := (e0 % 4)) (v0 := (lk (e0 % 4) kv)) (ep := ep) (BInv.mk F9 N9 C9 I9 D9) ?_
      clear F9 N9 C9 I9 D9
      intro R9 hR9 i3 oI3 oC3 mC3 oD3 kvs3 ep3 h3 tk3 hi3 F9 N9 C9 I9 D9 K9 ih
      refine compD_step ?_
      rcases Nat.lt_or_ge i3 kv.length with hlt | hge
      · obtain ⟨kx, e0v⟩ : ∃ p, kvs[i3]? = some p := ⟨_, List.getElem?_eq_getElem (by omega)⟩
        obtain ⟨k9, x9, t9, rfl, e1⟩ := hkv.get e0v
        have e2 := valueAt_get hD.nodup e0v
        have hfr := bothV_fresh (hkv.keys ▸ hD.nodup) e1 K9
        have hkz : kvs3.length ≤ 1000 := by
          have h1 := K9.len
          have h2 : (bothV (e0 / 4) (e0 % 4) (lk (e0 % 4) kv) (kv.take i3)).length ≤ (kv.take i3).length := by
            unfold bothV
            rw [List.length_map]
            exact List.length_filter_le ..
          rw [List.length_take] at h2
          omega
        repeat' ((fail_if_success (with_reducible show codeAny _ _ (Code.compLoop _ _ _ _ _) _ _)); (first | ((with_reducible show wpAny _ _ (execs (_ :: _) _) _ _ _); k_fold; walk1) | ((with_reducible show wpAny _ _ (eval (Expr.ListComp _ _ _ _) _) _ _ _); k_fold; walk1) | (k_unfold; (try dsimp only)) | (refine hR9 _ _ ?_; try dsimp only) | (refine hR8 _ _ ?_; try dsimp only) | (k_end; wrow_close) | walk1 | (dsimp only; walk1) | (leave1; walk_say "STEP leave1"; try dsimp only) | fail "no step"))
        cases hb : (k9 != e0 % 4) with
        | false =>
          dsimp only
          have hkf : k9 = e0 % 4 := by simpa using hb
          refine ih _ _ (by omega) (BInv.skip (by assumption) (by assumption) (by assumption) (by assumption) e1 D9 K9 hkf)
        | true =>
          dsimp only
          have hkf : k9 ≠ e0 % 4 := by simpa using hb
          repeat' ((fail_if_success (with_reducible show codeAny _ _ (Code.compLoop _ _ _ _ _) _ _)); (first | ((with_reducible show wpAny _ _ (execs (_ :: _) _) _ _ _); k_fold; walk1) | ((with_reducible show wpAny _ _ (eval (Expr.ListComp _ _ _ _) _) _ _ _); k_fold; walk1) | (k_unfold; (try dsimp only)) | (refine hR9 _ _ ?_; try dsimp only) | (refine hR8 _ _ ?_; try dsimp only) | (k_end; wrow_close) | walk1 | (dsimp only; walk1) | (leave1; walk_say "STEP leave1"; try dsimp only) | fail "no step"))
          all_goals refine ih _ _ (by omega) (BInv.next (by assumption) (by assumption) (by assumption) (by assumption) e1 (by assumption) K9 hkf ?_)
          · rw [if_pos (by assumption)]
          · rw [if_neg (by assumption)]
      · have e0v : kvs[i3]? = none := List.getElem?_eq_none (by omega)
        have hi4 := Nat.le_antisymm hi3 hge
        rw [hi4, List.take_length] at K9
        clear ih
        repeat' ((fail_if_success (with_reducible show wpAny _ _ (call (Value.ref 102) _) _ _ _)); (first | ((with_reducible show wpAny _ _ (execs (_ :: _) _) _ _ _); k_fold; walk1) | ((with_reducible show wpAny _ _ (eval (Expr.ListComp _ _ _ _) _) _ _ _); k_fold; walk1) | (k_unfold; (try dsimp only)) | (refine hR9 _ _ ?_; try dsimp only) | (refine hR8 _ _ ?_; try dsimp only) | (k_end; wrow_close) | walk1 | (dsimp only; walk1) | (leave1; walk_say "STEP leave1"; try dsimp only) | fail "no step"))
        have hrl := rest_lt (e := e0) (r := r0)
        have hl1 : (e0 :: r0).length ≤ es.length := by rw [← hfil]; exact List.length_filter_le ..
        rename (Fr _ L' _ _) => Fz
        have hsz1 := Fz.ns.lt
        walk_at "g_apnow"
        refine' givesW_use (ihk Bd _ _ _ _ _ _ _ _ _ A8 hD hkv ?hz_zq hk4 hk0 hBd hB0 ?hB_zq (fun x hx => hfit x (fil_mem.mp (hmem x (fil_mem.mp hx).1)).1) ?hl_zq ?ha_zq hd9) ?B_zq ?T0_zq ?F_zq ?f_zq ?k_zq XB TB CB ?N_zq ?S_zq ?U_zq ?s_zq ?d_zq ?u_zq ?_
        case hz_zq => assumption
        case hB_zq => exact hB2
        case hl_zq => omega
        case ha_zq => walk_at "g_ltm"
        case B_zq => k_asm
        case T0_zq => assumption
        case F_zq => k_asm
        case f_zq => exact rfl
        case k_zq => exact rfl
        case N_zq => k_asm
        case U_zq => k_updF
        case S_zq => assumption
        case s_zq => kcj_all
        case d_zq => walk_at "g_room"
        case u_zq => walk_at "g_room"
        k_whole
        intro g2' r2' h2' tk2' c2' oc2' ps2' T02' B2' F2' N2' X2' T2' S2' hc2' hn2' hp2'
        obtain ⟨t2', rfl⟩ := hp2'
        try dsimp only at N2'
        (rename Ap _ => sA'; replace sA' := Ap.call2 sA' (by walk_at "g_shc") hn2' rfl)
        k_sweep
        have o992 := S2'.1
        have hrl1 : ((e0 :: r0).length : Int) ≤ 64 := by
          have := ints_len hI
          omega
        have hrl2 : ((fil (e0 :: r0) [4 * (e0 / 4) + e0 % 4, 4 * (e0 % 4) + e0 / 4]).length : Int) < ((e0 :: r0).length : Int) := by omega
        repeat' ((fail_if_success (with_reducible show wpAny _ _ (call (Value.ref 102) _) _ _ _)); (first | ((with_reducible show wpAny _ _ (execs (_ :: _) _) _ _ _); k_fold; walk1) | ((with_reducible show wpAny _ _ (eval (Expr.ListComp _ _ _ _) _) _ _ _); k_fold; walk1) | (k_unfold; (try dsimp only)) | (refine hR9 _ _ ?_; try dsimp only) | (refine hR8 _ _ ?_; try dsimp only) | (k_end; wrow_close) | walk1 | (dsimp only; walk1) | (leave1; walk_say "STEP leave1"; try dsimp only) | fail "no step"))
        have hfd := fits_drawn hfil hfit
        have hlk9 := lk_bd hB0 hfar hBd
        have hsz2 := F2'.ns.lt
        walk_at "g_apnow"
        refine' givesW_use (ihk (2 * Bd) _ _ _ _ _ _ _ _ _ A7 D9 K9 ?hz_zq (Nat.le_trans (bothV_len _ _ _ _) hk4) (bothV_ne hnear hfd.2) (bothV_bd hB0 hlk9 hBd) ?h2_zq hB3 hfd.1 ?hl_zq ?ha_zq ?hd9_zq) ?B_zq ?T0_zq ?F_zq ?f_zq ?k_zq XB TB CB ?N_zq ?S_zq ?U_zq ?s_zq ?d_zq ?u_zq ?_
        case hz_zq => omega
        case h2_zq => omega
        case hl_zq => rw [List.length_map]; omega
        case ha_zq => walk_at "g_ltm"
        case hd9_zq => walk_at "g_ltm"
        case B_zq => k_asm
        case T0_zq => assumption
        case F_zq => k_asm
        case f_zq => exact rfl
        case k_zq => exact rfl
        case N_zq => k_asm
        case U_zq => k_updF
        case S_zq => assumption
        case s_zq => kcj_all
        case d_zq => walk_at "g_room"
        case u_zq => walk_at "g_room"
        k_whole
        intro g3' r3' h3' tk3' c3' oc3' ps3' T03' B3' F3' N3' X3' T3' S3' hc3' hn3' hp3'
        obtain ⟨t3', rfl⟩ := hp3'
        try dsimp only at N3'
        (rename Ap _ => sA'; replace sA' := Ap.call2 sA' (by walk_at "g_shc") hn3' rfl)
        k_sweep
        have o993 := S3'.1
        repeat' ((fail_if_success (with_reducible show BackG _ _ _ _ _ _ _)); (first | ((with_reducible show wpAny _ _ (execs (_ :: _) _) _ _ _); k_fold; walk1) | ((with_reducible show wpAny _ _ (eval (Expr.ListComp _ _ _ _) _) _ _ _); k_fold; walk1) | (k_unfold; (try dsimp only)) | (refine hR9 _ _ ?_; try dsimp only) | (refine hR8 _ _ ?_; try dsimp only) | (k_end; wrow_close) | walk1 | (dsimp only; walk1) | (leave1; walk_say "STEP leave1"; try dsimp only) | fail "no step"))
        dsimp only at hc2' hc3' hsz1 hsz2
        refine backW N T03' (by assumption) (by assumption) S3' (by k_mem) (by k_mem) (by k_mem) (by k_mem) (by k_mem) (fun Tn hg1 hg2 => ?_)
        show Q _ _
        refine ret _ _ _ _ _ _ S3' Tn hg1 hg2 ?_ ⟨_, congrArg (fun x => Value.int x _) (worth_cons hfil)⟩
        rw [lz]
        rcases hc3' with rfl | q
        · exact hc2'.imp id fun q => Nat.le_of_lt (Nat.lt_of_lt_of_le hsz1 q)
        · exact .inr (Nat.le_of_lt (Nat.lt_of_lt_of_le hsz2 q))

theorem setupB1 : True := by
  w_top off
  k_with_none
  k_with "g_room" => (first
      | ((try simp only [depth_under_make, depth_under_kw, depth_in1, depth_deeper, depth_caller]); (try dsimp only); omega)
      | ((try simp only [depth_under_make, depth_under_kw, depth_in1, depth_deeper, depth_caller] at *); (try dsimp only at *); omega))
  k_with "g_plain" => ((refine' enter_plain ?k1_zB11 ?k2_zB11 ?k3_zB11 ?k4_zB11 ?k5_zB11 ?kA_zB11 ?kF_zB11 ?kK_zB11 ?k6_zB11 ?k7_zB11 ?k8_zB11 ?k9_zB11 ?kB_zB11 ?_ ?c2_zB11 ?c3_zB11 ?c4_zB11 ?c5_zB11; (case kA_zB11 => exact rfl); (case kF_zB11 => assumption); (case kK_zB11 => assumption); (case k1_zB11 => k_asm); (case k2_zB11 => k_asm); (case k3_zB11 => k_asm); (case k4_zB11 => k_asm); (case k5_zB11 => k_asm); (case k6_zB11 => k_is); (case k7_zB11 => k_is); (case k8_zB11 => walk_at "g_room"); (case k9_zB11 => exact BindsTo.of_eq rfl); (case c5_zB11 => decide); (case kB_zB11 => exact locs rfl); (case c2_zB11 => exact rfl); (case c3_zB11 => exact rfl); (case c4_zB11 => exact rfl); k_whole; intro g'w L'w h'w F'w N'w B'w X'w T'w l1w lzw lgw; (first | (rename Ap _ => sA'w; have sA'w := (ApB.of l1w sA'w rfl).1) | (have sA'w := (ApB.start l1w rfl (by walk_at "g_sho")).1)); (try dsimp only); (try k_fold)))
  k_with "g_cellsS" => ((refine' enterS_cells ?k1_zB12 ?k2_zB12 ?k3_zB12 ?k4_zB12 ?k5_zB12 ?kA_zB12 ?kF_zB12 ?kK_zB12 ?k6_zB12 ?k7_zB12 ?k8_zB12 ?k9_zB12 ?kB_zB12 ?kD_zB12 ?_ ?c2_zB12 ?c3_zB12 ?c4_zB12; (case kA_zB12 => exact rfl); (case kF_zB12 => assumption); (case kK_zB12 => assumption); (case k1_zB12 => k_asm); (case k2_zB12 => k_asm); (case k3_zB12 => k_asm); (case k4_zB12 => k_asm); (case k5_zB12 => k_asm); (case k6_zB12 => k_is); (case k7_zB12 => k_is); (case k8_zB12 => walk_at "g_room"); (case k9_zB12 => exact BindsTo.of_eq rfl); (case kB_zB12 => exact rfl); (case kD_zB12 => decide +kernel); (case c2_zB12 => exact rfl); (case c3_zB12 => exact rfl); (case c4_zB12 => exact rfl); k_whole; intro g'w L'w h'w tk'w cells'w F'w N'w Y'w B'w X'w T'w l1w lzw lgw; k_cells Y'w; (try simp only [List.cons_append, List.nil_append] at N'w); (first | (rename Ap _ => sA'w; have sA'w := ApB.of l1w sA'w rfl) | (have sA'w := ApB.start l1w rfl (by walk_at "g_sho"))); (first | replace sA'w := Ap.nowB N'w sA'w.cell.cell.cell.cell rfl | replace sA'w := Ap.nowB N'w sA'w.cell.cell.cell rfl | replace sA'w := Ap.nowB N'w sA'w.cell.cell rfl | replace sA'w := Ap.nowB N'w sA'w.cell rfl | replace sA'w := Ap.nowB N'w sA'w rfl); (try dsimp only); (try k_fold)))
  k_with "g_plainS" => ((refine' enterS_plain ?k1_zB13 ?k2_zB13 ?k3_zB13 ?k4_zB13 ?k5_zB13 ?kA_zB13 ?kF_zB13 ?kK_zB13 ?k6_zB13 ?k7_zB13 ?k8_zB13 ?k9_zB13 ?kB_zB13 ?_ ?c2_zB13 ?c3_zB13 ?c4_zB13 ?c5_zB13; (case kA_zB13 => exact rfl); (case kF_zB13 => assumption); (case kK_zB13 => assumption); (case k1_zB13 => k_asm); (case k2_zB13 => k_asm); (case k3_zB13 => k_asm); (case k4_zB13 => k_asm); (case k5_zB13 => k_asm); (case k6_zB13 => k_is); (case k7_zB13 => k_is); (case k8_zB13 => walk_at "g_room"); (case k9_zB13 => exact BindsTo.of_eq rfl); (case c5_zB13 => decide); (case kB_zB13 => exact locs rfl); (case c2_zB13 => exact rfl); (case c3_zB13 => exact rfl); (case c4_zB13 => exact rfl); k_whole; intro g'w L'w h'w F'w N'w B'w X'w T'w l1w lzw lgw; (first | (rename Ap _ => sA'w; have sA'w := (ApB.of l1w sA'w rfl).1) | (have sA'w := (ApB.start l1w rfl (by walk_at "g_sho")).1)); (try dsimp only); (try k_fold)))
  k_with "g_own" => ((refine' code_def ?k1_zB14 ?k2_zB14 ?k3_zB14 ?k4_zB14 ?k5_zB14 ?kA_zB14 ?kF_zB14 ?kK_zB14 ?k6_zB14 ?k7_zB14 ?k8_zB14 ?k9_zB14 ?kB_zB14 ?_ ?c2_zB14 ?c3_zB14 ?c4_zB14 ?c5_zB14; (case kA_zB14 => exact rfl); (case kF_zB14 => assumption); (case kK_zB14 => assumption); (case k1_zB14 => k_asm); (case k2_zB14 => k_asm); (case k3_zB14 => k_asm); (case k4_zB14 => k_asm); (case k5_zB14 => k_asm); (case k6_zB14 => k_is); (case k7_zB14 => k_is); (case k8_zB14 => walk_at "g_room"); (case k9_zB14 => exact BindsTo.of_eq rfl); (case c5_zB14 => decide); (case kB_zB14 => exact locs rfl); (case c2_zB14 => exact rfl); (case c3_zB14 => exact rfl); (case c4_zB14 => exact rfl); k_whole; intro g'w L'w h'w FG'w F'w N'w B'w X'w T'w; (try dsimp only); (try k_fold)))
  k_with "g_cells" => ((refine' enter_cells ?k1_zB15 ?k2_zB15 ?k3_zB15 ?k4_zB15 ?k5_zB15 ?kA_zB15 ?kF_zB15 ?kK_zB15 ?k6_zB15 ?k7_zB15 ?k8_zB15 ?k9_zB15 ?kB_zB15 ?kD_zB15 ?_ ?c2_zB15 ?c3_zB15 ?c4_zB15; (case kA_zB15 => exact rfl); (case kF_zB15 => assumption); (case kK_zB15 => assumption); (case k1_zB15 => k_asm); (case k2_zB15 => k_asm); (case k3_zB15 => k_asm); (case k4_zB15 => k_asm); (case k5_zB15 => k_asm); (case k6_zB15 => k_is); (case k7_zB15 => k_is); (case k8_zB15 => walk_at "g_room"); (case k9_zB15 => exact BindsTo.of_eq rfl); (case kB_zB15 => exact rfl); (case kD_zB15 => decide +kernel); (case c2_zB15 => exact rfl); (case c3_zB15 => exact rfl); (case c4_zB15 => exact rfl); k_whole; intro g'w L'w h'w tk'w cells'w F'w N'w Y'w B'w X'w T'w l1w lzw lgw; k_cells Y'w; (try simp only [List.cons_append, List.nil_append] at N'w); (first | (rename Ap _ => sA'w; have sA'w := ApB.of l1w sA'w rfl) | (have sA'w := ApB.start l1w rfl (by walk_at "g_sho"))); (first | replace sA'w := Ap.nowB N'w sA'w.cell.cell.cell.cell rfl | replace sA'w := Ap.nowB N'w sA'w.cell.cell.cell rfl | replace sA'w := Ap.nowB N'w sA'w.cell.cell rfl | replace sA'w := Ap.nowB N'w sA'w.cell rfl | replace sA'w := Ap.nowB N'w sA'w rfl); (try dsimp only); (try k_fold)))
  k_with "g_cellsG" => ((refine' enterG_cells ?k1_zB16 ?k2_zB16 ?k3_zB16 ?k4_zB16 ?k5_zB16 ?kA_zB16 ?kF_zB16 ?kK_zB16 ?k6_zB16 ?k7_zB16 ?k8_zB16 ?k9_zB16 ?kB_zB16 ?kD_zB16 ?_ ?c2_zB16 ?c3_zB16 ?c4_zB16; (case kA_zB16 => exact rfl); (case kF_zB16 => assumption); (case kK_zB16 => assumption); (case k1_zB16 => k_asm); (case k2_zB16 => k_asm); (case k3_zB16 => k_asm); (case k4_zB16 => k_asm); (case k5_zB16 => k_asm); (case k6_zB16 => k_is); (case k7_zB16 => k_is); (case k8_zB16 => walk_at "g_room"); (case k9_zB16 => exact BindsTo.of_eq rfl); (case kB_zB16 => exact rfl); (case kD_zB16 => decide +kernel); (case c2_zB16 => exact rfl); (case c3_zB16 => exact rfl); (case c4_zB16 => exact rfl); k_whole; intro g'w L'w h'w tk'w cells'w F'w N'w Y'w B'w X'w T'w l1w lzw lgw; k_cells Y'w; (try simp only [List.cons_append, List.nil_append] at N'w); (first | (rename Ap _ => sA'w; have sA'w := ApB.of l1w sA'w rfl) | (have sA'w := ApB.start l1w rfl (by walk_at "g_sho"))); (first | replace sA'w := Ap.nowB N'w sA'w.cell.cell.cell.cell rfl | replace sA'w := Ap.nowB N'w sA'w.cell.cell.cell rfl | replace sA'w := Ap.nowB N'w sA'w.cell.cell rfl | replace sA'w := Ap.nowB N'w sA'w.cell rfl | replace sA'w := Ap.nowB N'w sA'w rfl); (try dsimp only); (try k_fold)))
  k_with "g_del" => (first | (refine' Del.head ?a_zB17; (case a_zB17 => k_all)) | (refine' Del.tail ?a_zB17 ?b_zB17; (case a_zB17 => k_ne); (case b_zB17 => walk_at "g_del")))
  k_with "g_self" => ((intro _ _ hqw; first | exact self_list (by k_asm) (by k_mem) (by assumption) hqw | exact self_range (by k_asm) (by k_mem) hqw | exact self_D (by k_asm) (by k_mem) (by assumption) hqw))
  k_with "codeAny" => (first
      | ((with_reducible show codeAny _ _ (Code.forLoop _ _ _ _ _) _ _); refine forLoop_step ?_)
      | ((with_reducible show codeAny _ _ (Code.compLoop (Expr.ListComp _ _ _ _) _ _ _ _) _ _); refine compL_step ?_)
      | ((with_reducible show codeAny _ _ (Code.compStart (Expr.ListComp _ _ _ _) _ _ _ _) _ _); k_dflt (refine compL_start (by walk_at "g_self") ?_))
      | ((with_reducible show codeAny _ _ (Code.compLoop (Expr.DictComp _ _ _ _ _) _ _ _ _) _ _); refine compD_step ?_)
      | ((with_reducible show codeAny _ _ (Code.compStart (Expr.DictComp _ _ _ _ _) _ _ _ _) _ _); k_dflt (refine compD_start (by walk_at "g_self") ?_)))
  k_with "FlTurn" => ((dsimp only [FlTurn]))
  k_with "FlFlow" => ((dsimp only [FlFlow]))
  k_with "letOwnedTupleGo" => ((refine wpAny_of_eq (a := ()) rfl ?_))
  k_with "assign Name" => ((refine wpAny_assign_Name ?_))
  k_with "g_item" => (first | with_reducible assumption | exact ItemAt.zero | exact (ItemAt.succ ItemAt.zero) | exact (ItemAt.succ (ItemAt.succ ItemAt.zero)) | exact (ItemAt.succ (ItemAt.succ (ItemAt.succ ItemAt.zero))) | exact (ItemAt.succ (ItemAt.succ (ItemAt.succ (ItemAt.succ ItemAt.zero)))) | exact (ItemAt.succ (ItemAt.succ (ItemAt.succ (ItemAt.succ (ItemAt.succ ItemAt.zero))))) | exact (ItemAt.succ (ItemAt.succ (ItemAt.succ (ItemAt.succ (ItemAt.succ (ItemAt.succ ItemAt.zero)))))) | exact (ItemAt.succ (ItemAt.succ (ItemAt.succ (ItemAt.succ (ItemAt.succ (ItemAt.succ (ItemAt.succ ItemAt.zero))))))) | exact (ItemAt.succ (ItemAt.succ (ItemAt.succ (ItemAt.succ (ItemAt.succ (ItemAt.succ (ItemAt.succ (ItemAt.succ ItemAt.zero)))))))))
  k_with "g_off" => (first | with_reducible assumption | exact OffAt.nil | exact (OffAt.succ OffAt.nil) | exact (OffAt.succ (OffAt.succ OffAt.nil)) | exact (OffAt.succ (OffAt.succ (OffAt.succ OffAt.nil))) | exact (OffAt.succ (OffAt.succ (OffAt.succ (OffAt.succ OffAt.nil)))) | exact (OffAt.succ (OffAt.succ (OffAt.succ (OffAt.succ (OffAt.succ OffAt.nil))))) | exact (OffAt.succ (OffAt.succ (OffAt.succ (OffAt.succ (OffAt.succ (OffAt.succ OffAt.nil)))))) | exact (OffAt.succ (OffAt.succ (OffAt.succ (OffAt.succ (OffAt.succ (OffAt.succ (OffAt.succ OffAt.nil))))))) | exact (OffAt.succ (OffAt.succ (OffAt.succ (OffAt.succ (OffAt.succ (OffAt.succ (OffAt.succ (OffAt.succ OffAt.nil)))))))))
  k_with "call builtin:list.append" => ((k_here; (with_reducible show wpAny _ _ (call (Value.builtin _) [Value.ref _, _]) _ _ _); k_dflt (refine' append_L ?k1_zB116 ?k2_zB116 ?k3_zB116 ?_ ?z_zB116; (case k1_zB116 => k_asm); (case k2_zB116 => k_asm); (case k3_zB116 => k_upd); (case z_zB116 => first | with_reducible assumption | (simp [sizeLine]; done)); k_whole); intro h'w F'w N'w; (try simp only [List.nil_append, List.cons_append] at N'w); (try k_sweep)))
  k_with "g_num" => (first | ((simp only [Int.reduceAdd, Int.reduceSub]); first | done | rfl) | rfl)
  k_with "g_conj" => ((repeat (with_reducible rename (_ ∧ _) => hcj; have hcj1 := hcj.1; have hcj2 := hcj.2; clear hcj)))
  k_with "g_ne" => (((refine neN ?_); (try dsimp only); first | exact Nat.ne_of_lt (by with_reducible assumption) | exact Nat.ne_of_gt (by with_reducible assumption) | omega))
  k_with "pyNext ref" => ((k_here; (walk_at "g_conj"); k_dflt (first
      | (refine' next_range ?F_zB120 ?N_zB120 ?m_zB120 ?l_zB120 ?x_zB120 ?y_zB120 ?U_zB120 ?_; (case F_zB120 => k_asm); (case N_zB120 => k_asm); (case m_zB120 => k_mem); (case l_zB120 => first | decide | omega); (case x_zB120 => walk_at "g_num"); (case y_zB120 => walk_at "g_num"); (case U_zB120 => k_updF); k_whole; intro h'w F'w N'w; (try dsimp only at N'w); (try k_sweep))
      | (refine' next_range_end ?hh_zB120 ?F_zB120 ?N_zB120 ?m_zB120 ?D_zB120 ?l_zB120 ?_; (case hh_zB120 => rfl); (case F_zB120 => k_asm); (case N_zB120 => k_asm); (case m_zB120 => k_mem); (case l_zB120 => first | decide | omega); (case D_zB120 => walk_at "g_del"); k_whole; intro h'w F'w N'w; (try dsimp only at N'w); (try k_sweep))
      | (refine' next_list ?F_zB120 ?N_zB120 ?mI_zB120 ?I_zB120 ?U_zB120 ?m_zB120 ?x_zB120 ?_; (case F_zB120 => k_asm); (case N_zB120 => k_asm); (case mI_zB120 => k_mem); (case I_zB120 => assumption); (case m_zB120 => k_mem); (case x_zB120 => walk_at "g_item"); (case U_zB120 => k_updF); k_whole; intro h'w o'w F'w N'w hI'w; (try dsimp only at N'w); (try k_sweep))
      | (refine' next_list_end ?hh_zB120 ?F_zB120 ?N_zB120 ?I_zB120 ?mI_zB120 ?m_zB120 ?x_zB120 ?D_zB120 ?_; (case hh_zB120 => rfl); (case F_zB120 => k_asm); (case N_zB120 => k_asm); (case mI_zB120 => k_mem); (case I_zB120 => assumption); (case m_zB120 => k_mem); (case x_zB120 => walk_at "g_off"); (case D_zB120 => walk_at "g_del"); k_whole; intro h'w F'w N'w; (try dsimp only at N'w); (try k_sweep))
      | (refine' next_tuple ?F_zB120 ?N_zB120 ?mI_zB120 ?I_zB120 ?U_zB120 ?m_zB120 ?x_zB120 ?_; (case F_zB120 => k_asm); (case N_zB120 => k_asm); (case mI_zB120 => k_mem); (case I_zB120 => assumption); (case m_zB120 => k_mem); (case x_zB120 => walk_at "g_item"); (case U_zB120 => k_updF); k_whole; intro h'w o'w F'w N'w hI'w; (try dsimp only at N'w); (try k_sweep))
      | (refine' next_tuple_end ?hh_zB120 ?F_zB120 ?N_zB120 ?I_zB120 ?mI_zB120 ?m_zB120 ?x_zB120 ?D_zB120 ?_; (case hh_zB120 => rfl); (case F_zB120 => k_asm); (case N_zB120 => k_asm); (case mI_zB120 => k_mem); (case I_zB120 => assumption); (case m_zB120 => k_mem); (case x_zB120 => walk_at "g_off"); (case D_zB120 => walk_at "g_del"); k_whole; intro h'w F'w N'w; (try dsimp only at N'w); (try k_sweep)))))
  k_with "pyIter ref" => ((k_here; k_dflt (first
      | (refine' iter_range ?F_zB121 ?N_zB121 ?r_zB121 ?s_zB121 ?n_zB121 ?_; (case F_zB121 => k_asm); (case N_zB121 => k_asm); (case r_zB121 => assumption); (case s_zB121 => rfl); (case n_zB121 => (simp [Builtin.Range.rangeSize]; rfl)); k_whole; intro I'w h'w F'w N'w l1w; (try k_lt l1w); (try k_sweep))
      | (refine' iter_list ?F_zB121 ?N_zB121 ?m_zB121 ?_; (case F_zB121 => k_asm); (case N_zB121 => k_asm); (case m_zB121 => k_mem); k_whole; intro I'w o'w h'w F'w N'w hI'w l1w; (try k_lt l1w); (try k_sweep))
      | (refine' iter_tuple ?F_zB121 ?N_zB121 ?m_zB121 ?_; (case F_zB121 => k_asm); (case N_zB121 => k_asm); (case m_zB121 => k_mem); k_whole; intro I'w o'w h'w F'w N'w hI'w l1w; (try k_lt l1w); (try k_sweep)))))
  k_with "CTurnL" => ((dsimp only [CTurnL]))
  k_with "CTestsL" => ((dsimp only [CTestsL]))
  k_with "CTestL" => ((dsimp only [CTestL]))
  k_with "LcR" => ((dsimp only [LcR]))
  k_with "LcAt" => ((k_here; k_dflt (refine' LcAt.intro ?F_zB126 ?N_zB126 ?_; (case F_zB126 => k_asm); (case N_zB126 => k_asm); k_whole; intro D'w C'w oC'w h'w tk'w F'w N'w hC'w l1w l2w; k_lt l2w; k_lt2 l1w; (try k_sweep))))
  k_with "LcRU" => ((dsimp only [LcRU]))
  k_with "LcFinU" => ((k_here; k_dflt (refine' LcFinU.intro ?F_zB128 ?N_zB128 ?C_zB128 ?m_zB128 ?D_zB128 ?_; (case F_zB128 => k_asm); (case N_zB128 => k_asm); (case m_zB128 => k_mem); (case C_zB128 => assumption); (case D_zB128 => walk_at "g_del"); k_whole; intro h'w F'w N'w; (try k_sweep))))
  k_with "exec Assign cons ListComp" => ((k_here; k_dflt (refine' lcA_enter ?F_zB129 ?w_zB129 ?c_zB129 ?ce_zB129 ?k_zB129 ?n_zB129 ?_ ?s_zB129; (case F_zB129 => k_asm); (case w_zB129 => rfl); (case c_zB129 => with_unfolding_all rfl); (case ce_zB129 => decide); (case k_zB129 => rfl); (case n_zB129 => decide); (case s_zB129 => intro _; rfl))))
  k_with "exec Assign cons ListComp" => ((k_here; k_dflt (refine' lcA_enter1 ?F_zB130 ?w_zB130 ?c_zB130 ?o_zB130 ?p_zB130 ?k_zB130 ?n_zB130 ?_ ?s_zB130; (case F_zB130 => k_asm); (case w_zB130 => rfl); (case c_zB130 => with_unfolding_all rfl); (case o_zB130 => intro _; rfl); (case p_zB130 => intro _; rfl); (case k_zB130 => rfl); (case n_zB130 => decide); (case s_zB130 => intro _; rfl))))
  k_with "exec Assign cons DictComp" => ((k_here; k_dflt (refine' dcA_enter ?F_zB131 ?w_zB131 ?c_zB131 ?ce_zB131 ?k_zB131 ?n_zB131 ?_ ?s_zB131; (case F_zB131 => k_asm); (case w_zB131 => rfl); (case c_zB131 => with_unfolding_all rfl); (case ce_zB131 => decide); (case k_zB131 => rfl); (case n_zB131 => decide); (case s_zB131 => intro _; rfl))))
  k_with "LcFin" => ((k_here; k_dflt (refine' LcFin.intro ?F_zB132 ?N_zB132 ?C_zB132 ?m_zB132 ?D_zB132 ?_; (case F_zB132 => k_asm); (case N_zB132 => k_asm); (case m_zB132 => k_mem); (case C_zB132 => assumption); (case D_zB132 => walk_at "g_del"); k_whole; intro h'w F'w N'w; (try k_sweep))))
  k_with "storeName" => ((k_here; (with_reducible show wpAny _ _ (storeName (compEnvC _ _ _ _) _ _) _ _ _); k_dflt (refine' storeC ?F_zB133 ?N_zB133 ?U_zB133 ?C_zB133 ?_ ?k_zB133 ?l_zB133; (case F_zB133 => k_asm); (case N_zB133 => k_asm); (case U_zB133 => k_updF); (case C_zB133 => assumption); (case k_zB133 => rfl); (case l_zB133 => rfl); k_whole; intro h'w o'w F'w N'w hC'w; (try dsimp only at N'w); (try k_sweep))))
  k_with "storeName" => ((k_here; (with_reducible show wpAny _ _ (storeName (compEnvC _ _ _ _) _ _) _ _ _); k_dflt (refine' storeCC ?F_zB134 ?N_zB134 ?c_zB134 ?m_zB134 ?d_zB134 ?U_zB134 ?_ ?k_zB134 ?l_zB134; (case F_zB134 => k_asm); (case N_zB134 => k_asm); (case l_zB134 => rfl); (case k_zB134 => rfl); (case c_zB134 => rfl); (case m_zB134 => k_mem); (case d_zB134 => first | assumption | rfl); (case U_zB134 => k_updF); k_whole; intro h'w o'w F'w N'w hC'w; (try dsimp only at N'w); (try k_sweep))))
  k_with "eval ListComp" => ((k_here; k_dflt (refine' lc_enter ?F_zB135 ?c_zB135 ?ce_zB135 ?k_zB135 ?n_zB135 ?_ ?s_zB135; (case F_zB135 => k_asm); (case c_zB135 => with_unfolding_all rfl); (case ce_zB135 => decide); (case k_zB135 => rfl); (case n_zB135 => decide); (case s_zB135 => intro _; rfl))))
  k_with "eval ListComp ListComp" => ((k_here; k_dflt (refine' lc_enter1 ?F_zB136 ?c_zB136 ?o_zB136 ?p_zB136 ?k_zB136 ?n_zB136 ?_ ?s_zB136; (case F_zB136 => k_asm); (case c_zB136 => with_unfolding_all rfl); (case o_zB136 => intro _; rfl); (case p_zB136 => intro _; rfl); (case k_zB136 => rfl); (case n_zB136 => decide); (case s_zB136 => intro _; rfl))))
  k_with "Exists" => ((k_here; k_dflt (refine' ⟨_, _, rfl, ?F_zB137, ?N_zB137, ?_⟩; (case F_zB137 => k_asm); (case N_zB137 => k_asm); k_whole; intro D'w C'w c'w oC'w h'w tk'w F'w N'w hC'w l1w l1'w l2w; k_lt l2w; k_lt2 l1'w; k_lt2 l1w; (try k_sweep))))
  k_with "eval DictComp" => ((k_here; k_dflt (refine' dc_enter ?F_zB138 ?c_zB138 ?ce_zB138 ?k_zB138 ?n_zB138 ?_ ?s_zB138; (case F_zB138 => k_asm); (case c_zB138 => with_unfolding_all rfl); (case ce_zB138 => decide); (case k_zB138 => rfl); (case n_zB138 => decide); (case s_zB138 => intro _; rfl))))
  k_with "DcAt" => ((k_here; k_dflt (refine' DcAt.intro ?F_zB139 ?N_zB139 ?_; (case F_zB139 => k_asm); (case N_zB139 => k_asm); k_whole; intro D'w C'w oD'w oC'w h'w tk'w F'w N'w hC'w hD'w l1w l2w; k_lt l2w; k_lt2 l1w; (try k_sweep))))
  k_with "CTurnD" => ((dsimp only [CTurnD]))
  k_with "CTestsD" => ((dsimp only [CTestsD]))
  k_with "CTestD" => ((dsimp only [CTestD]))
  k_with "eval Subscript" => (refine Subscript_ ?_)
  k_with "execs cons" => ((dsimp only; walk_at "execs cons"))
  k_with "execs nil" => ((dsimp only; walk_at "execs nil"))
  k_with "eval Call" => ((dsimp only; walk_at "eval Call"))
  k_with "binaryOp" => ((dsimp only; walk_at "binaryOp"))
  k_with "eval Name" => ((k_here; (with_reducible show wpAny _ _ (eval (Expr.Name _ _) (compEnvC _ _ _ _)) _ _ _); k_dflt (refine LCgL.ld_own (by k_asm) (by k_mem) (by assumption) (by rfl) ?_)))
  k_with "g_sub" => ((k_here; (with_reducible show wpAny _ _ (subscriptTail _ _ (Value.ref _) (Value.int _ _)) _ _ _); k_dflt (first
      | (refine' item_L ?N_zB149 ?m_zB149 ?lo_zB149 ?hi_zB149 ?x_zB149 ?_ ?s_zB149; (case N_zB149 => k_asm); (case m_zB149 => k_mem); (case lo_zB149 => decide); (case hi_zB149 => decide); (case x_zB149 => walk_at "g_item"); (case s_zB149 => with_unfolding_all rfl); k_whole)
      | (refine' item_L ?N_zB149 ?m_zB149 ?lo_zB149 ?hi_zB149 ?x_zB149 ?_ ?s_zB149; (case N_zB149 => k_asm); (case m_zB149 => k_mem); (case lo_zB149 => assumption); (case hi_zB149 => omega); (case x_zB149 => assumption); (case s_zB149 => with_unfolding_all rfl); k_whole)
      | (refine' item_T ?N_zB149 ?m_zB149 ?lo_zB149 ?hi_zB149 ?x_zB149 ?_ ?s_zB149; (case N_zB149 => k_asm); (case m_zB149 => k_mem); (case lo_zB149 => decide); (case hi_zB149 => decide); (case x_zB149 => walk_at "g_item"); (case s_zB149 => with_unfolding_all rfl); k_whole)
      | (refine' item_D ?N_zB149 ?m_zB149 ?D_zB149 ?k_zB149 ?_ ?s_zB149; (case N_zB149 => k_asm); (case m_zB149 => k_mem); (case D_zB149 => assumption); (case k_zB149 => first | with_reducible assumption | rfl); (case s_zB149 => with_unfolding_all rfl); k_whole))))
  k_with "subscriptTail Name Constant ref int" => (walk_at "g_sub")
  k_with "subscriptTail Tuple cons BinOp ref int" => (walk_at "g_sub")
  k_with "subscriptTail Subscript Name Constant Name ref int" => (walk_at "g_sub")
  k_with "exec For Name Call cons nil" => ((refine wpAny_For ?_ ?_; rotate_left; (intro _; rfl)))
  k_with "subscriptTail Name Name ref int" => (walk_at "g_sub")
  k_with "getAttr ref" => ((k_here; (with_reducible show wpAny _ _ (getAttr (Value.ref _) (Str.ofString "__contains__") true) _ _ _); k_dflt (refine' cn_K ?F_zB155 ?N_zB155 ?m_zB155 ?_; (case F_zB155 => k_asm); (case N_zB155 => k_asm); (case m_zB155 => k_mem); k_whole); intro q'w h'w tk'w F'w N'w l1w; (try k_lt l1w); (try k_sweep)))
  k_with "g_units" => (((have hcL9 := cLine_is); (try simp only [units_in1, units_deeper, Around.mark_units, units_caller]); (try dsimp only); omega))
  k_with "call builtin:iter" => ((k_here; (with_reducible show wpAny _ _ (call (Value.builtin "iter") [Value.ref _]) _ _ _); k_dflt (refine' b_iter ?F_zB157 ?N_zB157 ?m_zB157 ?_; (case F_zB157 => k_asm); (case N_zB157 => k_asm); (case m_zB157 => k_mem); k_whole; intro I'w o'w h'w F'w N'w hI'w l1w; (try k_lt l1w); (try k_sweep))))
  k_with "call builtin:next" => ((k_here; (with_reducible show wpAny _ _ (call (Value.builtin "next") [Value.ref _]) _ _ _); k_dflt (first
      | (refine' b_next ?F_zB158 ?N_zB158 ?mI_zB158 ?hI_zB158 ?U_zB158 ?m_zB158 ?x_zB158 ?_; (case F_zB158 => k_asm); (case N_zB158 => k_asm); (case mI_zB158 => k_mem); (case hI_zB158 => assumption); (case U_zB158 => k_updF); (case m_zB158 => k_mem); (case x_zB158 => assumption); k_whole; intro h'w o'w F'w N'w hI'w; (try dsimp only at N'w); (try k_sweep))
      | (refine' b_stop ?hh_zB158 ?F_zB158 ?N_zB158 ?hI_zB158 ?mI_zB158 ?m_zB158 ?x_zB158 ?D_zB158 ?_; (case hh_zB158 => rfl); (case F_zB158 => k_asm); (case N_zB158 => k_asm); (case mI_zB158 => k_mem); (case hI_zB158 => assumption); (case m_zB158 => k_mem); (case x_zB158 => assumption); (case D_zB158 => walk_at "g_del"); k_whole; intro h1'w h'w e'w F'w N'w hE'w))))
  k_with "call ref" => ((k_here; (try dsimp only [List.nil_append]); (with_reducible show wpAny _ _ (call (Value.ref _) [Value.int _ _]) _ _ _); k_dflt (refine' cn_callN ?N_zB159 ?q_zB159 ?b_zB159 ?u_zB159 ?_; (case N_zB159 => k_asm); (case q_zB159 => k_mem); (case b_zB159 => k_mem); (case u_zB159 => assumption); k_whole)))
  k_with "callWith ref" => ((k_here; k_dflt (refine' callWith_cn ?N_zB160 ?q_zB160 ?_; (case N_zB160 => k_asm); (case q_zB160 => k_mem); k_whole)))
  k_with "And" => (((with_reducible show CnP _ _ _ ∧ _); refine ⟨CnP.of (by k_asm) (by k_mem), ?_⟩; try dsimp only [List.nil_append, List.cons_append]))
  k_with "CnP" => (exact CnP.of (by k_asm) (by k_mem))
  k_with "g_fill" => ((refine (fun (h : Challenge.rw_kt0001_01 = Challenge.rw_kt0001_01 → _) => h rfl) ?_; k_fill; intro _))
  k_with "g_ints" => (first | with_reducible assumption | exact IntsAre.nil | exact IntsAre.cons _ _ (by walk_at "g_ints"))
  k_with "call ref cons nil" => ((k_here; (with_reducible show wpAny _ _ (call (Value.ref 65) _) _ _ _); k_dflt (refine' filt_use ?B_zB165 ?T0_zB165 ?F_zB165 ?f_zB165 ?k_zB165 ?X_zB165 ?T_zB165 ?N_zB165 ?m1_zB165 ?m2_zB165 ?I_zB165 ?J_zB165 ?z_zB165 ?d_zB165 ?u_zB165 ?_; (case B_zB165 => k_asm); (case F_zB165 => k_asm); (case T0_zB165 => assumption); (case f_zB165 => exact rfl); (case k_zB165 => exact rfl); (case X_zB165 => assumption); (case T_zB165 => assumption); (case N_zB165 => k_asm); (case m1_zB165 => k_mem); (case m2_zB165 => k_mem); (case I_zB165 => walk_at "g_ints"); (case J_zB165 => walk_at "g_ints"); (case z_zB165 => first | assumption | (simp; done)); (case d_zB165 => walk_at "g_room"); (case u_zB165 => walk_at "g_room"); k_whole; intro g'w h'w tk'w l'w acc'w c'w T0'w B'w F'w N'w X'w T'w hA'w hz'w l1w l2w; (try k_lt l1w); (try k_lt2 l2w); (try k_sweep))))
  k_with "eval Lambda" => ((k_here; k_dflt (refine' kla_eval ?d0_zB166 ?_; (case d0_zB166 => exact rfl)); k_dflt (refine' lam_S ?F_zB166 ?N_zB166 ?T_zB166 ?C_zB166 ?cd_zB166 ?U_zB166 ?S_zB166 ?hm_zB166 ?hl_zB166 ?hc_zB166 ?hq_zB166 ?hcl_zB166 ?_; (case F_zB166 => k_asm); (case N_zB166 => k_asm); (case T_zB166 => k_asm); (case cd_zB166 => exact rfl); (case C_zB166 => kn_code); (case U_zB166 => k_updF); (case S_zB166 => assumption); (case hm_zB166 => k_mem); (case hl_zB166 => exact rfl); (case hc_zB166 => exact rfl); (case hq_zB166 => exact rfl); (case hcl_zB166 => exact rfl); k_whole); intro f'w c'w o'w p'w v'w t'w ct'w h'w tk'w F'w N'w S'w d1w d2w l1w l2w l3w; (try dsimp only at N'w); (rename Ap _ => sA'w; (first | replace sA'w := Ap.lam sA'w (by walk_at "g_shc") l1w l2w l3w rfl | (replace sA'w := Ap.subL sA'w l1w rfl (by walk_at "g_shs"); replace sA'w := Ap.lam sA'w (by walk_at "g_shc") l1w l2w l3w rfl)))))
  k_with "pyIter ref" => ((k_here; k_dflt (refine' iter_D ?F_zB167 ?N_zB167 ?m_zB167 ?D_zB167 ?s_zB167 ?_; (case F_zB167 => k_asm); (case N_zB167 => k_asm); (case m_zB167 => k_mem); (case D_zB167 => assumption); (case s_zB167 => walk_at "g_notsys"); k_whole; intro I'w o'w h'w F'w N'w hI'w l1w; (try k_lt l1w); (try k_sweep))))
  k_with "g_notsys" => (first | decide | exact not_sys (by with_reducible assumption))
  k_with "pyNext ref" => ((k_here; k_dflt (first
      | (refine' next_D ?F_zB169 ?N_zB169 ?mI_zB169 ?I_zB169 ?m_zB169 ?D_zB169 ?n_zB169 ?x_zB169 ?U_zB169 ?_; (case F_zB169 => k_asm); (case N_zB169 => k_asm); (case mI_zB169 => k_mem); (case I_zB169 => assumption); (case m_zB169 => k_mem); (case D_zB169 => assumption); (case n_zB169 => first | with_reducible assumption | exact Eq.symm (by with_reducible assumption) | rfl); (case x_zB169 => assumption); (case U_zB169 => k_updF); k_whole; intro t'w h'w o'w F'w N'w hI'w; (try dsimp only at N'w); (try k_sweep))
      | (refine' next_D_end ?hh_zB169 ?F_zB169 ?N_zB169 ?mI_zB169 ?I_zB169 ?m_zB169 ?D_zB169 ?n_zB169 ?x_zB169 ?De_zB169 ?_; (case hh_zB169 => rfl); (case F_zB169 => k_asm); (case N_zB169 => k_asm); (case mI_zB169 => k_mem); (case I_zB169 => assumption); (case m_zB169 => k_mem); (case D_zB169 => assumption); (case n_zB169 => first | with_reducible assumption | exact Eq.symm (by with_reducible assumption) | rfl); (case x_zB169 => assumption); (case De_zB169 => walk_at "g_del"); k_whole; intro h'w F'w N'w; (try dsimp only at N'w); (try k_sweep)))))
  k_with "exec For Name Name cons nil" => ((refine wpAny_For ?_ ?_; rotate_left; (intro _; rfl)))
  k_with "pyIter ref" => ((k_here; k_dflt (refine' self_list ?N_zB171 ?m_zB171 ?I_zB171 ?_; (case N_zB171 => k_asm); (case m_zB171 => k_mem); (case I_zB171 => assumption); k_whole)))
  k_with "call builtin:divmod" => ((k_here; (with_reducible show wpAny _ _ (call (Value.builtin _) [Value.int _ _, Value.int _ _]) _ _ _); k_dflt (refine' divmod_L ?F_zB172 ?N_zB172 ?b_zB172 ?_ ?p_zB172; (case F_zB172 => k_asm); (case N_zB172 => k_asm); (case b_zB172 => decide); (case p_zB172 => exact PyProof.noPylong_small (by omega)); k_whole; intro T'w h'w t1'w t2'w tk'w F'w N'w l1w; (try k_lt l1w); (try k_sweep))))
  k_with "dictSet" => ((k_here; k_dflt (refine' dset_new ?F_zB173 ?N_zB173 ?m_zB173 ?D_zB173 ?k_zB173 ?z_zB173 ?U_zB173 ?_; (case F_zB173 => k_asm); (case N_zB173 => k_asm); (case m_zB173 => k_mem); (case D_zB173 => assumption); (case k_zB173 => assumption); (case z_zB173 => assumption); (case U_zB173 => k_updF); k_whole; intro h'w o'w F'w N'w hD'w; (try dsimp only at N'w); (try k_sweep))))
  k_with "call builtin:len" => ((k_here; (with_reducible show wpAny _ _ (call (Value.builtin "len") [Value.ref _]) _ _ _); k_dflt (refine' len_L ?N_zB174 ?m_zB174 ?I_zB174 ?z_zB174 ?_; (case N_zB174 => k_asm); (case m_zB174 => k_mem); (case I_zB174 => walk_at "g_ints"); (case z_zB174 => assumption); k_whole; intro t'w tk'w)))
  k_with "letOwnedTupleGo" => ((k_here; k_dflt (refine' own_en ?F_zB175 ?N_zB175 ?U_zB175 ?_; (case F_zB175 => k_asm); (case N_zB175 => k_asm); (case U_zB175 => walk_at "g_updF"); k_whole; intro h'w F'w N'w; (try dsimp only at N'w); (try k_sweep))))
  k_with "letOwnedTupleGo" => ((k_here; k_dflt (refine' own_tup ?N_zB176 ?m_zB176 ?I_zB176 ?_; (case N_zB176 => k_asm); (case m_zB176 => k_mem); (case I_zB176 => assumption); k_whole)))
  k_with "call type:type" => ((k_here; (with_reducible show wpAny _ _ (call _ [Value.bytes _ _]) _ _ _); refine call_type_of (Tx := "bytes") rfl (by decide +kernel) ?_))
  k_with "getMethod bytes" => ((k_here; first | with_reducible refine hex_m ?_ | with_reducible refine upper_m ?_))
  k_with "getMethod str" => ((k_here; with_reducible refine enc_m ?_))
  k_with "call builtin:bytes.hex" => ((k_here; (with_reducible show wpAny _ _ (call (Value.builtin _) [Value.bytes _ _]) _ _ _); refine hex_call (by assumption) ?_; intro _ _))
  k_with "call builtin:bytes.upper" => ((k_here; (with_reducible show wpAny _ _ (call (Value.builtin _) [Value.bytes _ _]) _ _ _); refine upper_call (by assumption) ?_; intro _ _))
  k_with "call builtin:str.encode" => ((k_here; (with_reducible show wpAny _ _ (call (Value.builtin _) [Value.str _ _, Value.str _ _]) _ _ _); refine enc_call (by assumption) (by assumption) ?_; intro _ _))
  k_with "g_self" => ((intro _ _ hqw; first | exact self_list (by k_asm) (by k_mem) (by assumption) hqw | exact self_range (by k_asm) (by k_mem) hqw | exact self_D (by k_asm) (by k_mem) (by assumption) hqw | exact self_tup (by k_asm) (by k_mem) (by assumption) hqw | exact self_B (by k_asm) (by k_mem) (by assumption) hqw))
  k_with "codeAny" => (first
      | ((with_reducible show codeAny _ _ (Code.compLoop (Expr.ListComp _ _ _ _) 1 _ _ _) _ _); refine comp2_inner ?_)
      | ((with_reducible show codeAny _ _ (Code.compStart (Expr.ListComp _ _ _ _) 1 _ _ _) _ _); k_dflt (refine comp2_start1 (by walk_at "g_self") ?_))
      | ((with_reducible show codeAny _ _ (Code.compStart (Expr.ListComp _ [_, _] _ _) 0 _ _ _) _ _); k_dflt (refine comp2_start0 (by walk_at "g_self") ?_)))
  k_with "COut" => ((dsimp only [COut]))
  k_with "CIn" => ((dsimp only [CIn]))
  k_with "eval ListComp" => ((k_here; (with_reducible show wpAny _ _ (eval (Expr.ListComp _ [_, _] _ _) _) _ _ _); k_dflt (refine' lc2_enter ?F_zB187 ?c_zB187 ?ce_zB187 ?k_zB187 ?n_zB187 ?_ ?s_zB187; (case F_zB187 => k_asm); (case c_zB187 => with_unfolding_all rfl); (case ce_zB187 => decide); (case k_zB187 => rfl); (case n_zB187 => decide); (case s_zB187 => intro _; rfl))))
  k_with "pyIter bytes" => ((k_here; k_dflt (refine' iter_B ?F_zB188 ?N_zB188 ?_; (case F_zB188 => k_asm); (case N_zB188 => k_asm); k_whole; intro I'w o'w h'w F'w N'w hI'w l1w; (try k_lt l1w); (try k_sweep))))
  k_with "pyNext ref" => ((k_here; k_dflt (first
      | (refine' next_B ?F_zB189 ?N_zB189 ?mI_zB189 ?I_zB189 ?U_zB189 ?x_zB189 ?_; (case F_zB189 => k_asm); (case N_zB189 => k_asm); (case mI_zB189 => k_mem); (case I_zB189 => assumption); (case U_zB189 => k_updF); (case x_zB189 => assumption); k_whole; intro h'w o'w u'w tk'w F'w N'w hI'w; (try dsimp only at N'w); (try k_sweep))
      | (refine' next_B_end ?hh_zB189 ?F_zB189 ?N_zB189 ?I_zB189 ?mI_zB189 ?x_zB189 ?D_zB189 ?_; (case hh_zB189 => rfl); (case F_zB189 => k_asm); (case N_zB189 => k_asm); (case mI_zB189 => k_mem); (case I_zB189 => assumption); (case x_zB189 => assumption); (case D_zB189 => walk_at "g_del"); k_whole; intro h'w F'w N'w; (try dsimp only at N'w); (try k_sweep)))))
  k_with "call type:enumerate" => ((k_here; (with_reducible show wpAny _ _ (call (Value.type _) [Value.ref _]) _ _ _); k_dflt (refine' call_en ?F_zB190 ?N_zB190 ?m_zB190 ?_; (case F_zB190 => k_asm); (case N_zB190 => k_asm); (case m_zB190 => k_mem); k_whole; intro I'w e'w o'w h'w F'w N'w hI'w l1w l2w; (try k_lt l1w); (try k_lt2 l2w); (try k_sweep))))
  k_with "g_self" => ((intro _ _ hqw; exact self_en (by k_asm) (by k_mem) hqw))
  k_with "g_self" => ((intro _ _ hqw; first | exact self_list (by k_asm) (by k_mem) (by assumption) hqw | exact self_range (by k_asm) (by k_mem) hqw | exact self_D (by k_asm) (by k_mem) (by assumption) hqw | exact self_tup (by k_asm) (by k_mem) (by assumption) hqw | exact self_B (by k_asm) (by k_mem) (by assumption) hqw | exact self_en (by k_asm) (by k_mem) hqw))
  k_with "pyIter ref" => ((k_here; k_dflt (refine' self_en ?N_zB193 ?m_zB193 ?_; (case N_zB193 => k_asm); (case m_zB193 => k_mem); k_whole)))
  k_with "pyNext ref" => ((k_here; k_dflt (first
      | (refine' next_en ?F_zB194 ?N_zB194 ?me_zB194 ?S_zB194 ?e_zB194 ?H_zB194 ?hI_zB194 ?ml_zB194 ?x_zB194 ?_; (case F_zB194 => k_asm); (case N_zB194 => k_asm); (case me_zB194 => k_mem); (case S_zB194 => assumption); (case e_zB194 => exact rfl); (case H_zB194 => walk_at "g_sh2"); (case hI_zB194 => assumption); (case ml_zB194 => k_mem); (case x_zB194 => walk_at "g_item"); k_whole; intro T'w o'w h'w u'w tk'w F'w N'w hI'w l1w; (try dsimp only at N'w); (try k_lt l1w); (try k_sweep))
      | (refine' next_en_end ?hh_zB194 ?F_zB194 ?N_zB194 ?me_zB194 ?mI_zB194 ?hI_zB194 ?ml_zB194 ?x_zB194 ?D_zB194 ?_; (case hh_zB194 => rfl); (case F_zB194 => k_asm); (case N_zB194 => k_asm); (case me_zB194 => k_mem); (case mI_zB194 => k_mem); (case hI_zB194 => assumption); (case ml_zB194 => k_mem); (case x_zB194 => walk_at "g_off"); (case D_zB194 => walk_at "g_del"); k_whole; intro h'w F'w N'w; (try dsimp only at N'w); (try k_sweep)))))
  k_with "call builtin:sum" => ((k_here; (with_reducible show wpAny _ _ (call (Value.builtin "sum") [Value.ref _]) _ _ _); k_dflt (refine' sum_pick ?hh_zB195 ?F_zB195 ?N_zB195 ?I_zB195 ?_; (case hh_zB195 => rfl); (case F_zB195 => k_asm); (case N_zB195 => k_asm); (case I_zB195 => assumption); k_whole); intro x'w h'w tk'w t'w F'w N'w; (try k_sweep)))
  k_with "call type:bytes" => ((k_here; (with_reducible show wpAny _ _ (call (Value.type "bytes") [Value.ref _]) _ _ _); k_dflt (refine' bytes_K ?F_zB196 ?N_zB196 ?l_zB196 ?i_zB196 ?r_zB196 ?z_zB196 ?h_zB196 ?_; (case F_zB196 => k_asm); (case N_zB196 => k_asm); (case l_zB196 => exact News.isList (by k_asm) (by k_mem)); (case i_zB196 => assumption); (case r_zB196 => assumption); (case z_zB196 => assumption); (case h_zB196 => rfl); k_whole); intro h'w t'w k'w F'w N'w _; (try k_sweep)))
  k_with "call ref cons nil" => ((k_here; (with_reducible show wpAny _ _ (call (Value.ref 88) [Value.bytes _ _]) _ _ _); k_dflt (refine' gives_use (b16 _ _ _ ?hb_zB197) ?B_zB197 ?F_zB197 ?f_zB197 ?k_zB197 ?X_zB197 ?T_zB197 ?N_zB197 ?s_zB197 ?d_zB197 ?u_zB197 ?_; (case hb_zB197 => assumption); (case B_zB197 => k_asm); (case F_zB197 => k_asm); (case X_zB197 => k_asm); (case T_zB197 => k_asm); (case f_zB197 => exact rfl); (case k_zB197 => exact rfl); (case N_zB197 => k_asm); (case s_zB197 => intro pw hpw; cases hpw); (case d_zB197 => walk_at "g_room"); (case u_zB197 => walk_at "g_room"); k_whole); intro r'w h'w tk'w F'w N'w st'w po'w; obtain ⟨t', e'⟩ := po'w; subst e'; (try clear st'w); (try k_sweep)))
  k_with "dictSet" => ((k_here; k_dflt (refine' dset_new ?F_zB198 ?N_zB198 ?m_zB198 ?D_zB198 ?k_zB198 ?z_zB198 ?U_zB198 ?_; (case F_zB198 => k_asm); (case N_zB198 => k_asm); (case m_zB198 => k_mem); (case D_zB198 => assumption); (case k_zB198 => first | assumption | exact of_decide_eq_false rfl); (case z_zB198 => first | assumption | exact of_decide_eq_true rfl); (case U_zB198 => k_updF); k_whole; intro h'w o'w F'w N'w hD'w; (try dsimp only at N'w); (try k_sweep))))
  k_with "g_fig" => ((k_here; k_dflt (refine' fig_item ?a_zB199 ?b_zB199 ?_ ?s_zB199 ?t_zB199; (case a_zB199 => first | decide | with_reducible assumption | omega); (case b_zB199 => first | decide | with_reducible assumption | omega); (case s_zB199 => with_unfolding_all rfl); (case t_zB199 => intro _; with_unfolding_all rfl); k_whole); intro u'w tk'w))
  k_with "call builtin:list.append" => ((k_here; (with_reducible show wpAny _ _ (call (Value.builtin _) [Value.ref _, _]) _ _ _); k_dflt (refine' append_L ?k1_zB1100 ?k2_zB1100 ?k3_zB1100 ?_ ?z_zB1100; (case k1_zB1100 => k_asm); (case k2_zB1100 => k_asm); (case k3_zB1100 => k_upd); (case z_zB1100 => first | with_reducible assumption | (simp [sizeLine]; done) | (simp only [List.length_append, List.length_cons, List.length_nil]; rw [sizeLine_eq]; omega)); k_whole); intro h'w F'w N'w; (try simp only [List.nil_append, List.cons_append] at N'w); (try k_sweep)))
  k_with "g_room2" => (first | decide | walk_at "g_room")
  k_with "call ref cons nil" => ((k_here; (with_reducible show wpAny _ _ (call (Value.ref 65) _) _ _ _); k_dflt (refine' filt_use ?B_zB1102 ?T0_zB1102 ?F_zB1102 ?f_zB1102 ?k_zB1102 ?X_zB1102 ?T_zB1102 ?N_zB1102 ?m1_zB1102 ?m2_zB1102 ?I_zB1102 ?J_zB1102 ?z_zB1102 ?d_zB1102 ?u_zB1102 ?_; (case B_zB1102 => k_asm); (case F_zB1102 => k_asm); (case T0_zB1102 => assumption); (case f_zB1102 => exact rfl); (case k_zB1102 => exact rfl); (case X_zB1102 => assumption); (case T_zB1102 => assumption); (case N_zB1102 => k_asm); (case m1_zB1102 => k_mem); (case m2_zB1102 => k_mem); (case I_zB1102 => walk_at "g_ints"); (case J_zB1102 => walk_at "g_ints"); (case z_zB1102 => first | assumption | (simp; done)); (case d_zB1102 => walk_at "g_room2"); (case u_zB1102 => walk_at "g_room2"); k_whole; intro g'w h'w tk'w l'w acc'w c'w T0'w B'w F'w N'w X'w T'w hA'w hz'w l1w l2w; (try k_lt l1w); (try k_lt2 l2w); (try k_sweep))))
  k_with "g_shf" => (first | exact ShF.head | (apply ShF.tail; walk_at "g_shf") | (apply ShF.tailo; walk_at "g_shf") | fail "no shape")
  k_with "g_shu" => (first | exact ShU.head | (apply ShU.tail; walk_at "g_shu") | (apply ShU.tailo; walk_at "g_shu") | fail "no shape")
  k_with "g_shd" => (first | exact ShD.head | (apply ShD.tail; walk_at "g_shd") | (apply ShD.tailo; walk_at "g_shd") | fail "no shape")
  k_with "g_shs1" => (first | exact ShS.nil | (apply ShS.knew; walk_at "g_shs1") | (apply ShS.kold; walk_at "g_shs1") | (apply ShS.snew; walk_at "g_shs1") | (apply ShS.sold; walk_at "g_shs1") | fail "no shape")
  k_with "g_shs" => (((try dsimp only [List.map]); walk_at "g_shs1"))
  k_with "g_sho1" => (first | exact ShO.nil | (apply ShO.cons; walk_at "g_sho1") | fail "no shape")
  k_with "g_sho" => (((try dsimp only [List.map]); walk_at "g_sho1"))
  k_with "g_apnow" => ((rename Ap _ => sA'w; rename News _ _ _ _ => nA'w; replace sA'w := Ap.now nA'w sA'w rfl (by walk_at "g_shs")))
  k_with "g_del" => (first | (refine' del_of ?S_zB1111 ?uh_zB1111 ?e_zB1111; (case S_zB1111 => assumption); (case e_zB1111 => exact rfl); (case uh_zB1111 => walk_at "g_shd")) | (walk_at "g_apnow"; refine' del_of ?S_zB1111 ?uh_zB1111 ?e_zB1111; (case S_zB1111 => assumption); (case e_zB1111 => exact rfl); (case uh_zB1111 => walk_at "g_shd")))
  k_with "g_updF" => (first | (refine' updF_of ?S_zB1112 ?uh_zB1112 ?e_zB1112; (case S_zB1112 => assumption); (case e_zB1112 => exact rfl); (case uh_zB1112 => walk_at "g_shf")) | (walk_at "g_apnow"; refine' updF_of ?S_zB1112 ?uh_zB1112 ?e_zB1112; (case S_zB1112 => assumption); (case e_zB1112 => exact rfl); (case uh_zB1112 => walk_at "g_shf")))
  k_with "g_upd" => (first | (refine' upd_of ?S_zB1113 ?uh_zB1113 ?e_zB1113; (case S_zB1113 => assumption); (case e_zB1113 => exact rfl); (case uh_zB1113 => walk_at "g_shu")) | (walk_at "g_apnow"; refine' upd_of ?S_zB1113 ?uh_zB1113 ?e_zB1113; (case S_zB1113 => assumption); (case e_zB1113 => exact rfl); (case uh_zB1113 => walk_at "g_shu")))
  k_with "g_ltm" => (first | with_reducible assumption | exact ltAll (by assumption) (by k_mem))
  k_with "g_shc" => (first | exact ShC.head | (apply ShC.tail; walk_at "g_shc") | (apply ShC.tailo; walk_at "g_shc") | fail "no shape")
  k_with "g_sh2" => (first | exact Sh2.head | (apply Sh2.tail; walk_at "g_sh2") | fail "no shape")
  trivial
set_option maxRecDepth 100000 in
set_option maxHeartbeats 8000000 in
theorem b16 (w : World) (bs : Array UInt8) (t : Tok) (hb : bs.size ≤ 4) : Gives w 88 [.bytes bs t] 8 500 [] (fun _ _ r => ∃ t, r = .bytes (written bs) t) := by
  have z1 : (⟨hexOut bs⟩ : PySem.Str).length ≤ sizeLine := by
    show (hexOut bs).size ≤ _
    rw [hexOut_size, sizeLine_eq]; omega
  have z2 : (⟨hexOut bs⟩ : PySem.Str).cps.size ≤ 100 := by
    show (hexOut bs).size ≤ _
    rw [hexOut_size]; omega
  have z3 : ∀ c ∈ (⟨hexOut bs⟩ : PySem.Str).cps, c < 128 := hexOut_lt bs
  have z4 : ((⟨hexOut bs⟩ : PySem.Str).cps.toList.map Nat.toUInt8).toArray.size ≤ 100 := by simpa using z2
  unfold Gives
  k_fill
  intro p loose mean mg mb A₀ dp un gd env outer base h₀ L m s Q E B F hf hke X T N hd hu ret
  refine wpAny_call ?_
  (refine' enter_plain ?k1_zq ?k2_zq ?k3_zq ?k4_zq ?k5_zq ?kA_zq ?kF_zq ?kK_zq ?k6_zq ?k7_zq ?k8_zq ?k9_zq ?kB_zq ?_ ?c2_zq ?c3_zq ?c4_zq ?c5_zq; (case kA_zq => exact rfl); (case kF_zq => assumption); (case kK_zq => assumption); (case k1_zq => k_asm); (case k2_zq => k_asm); (case k3_zq => k_asm); (case k4_zq => k_asm); (case k5_zq => k_asm); (case k6_zq => k_is); (case k7_zq => k_is); (case k8_zq => walk_at "g_room"); (case k9_zq => exact BindsTo.of_eq rfl); (case c5_zq => decide); (case kB_zq => exact locs rfl); (case c2_zq => exact rfl); (case c3_zq => exact rfl); (case c4_zq => exact rfl); k_whole; intro g' L' h' F' N' B' X' T' l1 lz lg; (first | (rename Ap _ => sA'; have sA' := (ApB.of l1 sA' rfl).1) | (have sA' := (ApB.start l1 rfl (by walk_at "g_sho")).1)); (try dsimp only); (try k_fold))
  repeat' ((fail_if_success (with_reducible show BackK _ _ _ _ _ _)); (first | ((with_reducible show wpAny _ _ (execs (_ :: _) _) _ _ _); k_fold; walk1) | ((with_reducible show wpAny _ _ (eval (Expr.ListComp _ _ _ _) _) _ _ _); k_fold; walk1) | (k_unfold; (try dsimp only)) | (k_end; wrow_close) | walk1 | (dsimp only; walk1) | (leave1; walk_say "STEP leave1"; try dsimp only) | fail "no step"))
  refine back_ret (by assumption) (by assumption) (by kcj_all) (fun st => ?_)
  exact ret _ _ _ st ⟨_, rfl⟩

theorem setupT2 : True := by
  w_top off
  k_with_none
  k_with "g_room" => (first
      | ((try simp only [depth_under_make, depth_under_kw, depth_in1, depth_deeper, depth_caller]); (try dsimp only); omega)
      | ((try simp only [depth_under_make, depth_under_kw, depth_in1, depth_deeper, depth_caller] at *); (try dsimp only at *); omega))
  k_with "g_plain" => ((refine' enter_plain ?k1_zT21 ?k2_zT21 ?k3_zT21 ?k4_zT21 ?k5_zT21 ?kA_zT21 ?kF_zT21 ?kK_zT21 ?k6_zT21 ?k7_zT21 ?k8_zT21 ?k9_zT21 ?kB_zT21 ?_ ?c2_zT21 ?c3_zT21 ?c4_zT21 ?c5_zT21; (case kA_zT21 => exact rfl); (case kF_zT21 => assumption); (case kK_zT21 => assumption); (case k1_zT21 => k_asm); (case k2_zT21 => k_asm); (case k3_zT21 => k_asm); (case k4_zT21 => k_asm); (case k5_zT21 => k_asm); (case k6_zT21 => k_is); (case k7_zT21 => k_is); (case k8_zT21 => walk_at "g_room"); (case k9_zT21 => exact BindsTo.of_eq rfl); (case c5_zT21 => decide); (case kB_zT21 => exact locs rfl); (case c2_zT21 => exact rfl); (case c3_zT21 => exact rfl); (case c4_zT21 => exact rfl); k_whole; intro g'w L'w h'w F'w N'w B'w X'w T'w l1w lzw lgw; (first | (rename Ap _ => sA'w; have sA'w := (ApB.of l1w sA'w rfl).1) | (have sA'w := (ApB.start l1w rfl (by walk_at "g_sho")).1)); (try dsimp only); (try k_fold)))
  k_with "g_cellsS" => ((refine' enterS_cells ?k1_zT22 ?k2_zT22 ?k3_zT22 ?k4_zT22 ?k5_zT22 ?kA_zT22 ?kF_zT22 ?kK_zT22 ?k6_zT22 ?k7_zT22 ?k8_zT22 ?k9_zT22 ?kB_zT22 ?kD_zT22 ?_ ?c2_zT22 ?c3_zT22 ?c4_zT22; (case kA_zT22 => exact rfl); (case kF_zT22 => assumption); (case kK_zT22 => assumption); (case k1_zT22 => k_asm); (case k2_zT22 => k_asm); (case k3_zT22 => k_asm); (case k4_zT22 => k_asm); (case k5_zT22 => k_asm); (case k6_zT22 => k_is); (case k7_zT22 => k_is); (case k8_zT22 => walk_at "g_room"); (case k9_zT22 => exact BindsTo.of_eq rfl); (case kB_zT22 => exact rfl); (case kD_zT22 => decide +kernel); (case c2_zT22 => exact rfl); (case c3_zT22 => exact rfl); (case c4_zT22 => exact rfl); k_whole; intro g'w L'w h'w tk'w cells'w F'w N'w Y'w B'w X'w T'w l1w lzw lgw; k_cells Y'w; (try simp only [List.cons_append, List.nil_append] at N'w); (first | (rename Ap _ => sA'w; have sA'w := ApB.of l1w sA'w rfl) | (have sA'w := ApB.start l1w rfl (by walk_at "g_sho"))); (first | replace sA'w := Ap.nowB N'w sA'w.cell.cell.cell.cell rfl | replace sA'w := Ap.nowB N'w sA'w.cell.cell.cell rfl | replace sA'w := Ap.nowB N'w sA'w.cell.cell rfl | replace sA'w := Ap.nowB N'w sA'w.cell rfl | replace sA'w := Ap.nowB N'w sA'w rfl); (try dsimp only); (try k_fold)))
  k_with "g_plainS" => ((refine' enterS_plain ?k1_zT23 ?k2_zT23 ?k3_zT23 ?k4_zT23 ?k5_zT23 ?kA_zT23 ?kF_zT23 ?kK_zT23 ?k6_zT23 ?k7_zT23 ?k8_zT23 ?k9_zT23 ?kB_zT23 ?_ ?c2_zT23 ?c3_zT23 ?c4_zT23 ?c5_zT23; (case kA_zT23 => exact rfl); (case kF_zT23 => assumption); (case kK_zT23 => assumption); (case k1_zT23 => k_asm); (case k2_zT23 => k_asm); (case k3_zT23 => k_asm); (case k4_zT23 => k_asm); (case k5_zT23 => k_asm); (case k6_zT23 => k_is); (case k7_zT23 => k_is); (case k8_zT23 => walk_at "g_room"); (case k9_zT23 => exact BindsTo.of_eq rfl); (case c5_zT23 => decide); (case kB_zT23 => exact locs rfl); (case c2_zT23 => exact rfl); (case c3_zT23 => exact rfl); (case c4_zT23 => exact rfl); k_whole; intro g'w L'w h'w F'w N'w B'w X'w T'w l1w lzw lgw; (first | (rename Ap _ => sA'w; have sA'w := (ApB.of l1w sA'w rfl).1) | (have sA'w := (ApB.start l1w rfl (by walk_at "g_sho")).1)); (try dsimp only); (try k_fold)))
  k_with "g_own" => ((refine' code_def ?k1_zT24 ?k2_zT24 ?k3_zT24 ?k4_zT24 ?k5_zT24 ?kA_zT24 ?kF_zT24 ?kK_zT24 ?k6_zT24 ?k7_zT24 ?k8_zT24 ?k9_zT24 ?kB_zT24 ?_ ?c2_zT24 ?c3_zT24 ?c4_zT24 ?c5_zT24; (case kA_zT24 => exact rfl); (case kF_zT24 => assumption); (case kK_zT24 => assumption); (case k1_zT24 => k_asm); (case k2_zT24 => k_asm); (case k3_zT24 => k_asm); (case k4_zT24 => k_asm); (case k5_zT24 => k_asm); (case k6_zT24 => k_is); (case k7_zT24 => k_is); (case k8_zT24 => walk_at "g_room"); (case k9_zT24 => exact BindsTo.of_eq rfl); (case c5_zT24 => decide); (case kB_zT24 => exact locs rfl); (case c2_zT24 => exact rfl); (case c3_zT24 => exact rfl); (case c4_zT24 => exact rfl); k_whole; intro g'w L'w h'w FG'w F'w N'w B'w X'w T'w; (try dsimp only); (try k_fold)))
  k_with "g_cells" => ((refine' enter_cells ?k1_zT25 ?k2_zT25 ?k3_zT25 ?k4_zT25 ?k5_zT25 ?kA_zT25 ?kF_zT25 ?kK_zT25 ?k6_zT25 ?k7_zT25 ?k8_zT25 ?k9_zT25 ?kB_zT25 ?kD_zT25 ?_ ?c2_zT25 ?c3_zT25 ?c4_zT25; (case kA_zT25 => exact rfl); (case kF_zT25 => assumption); (case kK_zT25 => assumption); (case k1_zT25 => k_asm); (case k2_zT25 => k_asm); (case k3_zT25 => k_asm); (case k4_zT25 => k_asm); (case k5_zT25 => k_asm); (case k6_zT25 => k_is); (case k7_zT25 => k_is); (case k8_zT25 => walk_at "g_room"); (case k9_zT25 => exact BindsTo.of_eq rfl); (case kB_zT25 => exact rfl); (case kD_zT25 => decide +kernel); (case c2_zT25 => exact rfl); (case c3_zT25 => exact rfl); (case c4_zT25 => exact rfl); k_whole; intro g'w L'w h'w tk'w cells'w F'w N'w Y'w B'w X'w T'w l1w lzw lgw; k_cells Y'w; (try simp only [List.cons_append, List.nil_append] at N'w); (first | (rename Ap _ => sA'w; have sA'w := ApB.of l1w sA'w rfl) | (have sA'w := ApB.start l1w rfl (by walk_at "g_sho"))); (first | replace sA'w := Ap.nowB N'w sA'w.cell.cell.cell.cell rfl | replace sA'w := Ap.nowB N'w sA'w.cell.cell.cell rfl | replace sA'w := Ap.nowB N'w sA'w.cell.cell rfl | replace sA'w := Ap.nowB N'w sA'w.cell rfl | replace sA'w := Ap.nowB N'w sA'w rfl); (try dsimp only); (try k_fold)))
  k_with "g_cellsG" => ((refine' enterG_cells ?k1_zT26 ?k2_zT26 ?k3_zT26 ?k4_zT26 ?k5_zT26 ?kA_zT26 ?kF_zT26 ?kK_zT26 ?k6_zT26 ?k7_zT26 ?k8_zT26 ?k9_zT26 ?kB_zT26 ?kD_zT26 ?_ ?c2_zT26 ?c3_zT26 ?c4_zT26; (case kA_zT26 => exact rfl); (case kF_zT26 => assumption); (case kK_zT26 => assumption); (case k1_zT26 => k_asm); (case k2_zT26 => k_asm); (case k3_zT26 => k_asm); (case k4_zT26 => k_asm); (case k5_zT26 => k_asm); (case k6_zT26 => k_is); (case k7_zT26 => k_is); (case k8_zT26 => walk_at "g_room"); (case k9_zT26 => exact BindsTo.of_eq rfl); (case kB_zT26 => exact rfl); (case kD_zT26 => decide +kernel); (case c2_zT26 => exact rfl); (case c3_zT26 => exact rfl); (case c4_zT26 => exact rfl); k_whole; intro g'w L'w h'w tk'w cells'w F'w N'w Y'w B'w X'w T'w l1w lzw lgw; k_cells Y'w; (try simp only [List.cons_append, List.nil_append] at N'w); (first | (rename Ap _ => sA'w; have sA'w := ApB.of l1w sA'w rfl) | (have sA'w := ApB.start l1w rfl (by walk_at "g_sho"))); (first | replace sA'w := Ap.nowB N'w sA'w.cell.cell.cell.cell rfl | replace sA'w := Ap.nowB N'w sA'w.cell.cell.cell rfl | replace sA'w := Ap.nowB N'w sA'w.cell.cell rfl | replace sA'w := Ap.nowB N'w sA'w.cell rfl | replace sA'w := Ap.nowB N'w sA'w rfl); (try dsimp only); (try k_fold)))
  k_with "g_del" => (first | (refine' Del.head ?a_zT27; (case a_zT27 => k_all)) | (refine' Del.tail ?a_zT27 ?b_zT27; (case a_zT27 => k_ne); (case b_zT27 => walk_at "g_del")))
  k_with "g_self" => ((intro _ _ hqw; first | exact self_list (by k_asm) (by k_mem) (by assumption) hqw | exact self_range (by k_asm) (by k_mem) hqw | exact self_D (by k_asm) (by k_mem) (by assumption) hqw))
  k_with "codeAny" => (first
      | ((with_reducible show codeAny _ _ (Code.forLoop _ _ _ _ _) _ _); refine forLoop_step ?_)
      | ((with_reducible show codeAny _ _ (Code.compLoop (Expr.ListComp _ _ _ _) _ _ _ _) _ _); refine compL_step ?_)
      | ((with_reducible show codeAny _ _ (Code.compStart (Expr.ListComp _ _ _ _) _ _ _ _) _ _); k_dflt (refine compL_start (by walk_at "g_self") ?_))
      | ((with_reducible show codeAny _ _ (Code.compLoop (Expr.DictComp _ _ _ _ _) _ _ _ _) _ _); refine compD_step ?_)
      | ((with_reducible show codeAny _ _ (Code.compStart (Expr.DictComp _ _ _ _ _) _ _ _ _) _ _); k_dflt (refine compD_start (by walk_at "g_self") ?_)))
  k_with "FlTurn" => ((dsimp only [FlTurn]))
  k_with "FlFlow" => ((dsimp only [FlFlow]))
  k_with "letOwnedTupleGo" => ((refine wpAny_of_eq (a := ()) rfl ?_))
  k_with "assign Name" => ((refine wpAny_assign_Name ?_))
  k_with "g_item" => (first | with_reducible assumption | exact ItemAt.zero | exact (ItemAt.succ ItemAt.zero) | exact (ItemAt.succ (ItemAt.succ ItemAt.zero)) | exact (ItemAt.succ (ItemAt.succ (ItemAt.succ ItemAt.zero))) | exact (ItemAt.succ (ItemAt.succ (ItemAt.succ (ItemAt.succ ItemAt.zero)))) | exact (ItemAt.succ (ItemAt.succ (ItemAt.succ (ItemAt.succ (ItemAt.succ ItemAt.zero))))) | exact (ItemAt.succ (ItemAt.succ (ItemAt.succ (ItemAt.succ (ItemAt.succ (ItemAt.succ ItemAt.zero)))))) | exact (ItemAt.succ (ItemAt.succ (ItemAt.succ (ItemAt.succ (ItemAt.succ (ItemAt.succ (ItemAt.succ ItemAt.zero))))))) | exact (ItemAt.succ (ItemAt.succ (ItemAt.succ (ItemAt.succ (ItemAt.succ (ItemAt.succ (ItemAt.succ (ItemAt.succ ItemAt.zero)))))))))
  k_with "g_off" => (first | with_reducible assumption | exact OffAt.nil | exact (OffAt.succ OffAt.nil) | exact (OffAt.succ (OffAt.succ OffAt.nil)) | exact (OffAt.succ (OffAt.succ (OffAt.succ OffAt.nil))) | exact (OffAt.succ (OffAt.succ (OffAt.succ (OffAt.succ OffAt.nil)))) | exact (OffAt.succ (OffAt.succ (OffAt.succ (OffAt.succ (OffAt.succ OffAt.nil))))) | exact (OffAt.succ (OffAt.succ (OffAt.succ (OffAt.succ (OffAt.succ (OffAt.succ OffAt.nil)))))) | exact (OffAt.succ (OffAt.succ (OffAt.succ (OffAt.succ (OffAt.succ (OffAt.succ (OffAt.succ OffAt.nil))))))) | exact (OffAt.succ (OffAt.succ (OffAt.succ (OffAt.succ (OffAt.succ (OffAt.succ (OffAt.succ (OffAt.succ OffAt.nil)))))))))
  k_with "call builtin:list.append" => ((k_here; (with_reducible show wpAny _ _ (call (Value.builtin _) [Value.ref _, _]) _ _ _); k_dflt (refine' append_L ?k1_zT216 ?k2_zT216 ?k3_zT216 ?_ ?z_zT216; (case k1_zT216 => k_asm); (case k2_zT216 => k_asm); (case k3_zT216 => k_upd); (case z_zT216 => first | with_reducible assumption | (simp [sizeLine]; done)); k_whole); intro h'w F'w N'w; (try simp only [List.nil_append, List.cons_append] at N'w); (try k_sweep)))
  k_with "g_num" => (first | ((simp only [Int.reduceAdd, Int.reduceSub]); first | done | rfl) | rfl)
  k_with "g_conj" => ((repeat (with_reducible rename (_ ∧ _) => hcj; have hcj1 := hcj.1; have hcj2 := hcj.2; clear hcj)))
  k_with "g_ne" => (((refine neN ?_); (try dsimp only); first | exact Nat.ne_of_lt (by with_reducible assumption) | exact Nat.ne_of_gt (by with_reducible assumption) | omega))
  k_with "pyNext ref" => ((k_here; (walk_at "g_conj"); k_dflt (first
      | (refine' next_range ?F_zT220 ?N_zT220 ?m_zT220 ?l_zT220 ?x_zT220 ?y_zT220 ?U_zT220 ?_; (case F_zT220 => k_asm); (case N_zT220 => k_asm); (case m_zT220 => k_mem); (case l_zT220 => first | decide | omega); (case x_zT220 => walk_at "g_num"); (case y_zT220 => walk_at "g_num"); (case U_zT220 => k_updF); k_whole; intro h'w F'w N'w; (try dsimp only at N'w); (try k_sweep))
      | (refine' next_range_end ?hh_zT220 ?F_zT220 ?N_zT220 ?m_zT220 ?D_zT220 ?l_zT220 ?_; (case hh_zT220 => rfl); (case F_zT220 => k_asm); (case N_zT220 => k_asm); (case m_zT220 => k_mem); (case l_zT220 => first | decide | omega); (case D_zT220 => walk_at "g_del"); k_whole; intro h'w F'w N'w; (try dsimp only at N'w); (try k_sweep))
      | (refine' next_list ?F_zT220 ?N_zT220 ?mI_zT220 ?I_zT220 ?U_zT220 ?m_zT220 ?x_zT220 ?_; (case F_zT220 => k_asm); (case N_zT220 => k_asm); (case mI_zT220 => k_mem); (case I_zT220 => assumption); (case m_zT220 => k_mem); (case x_zT220 => walk_at "g_item"); (case U_zT220 => k_updF); k_whole; intro h'w o'w F'w N'w hI'w; (try dsimp only at N'w); (try k_sweep))
      | (refine' next_list_end ?hh_zT220 ?F_zT220 ?N_zT220 ?I_zT220 ?mI_zT220 ?m_zT220 ?x_zT220 ?D_zT220 ?_; (case hh_zT220 => rfl); (case F_zT220 => k_asm); (case N_zT220 => k_asm); (case mI_zT220 => k_mem); (case I_zT220 => assumption); (case m_zT220 => k_mem); (case x_zT220 => walk_at "g_off"); (case D_zT220 => walk_at "g_del"); k_whole; intro h'w F'w N'w; (try dsimp only at N'w); (try k_sweep))
      | (refine' next_tuple ?F_zT220 ?N_zT220 ?mI_zT220 ?I_zT220 ?U_zT220 ?m_zT220 ?x_zT220 ?_; (case F_zT220 => k_asm); (case N_zT220 => k_asm); (case mI_zT220 => k_mem); (case I_zT220 => assumption); (case m_zT220 => k_mem); (case x_zT220 => walk_at "g_item"); (case U_zT220 => k_updF); k_whole; intro h'w o'w F'w N'w hI'w; (try dsimp only at N'w); (try k_sweep))
      | (refine' next_tuple_end ?hh_zT220 ?F_zT220 ?N_zT220 ?I_zT220 ?mI_zT220 ?m_zT220 ?x_zT220 ?D_zT220 ?_; (case hh_zT220 => rfl); (case F_zT220 => k_asm); (case N_zT220 => k_asm); (case mI_zT220 => k_mem); (case I_zT220 => assumption); (case m_zT220 => k_mem); (case x_zT220 => walk_at "g_off"); (case D_zT220 => walk_at "g_del"); k_whole; intro h'w F'w N'w; (try dsimp only at N'w); (try k_sweep)))))
  k_with "pyIter ref" => ((k_here; k_dflt (first
      | (refine' iter_range ?F_zT221 ?N_zT221 ?r_zT221 ?s_zT221 ?n_zT221 ?_; (case F_zT221 => k_asm); (case N_zT221 => k_asm); (case r_zT221 => assumption); (case s_zT221 => rfl); (case n_zT221 => (simp [Builtin.Range.rangeSize]; rfl)); k_whole; intro I'w h'w F'w N'w l1w; (try k_lt l1w); (try k_sweep))
      | (refine' iter_list ?F_zT221 ?N_zT221 ?m_zT221 ?_; (case F_zT221 => k_asm); (case N_zT221 => k_asm); (case m_zT221 => k_mem); k_whole; intro I'w o'w h'w F'w N'w hI'w l1w; (try k_lt l1w); (try k_sweep))
      | (refine' iter_tuple ?F_zT221 ?N_zT221 ?m_zT221 ?_; (case F_zT221 => k_asm); (case N_zT221 => k_asm); (case m_zT221 => k_mem); k_whole; intro I'w o'w h'w F'w N'w hI'w l1w; (try k_lt l1w); (try k_sweep)))))
  k_with "CTurnL" => ((dsimp only [CTurnL]))
  k_with "CTestsL" => ((dsimp only [CTestsL]))
  k_with "CTestL" => ((dsimp only [CTestL]))
  k_with "LcR" => ((dsimp only [LcR]))
  k_with "LcAt" => ((k_here; k_dflt (refine' LcAt.intro ?F_zT226 ?N_zT226 ?_; (case F_zT226 => k_asm); (case N_zT226 => k_asm); k_whole; intro D'w C'w oC'w h'w tk'w F'w N'w hC'w l1w l2w; k_lt l2w; k_lt2 l1w; (try k_sweep))))
  k_with "LcRU" => ((dsimp only [LcRU]))
  k_with "LcFinU" => ((k_here; k_dflt (refine' LcFinU.intro ?F_zT228 ?N_zT228 ?C_zT228 ?m_zT228 ?D_zT228 ?_; (case F_zT228 => k_asm); (case N_zT228 => k_asm); (case m_zT228 => k_mem); (case C_zT228 => assumption); (case D_zT228 => walk_at "g_del"); k_whole; intro h'w F'w N'w; (try k_sweep))))
  k_with "exec Assign cons ListComp" => ((k_here; k_dflt (refine' lcA_enter ?F_zT229 ?w_zT229 ?c_zT229 ?ce_zT229 ?k_zT229 ?n_zT229 ?_ ?s_zT229; (case F_zT229 => k_asm); (case w_zT229 => rfl); (case c_zT229 => with_unfolding_all rfl); (case ce_zT229 => decide); (case k_zT229 => rfl); (case n_zT229 => decide); (case s_zT229 => intro _; rfl))))
  k_with "exec Assign cons ListComp" => ((k_here; k_dflt (refine' lcA_enter1 ?F_zT230 ?w_zT230 ?c_zT230 ?o_zT230 ?p_zT230 ?k_zT230 ?n_zT230 ?_ ?s_zT230; (case F_zT230 => k_asm); (case w_zT230 => rfl); (case c_zT230 => with_unfolding_all rfl); (case o_zT230 => intro _; rfl); (case p_zT230 => intro _; rfl); (case k_zT230 => rfl); (case n_zT230 => decide); (case s_zT230 => intro _; rfl))))
  k_with "exec Assign cons DictComp" => ((k_here; k_dflt (refine' dcA_enter ?F_zT231 ?w_zT231 ?c_zT231 ?ce_zT231 ?k_zT231 ?n_zT231 ?_ ?s_zT231; (case F_zT231 => k_asm); (case w_zT231 => rfl); (case c_zT231 => with_unfolding_all rfl); (case ce_zT231 => decide); (case k_zT231 => rfl); (case n_zT231 => decide); (case s_zT231 => intro _; rfl))))
  k_with "LcFin" => ((k_here; k_dflt (refine' LcFin.intro ?F_zT232 ?N_zT232 ?C_zT232 ?m_zT232 ?D_zT232 ?_; (case F_zT232 => k_asm); (case N_zT232 => k_asm); (case m_zT232 => k_mem); (case C_zT232 => assumption); (case D_zT232 => walk_at "g_del"); k_whole; intro h'w F'w N'w; (try k_sweep))))
  k_with "storeName" => ((k_here; (with_reducible show wpAny _ _ (storeName (compEnvC _ _ _ _) _ _) _ _ _); k_dflt (refine' storeC ?F_zT233 ?N_zT233 ?U_zT233 ?C_zT233 ?_ ?k_zT233 ?l_zT233; (case F_zT233 => k_asm); (case N_zT233 => k_asm); (case U_zT233 => k_updF); (case C_zT233 => assumption); (case k_zT233 => rfl); (case l_zT233 => rfl); k_whole; intro h'w o'w F'w N'w hC'w; (try dsimp only at N'w); (try k_sweep))))
  k_with "storeName" => ((k_here; (with_reducible show wpAny _ _ (storeName (compEnvC _ _ _ _) _ _) _ _ _); k_dflt (refine' storeCC ?F_zT234 ?N_zT234 ?c_zT234 ?m_zT234 ?d_zT234 ?U_zT234 ?_ ?k_zT234 ?l_zT234; (case F_zT234 => k_asm); (case N_zT234 => k_asm); (case l_zT234 => rfl); (case k_zT234 => rfl); (case c_zT234 => rfl); (case m_zT234 => k_mem); (case d_zT234 => first | assumption | rfl); (case U_zT234 => k_updF); k_whole; intro h'w o'w F'w N'w hC'w; (try dsimp only at N'w); (try k_sweep))))
  k_with "eval ListComp" => ((k_here; k_dflt (refine' lc_enter ?F_zT235 ?c_zT235 ?ce_zT235 ?k_zT235 ?n_zT235 ?_ ?s_zT235; (case F_zT235 => k_asm); (case c_zT235 => with_unfolding_all rfl); (case ce_zT235 => decide); (case k_zT235 => rfl); (case n_zT235 => decide); (case s_zT235 => intro _; rfl))))
  k_with "eval ListComp ListComp" => ((k_here; k_dflt (refine' lc_enter1 ?F_zT236 ?c_zT236 ?o_zT236 ?p_zT236 ?k_zT236 ?n_zT236 ?_ ?s_zT236; (case F_zT236 => k_asm); (case c_zT236 => with_unfolding_all rfl); (case o_zT236 => intro _; rfl); (case p_zT236 => intro _; rfl); (case k_zT236 => rfl); (case n_zT236 => decide); (case s_zT236 => intro _; rfl))))
  k_with "Exists" => ((k_here; k_dflt (refine' ⟨_, _, rfl, ?F_zT237, ?N_zT237, ?_⟩; (case F_zT237 => k_asm); (case N_zT237 => k_asm); k_whole; intro D'w C'w c'w oC'w h'w tk'w F'w N'w hC'w l1w l1'w l2w; k_lt l2w; k_lt2 l1'w; k_lt2 l1w; (try k_sweep))))
  k_with "eval DictComp" => ((k_here; k_dflt (refine' dc_enter ?F_zT238 ?c_zT238 ?ce_zT238 ?k_zT238 ?n_zT238 ?_ ?s_zT238; (case F_zT238 => k_asm); (case c_zT238 => with_unfolding_all rfl); (case ce_zT238 => decide); (case k_zT238 => rfl); (case n_zT238 => decide); (case s_zT238 => intro _; rfl))))
  k_with "DcAt" => ((k_here; k_dflt (refine' DcAt.intro ?F_zT239 ?N_zT239 ?_; (case F_zT239 => k_asm); (case N_zT239 => k_asm); k_whole; intro D'w C'w oD'w oC'w h'w tk'w F'w N'w hC'w hD'w l1w l2w; k_lt l2w; k_lt2 l1w; (try k_sweep))))
  k_with "CTurnD" => ((dsimp only [CTurnD]))
  k_with "CTestsD" => ((dsimp only [CTestsD]))
  k_with "CTestD" => ((dsimp only [CTestD]))
  k_with "eval Subscript" => (refine Subscript_ ?_)
  k_with "execs cons" => ((dsimp only; walk_at "execs cons"))
  k_with "execs nil" => ((dsimp only; walk_at "execs nil"))
  k_with "eval Call" => ((dsimp only; walk_at "eval Call"))
  k_with "binaryOp" => ((dsimp only; walk_at "binaryOp"))
  k_with "eval Name" => ((k_here; (with_reducible show wpAny _ _ (eval (Expr.Name _ _) (compEnvC _ _ _ _)) _ _ _); k_dflt (refine LCgL.ld_own (by k_asm) (by k_mem) (by assumption) (by rfl) ?_)))
  k_with "g_sub" => ((k_here; (with_reducible show wpAny _ _ (subscriptTail _ _ (Value.ref _) (Value.int _ _)) _ _ _); k_dflt (first
      | (refine' item_L ?N_zT249 ?m_zT249 ?lo_zT249 ?hi_zT249 ?x_zT249 ?_ ?s_zT249; (case N_zT249 => k_asm); (case m_zT249 => k_mem); (case lo_zT249 => decide); (case hi_zT249 => decide); (case x_zT249 => walk_at "g_item"); (case s_zT249 => with_unfolding_all rfl); k_whole)
      | (refine' item_L ?N_zT249 ?m_zT249 ?lo_zT249 ?hi_zT249 ?x_zT249 ?_ ?s_zT249; (case N_zT249 => k_asm); (case m_zT249 => k_mem); (case lo_zT249 => assumption); (case hi_zT249 => omega); (case x_zT249 => assumption); (case s_zT249 => with_unfolding_all rfl); k_whole)
      | (refine' item_T ?N_zT249 ?m_zT249 ?lo_zT249 ?hi_zT249 ?x_zT249 ?_ ?s_zT249; (case N_zT249 => k_asm); (case m_zT249 => k_mem); (case lo_zT249 => decide); (case hi_zT249 => decide); (case x_zT249 => walk_at "g_item"); (case s_zT249 => with_unfolding_all rfl); k_whole)
      | (refine' item_D ?N_zT249 ?m_zT249 ?D_zT249 ?k_zT249 ?_ ?s_zT249; (case N_zT249 => k_asm); (case m_zT249 => k_mem); (case D_zT249 => assumption); (case k_zT249 => first | with_reducible assumption | rfl); (case s_zT249 => with_unfolding_all rfl); k_whole))))
  k_with "subscriptTail Name Constant ref int" => (walk_at "g_sub")
  k_with "subscriptTail Tuple cons BinOp ref int" => (walk_at "g_sub")
  k_with "subscriptTail Subscript Name Constant Name ref int" => (walk_at "g_sub")
  k_with "exec For Name Call cons nil" => ((refine wpAny_For ?_ ?_; rotate_left; (intro _; rfl)))
  k_with "subscriptTail Name Name ref int" => (walk_at "g_sub")
  k_with "getAttr ref" => ((k_here; (with_reducible show wpAny _ _ (getAttr (Value.ref _) (Str.ofString "__contains__") true) _ _ _); k_dflt (refine' cn_K ?F_zT255 ?N_zT255 ?m_zT255 ?_; (case F_zT255 => k_asm); (case N_zT255 => k_asm); (case m_zT255 => k_mem); k_whole); intro q'w h'w tk'w F'w N'w l1w; (try k_lt l1w); (try k_sweep)))
  k_with "g_units" => (((have hcL9 := cLine_is); (try simp only [units_in1, units_deeper, Around.mark_units, units_caller]); (try dsimp only); omega))
  k_with "call builtin:iter" => ((k_here; (with_reducible show wpAny _ _ (call (Value.builtin "iter") [Value.ref _]) _ _ _); k_dflt (refine' b_iter ?F_zT257 ?N_zT257 ?m_zT257 ?_; (case F_zT257 => k_asm); (case N_zT257 => k_asm); (case m_zT257 => k_mem); k_whole; intro I'w o'w h'w F'w N'w hI'w l1w; (try k_lt l1w); (try k_sweep))))
  k_with "call builtin:next" => ((k_here; (with_reducible show wpAny _ _ (call (Value.builtin "next") [Value.ref _]) _ _ _); k_dflt (first
      | (refine' b_next ?F_zT258 ?N_zT258 ?mI_zT258 ?hI_zT258 ?U_zT258 ?m_zT258 ?x_zT258 ?_; (case F_zT258 => k_asm); (case N_zT258 => k_asm); (case mI_zT258 => k_mem); (case hI_zT258 => assumption); (case U_zT258 => k_updF); (case m_zT258 => k_mem); (case x_zT258 => assumption); k_whole; intro h'w o'w F'w N'w hI'w; (try dsimp only at N'w); (try k_sweep))
      | (refine' b_stop ?hh_zT258 ?F_zT258 ?N_zT258 ?hI_zT258 ?mI_zT258 ?m_zT258 ?x_zT258 ?D_zT258 ?_; (case hh_zT258 => rfl); (case F_zT258 => k_asm); (case N_zT258 => k_asm); (case mI_zT258 => k_mem); (case hI_zT258 => assumption); (case m_zT258 => k_mem); (case x_zT258 => assumption); (case D_zT258 => walk_at "g_del"); k_whole; intro h1'w h'w e'w F'w N'w hE'w))))
  k_with "call ref" => ((k_here; (try dsimp only [List.nil_append]); (with_reducible show wpAny _ _ (call (Value.ref _) [Value.int _ _]) _ _ _); k_dflt (refine' cn_callN ?N_zT259 ?q_zT259 ?b_zT259 ?u_zT259 ?_; (case N_zT259 => k_asm); (case q_zT259 => k_mem); (case b_zT259 => k_mem); (case u_zT259 => assumption); k_whole)))
  k_with "callWith ref" => ((k_here; k_dflt (refine' callWith_cn ?N_zT260 ?q_zT260 ?_; (case N_zT260 => k_asm); (case q_zT260 => k_mem); k_whole)))
  k_with "And" => (((with_reducible show CnP _ _ _ ∧ _); refine ⟨CnP.of (by k_asm) (by k_mem), ?_⟩; try dsimp only [List.nil_append, List.cons_append]))
  k_with "CnP" => (exact CnP.of (by k_asm) (by k_mem))
  k_with "g_fill" => ((refine (fun (h : Challenge.rw_kt0001_01 = Challenge.rw_kt0001_01 → _) => h rfl) ?_; k_fill; intro _))
  k_with "g_ints" => (first | with_reducible assumption | exact IntsAre.nil | exact IntsAre.cons _ _ (by walk_at "g_ints"))
  k_with "call ref cons nil" => ((k_here; (with_reducible show wpAny _ _ (call (Value.ref 65) _) _ _ _); k_dflt (refine' filt_use ?B_zT265 ?T0_zT265 ?F_zT265 ?f_zT265 ?k_zT265 ?X_zT265 ?T_zT265 ?N_zT265 ?m1_zT265 ?m2_zT265 ?I_zT265 ?J_zT265 ?z_zT265 ?d_zT265 ?u_zT265 ?_; (case B_zT265 => k_asm); (case F_zT265 => k_asm); (case T0_zT265 => assumption); (case f_zT265 => exact rfl); (case k_zT265 => exact rfl); (case X_zT265 => assumption); (case T_zT265 => assumption); (case N_zT265 => k_asm); (case m1_zT265 => k_mem); (case m2_zT265 => k_mem); (case I_zT265 => walk_at "g_ints"); (case J_zT265 => walk_at "g_ints"); (case z_zT265 => first | assumption | (simp; done)); (case d_zT265 => walk_at "g_room"); (case u_zT265 => walk_at "g_room"); k_whole; intro g'w h'w tk'w l'w acc'w c'w T0'w B'w F'w N'w X'w T'w hA'w hz'w l1w l2w; (try k_lt l1w); (try k_lt2 l2w); (try k_sweep))))
  k_with "eval Lambda" => ((k_here; k_dflt (refine' kla_eval ?d0_zT266 ?_; (case d0_zT266 => exact rfl)); k_dflt (refine' lam_S ?F_zT266 ?N_zT266 ?T_zT266 ?C_zT266 ?cd_zT266 ?U_zT266 ?S_zT266 ?hm_zT266 ?hl_zT266 ?hc_zT266 ?hq_zT266 ?hcl_zT266 ?_; (case F_zT266 => k_asm); (case N_zT266 => k_asm); (case T_zT266 => k_asm); (case cd_zT266 => exact rfl); (case C_zT266 => kn_code); (case U_zT266 => k_updF); (case S_zT266 => assumption); (case hm_zT266 => k_mem); (case hl_zT266 => exact rfl); (case hc_zT266 => exact rfl); (case hq_zT266 => exact rfl); (case hcl_zT266 => exact rfl); k_whole); intro f'w c'w o'w p'w v'w t'w ct'w h'w tk'w F'w N'w S'w d1w d2w l1w l2w l3w; (try dsimp only at N'w); (rename Ap _ => sA'w; (first | replace sA'w := Ap.lam sA'w (by walk_at "g_shc") l1w l2w l3w rfl | (replace sA'w := Ap.subL sA'w l1w rfl (by walk_at "g_shs"); replace sA'w := Ap.lam sA'w (by walk_at "g_shc") l1w l2w l3w rfl)))))
  k_with "pyIter ref" => ((k_here; k_dflt (refine' iter_D ?F_zT267 ?N_zT267 ?m_zT267 ?D_zT267 ?s_zT267 ?_; (case F_zT267 => k_asm); (case N_zT267 => k_asm); (case m_zT267 => k_mem); (case D_zT267 => assumption); (case s_zT267 => walk_at "g_notsys"); k_whole; intro I'w o'w h'w F'w N'w hI'w l1w; (try k_lt l1w); (try k_sweep))))
  k_with "g_notsys" => (first | decide | exact not_sys (by with_reducible assumption))
  k_with "pyNext ref" => ((k_here; k_dflt (first
      | (refine' next_D ?F_zT269 ?N_zT269 ?mI_zT269 ?I_zT269 ?m_zT269 ?D_zT269 ?n_zT269 ?x_zT269 ?U_zT269 ?_; (case F_zT269 => k_asm); (case N_zT269 => k_asm); (case mI_zT269 => k_mem); (case I_zT269 => assumption); (case m_zT269 => k_mem); (case D_zT269 => assumption); (case n_zT269 => first | with_reducible assumption | exact Eq.symm (by with_reducible assumption) | rfl); (case x_zT269 => assumption); (case U_zT269 => k_updF); k_whole; intro t'w h'w o'w F'w N'w hI'w; (try dsimp only at N'w); (try k_sweep))
      | (refine' next_D_end ?hh_zT269 ?F_zT269 ?N_zT269 ?mI_zT269 ?I_zT269 ?m_zT269 ?D_zT269 ?n_zT269 ?x_zT269 ?De_zT269 ?_; (case hh_zT269 => rfl); (case F_zT269 => k_asm); (case N_zT269 => k_asm); (case mI_zT269 => k_mem); (case I_zT269 => assumption); (case m_zT269 => k_mem); (case D_zT269 => assumption); (case n_zT269 => first | with_reducible assumption | exact Eq.symm (by with_reducible assumption) | rfl); (case x_zT269 => assumption); (case De_zT269 => walk_at "g_del"); k_whole; intro h'w F'w N'w; (try dsimp only at N'w); (try k_sweep)))))
  k_with "exec For Name Name cons nil" => ((refine wpAny_For ?_ ?_; rotate_left; (intro _; rfl)))
  k_with "pyIter ref" => ((k_here; k_dflt (refine' self_list ?N_zT271 ?m_zT271 ?I_zT271 ?_; (case N_zT271 => k_asm); (case m_zT271 => k_mem); (case I_zT271 => assumption); k_whole)))
  k_with "call builtin:divmod" => ((k_here; (with_reducible show wpAny _ _ (call (Value.builtin _) [Value.int _ _, Value.int _ _]) _ _ _); k_dflt (refine' divmod_L ?F_zT272 ?N_zT272 ?b_zT272 ?_ ?p_zT272; (case F_zT272 => k_asm); (case N_zT272 => k_asm); (case b_zT272 => decide); (case p_zT272 => exact PyProof.noPylong_small (by omega)); k_whole; intro T'w h'w t1'w t2'w tk'w F'w N'w l1w; (try k_lt l1w); (try k_sweep))))
  k_with "dictSet" => ((k_here; k_dflt (refine' dset_new ?F_zT273 ?N_zT273 ?m_zT273 ?D_zT273 ?k_zT273 ?z_zT273 ?U_zT273 ?_; (case F_zT273 => k_asm); (case N_zT273 => k_asm); (case m_zT273 => k_mem); (case D_zT273 => assumption); (case k_zT273 => assumption); (case z_zT273 => assumption); (case U_zT273 => k_updF); k_whole; intro h'w o'w F'w N'w hD'w; (try dsimp only at N'w); (try k_sweep))))
  k_with "call builtin:len" => ((k_here; (with_reducible show wpAny _ _ (call (Value.builtin "len") [Value.ref _]) _ _ _); k_dflt (refine' len_L ?N_zT274 ?m_zT274 ?I_zT274 ?z_zT274 ?_; (case N_zT274 => k_asm); (case m_zT274 => k_mem); (case I_zT274 => walk_at "g_ints"); (case z_zT274 => assumption); k_whole; intro t'w tk'w)))
  k_with "letOwnedTupleGo" => ((k_here; k_dflt (refine' own_en ?F_zT275 ?N_zT275 ?U_zT275 ?_; (case F_zT275 => k_asm); (case N_zT275 => k_asm); (case U_zT275 => walk_at "g_updF"); k_whole; intro h'w F'w N'w; (try dsimp only at N'w); (try k_sweep))))
  k_with "letOwnedTupleGo" => ((k_here; k_dflt (refine' own_tup ?N_zT276 ?m_zT276 ?I_zT276 ?_; (case N_zT276 => k_asm); (case m_zT276 => k_mem); (case I_zT276 => assumption); k_whole)))
  k_with "call type:type" => ((k_here; (with_reducible show wpAny _ _ (call _ [Value.bytes _ _]) _ _ _); refine call_type_of (Tx := "bytes") rfl (by decide +kernel) ?_))
  k_with "getMethod bytes" => ((k_here; first | with_reducible refine hex_m ?_ | with_reducible refine upper_m ?_))
  k_with "getMethod str" => ((k_here; with_reducible refine enc_m ?_))
  k_with "call builtin:bytes.hex" => ((k_here; (with_reducible show wpAny _ _ (call (Value.builtin _) [Value.bytes _ _]) _ _ _); refine hex_call (by assumption) ?_; intro _ _))
  k_with "call builtin:bytes.upper" => ((k_here; (with_reducible show wpAny _ _ (call (Value.builtin _) [Value.bytes _ _]) _ _ _); refine upper_call (by assumption) ?_; intro _ _))
  k_with "call builtin:str.encode" => ((k_here; (with_reducible show wpAny _ _ (call (Value.builtin _) [Value.str _ _, Value.str _ _]) _ _ _); refine enc_call (by assumption) (by assumption) ?_; intro _ _))
  k_with "g_self" => ((intro _ _ hqw; first | exact self_list (by k_asm) (by k_mem) (by assumption) hqw | exact self_range (by k_asm) (by k_mem) hqw | exact self_D (by k_asm) (by k_mem) (by assumption) hqw | exact self_tup (by k_asm) (by k_mem) (by assumption) hqw | exact self_B (by k_asm) (by k_mem) (by assumption) hqw))
  k_with "codeAny" => (first
      | ((with_reducible show codeAny _ _ (Code.compLoop (Expr.ListComp _ _ _ _) 1 _ _ _) _ _); refine comp2_inner ?_)
      | ((with_reducible show codeAny _ _ (Code.compStart (Expr.ListComp _ _ _ _) 1 _ _ _) _ _); k_dflt (refine comp2_start1 (by walk_at "g_self") ?_))
      | ((with_reducible show codeAny _ _ (Code.compStart (Expr.ListComp _ [_, _] _ _) 0 _ _ _) _ _); k_dflt (refine comp2_start0 (by walk_at "g_self") ?_)))
  k_with "COut" => ((dsimp only [COut]))
  k_with "CIn" => ((dsimp only [CIn]))
  k_with "eval ListComp" => ((k_here; (with_reducible show wpAny _ _ (eval (Expr.ListComp _ [_, _] _ _) _) _ _ _); k_dflt (refine' lc2_enter ?F_zT287 ?c_zT287 ?ce_zT287 ?k_zT287 ?n_zT287 ?_ ?s_zT287; (case F_zT287 => k_asm); (case c_zT287 => with_unfolding_all rfl); (case ce_zT287 => decide); (case k_zT287 => rfl); (case n_zT287 => decide); (case s_zT287 => intro _; rfl))))
  k_with "pyIter bytes" => ((k_here; k_dflt (refine' iter_B ?F_zT288 ?N_zT288 ?_; (case F_zT288 => k_asm); (case N_zT288 => k_asm); k_whole; intro I'w o'w h'w F'w N'w hI'w l1w; (try k_lt l1w); (try k_sweep))))
  k_with "pyNext ref" => ((k_here; k_dflt (first
      | (refine' next_B ?F_zT289 ?N_zT289 ?mI_zT289 ?I_zT289 ?U_zT289 ?x_zT289 ?_; (case F_zT289 => k_asm); (case N_zT289 => k_asm); (case mI_zT289 => k_mem); (case I_zT289 => assumption); (case U_zT289 => k_updF); (case x_zT289 => assumption); k_whole; intro h'w o'w u'w tk'w F'w N'w hI'w; (try dsimp only at N'w); (try k_sweep))
      | (refine' next_B_end ?hh_zT289 ?F_zT289 ?N_zT289 ?I_zT289 ?mI_zT289 ?x_zT289 ?D_zT289 ?_; (case hh_zT289 => rfl); (case F_zT289 => k_asm); (case N_zT289 => k_asm); (case mI_zT289 => k_mem); (case I_zT289 => assumption); (case x_zT289 => assumption); (case D_zT289 => walk_at "g_del"); k_whole; intro h'w F'w N'w; (try dsimp only at N'w); (try k_sweep)))))
  k_with "call type:enumerate" => ((k_here; (with_reducible show wpAny _ _ (call (Value.type _) [Value.ref _]) _ _ _); k_dflt (refine' call_en ?F_zT290 ?N_zT290 ?m_zT290 ?_; (case F_zT290 => k_asm); (case N_zT290 => k_asm); (case m_zT290 => k_mem); k_whole; intro I'w e'w o'w h'w F'w N'w hI'w l1w l2w; (try k_lt l1w); (try k_lt2 l2w); (try k_sweep))))
  k_with "g_self" => ((intro _ _ hqw; exact self_en (by k_asm) (by k_mem) hqw))
  k_with "g_self" => ((intro _ _ hqw; first | exact self_list (by k_asm) (by k_mem) (by assumption) hqw | exact self_range (by k_asm) (by k_mem) hqw | exact self_D (by k_asm) (by k_mem) (by assumption) hqw | exact self_tup (by k_asm) (by k_mem) (by assumption) hqw | exact self_B (by k_asm) (by k_mem) (by assumption) hqw | exact self_en (by k_asm) (by k_mem) hqw))
  k_with "pyIter ref" => ((k_here; k_dflt (refine' self_en ?N_zT293 ?m_zT293 ?_; (case N_zT293 => k_asm); (case m_zT293 => k_mem); k_whole)))
  k_with "pyNext ref" => ((k_here; k_dflt (first
      | (refine' next_en ?F_zT294 ?N_zT294 ?me_zT294 ?S_zT294 ?e_zT294 ?H_zT294 ?hI_zT294 ?ml_zT294 ?x_zT294 ?_; (case F_zT294 => k_asm); (case N_zT294 => k_asm); (case me_zT294 => k_mem); (case S_zT294 => assumption); (case e_zT294 => exact rfl); (case H_zT294 => walk_at "g_sh2"); (case hI_zT294 => assumption); (case ml_zT294 => k_mem); (case x_zT294 => walk_at "g_item"); k_whole; intro T'w o'w h'w u'w tk'w F'w N'w hI'w l1w; (try dsimp only at N'w); (try k_lt l1w); (try k_sweep))
      | (refine' next_en_end ?hh_zT294 ?F_zT294 ?N_zT294 ?me_zT294 ?mI_zT294 ?hI_zT294 ?ml_zT294 ?x_zT294 ?D_zT294 ?_; (case hh_zT294 => rfl); (case F_zT294 => k_asm); (case N_zT294 => k_asm); (case me_zT294 => k_mem); (case mI_zT294 => k_mem); (case hI_zT294 => assumption); (case ml_zT294 => k_mem); (case x_zT294 => walk_at "g_off"); (case D_zT294 => walk_at "g_del"); k_whole; intro h'w F'w N'w; (try dsimp only at N'w); (try k_sweep)))))
  k_with "call builtin:sum" => ((k_here; (with_reducible show wpAny _ _ (call (Value.builtin "sum") [Value.ref _]) _ _ _); k_dflt (refine' sum_pick ?hh_zT295 ?F_zT295 ?N_zT295 ?I_zT295 ?_; (case hh_zT295 => rfl); (case F_zT295 => k_asm); (case N_zT295 => k_asm); (case I_zT295 => assumption); k_whole); intro x'w h'w tk'w t'w F'w N'w; (try k_sweep)))
  k_with "call type:bytes" => ((k_here; (with_reducible show wpAny _ _ (call (Value.type "bytes") [Value.ref _]) _ _ _); k_dflt (refine' bytes_K ?F_zT296 ?N_zT296 ?l_zT296 ?i_zT296 ?r_zT296 ?z_zT296 ?h_zT296 ?_; (case F_zT296 => k_asm); (case N_zT296 => k_asm); (case l_zT296 => exact News.isList (by k_asm) (by k_mem)); (case i_zT296 => assumption); (case r_zT296 => assumption); (case z_zT296 => assumption); (case h_zT296 => rfl); k_whole); intro h'w t'w k'w F'w N'w _; (try k_sweep)))
  k_with "call ref cons nil" => ((k_here; (with_reducible show wpAny _ _ (call (Value.ref 88) [Value.bytes _ _]) _ _ _); k_dflt (refine' gives_use (b16 _ _ _ ?hb_zT297) ?B_zT297 ?F_zT297 ?f_zT297 ?k_zT297 ?X_zT297 ?T_zT297 ?N_zT297 ?s_zT297 ?d_zT297 ?u_zT297 ?_; (case hb_zT297 => assumption); (case B_zT297 => k_asm); (case F_zT297 => k_asm); (case X_zT297 => k_asm); (case T_zT297 => k_asm); (case f_zT297 => exact rfl); (case k_zT297 => exact rfl); (case N_zT297 => k_asm); (case s_zT297 => intro pw hpw; cases hpw); (case d_zT297 => walk_at "g_room"); (case u_zT297 => walk_at "g_room"); k_whole); intro r'w h'w tk'w F'w N'w st'w po'w; obtain ⟨t', e'⟩ := po'w; subst e'; (try clear st'w); (try k_sweep)))
  k_with "dictSet" => ((k_here; k_dflt (refine' dset_new ?F_zT298 ?N_zT298 ?m_zT298 ?D_zT298 ?k_zT298 ?z_zT298 ?U_zT298 ?_; (case F_zT298 => k_asm); (case N_zT298 => k_asm); (case m_zT298 => k_mem); (case D_zT298 => assumption); (case k_zT298 => first | assumption | exact of_decide_eq_false rfl); (case z_zT298 => first | assumption | exact of_decide_eq_true rfl); (case U_zT298 => k_updF); k_whole; intro h'w o'w F'w N'w hD'w; (try dsimp only at N'w); (try k_sweep))))
  k_with "g_fig" => ((k_here; k_dflt (refine' fig_item ?a_zT299 ?b_zT299 ?_ ?s_zT299 ?t_zT299; (case a_zT299 => first | decide | with_reducible assumption | omega); (case b_zT299 => first | decide | with_reducible assumption | omega); (case s_zT299 => with_unfolding_all rfl); (case t_zT299 => intro _; with_unfolding_all rfl); k_whole); intro u'w tk'w))
  k_with "call builtin:list.append" => ((k_here; (with_reducible show wpAny _ _ (call (Value.builtin _) [Value.ref _, _]) _ _ _); k_dflt (refine' append_L ?k1_zT2100 ?k2_zT2100 ?k3_zT2100 ?_ ?z_zT2100; (case k1_zT2100 => k_asm); (case k2_zT2100 => k_asm); (case k3_zT2100 => k_upd); (case z_zT2100 => first | with_reducible assumption | (simp [sizeLine]; done) | (simp only [List.length_append, List.length_cons, List.length_nil]; rw [sizeLine_eq]; omega)); k_whole); intro h'w F'w N'w; (try simp only [List.nil_append, List.cons_append] at N'w); (try k_sweep)))
  k_with "g_room2" => (first | decide | walk_at "g_room")
  k_with "call ref cons nil" => ((k_here; (with_reducible show wpAny _ _ (call (Value.ref 65) _) _ _ _); k_dflt (refine' filt_use ?B_zT2102 ?T0_zT2102 ?F_zT2102 ?f_zT2102 ?k_zT2102 ?X_zT2102 ?T_zT2102 ?N_zT2102 ?m1_zT2102 ?m2_zT2102 ?I_zT2102 ?J_zT2102 ?z_zT2102 ?d_zT2102 ?u_zT2102 ?_; (case B_zT2102 => k_asm); (case F_zT2102 => k_asm); (case T0_zT2102 => assumption); (case f_zT2102 => exact rfl); (case k_zT2102 => exact rfl); (case X_zT2102 => assumption); (case T_zT2102 => assumption); (case N_zT2102 => k_asm); (case m1_zT2102 => k_mem); (case m2_zT2102 => k_mem); (case I_zT2102 => walk_at "g_ints"); (case J_zT2102 => walk_at "g_ints"); (case z_zT2102 => first | assumption | (simp; done)); (case d_zT2102 => walk_at "g_room2"); (case u_zT2102 => walk_at "g_room2"); k_whole; intro g'w h'w tk'w l'w acc'w c'w T0'w B'w F'w N'w X'w T'w hA'w hz'w l1w l2w; (try k_lt l1w); (try k_lt2 l2w); (try k_sweep))))
  k_with "g_shf" => (first | exact ShF.head | (apply ShF.tail; walk_at "g_shf") | (apply ShF.tailo; walk_at "g_shf") | fail "no shape")
  k_with "g_shu" => (first | exact ShU.head | (apply ShU.tail; walk_at "g_shu") | (apply ShU.tailo; walk_at "g_shu") | fail "no shape")
  k_with "g_shd" => (first | exact ShD.head | (apply ShD.tail; walk_at "g_shd") | (apply ShD.tailo; walk_at "g_shd") | fail "no shape")
  k_with "g_shs1" => (first | exact ShS.nil | (apply ShS.knew; walk_at "g_shs1") | (apply ShS.kold; walk_at "g_shs1") | (apply ShS.snew; walk_at "g_shs1") | (apply ShS.sold; walk_at "g_shs1") | fail "no shape")
  k_with "g_shs" => (((try dsimp only [List.map]); walk_at "g_shs1"))
  k_with "g_sho1" => (first | exact ShO.nil | (apply ShO.cons; walk_at "g_sho1") | fail "no shape")
  k_with "g_sho" => (((try dsimp only [List.map]); walk_at "g_sho1"))
  k_with "g_apnow" => ((rename Ap _ => sA'w; rename News _ _ _ _ => nA'w; replace sA'w := Ap.now nA'w sA'w rfl (by walk_at "g_shs")))
  k_with "g_del" => (first | (refine' del_of ?S_zT2111 ?uh_zT2111 ?e_zT2111; (case S_zT2111 => assumption); (case e_zT2111 => exact rfl); (case uh_zT2111 => walk_at "g_shd")) | (walk_at "g_apnow"; refine' del_of ?S_zT2111 ?uh_zT2111 ?e_zT2111; (case S_zT2111 => assumption); (case e_zT2111 => exact rfl); (case uh_zT2111 => walk_at "g_shd")))
  k_with "g_updF" => (first | (refine' updF_of ?S_zT2112 ?uh_zT2112 ?e_zT2112; (case S_zT2112 => assumption); (case e_zT2112 => exact rfl); (case uh_zT2112 => walk_at "g_shf")) | (walk_at "g_apnow"; refine' updF_of ?S_zT2112 ?uh_zT2112 ?e_zT2112; (case S_zT2112 => assumption); (case e_zT2112 => exact rfl); (case uh_zT2112 => walk_at "g_shf")))
  k_with "g_upd" => (first | (refine' upd_of ?S_zT2113 ?uh_zT2113 ?e_zT2113; (case S_zT2113 => assumption); (case e_zT2113 => exact rfl); (case uh_zT2113 => walk_at "g_shu")) | (walk_at "g_apnow"; refine' upd_of ?S_zT2113 ?uh_zT2113 ?e_zT2113; (case S_zT2113 => assumption); (case e_zT2113 => exact rfl); (case uh_zT2113 => walk_at "g_shu")))
  k_with "g_ltm" => (first | with_reducible assumption | exact ltAll (by assumption) (by k_mem))
  k_with "g_shc" => (first | exact ShC.head | (apply ShC.tail; walk_at "g_shc") | (apply ShC.tailo; walk_at "g_shc") | fail "no shape")
  k_with "g_sh2" => (first | exact Sh2.head | (apply Sh2.tail; walk_at "g_sh2") | fail "no shape")
  k_with "g_bd" => (first | with_reducible assumption | omega)
  k_with "subscriptTail Name Name ref int" => ((k_here; (with_reducible show wpAny _ _ (subscriptTail _ _ (Value.ref _) (Value.int _ _)) _ _ _); k_dflt (refine' rows_item ?N_zT2118 ?m_zT2118 ?lo_zT2118 ?hi_zT2118 ?_ ?s_zT2118; (case N_zT2118 => k_asm); (case m_zT2118 => k_mem); (case lo_zT2118 => walk_at "g_bd"); (case hi_zT2118 => walk_at "g_bd"); (case s_zT2118 => with_unfolding_all rfl); k_whole)))
  k_with "getItem ref int" => ((k_here; (with_reducible show wpAny _ _ (getItem (Value.ref (rsel _ _ _ _ _)) (Value.int _ _)) _ _ _); k_dflt (refine' rows_get ?R_zT2119 ?N_zT2119 ?S_zT2119 ?H_zT2119 ?a_zT2119 ?b_zT2119 ?c_zT2119 ?d_zT2119 ?_; (case R_zT2119 => assumption); (case N_zT2119 => k_asm); (case S_zT2119 => assumption); (case H_zT2119 => walk_at "g_shr"); (case a_zT2119 => walk_at "g_bd"); (case b_zT2119 => walk_at "g_bd"); (case c_zT2119 => walk_at "g_bd"); (case d_zT2119 => walk_at "g_bd"); k_whole; intro tg'w)))
  k_with "setItem ref int" => ((k_here; (with_reducible show wpAny _ _ (setItem (Value.ref (rsel _ _ _ _ _)) (Value.int _ _) (Value.int _ _)) _ _ _); k_dflt (first | (refine' rows_set ?R_zT2120 ?F_zT2120 ?N_zT2120 ?S_zT2120 ?H_zT2120 ?e_zT2120 ?a_zT2120 ?b_zT2120 ?c_zT2120 ?d_zT2120 ?_; (case R_zT2120 => assumption); (case F_zT2120 => k_asm); (case N_zT2120 => k_asm); (case S_zT2120 => assumption); (case e_zT2120 => exact rfl); (case H_zT2120 => walk_at "g_shr"); (case a_zT2120 => walk_at "g_bd"); (case b_zT2120 => walk_at "g_bd"); (case c_zT2120 => walk_at "g_bd"); (case d_zT2120 => walk_at "g_bd")) | (walk_at "g_apnow"; refine' rows_set ?R_zT2120 ?F_zT2120 ?N_zT2120 ?S_zT2120 ?H_zT2120 ?e_zT2120 ?a_zT2120 ?b_zT2120 ?c_zT2120 ?d_zT2120 ?_; (case R_zT2120 => assumption); (case F_zT2120 => k_asm); (case N_zT2120 => k_asm); (case S_zT2120 => assumption); (case e_zT2120 => exact rfl); (case H_zT2120 => walk_at "g_shr"); (case a_zT2120 => walk_at "g_bd"); (case b_zT2120 => walk_at "g_bd"); (case c_zT2120 => walk_at "g_bd"); (case d_zT2120 => walk_at "g_bd"))); k_whole; intro h'w o0'w o1'w o2'w o3'w R'w F'w N'w; (try dsimp only at N'w); (try k_sweep)))
  k_with "g_shr" => (first | exact ShR.head | (apply ShR.tail; walk_at "g_shr") | fail "no shape")
  trivial
set_option maxRecDepth 100000 in
set_option maxHeartbeats 8000000 in
theorem table (w : World) (a d : Addr) (n ep : Nat) (vs : List Value) (os : List Int) (od : Obj) (w0 w1 w2 w3 : Int) (u0 u1 u2 u3 : Tok) (hI : IntsAre vs os) (hD : DictIs Challenge.rw_kt0001_01.row.prog w od [(0, .int w0 u0), (1, .int w1 u1), (2, .int w2 u2), (3, .int w3 u3)] ep) (hos : ∀ x ∈ os, 0 ≤ x ∧ x ≤ 255) :
    Gives w 107 [.ref a, .ref d] 3 300 [(a, W.listOf vs.toArray n), (d, od)] (NewTable (os.foldl edges2 (base4 w0 w1 w2 w3))) := by
  unfold Gives
  k_fill
  intro p loose mean mg mb A₀ dp un gd env outer base h₀ L m s Q E B F hf hke X T N hd hu ret
  refine wpAny_call ?_
  (refine' enter_cells ?k1_zq ?k2_zq ?k3_zq ?k4_zq ?k5_zq ?kA_zq ?kF_zq ?kK_zq ?k6_zq ?k7_zq ?k8_zq ?k9_zq ?kB_zq ?kD_zq ?_ ?c2_zq ?c3_zq ?c4_zq; (case kA_zq => exact rfl); (case kF_zq => assumption); (case kK_zq => assumption); (case k1_zq => k_asm); (case k2_zq => k_asm); (case k3_zq => k_asm); (case k4_zq => k_asm); (case k5_zq => k_asm); (case k6_zq => k_is); (case k7_zq => k_is); (case k8_zq => walk_at "g_room"); (case k9_zq => exact BindsTo.of_eq rfl); (case kB_zq => exact rfl); (case kD_zq => decide +kernel); (case c2_zq => exact rfl); (case c3_zq => exact rfl); (case c4_zq => exact rfl); k_whole; intro g' L' h' tk' cells' F' N' Y' B' X' T' l1 lz lg; k_cells Y'; (try simp only [List.cons_append, List.nil_append] at N'); (first | (rename Ap _ => sA'; have sA' := ApB.of l1 sA' rfl) | (have sA' := ApB.start l1 rfl (by walk_at "g_sho"))); (first | replace sA' := Ap.nowB N' sA'.cell.cell.cell.cell rfl | replace sA' := Ap.nowB N' sA'.cell.cell.cell rfl | replace sA' := Ap.nowB N' sA'.cell.cell rfl | replace sA' := Ap.nowB N' sA'.cell rfl | replace sA' := Ap.nowB N' sA' rfl); (try dsimp only); (try k_fold))
  repeat' ((fail_if_success (with_reducible show codeAny _ _ (Code.compLoop (Expr.ListComp (Expr.IfExp _ _ _ _) _ _ _) _ _ _ _) _ _)); (first | ((with_reducible show wpAny _ _ (execs (_ :: _) _) _ _ _); k_fold; walk1) | ((with_reducible show wpAny _ _ (eval (Expr.ListComp _ _ _ _) _) _ _ _); k_fold; walk1) | (k_unfold; (try dsimp only)) | (refine hR9 _ _ ?_; try dsimp only) | (refine hR8 _ _ ?_; try dsimp only) | (k_end; wrow_close) | walk1 | (dsimp only; walk1) | (leave1; walk_say "STEP leave1"; try dsimp only) | fail "no step"))
  rename (Fr g' L' _ _) => F9
  rename News g' L' _ _ => N9
  rename LCg.NsObj _ (fun _ => none) => C9
  refine YInv.loop (g := g') (L := L') (f := (base4 w0 w1 w2 w3 0)) (YInv.mk _ F9 N9 C9) ?_
  clear F9 N9 C9
  intro R9 hR9 j oC mC acc0 cnt0 h1 tk1 hi F9 N9 C9 A0 al0 ih
  refine compL_step ?_
  rcases Nat.lt_or_ge j 4 with hlt | hge
  · have b0 : (0 : Int) ≤ (j : Int) := Int.natCast_nonneg _
    have b1 : (j : Int) < 4 := by omega
    have b2 : (0 : Int) < 4 - (j : Int) := by omega
    have hal : acc0.length ≤ sizeLine := Nat.le_trans (by omega : acc0.length ≤ 64) (by decide)
    repeat' ((fail_if_success (with_reducible show codeAny _ _ (Code.compLoop (Expr.ListComp (Expr.IfExp _ _ _ _) _ _ _) _ _ _ _) _ _)); (first | ((with_reducible show wpAny _ _ (execs (_ :: _) _) _ _ _); k_fold; walk1) | ((with_reducible show wpAny _ _ (eval (Expr.ListComp _ _ _ _) _) _ _ _); k_fold; walk1) | (k_unfold; (try dsimp only)) | (refine hR9 _ _ ?_; try dsimp only) | (refine hR8 _ _ ?_; try dsimp only) | (k_end; wrow_close) | walk1 | (dsimp only; walk1) | (leave1; walk_say "STEP leave1"; try dsimp only) | fail "no step"))
    all_goals refine ih _ _ (by omega) (YInv.next (by assumption) (by assumption) (by assumption) A0 al0 hlt ?_)
    · exact (if_pos (by assumption)).symm
    · exact (if_neg (by assumption)).symm
  have hi2 := Nat.le_antisymm hi hge
  subst hi2
  have b2 : 4 - ((4 : Nat) : Int) ≤ 0 := by decide
  clear ih hi hge
  repeat' ((fail_if_success (with_reducible show codeAny _ _ (Code.compLoop (Expr.ListComp (Expr.IfExp _ _ _ _) _ _ _) _ _ _ _) _ _)); (first | ((with_reducible show wpAny _ _ (execs (_ :: _) _) _ _ _); k_fold; walk1) | ((with_reducible show wpAny _ _ (eval (Expr.ListComp _ _ _ _) _) _ _ _); k_fold; walk1) | (k_unfold; (try dsimp only)) | (refine hR9 _ _ ?_; try dsimp only) | (refine hR8 _ _ ?_; try dsimp only) | (k_end; wrow_close) | walk1 | (dsimp only; walk1) | (leave1; walk_say "STEP leave1"; try dsimp only) | fail "no step"))
  rename (Fr g' L' _ _) => F9
  rename News g' L' _ _ => N9
  rename LCg.NsObj _ (fun _ => none) => C9
  refine YInv.loop (g := g') (L := L') (f := (base4 w0 w1 w2 w3 1)) (YInv.mk _ F9 N9 C9) ?_
  clear F9 N9 C9
  intro R9 hR9 j oC mC acc1 cnt1 h1 tk1 hi F9 N9 C9 A1 al1 ih
  refine compL_step ?_
  rcases Nat.lt_or_ge j 4 with hlt | hge
  · have b0 : (0 : Int) ≤ (j : Int) := Int.natCast_nonneg _
    have b1 : (j : Int) < 4 := by omega
    have b2 : (0 : Int) < 4 - (j : Int) := by omega
    have hal : acc1.length ≤ sizeLine := Nat.le_trans (by omega : acc1.length ≤ 64) (by decide)
    repeat' ((fail_if_success (with_reducible show codeAny _ _ (Code.compLoop (Expr.ListComp (Expr.IfExp _ _ _ _) _ _ _) _ _ _ _) _ _)); (first | ((with_reducible show wpAny _ _ (execs (_ :: _) _) _ _ _); k_fold; walk1) | ((with_reducible show wpAny _ _ (eval (Expr.ListComp _ _ _ _) _) _ _ _); k_fold; walk1) | (k_unfold; (try dsimp only)) | (refine hR9 _ _ ?_; try dsimp only) | (refine hR8 _ _ ?_; try dsimp only) | (k_end; wrow_close) | walk1 | (dsimp only; walk1) | (leave1; walk_say "STEP leave1"; try dsimp only) | fail "no step"))
    all_goals refine ih _ _ (by omega) (YInv.next (by assumption) (by assumption) (by assumption) A1 al1 hlt ?_)
    · exact (if_pos (by assumption)).symm
    · exact (if_neg (by assumption)).symm
  have hi2 := Nat.le_antisymm hi hge
  subst hi2
  have b2 : 4 - ((4 : Nat) : Int) ≤ 0 := by decide
  clear ih hi hge
  repeat' ((fail_if_success (with_reducible show codeAny _ _ (Code.compLoop (Expr.ListComp (Expr.IfExp _ _ _ _) _ _ _) _ _ _ _) _ _)); (first | ((with_reducible show wpAny _ _ (execs (_ :: _) _) _ _ _); k_fold; walk1) | ((with_reducible show wpAny _ _ (eval (Expr.ListComp _ _ _ _) _) _ _ _); k_fold; walk1) | (k_unfold; (try dsimp only)) | (refine hR9 _ _ ?_; try dsimp only) | (refine hR8 _ _ ?_; try dsimp only) | (k_end; wrow_close) | walk1 | (dsimp only; walk1) | (leave1; walk_say "STEP leave1"; try dsimp only) | fail "no step"))
  rename (Fr g' L' _ _) => F9
  rename News g' L' _ _ => N9
  rename LCg.NsObj _ (fun _ => none) => C9
  refine YInv.loop (g := g') (L := L') (f := (base4 w0 w1 w2 w3 2)) (YInv.mk _ F9 N9 C9) ?_
  clear F9 N9 C9
  intro R9 hR9 j oC mC acc2 cnt2 h1 tk1 hi F9 N9 C9 A2 al2 ih
  refine compL_step ?_
  rcases Nat.lt_or_ge j 4 with hlt | hge
  · have b0 : (0 : Int) ≤ (j : Int) := Int.natCast_nonneg _
    have b1 : (j : Int) < 4 := by omega
    have b2 : (0 : Int) < 4 - (j : Int) := by omega
    have hal : acc2.length ≤ sizeLine := Nat.le_trans (by omega : acc2.length ≤ 64) (by decide)
    repeat' ((fail_if_success (with_reducible show codeAny _ _ (Code.compLoop (Expr.ListComp (Expr.IfExp _ _ _ _) _ _ _) _ _ _ _) _ _)); (first | ((with_reducible show wpAny _ _ (execs (_ :: _) _) _ _ _); k_fold; walk1) | ((with_reducible show wpAny _ _ (eval (Expr.ListComp _ _ _ _) _) _ _ _); k_fold; walk1) | (k_unfold; (try dsimp only)) | (refine hR9 _ _ ?_; try dsimp only) | (refine hR8 _ _ ?_; try dsimp only) | (k_end; wrow_close) | walk1 | (dsimp only; walk1) | (leave1; walk_say "STEP leave1"; try dsimp only) | fail "no step"))
    all_goals refine ih _ _ (by omega) (YInv.next (by assumption) (by assumption) (by assumption) A2 al2 hlt ?_)
    · exact (if_pos (by assumption)).symm
    · exact (if_neg (by assumption)).symm
  have hi2 := Nat.le_antisymm hi hge
  subst hi2
  have b2 : 4 - ((4 : Nat) : Int) ≤ 0 := by decide
  clear ih hi hge
  repeat' ((fail_if_success (with_reducible show codeAny _ _ (Code.compLoop (Expr.ListComp (Expr.IfExp _ _ _ _) _ _ _) _ _ _ _) _ _)); (first | ((with_reducible show wpAny _ _ (execs (_ :: _) _) _ _ _); k_fold; walk1) | ((with_reducible show wpAny _ _ (eval (Expr.ListComp _ _ _ _) _) _ _ _); k_fold; walk1) | (k_unfold; (try dsimp only)) | (refine hR9 _ _ ?_; try dsimp only) | (refine hR8 _ _ ?_; try dsimp only) | (k_end; wrow_close) | walk1 | (dsimp only; walk1) | (leave1; walk_say "STEP leave1"; try dsimp only) | fail "no step"))
  rename (Fr g' L' _ _) => F9
  rename News g' L' _ _ => N9
  rename LCg.NsObj _ (fun _ => none) => C9
  refine YInv.loop (g := g') (L := L') (f := (base4 w0 w1 w2 w3 3)) (YInv.mk _ F9 N9 C9) ?_
  clear F9 N9 C9
  intro R9 hR9 j oC mC acc3 cnt3 h1 tk1 hi F9 N9 C9 A3 al3 ih
  refine compL_step ?_
  rcases Nat.lt_or_ge j 4 with hlt | hge
  · have b0 : (0 : Int) ≤ (j : Int) := Int.natCast_nonneg _
    have b1 : (j : Int) < 4 := by omega
    have b2 : (0 : Int) < 4 - (j : Int) := by omega
    have hal : acc3.length ≤ sizeLine := Nat.le_trans (by omega : acc3.length ≤ 64) (by decide)
    repeat' ((fail_if_success (with_reducible show codeAny _ _ (Code.compLoop (Expr.ListComp (Expr.IfExp _ _ _ _) _ _ _) _ _ _ _) _ _)); (first | ((with_reducible show wpAny _ _ (execs (_ :: _) _) _ _ _); k_fold; walk1) | ((with_reducible show wpAny _ _ (eval (Expr.ListComp _ _ _ _) _) _ _ _); k_fold; walk1) | (k_unfold; (try dsimp only)) | (refine hR9 _ _ ?_; try dsimp only) | (refine hR8 _ _ ?_; try dsimp only) | (k_end; wrow_close) | walk1 | (dsimp only; walk1) | (leave1; walk_say "STEP leave1"; try dsimp only) | fail "no step"))
    all_goals refine ih _ _ (by omega) (YInv.next (by assumption) (by assumption) (by assumption) A3 al3 hlt ?_)
    · exact (if_pos (by assumption)).symm
    · exact (if_neg (by assumption)).symm
  have hi2 := Nat.le_antisymm hi hge
  subst hi2
  have b2 : 4 - ((4 : Nat) : Int) ≤ 0 := by decide
  clear ih hi hge
  repeat' ((fail_if_success (with_reducible show codeAny _ _ (Code.forLoop _ _ _ _ _) _ _)); (fail_if_success (with_reducible show wpAny _ _ (exec (Stmt.For _ _ _ _ _) _) _ _ _)); (first | ((with_reducible show wpAny _ _ (execs (_ :: _) _) _ _ _); k_fold; walk1) | ((with_reducible show wpAny _ _ (eval (Expr.ListComp _ _ _ _) _) _ _ _); k_fold; walk1) | (k_unfold; (try dsimp only)) | (refine hR9 _ _ ?_; try dsimp only) | (refine hR8 _ _ ?_; try dsimp only) | (k_end; wrow_close) | walk1 | (dsimp only; walk1) | (leave1; walk_say "STEP leave1"; try dsimp only) | fail "no step"))
  refine wpAny_For ?_ ?_
  rotate_left
  · intro _; rfl
  repeat' ((fail_if_success (with_reducible show codeAny _ _ (Code.forLoop _ _ _ _ _) _ _)); (first | ((with_reducible show wpAny _ _ (execs (_ :: _) _) _ _ _); k_fold; walk1) | ((with_reducible show wpAny _ _ (eval (Expr.ListComp _ _ _ _) _) _ _ _); k_fold; walk1) | (k_unfold; (try dsimp only)) | (refine hR9 _ _ ?_; try dsimp only) | (refine hR8 _ _ ?_; try dsimp only) | (k_end; wrow_close) | walk1 | (dsimp only; walk1) | (leave1; walk_say "STEP leave1"; try dsimp only) | fail "no step"))
  rename (Fr g' L' _ _) => F9
  rename News g' L' _ _ => N9
  rename LIt _ a 0 => I9
  have hlen := ints_len hI
  refine TInv.loop (g := g') (L := L') (s0 := s) (l := a) (M0 := (base4 w0 w1 w2 w3)) (os := os) (TInv.mk F9 N9 I9 ⟨RowIs.of A0, RowIs.of A1, RowIs.of A2, RowIs.of A3⟩) ?_
  clear F9 N9 I9
  intro R9 hR9 i oI o0 o1 o2 o3 va vb vc h1 tk1 hi F9 N9 I9 R9 ih
  refine forLoop_step ?_
  rcases Nat.lt_or_ge i os.length with hlt | hge
  · obtain ⟨v9, e0v⟩ : ∃ p, vs[i]? = some p := ⟨_, List.getElem?_eq_getElem (hlen ▸ hlt)⟩
    obtain ⟨x9, t9, rfl, e1⟩ := ints_get hI e0v
    have e2 := ItemAt.of e0v
    have hx := hos x9 (List.mem_of_getElem? e1)
    obtain ⟨⟨b0, b1⟩, ⟨b2, b3⟩, ⟨b4, b5⟩, b6, b7⟩ := tb_bounds hx.1 hx.2
    clear hx
    repeat' ((fail_if_success (with_reducible show wpAny _ _ (exec (Stmt.For _ _ _ _ _) _) _ _ _)); (first | ((with_reducible show wpAny _ _ (execs (_ :: _) _) _ _ _); k_fold; walk1) | ((with_reducible show wpAny _ _ (eval (Expr.ListComp _ _ _ _) _) _ _ _); k_fold; walk1) | (k_unfold; (try dsimp only)) | (refine hR9 _ _ ?_; try dsimp only) | (refine hR8 _ _ ?_; try dsimp only) | (k_end; wrow_close) | walk1 | (dsimp only; walk1) | (leave1; walk_say "STEP leave1"; try dsimp only) | fail "no step"))
    refine wpAny_For ?_ ?_
    rotate_left
    · intro _; rfl
    repeat' ((fail_if_success (with_reducible show codeAny _ _ (Code.forLoop (Expr.Tuple _ _ _) _ _ _ _) _ _)); (first | ((with_reducible show wpAny _ _ (execs (_ :: _) _) _ _ _); k_fold; walk1) | ((with_reducible show wpAny _ _ (eval (Expr.ListComp _ _ _ _) _) _ _ _); k_fold; walk1) | (k_unfold; (try dsimp only)) | (refine hR9 _ _ ?_; try dsimp only) | (refine hR8 _ _ ?_; try dsimp only) | (k_end; wrow_close) | walk1 | (dsimp only; walk1) | (leave1; walk_say "STEP leave1"; try dsimp only) | fail "no step"))
    rename (Fr g' L' _ _) => F9
    rename News g' L' _ _ => N9
    rename TIt _ _ 0 => I9
    refine JInv.loop (g := g') (L := L') (M := (fun n => match n with | 2 => List.foldl edges2 (base4 w0 w1 w2 w3) (List.take i os) | 1 => edge (List.foldl edges2 (base4 w0 w1 w2 w3) (List.take i os)) (x9.fdiv 64, (x9.fdiv 16).fmod 4) | _ => edges2 (List.foldl edges2 (base4 w0 w1 w2 w3) (List.take i os)) x9)) (JInv.mk (n := 2) (fun a b c d e => (_, a) :: _ :: _ :: _ :: _ :: (_, e) :: (_, d) :: (_, c) :: (_, b) :: _) F9 N9 (Nat.le_refl _) I9 R9 rfl (fun y h1 h2 h3 => (if_neg h3).trans (over3_other y h1 h2 h3))) ?_
    clear F9 N9 I9 R9
    intro R8 hR8 n9 oI3 o0 o1 o2 o3 va vb vc h2 tk2 hn2 F9 N9 I9 R9 ih2
    try dsimp only at N9
    rcases (show n9 = 2 ∨ n9 = 1 ∨ n9 = 0 by omega) with rfl | rfl | rfl
    · (try dsimp only at R9)
      replace I9 : TIt oI3 _ 0 := I9
      refine forLoop_step ?_
      repeat' ((fail_if_success (with_reducible show codeAny _ _ (Code.forLoop (Expr.Tuple _ _ _) _ _ _ _) _ _)); (first | ((with_reducible show wpAny _ _ (execs (_ :: _) _) _ _ _); k_fold; walk1) | ((with_reducible show wpAny _ _ (eval (Expr.ListComp _ _ _ _) _) _ _ _); k_fold; walk1) | (k_unfold; (try dsimp only)) | (refine hR9 _ _ ?_; try dsimp only) | (refine hR8 _ _ ?_; try dsimp only) | (k_end; wrow_close) | walk1 | (dsimp only; walk1) | (leave1; walk_say "STEP leave1"; try dsimp only) | fail "no step"))
      all_goals rename (Fr _ _ _ _) => Fz
      all_goals rename News _ _ _ _ => Nz
      all_goals rename Rows _ _ _ _ _ => Rz
      all_goals refine ih2 1 _ (by decide) (JInv.mk _ Fz Nz (by decide) (by assumption) Rz ?_ (fun y h1 h2 h3 => (if_neg h1).trans <| (if_neg h2).trans (over3_other y h1 h2 h3)))
      all_goals ((try dsimp only); unfold edge; (try dsimp only); repeat' (first | rfl | contradiction | split))
    · (try dsimp only at R9)
      replace I9 : TIt oI3 _ 1 := I9
      refine forLoop_step ?_
      repeat' ((fail_if_success (with_reducible show codeAny _ _ (Code.forLoop (Expr.Tuple _ _ _) _ _ _ _) _ _)); (first | ((with_reducible show wpAny _ _ (execs (_ :: _) _) _ _ _); k_fold; walk1) | ((with_reducible show wpAny _ _ (eval (Expr.ListComp _ _ _ _) _) _ _ _); k_fold; walk1) | (k_unfold; (try dsimp only)) | (refine hR9 _ _ ?_; try dsimp only) | (refine hR8 _ _ ?_; try dsimp only) | (k_end; wrow_close) | walk1 | (dsimp only; walk1) | (leave1; walk_say "STEP leave1"; try dsimp only) | fail "no step"))
      all_goals rename (Fr _ _ _ _) => Fz
      all_goals rename News _ _ _ _ => Nz
      all_goals rename Rows _ _ _ _ _ => Rz
      all_goals refine ih2 0 _ (by decide) (JInv.mk _ Fz Nz (by decide) (by assumption) Rz ?_ (fun y h1 h2 h3 => (if_neg h1).trans <| (if_neg h2).trans (over3_other y h1 h2 h3)))
      all_goals ((try dsimp only); unfold edges2)
      all_goals ((conv => rhs; unfold edge); (try dsimp only); repeat' (first | rfl | contradiction | split))
    · (try dsimp only at R9)
      replace I9 : TIt oI3 _ 2 := I9
      clear ih2
      refine forLoop_step ?_
      repeat' ((fail_if_success (with_reducible show codeAny _ _ (Code.forLoop (Expr.Name _ _) _ _ _ _) _ _)); (first | ((with_reducible show wpAny _ _ (execs (_ :: _) _) _ _ _); k_fold; walk1) | ((with_reducible show wpAny _ _ (eval (Expr.ListComp _ _ _ _) _) _ _ _); k_fold; walk1) | (k_unfold; (try dsimp only)) | (refine hR9 _ _ ?_; try dsimp only) | (refine hR8 _ _ ?_; try dsimp only) | (k_end; wrow_close) | walk1 | (dsimp only; walk1) | (leave1; walk_say "STEP leave1"; try dsimp only) | fail "no step"))
      rename (Fr _ _ _ _) => Fz
      refine ih _ _ (by omega) (TInv.next Fz (News.sub (by assumption) (by kcj_all)) (by assumption) (by assumption) e1 rfl over3_other)
  · have e0v : vs[i]? = none := List.getElem?_eq_none (hlen ▸ hge)
    have e2 := OffAt.of e0v
    have hi2 := Nat.le_antisymm hi hge
    rw [hi2, List.take_length] at R9
    clear ih
    repeat' ((fail_if_success (with_reducible show BackK _ _ _ _ _ _)); (first | ((with_reducible show wpAny _ _ (execs (_ :: _) _) _ _ _); k_fold; walk1) | ((with_reducible show wpAny _ _ (eval (Expr.ListComp _ _ _ _) _) _ _ _); k_fold; walk1) | (k_unfold; (try dsimp only)) | (refine hR9 _ _ ?_; try dsimp only) | (refine hR8 _ _ ?_; try dsimp only) | (k_end; wrow_close) | walk1 | (dsimp only; walk1) | (leave1; walk_say "STEP leave1"; try dsimp only) | fail "no step"))
    rename News g' L' _ _ => Nz
    refine back_ret (by assumption) Nz (by kcj_all) (fun st => ?_)
    refine ret _ _ _ st ⟨_, _, _, _, _, _, _, _, _, _, rfl, ?_, ?_, ?_, ?_, ?_, News.at Nz (by k_mem), News.at Nz (by k_mem), News.at Nz (by k_mem), News.at Nz (by k_mem), News.at Nz (by k_mem), R9⟩
    · rw [lz]
      exact Nat.le_of_lt (Nat.lt_of_succ_lt (by walk_at "g_ltm"))
    all_goals walk_at "g_ltm"

theorem setupDq : True := by
  w_top off
  k_with_none
  k_with "g_room" => (first
      | ((try simp only [depth_under_make, depth_under_kw, depth_in1, depth_deeper, depth_caller]); (try dsimp only); omega)
      | ((try simp only [depth_under_make, depth_under_kw, depth_in1, depth_deeper, depth_caller] at *); (try dsimp only at *); omega))
  k_with "g_plain" => ((refine' enter_plain ?k1_zDq1 ?k2_zDq1 ?k3_zDq1 ?k4_zDq1 ?k5_zDq1 ?kA_zDq1 ?kF_zDq1 ?kK_zDq1 ?k6_zDq1 ?k7_zDq1 ?k8_zDq1 ?k9_zDq1 ?kB_zDq1 ?_ ?c2_zDq1 ?c3_zDq1 ?c4_zDq1 ?c5_zDq1; (case kA_zDq1 => exact rfl); (case kF_zDq1 => assumption); (case kK_zDq1 => assumption); (case k1_zDq1 => k_asm); (case k2_zDq1 => k_asm); (case k3_zDq1 => k_asm); (case k4_zDq1 => k_asm); (case k5_zDq1 => k_asm); (case k6_zDq1 => k_is); (case k7_zDq1 => k_is); (case k8_zDq1 => walk_at "g_room"); (case k9_zDq1 => exact BindsTo.of_eq rfl); (case c5_zDq1 => decide); (case kB_zDq1 => exact locs rfl); (case c2_zDq1 => exact rfl); (case c3_zDq1 => exact rfl); (case c4_zDq1 => exact rfl); k_whole; intro g'w L'w h'w F'w N'w B'w X'w T'w l1w lzw lgw; (first | (rename Ap _ => sA'w; have sA'w := (ApB.of l1w sA'w rfl).1) | (have sA'w := (ApB.start l1w rfl (by walk_at "g_sho")).1)); (try dsimp only); (try k_fold)))
  k_with "g_cellsS" => ((refine' enterS_cells ?k1_zDq2 ?k2_zDq2 ?k3_zDq2 ?k4_zDq2 ?k5_zDq2 ?kA_zDq2 ?kF_zDq2 ?kK_zDq2 ?k6_zDq2 ?k7_zDq2 ?k8_zDq2 ?k9_zDq2 ?kB_zDq2 ?kD_zDq2 ?_ ?c2_zDq2 ?c3_zDq2 ?c4_zDq2; (case kA_zDq2 => exact rfl); (case kF_zDq2 => assumption); (case kK_zDq2 => assumption); (case k1_zDq2 => k_asm); (case k2_zDq2 => k_asm); (case k3_zDq2 => k_asm); (case k4_zDq2 => k_asm); (case k5_zDq2 => k_asm); (case k6_zDq2 => k_is); (case k7_zDq2 => k_is); (case k8_zDq2 => walk_at "g_room"); (case k9_zDq2 => exact BindsTo.of_eq rfl); (case kB_zDq2 => exact rfl); (case kD_zDq2 => decide +kernel); (case c2_zDq2 => exact rfl); (case c3_zDq2 => exact rfl); (case c4_zDq2 => exact rfl); k_whole; intro g'w L'w h'w tk'w cells'w F'w N'w Y'w B'w X'w T'w l1w lzw lgw; k_cells Y'w; (try simp only [List.cons_append, List.nil_append] at N'w); (first | (rename Ap _ => sA'w; have sA'w := ApB.of l1w sA'w rfl) | (have sA'w := ApB.start l1w rfl (by walk_at "g_sho"))); (first | replace sA'w := Ap.nowB N'w sA'w.cell.cell.cell.cell rfl | replace sA'w := Ap.nowB N'w sA'w.cell.cell.cell rfl | replace sA'w := Ap.nowB N'w sA'w.cell.cell rfl | replace sA'w := Ap.nowB N'w sA'w.cell rfl | replace sA'w := Ap.nowB N'w sA'w rfl); (try dsimp only); (try k_fold)))
  k_with "g_plainS" => ((refine' enterS_plain ?k1_zDq3 ?k2_zDq3 ?k3_zDq3 ?k4_zDq3 ?k5_zDq3 ?kA_zDq3 ?kF_zDq3 ?kK_zDq3 ?k6_zDq3 ?k7_zDq3 ?k8_zDq3 ?k9_zDq3 ?kB_zDq3 ?_ ?c2_zDq3 ?c3_zDq3 ?c4_zDq3 ?c5_zDq3; (case kA_zDq3 => exact rfl); (case kF_zDq3 => assumption); (case kK_zDq3 => assumption); (case k1_zDq3 => k_asm); (case k2_zDq3 => k_asm); (case k3_zDq3 => k_asm); (case k4_zDq3 => k_asm); (case k5_zDq3 => k_asm); (case k6_zDq3 => k_is); (case k7_zDq3 => k_is); (case k8_zDq3 => walk_at "g_room"); (case k9_zDq3 => exact BindsTo.of_eq rfl); (case c5_zDq3 => decide); (case kB_zDq3 => exact locs rfl); (case c2_zDq3 => exact rfl); (case c3_zDq3 => exact rfl); (case c4_zDq3 => exact rfl); k_whole; intro g'w L'w h'w F'w N'w B'w X'w T'w l1w lzw lgw; (first | (rename Ap _ => sA'w; have sA'w := (ApB.of l1w sA'w rfl).1) | (have sA'w := (ApB.start l1w rfl (by walk_at "g_sho")).1)); (try dsimp only); (try k_fold)))
  k_with "g_own" => ((refine' code_def ?k1_zDq4 ?k2_zDq4 ?k3_zDq4 ?k4_zDq4 ?k5_zDq4 ?kA_zDq4 ?kF_zDq4 ?kK_zDq4 ?k6_zDq4 ?k7_zDq4 ?k8_zDq4 ?k9_zDq4 ?kB_zDq4 ?_ ?c2_zDq4 ?c3_zDq4 ?c4_zDq4 ?c5_zDq4; (case kA_zDq4 => exact rfl); (case kF_zDq4 => assumption); (case kK_zDq4 => assumption); (case k1_zDq4 => k_asm); (case k2_zDq4 => k_asm); (case k3_zDq4 => k_asm); (case k4_zDq4 => k_asm); (case k5_zDq4 => k_asm); (case k6_zDq4 => k_is); (case k7_zDq4 => k_is); (case k8_zDq4 => walk_at "g_room"); (case k9_zDq4 => exact BindsTo.of_eq rfl); (case c5_zDq4 => decide); (case kB_zDq4 => exact locs rfl); (case c2_zDq4 => exact rfl); (case c3_zDq4 => exact rfl); (case c4_zDq4 => exact rfl); k_whole; intro g'w L'w h'w FG'w F'w N'w B'w X'w T'w; (try dsimp only); (try k_fold)))
  k_with "g_cells" => ((refine' enter_cells ?k1_zDq5 ?k2_zDq5 ?k3_zDq5 ?k4_zDq5 ?k5_zDq5 ?kA_zDq5 ?kF_zDq5 ?kK_zDq5 ?k6_zDq5 ?k7_zDq5 ?k8_zDq5 ?k9_zDq5 ?kB_zDq5 ?kD_zDq5 ?_ ?c2_zDq5 ?c3_zDq5 ?c4_zDq5; (case kA_zDq5 => exact rfl); (case kF_zDq5 => assumption); (case kK_zDq5 => assumption); (case k1_zDq5 => k_asm); (case k2_zDq5 => k_asm); (case k3_zDq5 => k_asm); (case k4_zDq5 => k_asm); (case k5_zDq5 => k_asm); (case k6_zDq5 => k_is); (case k7_zDq5 => k_is); (case k8_zDq5 => walk_at "g_room"); (case k9_zDq5 => exact BindsTo.of_eq rfl); (case kB_zDq5 => exact rfl); (case kD_zDq5 => decide +kernel); (case c2_zDq5 => exact rfl); (case c3_zDq5 => exact rfl); (case c4_zDq5 => exact rfl); k_whole; intro g'w L'w h'w tk'w cells'w F'w N'w Y'w B'w X'w T'w l1w lzw lgw; k_cells Y'w; (try simp only [List.cons_append, List.nil_append] at N'w); (first | (rename Ap _ => sA'w; have sA'w := ApB.of l1w sA'w rfl) | (have sA'w := ApB.start l1w rfl (by walk_at "g_sho"))); (first | replace sA'w := Ap.nowB N'w sA'w.cell.cell.cell.cell rfl | replace sA'w := Ap.nowB N'w sA'w.cell.cell.cell rfl | replace sA'w := Ap.nowB N'w sA'w.cell.cell rfl | replace sA'w := Ap.nowB N'w sA'w.cell rfl | replace sA'w := Ap.nowB N'w sA'w rfl); (try dsimp only); (try k_fold)))
  k_with "g_cellsG" => ((refine' enterG_cells ?k1_zDq6 ?k2_zDq6 ?k3_zDq6 ?k4_zDq6 ?k5_zDq6 ?kA_zDq6 ?kF_zDq6 ?kK_zDq6 ?k6_zDq6 ?k7_zDq6 ?k8_zDq6 ?k9_zDq6 ?kB_zDq6 ?kD_zDq6 ?_ ?c2_zDq6 ?c3_zDq6 ?c4_zDq6; (case kA_zDq6 => exact rfl); (case kF_zDq6 => assumption); (case kK_zDq6 => assumption); (case k1_zDq6 => k_asm); (case k2_zDq6 => k_asm); (case k3_zDq6 => k_asm); (case k4_zDq6 => k_asm); (case k5_zDq6 => k_asm); (case k6_zDq6 => k_is); (case k7_zDq6 => k_is); (case k8_zDq6 => walk_at "g_room"); (case k9_zDq6 => exact BindsTo.of_eq rfl); (case kB_zDq6 => exact rfl); (case kD_zDq6 => decide +kernel); (case c2_zDq6 => exact rfl); (case c3_zDq6 => exact rfl); (case c4_zDq6 => exact rfl); k_whole; intro g'w L'w h'w tk'w cells'w F'w N'w Y'w B'w X'w T'w l1w lzw lgw; k_cells Y'w; (try simp only [List.cons_append, List.nil_append] at N'w); (first | (rename Ap _ => sA'w; have sA'w := ApB.of l1w sA'w rfl) | (have sA'w := ApB.start l1w rfl (by walk_at "g_sho"))); (first | replace sA'w := Ap.nowB N'w sA'w.cell.cell.cell.cell rfl | replace sA'w := Ap.nowB N'w sA'w.cell.cell.cell rfl | replace sA'w := Ap.nowB N'w sA'w.cell.cell rfl | replace sA'w := Ap.nowB N'w sA'w.cell rfl | replace sA'w := Ap.nowB N'w sA'w rfl); (try dsimp only); (try k_fold)))
  k_with "g_del" => (first | (refine' Del.head ?a_zDq7; (case a_zDq7 => k_all)) | (refine' Del.tail ?a_zDq7 ?b_zDq7; (case a_zDq7 => k_ne); (case b_zDq7 => walk_at "g_del")))
  k_with "g_self" => ((intro _ _ hqw; first | exact self_list (by k_asm) (by k_mem) (by assumption) hqw | exact self_range (by k_asm) (by k_mem) hqw | exact self_D (by k_asm) (by k_mem) (by assumption) hqw))
  k_with "codeAny" => (first
      | ((with_reducible show codeAny _ _ (Code.forLoop _ _ _ _ _) _ _); refine forLoop_step ?_)
      | ((with_reducible show codeAny _ _ (Code.compLoop (Expr.ListComp _ _ _ _) _ _ _ _) _ _); refine compL_step ?_)
      | ((with_reducible show codeAny _ _ (Code.compStart (Expr.ListComp _ _ _ _) _ _ _ _) _ _); k_dflt (refine compL_start (by walk_at "g_self") ?_))
      | ((with_reducible show codeAny _ _ (Code.compLoop (Expr.DictComp _ _ _ _ _) _ _ _ _) _ _); refine compD_step ?_)
      | ((with_reducible show codeAny _ _ (Code.compStart (Expr.DictComp _ _ _ _ _) _ _ _ _) _ _); k_dflt (refine compD_start (by walk_at "g_self") ?_)))
  k_with "FlTurn" => ((dsimp only [FlTurn]))
  k_with "FlFlow" => ((dsimp only [FlFlow]))
  k_with "letOwnedTupleGo" => ((refine wpAny_of_eq (a := ()) rfl ?_))
  k_with "assign Name" => ((refine wpAny_assign_Name ?_))
  k_with "g_item" => (first | with_reducible assumption | exact ItemAt.zero | exact (ItemAt.succ ItemAt.zero) | exact (ItemAt.succ (ItemAt.succ ItemAt.zero)) | exact (ItemAt.succ (ItemAt.succ (ItemAt.succ ItemAt.zero))) | exact (ItemAt.succ (ItemAt.succ (ItemAt.succ (ItemAt.succ ItemAt.zero)))) | exact (ItemAt.succ (ItemAt.succ (ItemAt.succ (ItemAt.succ (ItemAt.succ ItemAt.zero))))) | exact (ItemAt.succ (ItemAt.succ (ItemAt.succ (ItemAt.succ (ItemAt.succ (ItemAt.succ ItemAt.zero)))))) | exact (ItemAt.succ (ItemAt.succ (ItemAt.succ (ItemAt.succ (ItemAt.succ (ItemAt.succ (ItemAt.succ ItemAt.zero))))))) | exact (ItemAt.succ (ItemAt.succ (ItemAt.succ (ItemAt.succ (ItemAt.succ (ItemAt.succ (ItemAt.succ (ItemAt.succ ItemAt.zero)))))))))
  k_with "g_off" => (first | with_reducible assumption | exact OffAt.nil | exact (OffAt.succ OffAt.nil) | exact (OffAt.succ (OffAt.succ OffAt.nil)) | exact (OffAt.succ (OffAt.succ (OffAt.succ OffAt.nil))) | exact (OffAt.succ (OffAt.succ (OffAt.succ (OffAt.succ OffAt.nil)))) | exact (OffAt.succ (OffAt.succ (OffAt.succ (OffAt.succ (OffAt.succ OffAt.nil))))) | exact (OffAt.succ (OffAt.succ (OffAt.succ (OffAt.succ (OffAt.succ (OffAt.succ OffAt.nil)))))) | exact (OffAt.succ (OffAt.succ (OffAt.succ (OffAt.succ (OffAt.succ (OffAt.succ (OffAt.succ OffAt.nil))))))) | exact (OffAt.succ (OffAt.succ (OffAt.succ (OffAt.succ (OffAt.succ (OffAt.succ (OffAt.succ (OffAt.succ OffAt.nil)))))))))
  k_with "call builtin:list.append" => ((k_here; (with_reducible show wpAny _ _ (call (Value.builtin _) [Value.ref _, _]) _ _ _); k_dflt (refine' append_L ?k1_zDq16 ?k2_zDq16 ?k3_zDq16 ?_ ?z_zDq16; (case k1_zDq16 => k_asm); (case k2_zDq16 => k_asm); (case k3_zDq16 => k_upd); (case z_zDq16 => first | with_reducible assumption | (simp [sizeLine]; done)); k_whole); intro h'w F'w N'w; (try simp only [List.nil_append, List.cons_append] at N'w); (try k_sweep)))
  k_with "g_num" => (first | ((simp only [Int.reduceAdd, Int.reduceSub]); first | done | rfl) | rfl)
  k_with "g_conj" => ((repeat (with_reducible rename (_ ∧ _) => hcj; have hcj1 := hcj.1; have hcj2 := hcj.2; clear hcj)))
  k_with "g_ne" => (((refine neN ?_); (try dsimp only); first | exact Nat.ne_of_lt (by with_reducible assumption) | exact Nat.ne_of_gt (by with_reducible assumption) | omega))
  k_with "pyNext ref" => ((k_here; (walk_at "g_conj"); k_dflt (first
      | (refine' next_range ?F_zDq20 ?N_zDq20 ?m_zDq20 ?l_zDq20 ?x_zDq20 ?y_zDq20 ?U_zDq20 ?_; (case F_zDq20 => k_asm); (case N_zDq20 => k_asm); (case m_zDq20 => k_mem); (case l_zDq20 => first | decide | omega); (case x_zDq20 => walk_at "g_num"); (case y_zDq20 => walk_at "g_num"); (case U_zDq20 => k_updF); k_whole; intro h'w F'w N'w; (try dsimp only at N'w); (try k_sweep))
      | (refine' next_range_end ?hh_zDq20 ?F_zDq20 ?N_zDq20 ?m_zDq20 ?D_zDq20 ?l_zDq20 ?_; (case hh_zDq20 => rfl); (case F_zDq20 => k_asm); (case N_zDq20 => k_asm); (case m_zDq20 => k_mem); (case l_zDq20 => first | decide | omega); (case D_zDq20 => walk_at "g_del"); k_whole; intro h'w F'w N'w; (try dsimp only at N'w); (try k_sweep))
      | (refine' next_list ?F_zDq20 ?N_zDq20 ?mI_zDq20 ?I_zDq20 ?U_zDq20 ?m_zDq20 ?x_zDq20 ?_; (case F_zDq20 => k_asm); (case N_zDq20 => k_asm); (case mI_zDq20 => k_mem); (case I_zDq20 => assumption); (case m_zDq20 => k_mem); (case x_zDq20 => walk_at "g_item"); (case U_zDq20 => k_updF); k_whole; intro h'w o'w F'w N'w hI'w; (try dsimp only at N'w); (try k_sweep))
      | (refine' next_list_end ?hh_zDq20 ?F_zDq20 ?N_zDq20 ?I_zDq20 ?mI_zDq20 ?m_zDq20 ?x_zDq20 ?D_zDq20 ?_; (case hh_zDq20 => rfl); (case F_zDq20 => k_asm); (case N_zDq20 => k_asm); (case mI_zDq20 => k_mem); (case I_zDq20 => assumption); (case m_zDq20 => k_mem); (case x_zDq20 => walk_at "g_off"); (case D_zDq20 => walk_at "g_del"); k_whole; intro h'w F'w N'w; (try dsimp only at N'w); (try k_sweep))
      | (refine' next_tuple ?F_zDq20 ?N_zDq20 ?mI_zDq20 ?I_zDq20 ?U_zDq20 ?m_zDq20 ?x_zDq20 ?_; (case F_zDq20 => k_asm); (case N_zDq20 => k_asm); (case mI_zDq20 => k_mem); (case I_zDq20 => assumption); (case m_zDq20 => k_mem); (case x_zDq20 => walk_at "g_item"); (case U_zDq20 => k_updF); k_whole; intro h'w o'w F'w N'w hI'w; (try dsimp only at N'w); (try k_sweep))
      | (refine' next_tuple_end ?hh_zDq20 ?F_zDq20 ?N_zDq20 ?I_zDq20 ?mI_zDq20 ?m_zDq20 ?x_zDq20 ?D_zDq20 ?_; (case hh_zDq20 => rfl); (case F_zDq20 => k_asm); (case N_zDq20 => k_asm); (case mI_zDq20 => k_mem); (case I_zDq20 => assumption); (case m_zDq20 => k_mem); (case x_zDq20 => walk_at "g_off"); (case D_zDq20 => walk_at "g_del"); k_whole; intro h'w F'w N'w; (try dsimp only at N'w); (try k_sweep)))))
  k_with "pyIter ref" => ((k_here; k_dflt (first
      | (refine' iter_range ?F_zDq21 ?N_zDq21 ?r_zDq21 ?s_zDq21 ?n_zDq21 ?_; (case F_zDq21 => k_asm); (case N_zDq21 => k_asm); (case r_zDq21 => assumption); (case s_zDq21 => rfl); (case n_zDq21 => (simp [Builtin.Range.rangeSize]; rfl)); k_whole; intro I'w h'w F'w N'w l1w; (try k_lt l1w); (try k_sweep))
      | (refine' iter_list ?F_zDq21 ?N_zDq21 ?m_zDq21 ?_; (case F_zDq21 => k_asm); (case N_zDq21 => k_asm); (case m_zDq21 => k_mem); k_whole; intro I'w o'w h'w F'w N'w hI'w l1w; (try k_lt l1w); (try k_sweep))
      | (refine' iter_tuple ?F_zDq21 ?N_zDq21 ?m_zDq21 ?_; (case F_zDq21 => k_asm); (case N_zDq21 => k_asm); (case m_zDq21 => k_mem); k_whole; intro I'w o'w h'w F'w N'w hI'w l1w; (try k_lt l1w); (try k_sweep)))))
  k_with "CTurnL" => ((dsimp only [CTurnL]))
  k_with "CTestsL" => ((dsimp only [CTestsL]))
  k_with "CTestL" => ((dsimp only [CTestL]))
  k_with "LcR" => ((dsimp only [LcR]))
  k_with "LcAt" => ((k_here; k_dflt (refine' LcAt.intro ?F_zDq26 ?N_zDq26 ?_; (case F_zDq26 => k_asm); (case N_zDq26 => k_asm); k_whole; intro D'w C'w oC'w h'w tk'w F'w N'w hC'w l1w l2w; k_lt l2w; k_lt2 l1w; (try k_sweep))))
  k_with "LcRU" => ((dsimp only [LcRU]))
  k_with "LcFinU" => ((k_here; k_dflt (refine' LcFinU.intro ?F_zDq28 ?N_zDq28 ?C_zDq28 ?m_zDq28 ?D_zDq28 ?_; (case F_zDq28 => k_asm); (case N_zDq28 => k_asm); (case m_zDq28 => k_mem); (case C_zDq28 => assumption); (case D_zDq28 => walk_at "g_del"); k_whole; intro h'w F'w N'w; (try k_sweep))))
  k_with "exec Assign cons ListComp" => ((k_here; k_dflt (refine' lcA_enter ?F_zDq29 ?w_zDq29 ?c_zDq29 ?ce_zDq29 ?k_zDq29 ?n_zDq29 ?_ ?s_zDq29; (case F_zDq29 => k_asm); (case w_zDq29 => rfl); (case c_zDq29 => with_unfolding_all rfl); (case ce_zDq29 => decide); (case k_zDq29 => rfl); (case n_zDq29 => decide); (case s_zDq29 => intro _; rfl))))
  k_with "exec Assign cons ListComp" => ((k_here; k_dflt (refine' lcA_enter1 ?F_zDq30 ?w_zDq30 ?c_zDq30 ?o_zDq30 ?p_zDq30 ?k_zDq30 ?n_zDq30 ?_ ?s_zDq30; (case F_zDq30 => k_asm); (case w_zDq30 => rfl); (case c_zDq30 => with_unfolding_all rfl); (case o_zDq30 => intro _; rfl); (case p_zDq30 => intro _; rfl); (case k_zDq30 => rfl); (case n_zDq30 => decide); (case s_zDq30 => intro _; rfl))))
  k_with "exec Assign cons DictComp" => ((k_here; k_dflt (refine' dcA_enter ?F_zDq31 ?w_zDq31 ?c_zDq31 ?ce_zDq31 ?k_zDq31 ?n_zDq31 ?_ ?s_zDq31; (case F_zDq31 => k_asm); (case w_zDq31 => rfl); (case c_zDq31 => with_unfolding_all rfl); (case ce_zDq31 => decide); (case k_zDq31 => rfl); (case n_zDq31 => decide); (case s_zDq31 => intro _; rfl))))
  k_with "LcFin" => ((k_here; k_dflt (refine' LcFin.intro ?F_zDq32 ?N_zDq32 ?C_zDq32 ?m_zDq32 ?D_zDq32 ?_; (case F_zDq32 => k_asm); (case N_zDq32 => k_asm); (case m_zDq32 => k_mem); (case C_zDq32 => assumption); (case D_zDq32 => walk_at "g_del"); k_whole; intro h'w F'w N'w; (try k_sweep))))
  k_with "storeName" => ((k_here; (with_reducible show wpAny _ _ (storeName (compEnvC _ _ _ _) _ _) _ _ _); k_dflt (refine' storeC ?F_zDq33 ?N_zDq33 ?U_zDq33 ?C_zDq33 ?_ ?k_zDq33 ?l_zDq33; (case F_zDq33 => k_asm); (case N_zDq33 => k_asm); (case U_zDq33 => k_updF); (case C_zDq33 => assumption); (case k_zDq33 => rfl); (case l_zDq33 => rfl); k_whole; intro h'w o'w F'w N'w hC'w; (try dsimp only at N'w); (try k_sweep))))
  k_with "storeName" => ((k_here; (with_reducible show wpAny _ _ (storeName (compEnvC _ _ _ _) _ _) _ _ _); k_dflt (refine' storeCC ?F_zDq34 ?N_zDq34 ?c_zDq34 ?m_zDq34 ?d_zDq34 ?U_zDq34 ?_ ?k_zDq34 ?l_zDq34; (case F_zDq34 => k_asm); (case N_zDq34 => k_asm); (case l_zDq34 => rfl); (case k_zDq34 => rfl); (case c_zDq34 => rfl); (case m_zDq34 => k_mem); (case d_zDq34 => first | assumption | rfl); (case U_zDq34 => k_updF); k_whole; intro h'w o'w F'w N'w hC'w; (try dsimp only at N'w); (try k_sweep))))
  k_with "eval ListComp" => ((k_here; k_dflt (refine' lc_enter ?F_zDq35 ?c_zDq35 ?ce_zDq35 ?k_zDq35 ?n_zDq35 ?_ ?s_zDq35; (case F_zDq35 => k_asm); (case c_zDq35 => with_unfolding_all rfl); (case ce_zDq35 => decide); (case k_zDq35 => rfl); (case n_zDq35 => decide); (case s_zDq35 => intro _; rfl))))
  k_with "eval ListComp ListComp" => ((k_here; k_dflt (refine' lc_enter1 ?F_zDq36 ?c_zDq36 ?o_zDq36 ?p_zDq36 ?k_zDq36 ?n_zDq36 ?_ ?s_zDq36; (case F_zDq36 => k_asm); (case c_zDq36 => with_unfolding_all rfl); (case o_zDq36 => intro _; rfl); (case p_zDq36 => intro _; rfl); (case k_zDq36 => rfl); (case n_zDq36 => decide); (case s_zDq36 => intro _; rfl))))
  k_with "Exists" => ((k_here; k_dflt (refine' ⟨_, _, rfl, ?F_zDq37, ?N_zDq37, ?_⟩; (case F_zDq37 => k_asm); (case N_zDq37 => k_asm); k_whole; intro D'w C'w c'w oC'w h'w tk'w F'w N'w hC'w l1w l1'w l2w; k_lt l2w; k_lt2 l1'w; k_lt2 l1w; (try k_sweep))))
  k_with "eval DictComp" => ((k_here; k_dflt (refine' dc_enter ?F_zDq38 ?c_zDq38 ?ce_zDq38 ?k_zDq38 ?n_zDq38 ?_ ?s_zDq38; (case F_zDq38 => k_asm); (case c_zDq38 => with_unfolding_all rfl); (case ce_zDq38 => decide); (case k_zDq38 => rfl); (case n_zDq38 => decide); (case s_zDq38 => intro _; rfl))))
  k_with "DcAt" => ((k_here; k_dflt (refine' DcAt.intro ?F_zDq39 ?N_zDq39 ?_; (case F_zDq39 => k_asm); (case N_zDq39 => k_asm); k_whole; intro D'w C'w oD'w oC'w h'w tk'w F'w N'w hC'w hD'w l1w l2w; k_lt l2w; k_lt2 l1w; (try k_sweep))))
  k_with "CTurnD" => ((dsimp only [CTurnD]))
  k_with "CTestsD" => ((dsimp only [CTestsD]))
  k_with "CTestD" => ((dsimp only [CTestD]))
  k_with "eval Subscript" => (refine Subscript_ ?_)
  k_with "execs cons" => ((dsimp only; walk_at "execs cons"))
  k_with "execs nil" => ((dsimp only; walk_at "execs nil"))
  k_with "eval Call" => ((dsimp only; walk_at "eval Call"))
  k_with "binaryOp" => ((dsimp only; walk_at "binaryOp"))
  k_with "eval Name" => ((k_here; (with_reducible show wpAny _ _ (eval (Expr.Name _ _) (compEnvC _ _ _ _)) _ _ _); k_dflt (refine LCgL.ld_own (by k_asm) (by k_mem) (by assumption) (by rfl) ?_)))
  k_with "g_sub" => ((k_here; (with_reducible show wpAny _ _ (subscriptTail _ _ (Value.ref _) (Value.int _ _)) _ _ _); k_dflt (first
      | (refine' item_L ?N_zDq49 ?m_zDq49 ?lo_zDq49 ?hi_zDq49 ?x_zDq49 ?_ ?s_zDq49; (case N_zDq49 => k_asm); (case m_zDq49 => k_mem); (case lo_zDq49 => decide); (case hi_zDq49 => decide); (case x_zDq49 => walk_at "g_item"); (case s_zDq49 => with_unfolding_all rfl); k_whole)
      | (refine' item_L ?N_zDq49 ?m_zDq49 ?lo_zDq49 ?hi_zDq49 ?x_zDq49 ?_ ?s_zDq49; (case N_zDq49 => k_asm); (case m_zDq49 => k_mem); (case lo_zDq49 => assumption); (case hi_zDq49 => omega); (case x_zDq49 => assumption); (case s_zDq49 => with_unfolding_all rfl); k_whole)
      | (refine' item_T ?N_zDq49 ?m_zDq49 ?lo_zDq49 ?hi_zDq49 ?x_zDq49 ?_ ?s_zDq49; (case N_zDq49 => k_asm); (case m_zDq49 => k_mem); (case lo_zDq49 => decide); (case hi_zDq49 => decide); (case x_zDq49 => walk_at "g_item"); (case s_zDq49 => with_unfolding_all rfl); k_whole)
      | (refine' item_D ?N_zDq49 ?m_zDq49 ?D_zDq49 ?k_zDq49 ?_ ?s_zDq49; (case N_zDq49 => k_asm); (case m_zDq49 => k_mem); (case D_zDq49 => assumption); (case k_zDq49 => first | with_reducible assumption | rfl); (case s_zDq49 => with_unfolding_all rfl); k_whole))))
  k_with "subscriptTail Name Constant ref int" => (walk_at "g_sub")
  k_with "subscriptTail Tuple cons BinOp ref int" => (walk_at "g_sub")
  k_with "subscriptTail Subscript Name Constant Name ref int" => (walk_at "g_sub")
  k_with "exec For Name Call cons nil" => ((refine wpAny_For ?_ ?_; rotate_left; (intro _; rfl)))
  k_with "subscriptTail Name Name ref int" => (walk_at "g_sub")
  k_with "getAttr ref" => ((k_here; (with_reducible show wpAny _ _ (getAttr (Value.ref _) (Str.ofString "__contains__") true) _ _ _); k_dflt (refine' cn_K ?F_zDq55 ?N_zDq55 ?m_zDq55 ?_; (case F_zDq55 => k_asm); (case N_zDq55 => k_asm); (case m_zDq55 => k_mem); k_whole); intro q'w h'w tk'w F'w N'w l1w; (try k_lt l1w); (try k_sweep)))
  k_with "g_units" => (((have hcL9 := cLine_is); (try simp only [units_in1, units_deeper, Around.mark_units, units_caller]); (try dsimp only); omega))
  k_with "call builtin:iter" => ((k_here; (with_reducible show wpAny _ _ (call (Value.builtin "iter") [Value.ref _]) _ _ _); k_dflt (refine' b_iter ?F_zDq57 ?N_zDq57 ?m_zDq57 ?_; (case F_zDq57 => k_asm); (case N_zDq57 => k_asm); (case m_zDq57 => k_mem); k_whole; intro I'w o'w h'w F'w N'w hI'w l1w; (try k_lt l1w); (try k_sweep))))
  k_with "call builtin:next" => ((k_here; (with_reducible show wpAny _ _ (call (Value.builtin "next") [Value.ref _]) _ _ _); k_dflt (first
      | (refine' b_next ?F_zDq58 ?N_zDq58 ?mI_zDq58 ?hI_zDq58 ?U_zDq58 ?m_zDq58 ?x_zDq58 ?_; (case F_zDq58 => k_asm); (case N_zDq58 => k_asm); (case mI_zDq58 => k_mem); (case hI_zDq58 => assumption); (case U_zDq58 => k_updF); (case m_zDq58 => k_mem); (case x_zDq58 => assumption); k_whole; intro h'w o'w F'w N'w hI'w; (try dsimp only at N'w); (try k_sweep))
      | (refine' b_stop ?hh_zDq58 ?F_zDq58 ?N_zDq58 ?hI_zDq58 ?mI_zDq58 ?m_zDq58 ?x_zDq58 ?D_zDq58 ?_; (case hh_zDq58 => rfl); (case F_zDq58 => k_asm); (case N_zDq58 => k_asm); (case mI_zDq58 => k_mem); (case hI_zDq58 => assumption); (case m_zDq58 => k_mem); (case x_zDq58 => assumption); (case D_zDq58 => walk_at "g_del"); k_whole; intro h1'w h'w e'w F'w N'w hE'w))))
  k_with "call ref" => ((k_here; (try dsimp only [List.nil_append]); (with_reducible show wpAny _ _ (call (Value.ref _) [Value.int _ _]) _ _ _); k_dflt (refine' cn_callN ?N_zDq59 ?q_zDq59 ?b_zDq59 ?u_zDq59 ?_; (case N_zDq59 => k_asm); (case q_zDq59 => k_mem); (case b_zDq59 => k_mem); (case u_zDq59 => assumption); k_whole)))
  k_with "callWith ref" => ((k_here; k_dflt (refine' callWith_cn ?N_zDq60 ?q_zDq60 ?_; (case N_zDq60 => k_asm); (case q_zDq60 => k_mem); k_whole)))
  k_with "And" => (((with_reducible show CnP _ _ _ ∧ _); refine ⟨CnP.of (by k_asm) (by k_mem), ?_⟩; try dsimp only [List.nil_append, List.cons_append]))
  k_with "CnP" => (exact CnP.of (by k_asm) (by k_mem))
  k_with "g_fill" => ((refine (fun (h : Challenge.rw_kt0001_01 = Challenge.rw_kt0001_01 → _) => h rfl) ?_; k_fill; intro _))
  k_with "g_ints" => (first | with_reducible assumption | exact IntsAre.nil | exact IntsAre.cons _ _ (by walk_at "g_ints"))
  k_with "call ref cons nil" => ((k_here; (with_reducible show wpAny _ _ (call (Value.ref 65) _) _ _ _); k_dflt (refine' filt_use ?B_zDq65 ?T0_zDq65 ?F_zDq65 ?f_zDq65 ?k_zDq65 ?X_zDq65 ?T_zDq65 ?N_zDq65 ?m1_zDq65 ?m2_zDq65 ?I_zDq65 ?J_zDq65 ?z_zDq65 ?d_zDq65 ?u_zDq65 ?_; (case B_zDq65 => k_asm); (case F_zDq65 => k_asm); (case T0_zDq65 => assumption); (case f_zDq65 => exact rfl); (case k_zDq65 => exact rfl); (case X_zDq65 => assumption); (case T_zDq65 => assumption); (case N_zDq65 => k_asm); (case m1_zDq65 => k_mem); (case m2_zDq65 => k_mem); (case I_zDq65 => walk_at "g_ints"); (case J_zDq65 => walk_at "g_ints"); (case z_zDq65 => first | assumption | (simp; done)); (case d_zDq65 => walk_at "g_room"); (case u_zDq65 => walk_at "g_room"); k_whole; intro g'w h'w tk'w l'w acc'w c'w T0'w B'w F'w N'w X'w T'w hA'w hz'w l1w l2w; (try k_lt l1w); (try k_lt2 l2w); (try k_sweep))))
  k_with "eval Lambda" => ((k_here; k_dflt (refine' kla_eval ?d0_zDq66 ?_; (case d0_zDq66 => exact rfl)); k_dflt (refine' lam_S ?F_zDq66 ?N_zDq66 ?T_zDq66 ?C_zDq66 ?cd_zDq66 ?U_zDq66 ?S_zDq66 ?hm_zDq66 ?hl_zDq66 ?hc_zDq66 ?hq_zDq66 ?hcl_zDq66 ?_; (case F_zDq66 => k_asm); (case N_zDq66 => k_asm); (case T_zDq66 => k_asm); (case cd_zDq66 => exact rfl); (case C_zDq66 => kn_code); (case U_zDq66 => k_updF); (case S_zDq66 => assumption); (case hm_zDq66 => k_mem); (case hl_zDq66 => exact rfl); (case hc_zDq66 => exact rfl); (case hq_zDq66 => exact rfl); (case hcl_zDq66 => exact rfl); k_whole); intro f'w c'w o'w p'w v'w t'w ct'w h'w tk'w F'w N'w S'w d1w d2w l1w l2w l3w; (try dsimp only at N'w); (rename Ap _ => sA'w; (first | replace sA'w := Ap.lam sA'w (by walk_at "g_shc") l1w l2w l3w rfl | (replace sA'w := Ap.subL sA'w l1w rfl (by walk_at "g_shs"); replace sA'w := Ap.lam sA'w (by walk_at "g_shc") l1w l2w l3w rfl)))))
  k_with "pyIter ref" => ((k_here; k_dflt (refine' iter_D ?F_zDq67 ?N_zDq67 ?m_zDq67 ?D_zDq67 ?s_zDq67 ?_; (case F_zDq67 => k_asm); (case N_zDq67 => k_asm); (case m_zDq67 => k_mem); (case D_zDq67 => assumption); (case s_zDq67 => walk_at "g_notsys"); k_whole; intro I'w o'w h'w F'w N'w hI'w l1w; (try k_lt l1w); (try k_sweep))))
  k_with "g_notsys" => (first | decide | exact not_sys (by with_reducible assumption))
  k_with "pyNext ref" => ((k_here; k_dflt (first
      | (refine' next_D ?F_zDq69 ?N_zDq69 ?mI_zDq69 ?I_zDq69 ?m_zDq69 ?D_zDq69 ?n_zDq69 ?x_zDq69 ?U_zDq69 ?_; (case F_zDq69 => k_asm); (case N_zDq69 => k_asm); (case mI_zDq69 => k_mem); (case I_zDq69 => assumption); (case m_zDq69 => k_mem); (case D_zDq69 => assumption); (case n_zDq69 => first | with_reducible assumption | exact Eq.symm (by with_reducible assumption) | rfl); (case x_zDq69 => assumption); (case U_zDq69 => k_updF); k_whole; intro t'w h'w o'w F'w N'w hI'w; (try dsimp only at N'w); (try k_sweep))
      | (refine' next_D_end ?hh_zDq69 ?F_zDq69 ?N_zDq69 ?mI_zDq69 ?I_zDq69 ?m_zDq69 ?D_zDq69 ?n_zDq69 ?x_zDq69 ?De_zDq69 ?_; (case hh_zDq69 => rfl); (case F_zDq69 => k_asm); (case N_zDq69 => k_asm); (case mI_zDq69 => k_mem); (case I_zDq69 => assumption); (case m_zDq69 => k_mem); (case D_zDq69 => assumption); (case n_zDq69 => first | with_reducible assumption | exact Eq.symm (by with_reducible assumption) | rfl); (case x_zDq69 => assumption); (case De_zDq69 => walk_at "g_del"); k_whole; intro h'w F'w N'w; (try dsimp only at N'w); (try k_sweep)))))
  k_with "exec For Name Name cons nil" => ((refine wpAny_For ?_ ?_; rotate_left; (intro _; rfl)))
  k_with "pyIter ref" => ((k_here; k_dflt (refine' self_list ?N_zDq71 ?m_zDq71 ?I_zDq71 ?_; (case N_zDq71 => k_asm); (case m_zDq71 => k_mem); (case I_zDq71 => assumption); k_whole)))
  k_with "call builtin:divmod" => ((k_here; (with_reducible show wpAny _ _ (call (Value.builtin _) [Value.int _ _, Value.int _ _]) _ _ _); k_dflt (refine' divmod_L ?F_zDq72 ?N_zDq72 ?b_zDq72 ?_ ?p_zDq72; (case F_zDq72 => k_asm); (case N_zDq72 => k_asm); (case b_zDq72 => decide); (case p_zDq72 => exact PyProof.noPylong_small (by omega)); k_whole; intro T'w h'w t1'w t2'w tk'w F'w N'w l1w; (try k_lt l1w); (try k_sweep))))
  k_with "dictSet" => ((k_here; k_dflt (refine' dset_new ?F_zDq73 ?N_zDq73 ?m_zDq73 ?D_zDq73 ?k_zDq73 ?z_zDq73 ?U_zDq73 ?_; (case F_zDq73 => k_asm); (case N_zDq73 => k_asm); (case m_zDq73 => k_mem); (case D_zDq73 => assumption); (case k_zDq73 => assumption); (case z_zDq73 => assumption); (case U_zDq73 => k_updF); k_whole; intro h'w o'w F'w N'w hD'w; (try dsimp only at N'w); (try k_sweep))))
  k_with "call builtin:len" => ((k_here; (with_reducible show wpAny _ _ (call (Value.builtin "len") [Value.ref _]) _ _ _); k_dflt (refine' len_L ?N_zDq74 ?m_zDq74 ?I_zDq74 ?z_zDq74 ?_; (case N_zDq74 => k_asm); (case m_zDq74 => k_mem); (case I_zDq74 => walk_at "g_ints"); (case z_zDq74 => assumption); k_whole; intro t'w tk'w)))
  k_with "letOwnedTupleGo" => ((k_here; k_dflt (refine' own_en ?F_zDq75 ?N_zDq75 ?U_zDq75 ?_; (case F_zDq75 => k_asm); (case N_zDq75 => k_asm); (case U_zDq75 => walk_at "g_updF"); k_whole; intro h'w F'w N'w; (try dsimp only at N'w); (try k_sweep))))
  k_with "letOwnedTupleGo" => ((k_here; k_dflt (refine' own_tup ?N_zDq76 ?m_zDq76 ?I_zDq76 ?_; (case N_zDq76 => k_asm); (case m_zDq76 => k_mem); (case I_zDq76 => assumption); k_whole)))
  k_with "call type:type" => ((k_here; (with_reducible show wpAny _ _ (call _ [Value.bytes _ _]) _ _ _); refine call_type_of (Tx := "bytes") rfl (by decide +kernel) ?_))
  k_with "getMethod bytes" => ((k_here; first | with_reducible refine hex_m ?_ | with_reducible refine upper_m ?_))
  k_with "getMethod str" => ((k_here; with_reducible refine enc_m ?_))
  k_with "call builtin:bytes.hex" => ((k_here; (with_reducible show wpAny _ _ (call (Value.builtin _) [Value.bytes _ _]) _ _ _); refine hex_call (by assumption) ?_; intro _ _))
  k_with "call builtin:bytes.upper" => ((k_here; (with_reducible show wpAny _ _ (call (Value.builtin _) [Value.bytes _ _]) _ _ _); refine upper_call (by assumption) ?_; intro _ _))
  k_with "call builtin:str.encode" => ((k_here; (with_reducible show wpAny _ _ (call (Value.builtin _) [Value.str _ _, Value.str _ _]) _ _ _); refine enc_call (by assumption) (by assumption) ?_; intro _ _))
  k_with "g_self" => ((intro _ _ hqw; first | exact self_list (by k_asm) (by k_mem) (by assumption) hqw | exact self_range (by k_asm) (by k_mem) hqw | exact self_D (by k_asm) (by k_mem) (by assumption) hqw | exact self_tup (by k_asm) (by k_mem) (by assumption) hqw | exact self_B (by k_asm) (by k_mem) (by assumption) hqw))
  k_with "codeAny" => (first
      | ((with_reducible show codeAny _ _ (Code.compLoop (Expr.ListComp _ _ _ _) 1 _ _ _) _ _); refine comp2_inner ?_)
      | ((with_reducible show codeAny _ _ (Code.compStart (Expr.ListComp _ _ _ _) 1 _ _ _) _ _); k_dflt (refine comp2_start1 (by walk_at "g_self") ?_))
      | ((with_reducible show codeAny _ _ (Code.compStart (Expr.ListComp _ [_, _] _ _) 0 _ _ _) _ _); k_dflt (refine comp2_start0 (by walk_at "g_self") ?_)))
  k_with "COut" => ((dsimp only [COut]))
  k_with "CIn" => ((dsimp only [CIn]))
  k_with "eval ListComp" => ((k_here; (with_reducible show wpAny _ _ (eval (Expr.ListComp _ [_, _] _ _) _) _ _ _); k_dflt (refine' lc2_enter ?F_zDq87 ?c_zDq87 ?ce_zDq87 ?k_zDq87 ?n_zDq87 ?_ ?s_zDq87; (case F_zDq87 => k_asm); (case c_zDq87 => with_unfolding_all rfl); (case ce_zDq87 => decide); (case k_zDq87 => rfl); (case n_zDq87 => decide); (case s_zDq87 => intro _; rfl))))
  k_with "pyIter bytes" => ((k_here; k_dflt (refine' iter_B ?F_zDq88 ?N_zDq88 ?_; (case F_zDq88 => k_asm); (case N_zDq88 => k_asm); k_whole; intro I'w o'w h'w F'w N'w hI'w l1w; (try k_lt l1w); (try k_sweep))))
  k_with "pyNext ref" => ((k_here; k_dflt (first
      | (refine' next_B ?F_zDq89 ?N_zDq89 ?mI_zDq89 ?I_zDq89 ?U_zDq89 ?x_zDq89 ?_; (case F_zDq89 => k_asm); (case N_zDq89 => k_asm); (case mI_zDq89 => k_mem); (case I_zDq89 => assumption); (case U_zDq89 => k_updF); (case x_zDq89 => assumption); k_whole; intro h'w o'w u'w tk'w F'w N'w hI'w; (try dsimp only at N'w); (try k_sweep))
      | (refine' next_B_end ?hh_zDq89 ?F_zDq89 ?N_zDq89 ?I_zDq89 ?mI_zDq89 ?x_zDq89 ?D_zDq89 ?_; (case hh_zDq89 => rfl); (case F_zDq89 => k_asm); (case N_zDq89 => k_asm); (case mI_zDq89 => k_mem); (case I_zDq89 => assumption); (case x_zDq89 => assumption); (case D_zDq89 => walk_at "g_del"); k_whole; intro h'w F'w N'w; (try dsimp only at N'w); (try k_sweep)))))
  k_with "call type:enumerate" => ((k_here; (with_reducible show wpAny _ _ (call (Value.type _) [Value.ref _]) _ _ _); k_dflt (refine' call_en ?F_zDq90 ?N_zDq90 ?m_zDq90 ?_; (case F_zDq90 => k_asm); (case N_zDq90 => k_asm); (case m_zDq90 => k_mem); k_whole; intro I'w e'w o'w h'w F'w N'w hI'w l1w l2w; (try k_lt l1w); (try k_lt2 l2w); (try k_sweep))))
  k_with "g_self" => ((intro _ _ hqw; exact self_en (by k_asm) (by k_mem) hqw))
  k_with "g_self" => ((intro _ _ hqw; first | exact self_list (by k_asm) (by k_mem) (by assumption) hqw | exact self_range (by k_asm) (by k_mem) hqw | exact self_D (by k_asm) (by k_mem) (by assumption) hqw | exact self_tup (by k_asm) (by k_mem) (by assumption) hqw | exact self_B (by k_asm) (by k_mem) (by assumption) hqw | exact self_en (by k_asm) (by k_mem) hqw))
  k_with "pyIter ref" => ((k_here; k_dflt (refine' self_en ?N_zDq93 ?m_zDq93 ?_; (case N_zDq93 => k_asm); (case m_zDq93 => k_mem); k_whole)))
  k_with "pyNext ref" => ((k_here; k_dflt (first
      | (refine' next_en ?F_zDq94 ?N_zDq94 ?me_zDq94 ?S_zDq94 ?e_zDq94 ?H_zDq94 ?hI_zDq94 ?ml_zDq94 ?x_zDq94 ?_; (case F_zDq94 => k_asm); (case N_zDq94 => k_asm); (case me_zDq94 => k_mem); (case S_zDq94 => assumption); (case e_zDq94 => exact rfl); (case H_zDq94 => walk_at "g_sh2"); (case hI_zDq94 => assumption); (case ml_zDq94 => k_mem); (case x_zDq94 => walk_at "g_item"); k_whole; intro T'w o'w h'w u'w tk'w F'w N'w hI'w l1w; (try dsimp only at N'w); (try k_lt l1w); (try k_sweep))
      | (refine' next_en_end ?hh_zDq94 ?F_zDq94 ?N_zDq94 ?me_zDq94 ?mI_zDq94 ?hI_zDq94 ?ml_zDq94 ?x_zDq94 ?D_zDq94 ?_; (case hh_zDq94 => rfl); (case F_zDq94 => k_asm); (case N_zDq94 => k_asm); (case me_zDq94 => k_mem); (case mI_zDq94 => k_mem); (case hI_zDq94 => assumption); (case ml_zDq94 => k_mem); (case x_zDq94 => walk_at "g_off"); (case D_zDq94 => walk_at "g_del"); k_whole; intro h'w F'w N'w; (try dsimp only at N'w); (try k_sweep)))))
  k_with "call builtin:sum" => ((k_here; (with_reducible show wpAny _ _ (call (Value.builtin "sum") [Value.ref _]) _ _ _); k_dflt (refine' sum_pick ?hh_zDq95 ?F_zDq95 ?N_zDq95 ?I_zDq95 ?_; (case hh_zDq95 => rfl); (case F_zDq95 => k_asm); (case N_zDq95 => k_asm); (case I_zDq95 => assumption); k_whole); intro x'w h'w tk'w t'w F'w N'w; (try k_sweep)))
  k_with "call type:bytes" => ((k_here; (with_reducible show wpAny _ _ (call (Value.type "bytes") [Value.ref _]) _ _ _); k_dflt (refine' bytes_K ?F_zDq96 ?N_zDq96 ?l_zDq96 ?i_zDq96 ?r_zDq96 ?z_zDq96 ?h_zDq96 ?_; (case F_zDq96 => k_asm); (case N_zDq96 => k_asm); (case l_zDq96 => exact News.isList (by k_asm) (by k_mem)); (case i_zDq96 => assumption); (case r_zDq96 => assumption); (case z_zDq96 => assumption); (case h_zDq96 => rfl); k_whole); intro h'w t'w k'w F'w N'w _; (try k_sweep)))
  k_with "call ref cons nil" => ((k_here; (with_reducible show wpAny _ _ (call (Value.ref 88) [Value.bytes _ _]) _ _ _); k_dflt (refine' gives_use (b16 _ _ _ ?hb_zDq97) ?B_zDq97 ?F_zDq97 ?f_zDq97 ?k_zDq97 ?X_zDq97 ?T_zDq97 ?N_zDq97 ?s_zDq97 ?d_zDq97 ?u_zDq97 ?_; (case hb_zDq97 => assumption); (case B_zDq97 => k_asm); (case F_zDq97 => k_asm); (case X_zDq97 => k_asm); (case T_zDq97 => k_asm); (case f_zDq97 => exact rfl); (case k_zDq97 => exact rfl); (case N_zDq97 => k_asm); (case s_zDq97 => intro pw hpw; cases hpw); (case d_zDq97 => walk_at "g_room"); (case u_zDq97 => walk_at "g_room"); k_whole); intro r'w h'w tk'w F'w N'w st'w po'w; obtain ⟨t', e'⟩ := po'w; subst e'; (try clear st'w); (try k_sweep)))
  k_with "dictSet" => ((k_here; k_dflt (refine' dset_new ?F_zDq98 ?N_zDq98 ?m_zDq98 ?D_zDq98 ?k_zDq98 ?z_zDq98 ?U_zDq98 ?_; (case F_zDq98 => k_asm); (case N_zDq98 => k_asm); (case m_zDq98 => k_mem); (case D_zDq98 => assumption); (case k_zDq98 => first | assumption | exact of_decide_eq_false rfl); (case z_zDq98 => first | assumption | exact of_decide_eq_true rfl); (case U_zDq98 => k_updF); k_whole; intro h'w o'w F'w N'w hD'w; (try dsimp only at N'w); (try k_sweep))))
  k_with "g_fig" => ((k_here; k_dflt (refine' fig_item ?a_zDq99 ?b_zDq99 ?_ ?s_zDq99 ?t_zDq99; (case a_zDq99 => first | decide | with_reducible assumption | omega); (case b_zDq99 => first | decide | with_reducible assumption | omega); (case s_zDq99 => with_unfolding_all rfl); (case t_zDq99 => intro _; with_unfolding_all rfl); k_whole); intro u'w tk'w))
  k_with "call builtin:list.append" => ((k_here; (with_reducible show wpAny _ _ (call (Value.builtin _) [Value.ref _, _]) _ _ _); k_dflt (refine' append_L ?k1_zDq100 ?k2_zDq100 ?k3_zDq100 ?_ ?z_zDq100; (case k1_zDq100 => k_asm); (case k2_zDq100 => k_asm); (case k3_zDq100 => k_upd); (case z_zDq100 => first | with_reducible assumption | (simp [sizeLine]; done) | (simp only [List.length_append, List.length_cons, List.length_nil]; rw [sizeLine_eq]; omega)); k_whole); intro h'w F'w N'w; (try simp only [List.nil_append, List.cons_append] at N'w); (try k_sweep)))
  k_with "g_room2" => (first | decide | walk_at "g_room")
  k_with "call ref cons nil" => ((k_here; (with_reducible show wpAny _ _ (call (Value.ref 65) _) _ _ _); k_dflt (refine' filt_use ?B_zDq102 ?T0_zDq102 ?F_zDq102 ?f_zDq102 ?k_zDq102 ?X_zDq102 ?T_zDq102 ?N_zDq102 ?m1_zDq102 ?m2_zDq102 ?I_zDq102 ?J_zDq102 ?z_zDq102 ?d_zDq102 ?u_zDq102 ?_; (case B_zDq102 => k_asm); (case F_zDq102 => k_asm); (case T0_zDq102 => assumption); (case f_zDq102 => exact rfl); (case k_zDq102 => exact rfl); (case X_zDq102 => assumption); (case T_zDq102 => assumption); (case N_zDq102 => k_asm); (case m1_zDq102 => k_mem); (case m2_zDq102 => k_mem); (case I_zDq102 => walk_at "g_ints"); (case J_zDq102 => walk_at "g_ints"); (case z_zDq102 => first | assumption | (simp; done)); (case d_zDq102 => walk_at "g_room2"); (case u_zDq102 => walk_at "g_room2"); k_whole; intro g'w h'w tk'w l'w acc'w c'w T0'w B'w F'w N'w X'w T'w hA'w hz'w l1w l2w; (try k_lt l1w); (try k_lt2 l2w); (try k_sweep))))
  k_with "g_shf" => (first | exact ShF.head | (apply ShF.tail; walk_at "g_shf") | (apply ShF.tailo; walk_at "g_shf") | fail "no shape")
  k_with "g_shu" => (first | exact ShU.head | (apply ShU.tail; walk_at "g_shu") | (apply ShU.tailo; walk_at "g_shu") | fail "no shape")
  k_with "g_shd" => (first | exact ShD.head | (apply ShD.tail; walk_at "g_shd") | (apply ShD.tailo; walk_at "g_shd") | fail "no shape")
  k_with "g_shs1" => (first | exact ShS.nil | (apply ShS.knew; walk_at "g_shs1") | (apply ShS.kold; walk_at "g_shs1") | (apply ShS.snew; walk_at "g_shs1") | (apply ShS.sold; walk_at "g_shs1") | fail "no shape")
  k_with "g_shs" => (((try dsimp only [List.map]); walk_at "g_shs1"))
  k_with "g_sho1" => (first | exact ShO.nil | (apply ShO.cons; walk_at "g_sho1") | fail "no shape")
  k_with "g_sho" => (((try dsimp only [List.map]); walk_at "g_sho1"))
  k_with "g_apnow" => ((rename Ap _ => sA'w; rename News _ _ _ _ => nA'w; replace sA'w := Ap.now nA'w sA'w rfl (by walk_at "g_shs")))
  k_with "g_del" => (first | (refine' del_of ?S_zDq111 ?uh_zDq111 ?e_zDq111; (case S_zDq111 => assumption); (case e_zDq111 => exact rfl); (case uh_zDq111 => walk_at "g_shd")) | (walk_at "g_apnow"; refine' del_of ?S_zDq111 ?uh_zDq111 ?e_zDq111; (case S_zDq111 => assumption); (case e_zDq111 => exact rfl); (case uh_zDq111 => walk_at "g_shd")))
  k_with "g_updF" => (first | (refine' updF_of ?S_zDq112 ?uh_zDq112 ?e_zDq112; (case S_zDq112 => assumption); (case e_zDq112 => exact rfl); (case uh_zDq112 => walk_at "g_shf")) | (walk_at "g_apnow"; refine' updF_of ?S_zDq112 ?uh_zDq112 ?e_zDq112; (case S_zDq112 => assumption); (case e_zDq112 => exact rfl); (case uh_zDq112 => walk_at "g_shf")))
  k_with "g_upd" => (first | (refine' upd_of ?S_zDq113 ?uh_zDq113 ?e_zDq113; (case S_zDq113 => assumption); (case e_zDq113 => exact rfl); (case uh_zDq113 => walk_at "g_shu")) | (walk_at "g_apnow"; refine' upd_of ?S_zDq113 ?uh_zDq113 ?e_zDq113; (case S_zDq113 => assumption); (case e_zDq113 => exact rfl); (case uh_zDq113 => walk_at "g_shu")))
  k_with "g_ltm" => (first | with_reducible assumption | exact ltAll (by assumption) (by k_mem))
  k_with "g_shc" => (first | exact ShC.head | (apply ShC.tail; walk_at "g_shc") | (apply ShC.tailo; walk_at "g_shc") | fail "no shape")
  k_with "g_sh2" => (first | exact Sh2.head | (apply Sh2.tail; walk_at "g_sh2") | fail "no shape")
  k_with "exec For" => ((refine wpAny_For ?_ ?_; rotate_left; (intro _; rfl)))
  k_with "subscriptTail Tuple cons BinOp ref int" => ((k_here; k_dflt (refine' tup_sgn ?N_zDq118 ?m_zDq118 ?_ ?s_zDq118; (case N_zDq118 => k_asm); (case m_zDq118 => k_mem); (case s_zDq118 => with_unfolding_all rfl); k_whole); intro ts'w))
  k_with "subscriptTail Subscript Name Constant Name ref int" => ((k_here; k_dflt (refine' item_L ?N_zDq119 ?m_zDq119 ?lo_zDq119 ?hi_zDq119 ?x_zDq119 ?_ ?s_zDq119; (case N_zDq119 => k_asm); (case m_zDq119 => k_mem); (case lo_zDq119 => assumption); (case hi_zDq119 => omega); (case x_zDq119 => assumption); (case s_zDq119 => with_unfolding_all rfl); k_whole)))
  k_with "subscriptTail Name Slice ref ref" => ((k_here; (with_reducible show wpAny _ _ (subscriptTail _ (PySem.Expr.Slice _ _ none _) (Value.ref _) (Value.ref _)) _ _ _); k_dflt (refine' kmk_slice_ints ?F_zDq120 ?N_zDq120 ?l_zDq120 ?p_zDq120 ?q_zDq120 ?i_zDq120 ?m_zDq120 ?c_zDq120 ?_ ?s_zDq120 ?t_zDq120 ?z_zDq120; (case F_zDq120 => k_asm); (case N_zDq120 => k_asm); (case l_zDq120 => exact ground_list (by k_asm) (by assumption)); (case p_zDq120 => kmk_part); (case q_zDq120 => kmk_part); (case i_zDq120 => assumption); (case m_zDq120 => first | exact kmk_upto (by assumption) (by assumption) | exact kmk_from (by assumption) (by assumption)); (case c_zDq120 => exact rfl); (case s_zDq120 => with_unfolding_all rfl); (case t_zDq120 => kmk_pure); (case z_zDq120 => assumption)); intro D'w ws'w h'w F'w N'w l1w hI'w hC'w hL'w; clear hC'w hL'w; (try k_sweep)))
  k_with "subscriptTail Name Slice ref ref" => ((k_here; (with_reducible show wpAny _ _ (subscriptTail _ (PySem.Expr.Slice _ _ none _) (Value.ref _) (Value.ref _)) _ _ _); k_dflt (refine' kms_slice_lit ?F_zDq121 ?N_zDq121 ?l_zDq121 ?p_zDq121 ?q_zDq121 ?e_zDq121 ?_ ?s_zDq121 ?t_zDq121 ?z_zDq121; (case F_zDq121 => k_asm); (case N_zDq121 => k_asm); (case l_zDq121 => exact News.isList (by k_asm) (by k_mem)); (case p_zDq121 => kmk_part); (case q_zDq121 => kmk_part); (case e_zDq121 => exact pick_tail); (case s_zDq121 => with_unfolding_all rfl); (case t_zDq121 => kmk_pure); (case z_zDq121 => assumption)); intro D'w h'w F'w N'w l1w; (try k_lt l1w); (try k_sweep)))
  k_with "binaryOp Add ref ref" => ((k_here; (with_reducible show wpAny _ _ (binaryOp _ (Value.ref _) (Value.ref _)) _ _ _); k_dflt (refine' kmk_add_ints ?F_zDq122 ?N_zDq122 ?a_zDq122 ?b_zDq122 ?i_zDq122 ?j_zDq122 ?_ ?z_zDq122; (case F_zDq122 => k_asm); (case N_zDq122 => k_asm); (case a_zDq122 => exact News.isList (by k_asm) (by k_mem)); (case b_zDq122 => exact News.isList (by k_asm) (by k_mem)); (case i_zDq122 => assumption); (case j_zDq122 => assumption); (case z_zDq122 => assumption)); intro D'w ws'w h'w F'w N'w l1w hI'w; (try k_sweep)))
  k_with "call builtin:len" => ((k_here; (with_reducible show wpAny _ _ (call (Value.builtin "len") [Value.ref _]) _ _ _); k_dflt (refine' len_K ?N_zDq123 ?m_zDq123 ?I_zDq123 ?z_zDq123 ?_; (case N_zDq123 => k_asm); (case m_zDq123 => k_mem); (case I_zDq123 => assumption); (case z_zDq123 => assumption); k_whole)))
  k_with "pyIter ref" => ((k_here; k_dflt (refine' iter_range ?F_zDq124 ?N_zDq124 ?r_zDq124 ?s_zDq124 ?n_zDq124 ?_; (case F_zDq124 => k_asm); (case N_zDq124 => k_asm); (case r_zDq124 => assumption); (case s_zDq124 => exact rng_small (by assumption)); (case n_zDq124 => exact rng_size (by assumption)); k_whole; intro I'w h'w F'w N'w l1w; (try k_lt l1w); (try k_sweep))))
  trivial
set_option maxRecDepth 100000 in
set_option maxHeartbeats 8000000 in
theorem dqS (w : World) (n : Nat) (hn4 : n ≤ 4) (ih : ∀ k, k < n → DetP w k) (a : Addr) (c : Nat) (rs : List (Addr × List Value × List Int × Nat)) (H : RowsOk n a rs) : Gives w 112 [.ref a] (n + 1) (100 * (n + 1)) ((a, W.listOf (rs.map rV).toArray c) :: rs.map rO) (fun _ _ r => ∃ t, r = .int (detL n (rs.map rX)) t) := by
  unfold Gives
  k_fill
  intro p loose mean mg mb A₀ dp un gd env outer base h₀ L m s Q E B F hf hke X T N hd hu ret
  obtain ⟨vs, z, oz, hvs, Nz, hz, hg⟩ := rows_first N H
  clear N
  refine wpAny_call ?_
  (refine' enter_cells ?k1_zq ?k2_zq ?k3_zq ?k4_zq ?k5_zq ?kA_zq ?kF_zq ?kK_zq ?k6_zq ?k7_zq ?k8_zq ?k9_zq ?kB_zq ?kD_zq ?_ ?c2_zq ?c3_zq ?c4_zq; (case kA_zq => exact rfl); (case kF_zq => assumption); (case kK_zq => assumption); (case k1_zq => k_asm); (case k2_zq => k_asm); (case k3_zq => k_asm); (case k4_zq => k_asm); (case k5_zq => k_asm); (case k6_zq => k_is); (case k7_zq => k_is); (case k8_zq => walk_at "g_room"); (case k9_zq => exact BindsTo.of_eq rfl); (case kB_zq => exact rfl); (case kD_zq => decide +kernel); (case c2_zq => exact rfl); (case c3_zq => exact rfl); (case c4_zq => exact rfl); k_whole; intro g' L' h' tk' cells' F' N' Y' B' X' T' l1 lz lg; k_cells Y'; (try simp only [List.cons_append, List.nil_append] at N'); (first | (rename Ap _ => sA'; have sA' := ApB.of l1 sA' rfl) | (have sA' := ApB.start l1 rfl (by walk_at "g_sho"))); (first | replace sA' := Ap.nowB N' sA'.cell.cell.cell.cell rfl | replace sA' := Ap.nowB N' sA'.cell.cell.cell rfl | replace sA' := Ap.nowB N' sA'.cell.cell rfl | replace sA' := Ap.nowB N' sA'.cell rfl | replace sA' := Ap.nowB N' sA' rfl); (try dsimp only); (try k_fold))
  have hg9 : ∀ q ∈ rs.tail, g'.get? q.1 = some (rO q).2 := fun q hq => lg _ _ (hg q hq).1 (hg q hq).2
  clear hg
  repeat' ((fail_if_success (with_reducible show wpAny _ _ (compareOp CmpOp.Eq _ _) _ _ _)); (first | ((with_reducible show wpAny _ _ (execs (_ :: _) _) _ _ _); k_fold; walk1) | ((with_reducible show wpAny _ _ (eval (Expr.ListComp _ _ _ _) _) _ _ _); k_fold; walk1) | (k_unfold; (try dsimp only)) | (refine hR9 _ _ ?_; try dsimp only) | (k_end; wrow_close) | walk1 | (dsimp only; walk1) | (leave1; walk_say "STEP leave1"; try dsimp only) | fail "no step"))
  cases rs with
  | nil =>
    obtain rfl : n = 0 := H.1.symm
    subst hvs
    refine ke_eq_ints (xs := []) (ys := []) (News.isList (by k_asm) (by k_mem)) (News.isList (by k_asm) (by k_mem)) .nil .nil (by ke_room) ?_
    repeat' ((fail_if_success (with_reducible show BackK _ _ _ _ _ _)); (first | ((with_reducible show wpAny _ _ (execs (_ :: _) _) _ _ _); k_fold; walk1) | ((with_reducible show wpAny _ _ (eval (Expr.ListComp _ _ _ _) _) _ _ _); k_fold; walk1) | (k_unfold; (try dsimp only)) | (refine hR9 _ _ ?_; try dsimp only) | (k_end; wrow_close) | walk1 | (dsimp only; walk1) | (leave1; walk_say "STEP leave1"; try dsimp only) | fail "no step"))
    refine back_ret (by assumption) (by assumption) (by kcj_all) (fun st => ?_)
    exact ret _ _ _ st ⟨_, rfl⟩
  | cons q0 rs1 =>
    obtain ⟨r0, v0, x0, c0⟩ := q0
    obtain ⟨e8, e9⟩ := Prod.mk.inj (hz _ _ rfl)
    clear hz
    have e8 : r0 = z := e8.symm
    have e9 : oz = W.listOf v0.toArray c0 := e9
    subst e8
    subst e9
    obtain ⟨k, rfl⟩ : ∃ k, n = k + 1 := ⟨rs1.length, H.1.symm⟩
    obtain ⟨us, hus⟩ : ∃ us, us = rs1.map rV := ⟨_, rfl⟩
    obtain rfl : vs = .ref r0 :: us := hus ▸ hvs
    clear hvs
    have le9 : rs1.length = k := Nat.succ.inj H.1
    have ul9 : (Value.ref r0 :: us).toArray.size = k + 1 := by rw [List.size_toArray, hus, List.length_cons, List.length_map, le9]
    have ub9 : k + 1 < 2 ^ 62 := by omega
    have uz9 : (Value.ref r0 :: us).toArray.size ≤ sizeLine := by rw [ul9]; exact Nat.le_trans hn4 (by decide)
    have I0 : IntsAre v0 x0 := H.2.1 _ (.head _)
    have le0 : x0.length = k + 1 := H.2.2.1 _ (.head _)
    have b0 : ∀ y ∈ x0, -1000000 < y ∧ y < 1000000 := H.2.2.2.1 _ (.head _)
    refine P.eq_list_lengths (News.at (by k_asm) (by k_mem)) (News.at (by k_asm) (by k_mem)) (by rw [ul9]; rfl) (by ke_room) ?_
    repeat' ((fail_if_success (with_reducible show codeAny _ _ (Code.forLoop _ _ _ _ _) _ _)); (first | ((with_reducible show wpAny _ _ (execs (_ :: _) _) _ _ _); k_fold; walk1) | ((with_reducible show wpAny _ _ (eval (Expr.ListComp _ _ _ _) _) _ _ _); k_fold; walk1) | (k_unfold; (try dsimp only)) | (refine hR9 _ _ ?_; try dsimp only) | (k_end; wrow_close) | walk1 | (dsimp only; walk1) | (leave1; walk_say "STEP leave1"; try dsimp only) | fail "no step"))
    rename (Fr g' L' _ _) => F9
    rename News g' L' _ _ => Nz
    have Ny := News.sub (sel := [(_, itR _ _), (L' + 1, _), (a, _), (r0, _)]) Nz (by kcj_all)
    clear Nz
    refine DInv.loop (g := g') (L := L') (s0 := s) (f := (fun j => sgn j * x0.getD j 0 * detL k (minor j (rs1.map rX)))) (n := k + 1) (DInv.mk F9 Ny rfl (by assumption)) ?_
    clear F9 Ny
    intro R9 hR9 i oc cv t9 h1 tk1 hi F9 N9 d9 ih9
    refine forLoop_step ?_
    rcases Nat.lt_or_ge i (k + 1) with hlt | hge
    · have b2' : (0 : Int) < ((k + 1 : Nat) : Int) - (i : Int) := by omega
      have k0 : (0 : Int) ≤ (i : Int) := Int.natCast_nonneg _
      have k4 : (i : Int) < 4 := by omega
      obtain ⟨v9, e0v⟩ : ∃ p, v0[i]? = some p := ⟨_, List.getElem?_eq_getElem (by rw [ints_len I0, le0]; exact hlt)⟩
      obtain ⟨y9, u9, rfl, e1⟩ := ints_get I0 e0v
      have e2 := ItemAt.of e0v
      have hp := sgn_bd (i := i) (b0 y9 (List.mem_of_getElem? e1))
      have hp1 := hp.1
      have hp2 := hp.2
      clear hp
      have k1 : (0 : Int) ≤ (i : Int) + 1 := by omega
      have hs1 := sgn_lo i
      have hs2 := sgn_hi i
      repeat' ((fail_if_success (with_reducible show codeAny _ _ (Code.forLoop _ _ _ _ _) _ _)); (fail_if_success (with_reducible show wpAny _ _ (call (Value.ref 112) _) _ _ _)); (fail_if_success (with_reducible show codeAny _ _ (Code.compStart _ _ _ _ _) _ _)); (first | ((with_reducible show wpAny _ _ (execs (_ :: _) _) _ _ _); k_fold; walk1) | ((with_reducible show wpAny _ _ (eval (Expr.ListComp _ _ _ _) _) _ _ _); k_fold; walk1) | (k_unfold; (try dsimp only)) | (refine hR9 _ _ ?_; try dsimp only) | (k_end; wrow_close) | walk1 | (dsimp only; walk1) | (leave1; walk_say "STEP leave1"; try dsimp only) | fail "no step"))
      subst hus
      refine' comp_rows (rs := rs1) (f := fun r => r.take i ++ r.drop (i + 1)) (ck := L' + 1) ?F_zq ?N_zq ?S_zq ?e_zq ?hC_zq ?hI_zq rfl rfl rfl ?hck_zq ?hz_zq ?hl1_zq ?helt_zq ?fin_zq
      case F_zq => k_asm
      case N_zq => k_asm
      case S_zq => assumption
      case e_zq => exact rfl
      case hC_zq => assumption
      case hI_zq => assumption
      case hck_zq => k_mem
      case hz_zq => omega
      case hl1_zq => k_mem
      case helt_zq =>
        intro q hq
        unfold EltOk
        intro E9 Q9 hh9 tk8 oC9 mC9 led F9 N9 hC9 kk
        have hr := hg9 q hq
        have Iq := H.2.1 q (.tail _ hq)
        have lq := H.2.2.1 q (.tail _ hq)
        clear hg9 H
        obtain ⟨r9, v8, x9, c9⟩ := q
        have hr : g'.get? r9 = some (W.listOf v8.toArray c9) := hr
        have Iq : IntsAre v8 x9 := Iq
        have lq : x9.length = k + 1 := lq
        have zq : v8.toArray.size ≤ sizeLine := by rw [List.size_toArray, ints_len Iq, lq]; exact Nat.le_trans hn4 (by decide)
        have z9 : (x9.take i).length + (x9.drop (i + 1)).length ≤ sizeLine := by rw [List.length_take, List.length_drop]; exact Nat.le_trans (show _ ≤ 4 by omega) (by decide)
        rename Ap _ => sA
        clear sA
        repeat' ((fail_if_success (with_reducible show Q9 _ _)); (first | ((with_reducible show wpAny _ _ (execs (_ :: _) _) _ _ _); k_fold; walk1) | ((with_reducible show wpAny _ _ (eval (Expr.ListComp _ _ _ _) _) _ _ _); k_fold; walk1) | (k_unfold; (try dsimp only)) | (refine hR9 _ _ ?_; try dsimp only) | (k_end; wrow_close) | walk1 | (dsimp only; walk1) | (leave1; walk_say "STEP leave1"; try dsimp only) | fail "no step"))
        rename News g' L' _ _ => Nz
        rename ∀ p ∈ _, _ < _ => lz9
        exact kk _ _ _ _ (by assumption) (fun p hp => Nz p (by
          rcases List.mem_cons.mp hp with rfl | hp
          · exact .head _
          · exact .tail _ (.tail _ (.tail _ hp)))) (by assumption) (fun p hp => lz9 p (.tail _ (.tail _ hp)))
      case fin_zq =>
        intro h9 tk9 cnt rs9 F9 N9 ex Ix nd
        have RO := rows_minor hlt le9 (fun q hq => H.2.2.1 q (.tail _ hq)) (fun q hq => H.2.2.2.1 q (.tail _ hq)) ex Ix nd
        have N9 : News _ _ _ _ := N9
        have N8 := News.cut N9
        repeat' ((fail_if_success (with_reducible show codeAny _ _ (Code.forLoop _ _ _ _ _) _ _)); (fail_if_success (with_reducible show wpAny _ _ (call (Value.ref 112) _) _ _ _)); (first | ((with_reducible show wpAny _ _ (execs (_ :: _) _) _ _ _); k_fold; walk1) | ((with_reducible show wpAny _ _ (eval (Expr.ListComp _ _ _ _) _) _ _ _); k_fold; walk1) | (k_unfold; (try dsimp only)) | (refine hR9 _ _ ?_; try dsimp only) | (k_end; wrow_close) | walk1 | (dsimp only; walk1) | (leave1; walk_say "STEP leave1"; try dsimp only) | fail "no step"))
        refine' gives_use (ih k (Nat.lt_succ_self k) _ _ _ RO) ?B_zq ?F_zq ?f_zq ?k_zq ?X_zq ?T_zq N9 mem_cut ?d_zq ?u_zq ?_
        case B_zq => k_asm
        case F_zq => k_asm
        case f_zq => exact rfl
        case k_zq => exact rfl
        case X_zq => k_asm
        case T_zq => k_asm
        case d_zq => walk_at "g_room"
        case u_zq => walk_at "g_room"
        k_whole
        intro r5 h5 tk5 F5 N5 st5 po5
        rw [ex] at po5
        obtain ⟨t5, rfl⟩ := po5
        clear st5
        replace N5 := News.cut N5
        clear N8 N9
        k_sweep
        repeat' ((fail_if_success (with_reducible show codeAny _ _ (Code.forLoop _ _ _ _ _) _ _)); (first | ((with_reducible show wpAny _ _ (execs (_ :: _) _) _ _ _); k_fold; walk1) | ((with_reducible show wpAny _ _ (eval (Expr.ListComp _ _ _ _) _) _ _ _); k_fold; walk1) | (k_unfold; (try dsimp only)) | (refine hR9 _ _ ?_; try dsimp only) | (k_end; wrow_close) | walk1 | (dsimp only; walk1) | (leave1; walk_say "STEP leave1"; try dsimp only) | fail "no step"))
        refine ih9 _ _ (by omega) (DInv.next (by assumption) (News.sub (by assumption) (by kcj_all)) (by assumption) hlt ?_)
        rw [getD_of e1]
        rfl
    · have hi2 := Nat.le_antisymm hi hge
      subst hi2
      have b2' : ((k + 1 : Nat) : Int) - ((k + 1 : Nat) : Int) ≤ 0 := by omega
      clear ih9
      repeat' ((fail_if_success (with_reducible show BackK _ _ _ _ _ _)); (first | ((with_reducible show wpAny _ _ (execs (_ :: _) _) _ _ _); k_fold; walk1) | ((with_reducible show wpAny _ _ (eval (Expr.ListComp _ _ _ _) _) _ _ _); k_fold; walk1) | (k_unfold; (try dsimp only)) | (refine hR9 _ _ ?_; try dsimp only) | (k_end; wrow_close) | walk1 | (dsimp only; walk1) | (leave1; walk_say "STEP leave1"; try dsimp only) | fail "no step"))
      refine back_ret (by assumption) (by assumption) (by kcj_all) (fun st => ?_)
      exact ret _ _ _ st ⟨_, rfl⟩
theorem dq4 (w : World) (a r0 r1 r2 r3 : Addr) (c c0 c1 c2 c3 : Nat) (v0 v1 v2 v3 : List Value) (x0 x1 x2 x3 : List Int) (I0 : IntsAre v0 x0) (I1 : IntsAre v1 x1) (I2 : IntsAre v2 x2) (I3 : IntsAre v3 x3) (le0 : x0.length = 4) (le1 : x1.length = 4) (le2 : x2.length = 4) (le3 : x3.length = 4) (b0 : ∀ y ∈ x0, -1000000 < y ∧ y < 1000000) (b1 : ∀ y ∈ x1, -1000000 < y ∧ y < 1000000) (b2 : ∀ y ∈ x2, -1000000 < y ∧ y < 1000000) (b3 : ∀ y ∈ x3, -1000000 < y ∧ y < 1000000) (nd : [a, r0, r1, r2, r3].Nodup) : Gives w 112 [.ref a] 5 500 [(a, W.listOf (#[.ref r0, .ref r1, .ref r2, .ref r3] : Array Value) c), (r0, W.listOf v0.toArray c0), (r1, W.listOf v1.toArray c1), (r2, W.listOf v2.toArray c2), (r3, W.listOf v3.toArray c3)] (fun _ _ r => ∃ t, r = .int (detL 4 [x0, x1, x2, x3]) t) :=
  dqI (fun n hn ih a c rs H => dqS w n hn ih a c rs H) 4 (Nat.le_refl _) a c [(r0, v0, x0, c0), (r1, v1, x1, c1), (r2, v2, x2, c2), (r3, v3, x3, c3)] ⟨rfl, List.forall_mem_cons.mpr ⟨I0, List.forall_mem_cons.mpr ⟨I1, List.forall_mem_cons.mpr ⟨I2, List.forall_mem_singleton.mpr I3⟩⟩⟩, List.forall_mem_cons.mpr ⟨le0, List.forall_mem_cons.mpr ⟨le1, List.forall_mem_cons.mpr ⟨le2, List.forall_mem_singleton.mpr le3⟩⟩⟩, List.forall_mem_cons.mpr ⟨b0, List.forall_mem_cons.mpr ⟨b1, List.forall_mem_cons.mpr ⟨b2, List.forall_mem_singleton.mpr b3⟩⟩⟩, nd⟩

theorem setupL : True := by
  w_top off
  k_with_none
  k_with "g_room" => (first
      | ((try simp only [depth_under_make, depth_under_kw, depth_in1, depth_deeper, depth_caller]); (try dsimp only); omega)
      | ((try simp only [depth_under_make, depth_under_kw, depth_in1, depth_deeper, depth_caller] at *); (try dsimp only at *); omega))
  k_with "g_plain" => ((refine' enter_plain ?k1_zL1 ?k2_zL1 ?k3_zL1 ?k4_zL1 ?k5_zL1 ?kA_zL1 ?kF_zL1 ?kK_zL1 ?k6_zL1 ?k7_zL1 ?k8_zL1 ?k9_zL1 ?kB_zL1 ?_ ?c2_zL1 ?c3_zL1 ?c4_zL1 ?c5_zL1; (case kA_zL1 => exact rfl); (case kF_zL1 => assumption); (case kK_zL1 => assumption); (case k1_zL1 => k_asm); (case k2_zL1 => k_asm); (case k3_zL1 => k_asm); (case k4_zL1 => k_asm); (case k5_zL1 => k_asm); (case k6_zL1 => k_is); (case k7_zL1 => k_is); (case k8_zL1 => walk_at "g_room"); (case k9_zL1 => exact BindsTo.of_eq rfl); (case c5_zL1 => decide); (case kB_zL1 => exact locs rfl); (case c2_zL1 => exact rfl); (case c3_zL1 => exact rfl); (case c4_zL1 => exact rfl); k_whole; intro g'w L'w h'w F'w N'w B'w X'w T'w l1w lzw lgw; (first | (rename Ap _ => sA'w; have sA'w := (ApB.of l1w sA'w rfl).1) | (have sA'w := (ApB.start l1w rfl (by walk_at "g_sho")).1)); (try dsimp only); (try k_fold)))
  k_with "g_cellsS" => ((refine' enterS_cells ?k1_zL2 ?k2_zL2 ?k3_zL2 ?k4_zL2 ?k5_zL2 ?kA_zL2 ?kF_zL2 ?kK_zL2 ?k6_zL2 ?k7_zL2 ?k8_zL2 ?k9_zL2 ?kB_zL2 ?kD_zL2 ?_ ?c2_zL2 ?c3_zL2 ?c4_zL2; (case kA_zL2 => exact rfl); (case kF_zL2 => assumption); (case kK_zL2 => assumption); (case k1_zL2 => k_asm); (case k2_zL2 => k_asm); (case k3_zL2 => k_asm); (case k4_zL2 => k_asm); (case k5_zL2 => k_asm); (case k6_zL2 => k_is); (case k7_zL2 => k_is); (case k8_zL2 => walk_at "g_room"); (case k9_zL2 => exact BindsTo.of_eq rfl); (case kB_zL2 => exact rfl); (case kD_zL2 => decide +kernel); (case c2_zL2 => exact rfl); (case c3_zL2 => exact rfl); (case c4_zL2 => exact rfl); k_whole; intro g'w L'w h'w tk'w cells'w F'w N'w Y'w B'w X'w T'w l1w lzw lgw; k_cells Y'w; (try simp only [List.cons_append, List.nil_append] at N'w); (first | (rename Ap _ => sA'w; have sA'w := ApB.of l1w sA'w rfl) | (have sA'w := ApB.start l1w rfl (by walk_at "g_sho"))); (first | replace sA'w := Ap.nowB N'w sA'w.cell.cell.cell.cell rfl | replace sA'w := Ap.nowB N'w sA'w.cell.cell.cell rfl | replace sA'w := Ap.nowB N'w sA'w.cell.cell rfl | replace sA'w := Ap.nowB N'w sA'w.cell rfl | replace sA'w := Ap.nowB N'w sA'w rfl); (try dsimp only); (try k_fold)))
  k_with "g_plainS" => ((refine' enterS_plain ?k1_zL3 ?k2_zL3 ?k3_zL3 ?k4_zL3 ?k5_zL3 ?kA_zL3 ?kF_zL3 ?kK_zL3 ?k6_zL3 ?k7_zL3 ?k8_zL3 ?k9_zL3 ?kB_zL3 ?_ ?c2_zL3 ?c3_zL3 ?c4_zL3 ?c5_zL3; (case kA_zL3 => exact rfl); (case kF_zL3 => assumption); (case kK_zL3 => assumption); (case k1_zL3 => k_asm); (case k2_zL3 => k_asm); (case k3_zL3 => k_asm); (case k4_zL3 => k_asm); (case k5_zL3 => k_asm); (case k6_zL3 => k_is); (case k7_zL3 => k_is); (case k8_zL3 => walk_at "g_room"); (case k9_zL3 => exact BindsTo.of_eq rfl); (case c5_zL3 => decide); (case kB_zL3 => exact locs rfl); (case c2_zL3 => exact rfl); (case c3_zL3 => exact rfl); (case c4_zL3 => exact rfl); k_whole; intro g'w L'w h'w F'w N'w B'w X'w T'w l1w lzw lgw; (first | (rename Ap _ => sA'w; have sA'w := (ApB.of l1w sA'w rfl).1) | (have sA'w := (ApB.start l1w rfl (by walk_at "g_sho")).1)); (try dsimp only); (try k_fold)))
  k_with "g_own" => ((refine' code_def ?k1_zL4 ?k2_zL4 ?k3_zL4 ?k4_zL4 ?k5_zL4 ?kA_zL4 ?kF_zL4 ?kK_zL4 ?k6_zL4 ?k7_zL4 ?k8_zL4 ?k9_zL4 ?kB_zL4 ?_ ?c2_zL4 ?c3_zL4 ?c4_zL4 ?c5_zL4; (case kA_zL4 => exact rfl); (case kF_zL4 => assumption); (case kK_zL4 => assumption); (case k1_zL4 => k_asm); (case k2_zL4 => k_asm); (case k3_zL4 => k_asm); (case k4_zL4 => k_asm); (case k5_zL4 => k_asm); (case k6_zL4 => k_is); (case k7_zL4 => k_is); (case k8_zL4 => walk_at "g_room"); (case k9_zL4 => exact BindsTo.of_eq rfl); (case c5_zL4 => decide); (case kB_zL4 => exact locs rfl); (case c2_zL4 => exact rfl); (case c3_zL4 => exact rfl); (case c4_zL4 => exact rfl); k_whole; intro g'w L'w h'w FG'w F'w N'w B'w X'w T'w; (try dsimp only); (try k_fold)))
  k_with "g_cells" => ((refine' enter_cells ?k1_zL5 ?k2_zL5 ?k3_zL5 ?k4_zL5 ?k5_zL5 ?kA_zL5 ?kF_zL5 ?kK_zL5 ?k6_zL5 ?k7_zL5 ?k8_zL5 ?k9_zL5 ?kB_zL5 ?kD_zL5 ?_ ?c2_zL5 ?c3_zL5 ?c4_zL5; (case kA_zL5 => exact rfl); (case kF_zL5 => assumption); (case kK_zL5 => assumption); (case k1_zL5 => k_asm); (case k2_zL5 => k_asm); (case k3_zL5 => k_asm); (case k4_zL5 => k_asm); (case k5_zL5 => k_asm); (case k6_zL5 => k_is); (case k7_zL5 => k_is); (case k8_zL5 => walk_at "g_room"); (case k9_zL5 => exact BindsTo.of_eq rfl); (case kB_zL5 => exact rfl); (case kD_zL5 => decide +kernel); (case c2_zL5 => exact rfl); (case c3_zL5 => exact rfl); (case c4_zL5 => exact rfl); k_whole; intro g'w L'w h'w tk'w cells'w F'w N'w Y'w B'w X'w T'w l1w lzw lgw; k_cells Y'w; (try simp only [List.cons_append, List.nil_append] at N'w); (first | (rename Ap _ => sA'w; have sA'w := ApB.of l1w sA'w rfl) | (have sA'w := ApB.start l1w rfl (by walk_at "g_sho"))); (first | replace sA'w := Ap.nowB N'w sA'w.cell.cell.cell.cell rfl | replace sA'w := Ap.nowB N'w sA'w.cell.cell.cell rfl | replace sA'w := Ap.nowB N'w sA'w.cell.cell rfl | replace sA'w := Ap.nowB N'w sA'w.cell rfl | replace sA'w := Ap.nowB N'w sA'w rfl); (try dsimp only); (try k_fold)))
  k_with "g_cellsG" => ((refine' enterG_cells ?k1_zL6 ?k2_zL6 ?k3_zL6 ?k4_zL6 ?k5_zL6 ?kA_zL6 ?kF_zL6 ?kK_zL6 ?k6_zL6 ?k7_zL6 ?k8_zL6 ?k9_zL6 ?kB_zL6 ?kD_zL6 ?_ ?c2_zL6 ?c3_zL6 ?c4_zL6; (case kA_zL6 => exact rfl); (case kF_zL6 => assumption); (case kK_zL6 => assumption); (case k1_zL6 => k_asm); (case k2_zL6 => k_asm); (case k3_zL6 => k_asm); (case k4_zL6 => k_asm); (case k5_zL6 => k_asm); (case k6_zL6 => k_is); (case k7_zL6 => k_is); (case k8_zL6 => walk_at "g_room"); (case k9_zL6 => exact BindsTo.of_eq rfl); (case kB_zL6 => exact rfl); (case kD_zL6 => decide +kernel); (case c2_zL6 => exact rfl); (case c3_zL6 => exact rfl); (case c4_zL6 => exact rfl); k_whole; intro g'w L'w h'w tk'w cells'w F'w N'w Y'w B'w X'w T'w l1w lzw lgw; k_cells Y'w; (try simp only [List.cons_append, List.nil_append] at N'w); (first | (rename Ap _ => sA'w; have sA'w := ApB.of l1w sA'w rfl) | (have sA'w := ApB.start l1w rfl (by walk_at "g_sho"))); (first | replace sA'w := Ap.nowB N'w sA'w.cell.cell.cell.cell rfl | replace sA'w := Ap.nowB N'w sA'w.cell.cell.cell rfl | replace sA'w := Ap.nowB N'w sA'w.cell.cell rfl | replace sA'w := Ap.nowB N'w sA'w.cell rfl | replace sA'w := Ap.nowB N'w sA'w rfl); (try dsimp only); (try k_fold)))
  k_with "g_del" => (first | (refine' Del.head ?a_zL7; (case a_zL7 => k_all)) | (refine' Del.tail ?a_zL7 ?b_zL7; (case a_zL7 => k_ne); (case b_zL7 => walk_at "g_del")))
  k_with "g_self" => ((intro _ _ hqw; first | exact self_list (by k_asm) (by k_mem) (by assumption) hqw | exact self_range (by k_asm) (by k_mem) hqw | exact self_D (by k_asm) (by k_mem) (by assumption) hqw))
  k_with "codeAny" => (first
      | ((with_reducible show codeAny _ _ (Code.forLoop _ _ _ _ _) _ _); refine forLoop_step ?_)
      | ((with_reducible show codeAny _ _ (Code.compLoop (Expr.ListComp _ _ _ _) _ _ _ _) _ _); refine compL_step ?_)
      | ((with_reducible show codeAny _ _ (Code.compStart (Expr.ListComp _ _ _ _) _ _ _ _) _ _); k_dflt (refine compL_start (by walk_at "g_self") ?_))
      | ((with_reducible show codeAny _ _ (Code.compLoop (Expr.DictComp _ _ _ _ _) _ _ _ _) _ _); refine compD_step ?_)
      | ((with_reducible show codeAny _ _ (Code.compStart (Expr.DictComp _ _ _ _ _) _ _ _ _) _ _); k_dflt (refine compD_start (by walk_at "g_self") ?_)))
  k_with "FlTurn" => ((dsimp only [FlTurn]))
  k_with "FlFlow" => ((dsimp only [FlFlow]))
  k_with "letOwnedTupleGo" => ((refine wpAny_of_eq (a := ()) rfl ?_))
  k_with "assign Name" => ((refine wpAny_assign_Name ?_))
  k_with "g_item" => (first | with_reducible assumption | exact ItemAt.zero | exact (ItemAt.succ ItemAt.zero) | exact (ItemAt.succ (ItemAt.succ ItemAt.zero)) | exact (ItemAt.succ (ItemAt.succ (ItemAt.succ ItemAt.zero))) | exact (ItemAt.succ (ItemAt.succ (ItemAt.succ (ItemAt.succ ItemAt.zero)))) | exact (ItemAt.succ (ItemAt.succ (ItemAt.succ (ItemAt.succ (ItemAt.succ ItemAt.zero))))) | exact (ItemAt.succ (ItemAt.succ (ItemAt.succ (ItemAt.succ (ItemAt.succ (ItemAt.succ ItemAt.zero)))))) | exact (ItemAt.succ (ItemAt.succ (ItemAt.succ (ItemAt.succ (ItemAt.succ (ItemAt.succ (ItemAt.succ ItemAt.zero))))))) | exact (ItemAt.succ (ItemAt.succ (ItemAt.succ (ItemAt.succ (ItemAt.succ (ItemAt.succ (ItemAt.succ (ItemAt.succ ItemAt.zero)))))))))
  k_with "g_off" => (first | with_reducible assumption | exact OffAt.nil | exact (OffAt.succ OffAt.nil) | exact (OffAt.succ (OffAt.succ OffAt.nil)) | exact (OffAt.succ (OffAt.succ (OffAt.succ OffAt.nil))) | exact (OffAt.succ (OffAt.succ (OffAt.succ (OffAt.succ OffAt.nil)))) | exact (OffAt.succ (OffAt.succ (OffAt.succ (OffAt.succ (OffAt.succ OffAt.nil))))) | exact (OffAt.succ (OffAt.succ (OffAt.succ (OffAt.succ (OffAt.succ (OffAt.succ OffAt.nil)))))) | exact (OffAt.succ (OffAt.succ (OffAt.succ (OffAt.succ (OffAt.succ (OffAt.succ (OffAt.succ OffAt.nil))))))) | exact (OffAt.succ (OffAt.succ (OffAt.succ (OffAt.succ (OffAt.succ (OffAt.succ (OffAt.succ (OffAt.succ OffAt.nil)))))))))
  k_with "call builtin:list.append" => ((k_here; (with_reducible show wpAny _ _ (call (Value.builtin _) [Value.ref _, _]) _ _ _); k_dflt (refine' append_L ?k1_zL16 ?k2_zL16 ?k3_zL16 ?_ ?z_zL16; (case k1_zL16 => k_asm); (case k2_zL16 => k_asm); (case k3_zL16 => k_upd); (case z_zL16 => first | with_reducible assumption | (simp [sizeLine]; done)); k_whole); intro h'w F'w N'w; (try simp only [List.nil_append, List.cons_append] at N'w); (try k_sweep)))
  k_with "g_num" => (first | ((simp only [Int.reduceAdd, Int.reduceSub]); first | done | rfl) | rfl)
  k_with "g_conj" => ((repeat (with_reducible rename (_ ∧ _) => hcj; have hcj1 := hcj.1; have hcj2 := hcj.2; clear hcj)))
  k_with "g_ne" => (((refine neN ?_); (try dsimp only); first | exact Nat.ne_of_lt (by with_reducible assumption) | exact Nat.ne_of_gt (by with_reducible assumption) | omega))
  k_with "pyNext ref" => ((k_here; (walk_at "g_conj"); k_dflt (first
      | (refine' next_range ?F_zL20 ?N_zL20 ?m_zL20 ?l_zL20 ?x_zL20 ?y_zL20 ?U_zL20 ?_; (case F_zL20 => k_asm); (case N_zL20 => k_asm); (case m_zL20 => k_mem); (case l_zL20 => first | decide | omega); (case x_zL20 => walk_at "g_num"); (case y_zL20 => walk_at "g_num"); (case U_zL20 => k_updF); k_whole; intro h'w F'w N'w; (try dsimp only at N'w); (try k_sweep))
      | (refine' next_range_end ?hh_zL20 ?F_zL20 ?N_zL20 ?m_zL20 ?D_zL20 ?l_zL20 ?_; (case hh_zL20 => rfl); (case F_zL20 => k_asm); (case N_zL20 => k_asm); (case m_zL20 => k_mem); (case l_zL20 => first | decide | omega); (case D_zL20 => walk_at "g_del"); k_whole; intro h'w F'w N'w; (try dsimp only at N'w); (try k_sweep))
      | (refine' next_list ?F_zL20 ?N_zL20 ?mI_zL20 ?I_zL20 ?U_zL20 ?m_zL20 ?x_zL20 ?_; (case F_zL20 => k_asm); (case N_zL20 => k_asm); (case mI_zL20 => k_mem); (case I_zL20 => assumption); (case m_zL20 => k_mem); (case x_zL20 => walk_at "g_item"); (case U_zL20 => k_updF); k_whole; intro h'w o'w F'w N'w hI'w; (try dsimp only at N'w); (try k_sweep))
      | (refine' next_list_end ?hh_zL20 ?F_zL20 ?N_zL20 ?I_zL20 ?mI_zL20 ?m_zL20 ?x_zL20 ?D_zL20 ?_; (case hh_zL20 => rfl); (case F_zL20 => k_asm); (case N_zL20 => k_asm); (case mI_zL20 => k_mem); (case I_zL20 => assumption); (case m_zL20 => k_mem); (case x_zL20 => walk_at "g_off"); (case D_zL20 => walk_at "g_del"); k_whole; intro h'w F'w N'w; (try dsimp only at N'w); (try k_sweep))
      | (refine' next_tuple ?F_zL20 ?N_zL20 ?mI_zL20 ?I_zL20 ?U_zL20 ?m_zL20 ?x_zL20 ?_; (case F_zL20 => k_asm); (case N_zL20 => k_asm); (case mI_zL20 => k_mem); (case I_zL20 => assumption); (case m_zL20 => k_mem); (case x_zL20 => walk_at "g_item"); (case U_zL20 => k_updF); k_whole; intro h'w o'w F'w N'w hI'w; (try dsimp only at N'w); (try k_sweep))
      | (refine' next_tuple_end ?hh_zL20 ?F_zL20 ?N_zL20 ?I_zL20 ?mI_zL20 ?m_zL20 ?x_zL20 ?D_zL20 ?_; (case hh_zL20 => rfl); (case F_zL20 => k_asm); (case N_zL20 => k_asm); (case mI_zL20 => k_mem); (case I_zL20 => assumption); (case m_zL20 => k_mem); (case x_zL20 => walk_at "g_off"); (case D_zL20 => walk_at "g_del"); k_whole; intro h'w F'w N'w; (try dsimp only at N'w); (try k_sweep)))))
  k_with "pyIter ref" => ((k_here; k_dflt (first
      | (refine' iter_range ?F_zL21 ?N_zL21 ?r_zL21 ?s_zL21 ?n_zL21 ?_; (case F_zL21 => k_asm); (case N_zL21 => k_asm); (case r_zL21 => assumption); (case s_zL21 => rfl); (case n_zL21 => (simp [Builtin.Range.rangeSize]; rfl)); k_whole; intro I'w h'w F'w N'w l1w; (try k_lt l1w); (try k_sweep))
      | (refine' iter_list ?F_zL21 ?N_zL21 ?m_zL21 ?_; (case F_zL21 => k_asm); (case N_zL21 => k_asm); (case m_zL21 => k_mem); k_whole; intro I'w o'w h'w F'w N'w hI'w l1w; (try k_lt l1w); (try k_sweep))
      | (refine' iter_tuple ?F_zL21 ?N_zL21 ?m_zL21 ?_; (case F_zL21 => k_asm); (case N_zL21 => k_asm); (case m_zL21 => k_mem); k_whole; intro I'w o'w h'w F'w N'w hI'w l1w; (try k_lt l1w); (try k_sweep)))))
  k_with "CTurnL" => ((dsimp only [CTurnL]))
  k_with "CTestsL" => ((dsimp only [CTestsL]))
  k_with "CTestL" => ((dsimp only [CTestL]))
  k_with "LcR" => ((dsimp only [LcR]))
  k_with "LcAt" => ((k_here; k_dflt (refine' LcAt.intro ?F_zL26 ?N_zL26 ?_; (case F_zL26 => k_asm); (case N_zL26 => k_asm); k_whole; intro D'w C'w oC'w h'w tk'w F'w N'w hC'w l1w l2w; k_lt l2w; k_lt2 l1w; (try k_sweep))))
  k_with "LcRU" => ((dsimp only [LcRU]))
  k_with "LcFinU" => ((k_here; k_dflt (refine' LcFinU.intro ?F_zL28 ?N_zL28 ?C_zL28 ?m_zL28 ?D_zL28 ?_; (case F_zL28 => k_asm); (case N_zL28 => k_asm); (case m_zL28 => k_mem); (case C_zL28 => assumption); (case D_zL28 => walk_at "g_del"); k_whole; intro h'w F'w N'w; (try k_sweep))))
  k_with "exec Assign cons ListComp" => ((k_here; k_dflt (refine' lcA_enter ?F_zL29 ?w_zL29 ?c_zL29 ?ce_zL29 ?k_zL29 ?n_zL29 ?_ ?s_zL29; (case F_zL29 => k_asm); (case w_zL29 => rfl); (case c_zL29 => with_unfolding_all rfl); (case ce_zL29 => decide); (case k_zL29 => rfl); (case n_zL29 => decide); (case s_zL29 => intro _; rfl))))
  k_with "exec Assign cons ListComp" => ((k_here; k_dflt (refine' lcA_enter1 ?F_zL30 ?w_zL30 ?c_zL30 ?o_zL30 ?p_zL30 ?k_zL30 ?n_zL30 ?_ ?s_zL30; (case F_zL30 => k_asm); (case w_zL30 => rfl); (case c_zL30 => with_unfolding_all rfl); (case o_zL30 => intro _; rfl); (case p_zL30 => intro _; rfl); (case k_zL30 => rfl); (case n_zL30 => decide); (case s_zL30 => intro _; rfl))))
  k_with "exec Assign cons DictComp" => ((k_here; k_dflt (refine' dcA_enter ?F_zL31 ?w_zL31 ?c_zL31 ?ce_zL31 ?k_zL31 ?n_zL31 ?_ ?s_zL31; (case F_zL31 => k_asm); (case w_zL31 => rfl); (case c_zL31 => with_unfolding_all rfl); (case ce_zL31 => decide); (case k_zL31 => rfl); (case n_zL31 => decide); (case s_zL31 => intro _; rfl))))
  k_with "LcFin" => ((k_here; k_dflt (refine' LcFin.intro ?F_zL32 ?N_zL32 ?C_zL32 ?m_zL32 ?D_zL32 ?_; (case F_zL32 => k_asm); (case N_zL32 => k_asm); (case m_zL32 => k_mem); (case C_zL32 => assumption); (case D_zL32 => walk_at "g_del"); k_whole; intro h'w F'w N'w; (try k_sweep))))
  k_with "storeName" => ((k_here; (with_reducible show wpAny _ _ (storeName (compEnvC _ _ _ _) _ _) _ _ _); k_dflt (refine' storeC ?F_zL33 ?N_zL33 ?U_zL33 ?C_zL33 ?_ ?k_zL33 ?l_zL33; (case F_zL33 => k_asm); (case N_zL33 => k_asm); (case U_zL33 => k_updF); (case C_zL33 => assumption); (case k_zL33 => rfl); (case l_zL33 => rfl); k_whole; intro h'w o'w F'w N'w hC'w; (try dsimp only at N'w); (try k_sweep))))
  k_with "storeName" => ((k_here; (with_reducible show wpAny _ _ (storeName (compEnvC _ _ _ _) _ _) _ _ _); k_dflt (refine' storeCC ?F_zL34 ?N_zL34 ?c_zL34 ?m_zL34 ?d_zL34 ?U_zL34 ?_ ?k_zL34 ?l_zL34; (case F_zL34 => k_asm); (case N_zL34 => k_asm); (case l_zL34 => rfl); (case k_zL34 => rfl); (case c_zL34 => rfl); (case m_zL34 => k_mem); (case d_zL34 => first | assumption | rfl); (case U_zL34 => k_updF); k_whole; intro h'w o'w F'w N'w hC'w; (try dsimp only at N'w); (try k_sweep))))
  k_with "eval ListComp" => ((k_here; k_dflt (refine' lc_enter ?F_zL35 ?c_zL35 ?ce_zL35 ?k_zL35 ?n_zL35 ?_ ?s_zL35; (case F_zL35 => k_asm); (case c_zL35 => with_unfolding_all rfl); (case ce_zL35 => decide); (case k_zL35 => rfl); (case n_zL35 => decide); (case s_zL35 => intro _; rfl))))
  k_with "eval ListComp ListComp" => ((k_here; k_dflt (refine' lc_enter1 ?F_zL36 ?c_zL36 ?o_zL36 ?p_zL36 ?k_zL36 ?n_zL36 ?_ ?s_zL36; (case F_zL36 => k_asm); (case c_zL36 => with_unfolding_all rfl); (case o_zL36 => intro _; rfl); (case p_zL36 => intro _; rfl); (case k_zL36 => rfl); (case n_zL36 => decide); (case s_zL36 => intro _; rfl))))
  k_with "Exists" => ((k_here; k_dflt (refine' ⟨_, _, rfl, ?F_zL37, ?N_zL37, ?_⟩; (case F_zL37 => k_asm); (case N_zL37 => k_asm); k_whole; intro D'w C'w c'w oC'w h'w tk'w F'w N'w hC'w l1w l1'w l2w; k_lt l2w; k_lt2 l1'w; k_lt2 l1w; (try k_sweep))))
  k_with "eval DictComp" => ((k_here; k_dflt (refine' dc_enter ?F_zL38 ?c_zL38 ?ce_zL38 ?k_zL38 ?n_zL38 ?_ ?s_zL38; (case F_zL38 => k_asm); (case c_zL38 => with_unfolding_all rfl); (case ce_zL38 => decide); (case k_zL38 => rfl); (case n_zL38 => decide); (case s_zL38 => intro _; rfl))))
  k_with "DcAt" => ((k_here; k_dflt (refine' DcAt.intro ?F_zL39 ?N_zL39 ?_; (case F_zL39 => k_asm); (case N_zL39 => k_asm); k_whole; intro D'w C'w oD'w oC'w h'w tk'w F'w N'w hC'w hD'w l1w l2w; k_lt l2w; k_lt2 l1w; (try k_sweep))))
  k_with "CTurnD" => ((dsimp only [CTurnD]))
  k_with "CTestsD" => ((dsimp only [CTestsD]))
  k_with "CTestD" => ((dsimp only [CTestD]))
  k_with "eval Subscript" => (refine Subscript_ ?_)
  k_with "execs cons" => ((dsimp only; walk_at "execs cons"))
  k_with "execs nil" => ((dsimp only; walk_at "execs nil"))
  k_with "eval Call" => ((dsimp only; walk_at "eval Call"))
  k_with "binaryOp" => ((dsimp only; walk_at "binaryOp"))
  k_with "eval Name" => ((k_here; (with_reducible show wpAny _ _ (eval (Expr.Name _ _) (compEnvC _ _ _ _)) _ _ _); k_dflt (refine LCgL.ld_own (by k_asm) (by k_mem) (by assumption) (by rfl) ?_)))
  k_with "g_sub" => ((k_here; (with_reducible show wpAny _ _ (subscriptTail _ _ (Value.ref _) (Value.int _ _)) _ _ _); k_dflt (first
      | (refine' item_L ?N_zL49 ?m_zL49 ?lo_zL49 ?hi_zL49 ?x_zL49 ?_ ?s_zL49; (case N_zL49 => k_asm); (case m_zL49 => k_mem); (case lo_zL49 => decide); (case hi_zL49 => decide); (case x_zL49 => walk_at "g_item"); (case s_zL49 => with_unfolding_all rfl); k_whole)
      | (refine' item_L ?N_zL49 ?m_zL49 ?lo_zL49 ?hi_zL49 ?x_zL49 ?_ ?s_zL49; (case N_zL49 => k_asm); (case m_zL49 => k_mem); (case lo_zL49 => assumption); (case hi_zL49 => omega); (case x_zL49 => assumption); (case s_zL49 => with_unfolding_all rfl); k_whole)
      | (refine' item_T ?N_zL49 ?m_zL49 ?lo_zL49 ?hi_zL49 ?x_zL49 ?_ ?s_zL49; (case N_zL49 => k_asm); (case m_zL49 => k_mem); (case lo_zL49 => decide); (case hi_zL49 => decide); (case x_zL49 => walk_at "g_item"); (case s_zL49 => with_unfolding_all rfl); k_whole)
      | (refine' item_D ?N_zL49 ?m_zL49 ?D_zL49 ?k_zL49 ?_ ?s_zL49; (case N_zL49 => k_asm); (case m_zL49 => k_mem); (case D_zL49 => assumption); (case k_zL49 => first | with_reducible assumption | rfl); (case s_zL49 => with_unfolding_all rfl); k_whole))))
  k_with "subscriptTail Name Constant ref int" => (walk_at "g_sub")
  k_with "subscriptTail Tuple cons BinOp ref int" => (walk_at "g_sub")
  k_with "subscriptTail Subscript Name Constant Name ref int" => (walk_at "g_sub")
  k_with "exec For Name Call cons nil" => ((refine wpAny_For ?_ ?_; rotate_left; (intro _; rfl)))
  k_with "subscriptTail Name Name ref int" => (walk_at "g_sub")
  k_with "getAttr ref" => ((k_here; (with_reducible show wpAny _ _ (getAttr (Value.ref _) (Str.ofString "__contains__") true) _ _ _); k_dflt (refine' cn_K ?F_zL55 ?N_zL55 ?m_zL55 ?_; (case F_zL55 => k_asm); (case N_zL55 => k_asm); (case m_zL55 => k_mem); k_whole); intro q'w h'w tk'w F'w N'w l1w; (try k_lt l1w); (try k_sweep)))
  k_with "g_units" => (((have hcL9 := cLine_is); (try simp only [units_in1, units_deeper, Around.mark_units, units_caller]); (try dsimp only); omega))
  k_with "call builtin:iter" => ((k_here; (with_reducible show wpAny _ _ (call (Value.builtin "iter") [Value.ref _]) _ _ _); k_dflt (refine' b_iter ?F_zL57 ?N_zL57 ?m_zL57 ?_; (case F_zL57 => k_asm); (case N_zL57 => k_asm); (case m_zL57 => k_mem); k_whole; intro I'w o'w h'w F'w N'w hI'w l1w; (try k_lt l1w); (try k_sweep))))
  k_with "call builtin:next" => ((k_here; (with_reducible show wpAny _ _ (call (Value.builtin "next") [Value.ref _]) _ _ _); k_dflt (first
      | (refine' b_next ?F_zL58 ?N_zL58 ?mI_zL58 ?hI_zL58 ?U_zL58 ?m_zL58 ?x_zL58 ?_; (case F_zL58 => k_asm); (case N_zL58 => k_asm); (case mI_zL58 => k_mem); (case hI_zL58 => assumption); (case U_zL58 => k_updF); (case m_zL58 => k_mem); (case x_zL58 => assumption); k_whole; intro h'w o'w F'w N'w hI'w; (try dsimp only at N'w); (try k_sweep))
      | (refine' b_stop ?hh_zL58 ?F_zL58 ?N_zL58 ?hI_zL58 ?mI_zL58 ?m_zL58 ?x_zL58 ?D_zL58 ?_; (case hh_zL58 => rfl); (case F_zL58 => k_asm); (case N_zL58 => k_asm); (case mI_zL58 => k_mem); (case hI_zL58 => assumption); (case m_zL58 => k_mem); (case x_zL58 => assumption); (case D_zL58 => walk_at "g_del"); k_whole; intro h1'w h'w e'w F'w N'w hE'w))))
  k_with "call ref" => ((k_here; (try dsimp only [List.nil_append]); (with_reducible show wpAny _ _ (call (Value.ref _) [Value.int _ _]) _ _ _); k_dflt (refine' cn_callN ?N_zL59 ?q_zL59 ?b_zL59 ?u_zL59 ?_; (case N_zL59 => k_asm); (case q_zL59 => k_mem); (case b_zL59 => k_mem); (case u_zL59 => assumption); k_whole)))
  k_with "callWith ref" => ((k_here; k_dflt (refine' callWith_cn ?N_zL60 ?q_zL60 ?_; (case N_zL60 => k_asm); (case q_zL60 => k_mem); k_whole)))
  k_with "And" => (((with_reducible show CnP _ _ _ ∧ _); refine ⟨CnP.of (by k_asm) (by k_mem), ?_⟩; try dsimp only [List.nil_append, List.cons_append]))
  k_with "CnP" => (exact CnP.of (by k_asm) (by k_mem))
  k_with "g_fill" => ((refine (fun (h : Challenge.rw_kt0001_01 = Challenge.rw_kt0001_01 → _) => h rfl) ?_; k_fill; intro _))
  k_with "g_ints" => (first | with_reducible assumption | exact IntsAre.nil | exact IntsAre.cons _ _ (by walk_at "g_ints"))
  k_with "call ref cons nil" => ((k_here; (with_reducible show wpAny _ _ (call (Value.ref 65) _) _ _ _); k_dflt (refine' filt_use ?B_zL65 ?T0_zL65 ?F_zL65 ?f_zL65 ?k_zL65 ?X_zL65 ?T_zL65 ?N_zL65 ?m1_zL65 ?m2_zL65 ?I_zL65 ?J_zL65 ?z_zL65 ?d_zL65 ?u_zL65 ?_; (case B_zL65 => k_asm); (case F_zL65 => k_asm); (case T0_zL65 => assumption); (case f_zL65 => exact rfl); (case k_zL65 => exact rfl); (case X_zL65 => assumption); (case T_zL65 => assumption); (case N_zL65 => k_asm); (case m1_zL65 => k_mem); (case m2_zL65 => k_mem); (case I_zL65 => walk_at "g_ints"); (case J_zL65 => walk_at "g_ints"); (case z_zL65 => first | assumption | (simp; done)); (case d_zL65 => walk_at "g_room"); (case u_zL65 => walk_at "g_room"); k_whole; intro g'w h'w tk'w l'w acc'w c'w T0'w B'w F'w N'w X'w T'w hA'w hz'w l1w l2w; (try k_lt l1w); (try k_lt2 l2w); (try k_sweep))))
  k_with "eval Lambda" => ((k_here; k_dflt (refine' kla_eval ?d0_zL66 ?_; (case d0_zL66 => exact rfl)); k_dflt (refine' lam_S ?F_zL66 ?N_zL66 ?T_zL66 ?C_zL66 ?cd_zL66 ?U_zL66 ?S_zL66 ?hm_zL66 ?hl_zL66 ?hc_zL66 ?hq_zL66 ?hcl_zL66 ?_; (case F_zL66 => k_asm); (case N_zL66 => k_asm); (case T_zL66 => k_asm); (case cd_zL66 => exact rfl); (case C_zL66 => kn_code); (case U_zL66 => k_updF); (case S_zL66 => assumption); (case hm_zL66 => k_mem); (case hl_zL66 => exact rfl); (case hc_zL66 => exact rfl); (case hq_zL66 => exact rfl); (case hcl_zL66 => exact rfl); k_whole); intro f'w c'w o'w p'w v'w t'w ct'w h'w tk'w F'w N'w S'w d1w d2w l1w l2w l3w; (try dsimp only at N'w); (rename Ap _ => sA'w; (first | replace sA'w := Ap.lam sA'w (by walk_at "g_shc") l1w l2w l3w rfl | (replace sA'w := Ap.subL sA'w l1w rfl (by walk_at "g_shs"); replace sA'w := Ap.lam sA'w (by walk_at "g_shc") l1w l2w l3w rfl)))))
  k_with "pyIter ref" => ((k_here; k_dflt (refine' iter_D ?F_zL67 ?N_zL67 ?m_zL67 ?D_zL67 ?s_zL67 ?_; (case F_zL67 => k_asm); (case N_zL67 => k_asm); (case m_zL67 => k_mem); (case D_zL67 => assumption); (case s_zL67 => walk_at "g_notsys"); k_whole; intro I'w o'w h'w F'w N'w hI'w l1w; (try k_lt l1w); (try k_sweep))))
  k_with "g_notsys" => (first | decide | exact not_sys (by with_reducible assumption))
  k_with "pyNext ref" => ((k_here; k_dflt (first
      | (refine' next_D ?F_zL69 ?N_zL69 ?mI_zL69 ?I_zL69 ?m_zL69 ?D_zL69 ?n_zL69 ?x_zL69 ?U_zL69 ?_; (case F_zL69 => k_asm); (case N_zL69 => k_asm); (case mI_zL69 => k_mem); (case I_zL69 => assumption); (case m_zL69 => k_mem); (case D_zL69 => assumption); (case n_zL69 => first | with_reducible assumption | exact Eq.symm (by with_reducible assumption) | rfl); (case x_zL69 => assumption); (case U_zL69 => k_updF); k_whole; intro t'w h'w o'w F'w N'w hI'w; (try dsimp only at N'w); (try k_sweep))
      | (refine' next_D_end ?hh_zL69 ?F_zL69 ?N_zL69 ?mI_zL69 ?I_zL69 ?m_zL69 ?D_zL69 ?n_zL69 ?x_zL69 ?De_zL69 ?_; (case hh_zL69 => rfl); (case F_zL69 => k_asm); (case N_zL69 => k_asm); (case mI_zL69 => k_mem); (case I_zL69 => assumption); (case m_zL69 => k_mem); (case D_zL69 => assumption); (case n_zL69 => first | with_reducible assumption | exact Eq.symm (by with_reducible assumption) | rfl); (case x_zL69 => assumption); (case De_zL69 => walk_at "g_del"); k_whole; intro h'w F'w N'w; (try dsimp only at N'w); (try k_sweep)))))
  k_with "exec For Name Name cons nil" => ((refine wpAny_For ?_ ?_; rotate_left; (intro _; rfl)))
  k_with "pyIter ref" => ((k_here; k_dflt (refine' self_list ?N_zL71 ?m_zL71 ?I_zL71 ?_; (case N_zL71 => k_asm); (case m_zL71 => k_mem); (case I_zL71 => assumption); k_whole)))
  k_with "call builtin:divmod" => ((k_here; (with_reducible show wpAny _ _ (call (Value.builtin _) [Value.int _ _, Value.int _ _]) _ _ _); k_dflt (refine' divmod_L ?F_zL72 ?N_zL72 ?b_zL72 ?_ ?p_zL72; (case F_zL72 => k_asm); (case N_zL72 => k_asm); (case b_zL72 => decide); (case p_zL72 => exact PyProof.noPylong_small (by omega)); k_whole; intro T'w h'w t1'w t2'w tk'w F'w N'w l1w; (try k_lt l1w); (try k_sweep))))
  k_with "dictSet" => ((k_here; k_dflt (refine' dset_new ?F_zL73 ?N_zL73 ?m_zL73 ?D_zL73 ?k_zL73 ?z_zL73 ?U_zL73 ?_; (case F_zL73 => k_asm); (case N_zL73 => k_asm); (case m_zL73 => k_mem); (case D_zL73 => assumption); (case k_zL73 => assumption); (case z_zL73 => assumption); (case U_zL73 => k_updF); k_whole; intro h'w o'w F'w N'w hD'w; (try dsimp only at N'w); (try k_sweep))))
  k_with "call builtin:len" => ((k_here; (with_reducible show wpAny _ _ (call (Value.builtin "len") [Value.ref _]) _ _ _); k_dflt (refine' len_L ?N_zL74 ?m_zL74 ?I_zL74 ?z_zL74 ?_; (case N_zL74 => k_asm); (case m_zL74 => k_mem); (case I_zL74 => walk_at "g_ints"); (case z_zL74 => assumption); k_whole; intro t'w tk'w)))
  k_with "letOwnedTupleGo" => ((k_here; k_dflt (refine' own_en ?F_zL75 ?N_zL75 ?U_zL75 ?_; (case F_zL75 => k_asm); (case N_zL75 => k_asm); (case U_zL75 => walk_at "g_updF"); k_whole; intro h'w F'w N'w; (try dsimp only at N'w); (try k_sweep))))
  k_with "letOwnedTupleGo" => ((k_here; k_dflt (refine' own_tup ?N_zL76 ?m_zL76 ?I_zL76 ?_; (case N_zL76 => k_asm); (case m_zL76 => k_mem); (case I_zL76 => assumption); k_whole)))
  k_with "call type:type" => ((k_here; (with_reducible show wpAny _ _ (call _ [Value.bytes _ _]) _ _ _); refine call_type_of (Tx := "bytes") rfl (by decide +kernel) ?_))
  k_with "getMethod bytes" => ((k_here; first | with_reducible refine hex_m ?_ | with_reducible refine upper_m ?_))
  k_with "getMethod str" => ((k_here; with_reducible refine enc_m ?_))
  k_with "call builtin:bytes.hex" => ((k_here; (with_reducible show wpAny _ _ (call (Value.builtin _) [Value.bytes _ _]) _ _ _); refine hex_call (by assumption) ?_; intro _ _))
  k_with "call builtin:bytes.upper" => ((k_here; (with_reducible show wpAny _ _ (call (Value.builtin _) [Value.bytes _ _]) _ _ _); refine upper_call (by assumption) ?_; intro _ _))
  k_with "call builtin:str.encode" => ((k_here; (with_reducible show wpAny _ _ (call (Value.builtin _) [Value.str _ _, Value.str _ _]) _ _ _); refine enc_call (by assumption) (by assumption) ?_; intro _ _))
  k_with "g_self" => ((intro _ _ hqw; first | exact self_list (by k_asm) (by k_mem) (by assumption) hqw | exact self_range (by k_asm) (by k_mem) hqw | exact self_D (by k_asm) (by k_mem) (by assumption) hqw | exact self_tup (by k_asm) (by k_mem) (by assumption) hqw | exact self_B (by k_asm) (by k_mem) (by assumption) hqw))
  k_with "codeAny" => (first
      | ((with_reducible show codeAny _ _ (Code.compLoop (Expr.ListComp _ _ _ _) 1 _ _ _) _ _); refine comp2_inner ?_)
      | ((with_reducible show codeAny _ _ (Code.compStart (Expr.ListComp _ _ _ _) 1 _ _ _) _ _); k_dflt (refine comp2_start1 (by walk_at "g_self") ?_))
      | ((with_reducible show codeAny _ _ (Code.compStart (Expr.ListComp _ [_, _] _ _) 0 _ _ _) _ _); k_dflt (refine comp2_start0 (by walk_at "g_self") ?_)))
  k_with "COut" => ((dsimp only [COut]))
  k_with "CIn" => ((dsimp only [CIn]))
  k_with "eval ListComp" => ((k_here; (with_reducible show wpAny _ _ (eval (Expr.ListComp _ [_, _] _ _) _) _ _ _); k_dflt (refine' lc2_enter ?F_zL87 ?c_zL87 ?ce_zL87 ?k_zL87 ?n_zL87 ?_ ?s_zL87; (case F_zL87 => k_asm); (case c_zL87 => with_unfolding_all rfl); (case ce_zL87 => decide); (case k_zL87 => rfl); (case n_zL87 => decide); (case s_zL87 => intro _; rfl))))
  k_with "pyIter bytes" => ((k_here; k_dflt (refine' iter_B ?F_zL88 ?N_zL88 ?_; (case F_zL88 => k_asm); (case N_zL88 => k_asm); k_whole; intro I'w o'w h'w F'w N'w hI'w l1w; (try k_lt l1w); (try k_sweep))))
  k_with "pyNext ref" => ((k_here; k_dflt (first
      | (refine' next_B ?F_zL89 ?N_zL89 ?mI_zL89 ?I_zL89 ?U_zL89 ?x_zL89 ?_; (case F_zL89 => k_asm); (case N_zL89 => k_asm); (case mI_zL89 => k_mem); (case I_zL89 => assumption); (case U_zL89 => k_updF); (case x_zL89 => assumption); k_whole; intro h'w o'w u'w tk'w F'w N'w hI'w; (try dsimp only at N'w); (try k_sweep))
      | (refine' next_B_end ?hh_zL89 ?F_zL89 ?N_zL89 ?I_zL89 ?mI_zL89 ?x_zL89 ?D_zL89 ?_; (case hh_zL89 => rfl); (case F_zL89 => k_asm); (case N_zL89 => k_asm); (case mI_zL89 => k_mem); (case I_zL89 => assumption); (case x_zL89 => assumption); (case D_zL89 => walk_at "g_del"); k_whole; intro h'w F'w N'w; (try dsimp only at N'w); (try k_sweep)))))
  k_with "call type:enumerate" => ((k_here; (with_reducible show wpAny _ _ (call (Value.type _) [Value.ref _]) _ _ _); k_dflt (refine' call_en ?F_zL90 ?N_zL90 ?m_zL90 ?_; (case F_zL90 => k_asm); (case N_zL90 => k_asm); (case m_zL90 => k_mem); k_whole; intro I'w e'w o'w h'w F'w N'w hI'w l1w l2w; (try k_lt l1w); (try k_lt2 l2w); (try k_sweep))))
  k_with "g_self" => ((intro _ _ hqw; exact self_en (by k_asm) (by k_mem) hqw))
  k_with "g_self" => ((intro _ _ hqw; first | exact self_list (by k_asm) (by k_mem) (by assumption) hqw | exact self_range (by k_asm) (by k_mem) hqw | exact self_D (by k_asm) (by k_mem) (by assumption) hqw | exact self_tup (by k_asm) (by k_mem) (by assumption) hqw | exact self_B (by k_asm) (by k_mem) (by assumption) hqw | exact self_en (by k_asm) (by k_mem) hqw))
  k_with "pyIter ref" => ((k_here; k_dflt (refine' self_en ?N_zL93 ?m_zL93 ?_; (case N_zL93 => k_asm); (case m_zL93 => k_mem); k_whole)))
  k_with "pyNext ref" => ((k_here; k_dflt (first
      | (refine' next_en ?F_zL94 ?N_zL94 ?me_zL94 ?S_zL94 ?e_zL94 ?H_zL94 ?hI_zL94 ?ml_zL94 ?x_zL94 ?_; (case F_zL94 => k_asm); (case N_zL94 => k_asm); (case me_zL94 => k_mem); (case S_zL94 => assumption); (case e_zL94 => exact rfl); (case H_zL94 => walk_at "g_sh2"); (case hI_zL94 => assumption); (case ml_zL94 => k_mem); (case x_zL94 => walk_at "g_item"); k_whole; intro T'w o'w h'w u'w tk'w F'w N'w hI'w l1w; (try dsimp only at N'w); (try k_lt l1w); (try k_sweep))
      | (refine' next_en_end ?hh_zL94 ?F_zL94 ?N_zL94 ?me_zL94 ?mI_zL94 ?hI_zL94 ?ml_zL94 ?x_zL94 ?D_zL94 ?_; (case hh_zL94 => rfl); (case F_zL94 => k_asm); (case N_zL94 => k_asm); (case me_zL94 => k_mem); (case mI_zL94 => k_mem); (case hI_zL94 => assumption); (case ml_zL94 => k_mem); (case x_zL94 => walk_at "g_off"); (case D_zL94 => walk_at "g_del"); k_whole; intro h'w F'w N'w; (try dsimp only at N'w); (try k_sweep)))))
  k_with "call builtin:sum" => ((k_here; (with_reducible show wpAny _ _ (call (Value.builtin "sum") [Value.ref _]) _ _ _); k_dflt (refine' sum_pick ?hh_zL95 ?F_zL95 ?N_zL95 ?I_zL95 ?_; (case hh_zL95 => rfl); (case F_zL95 => k_asm); (case N_zL95 => k_asm); (case I_zL95 => assumption); k_whole); intro x'w h'w tk'w t'w F'w N'w; (try k_sweep)))
  k_with "call type:bytes" => ((k_here; (with_reducible show wpAny _ _ (call (Value.type "bytes") [Value.ref _]) _ _ _); k_dflt (refine' bytes_K ?F_zL96 ?N_zL96 ?l_zL96 ?i_zL96 ?r_zL96 ?z_zL96 ?h_zL96 ?_; (case F_zL96 => k_asm); (case N_zL96 => k_asm); (case l_zL96 => exact News.isList (by k_asm) (by k_mem)); (case i_zL96 => assumption); (case r_zL96 => assumption); (case z_zL96 => assumption); (case h_zL96 => rfl); k_whole); intro h'w t'w k'w F'w N'w _; (try k_sweep)))
  k_with "call ref cons nil" => ((k_here; (with_reducible show wpAny _ _ (call (Value.ref 88) [Value.bytes _ _]) _ _ _); k_dflt (refine' gives_use (b16 _ _ _ ?hb_zL97) ?B_zL97 ?F_zL97 ?f_zL97 ?k_zL97 ?X_zL97 ?T_zL97 ?N_zL97 ?s_zL97 ?d_zL97 ?u_zL97 ?_; (case hb_zL97 => assumption); (case B_zL97 => k_asm); (case F_zL97 => k_asm); (case X_zL97 => k_asm); (case T_zL97 => k_asm); (case f_zL97 => exact rfl); (case k_zL97 => exact rfl); (case N_zL97 => k_asm); (case s_zL97 => intro pw hpw; cases hpw); (case d_zL97 => walk_at "g_room"); (case u_zL97 => walk_at "g_room"); k_whole); intro r'w h'w tk'w F'w N'w st'w po'w; obtain ⟨t', e'⟩ := po'w; subst e'; (try clear st'w); (try k_sweep)))
  k_with "dictSet" => ((k_here; k_dflt (refine' dset_new ?F_zL98 ?N_zL98 ?m_zL98 ?D_zL98 ?k_zL98 ?z_zL98 ?U_zL98 ?_; (case F_zL98 => k_asm); (case N_zL98 => k_asm); (case m_zL98 => k_mem); (case D_zL98 => assumption); (case k_zL98 => first | assumption | exact of_decide_eq_false rfl); (case z_zL98 => first | assumption | exact of_decide_eq_true rfl); (case U_zL98 => k_updF); k_whole; intro h'w o'w F'w N'w hD'w; (try dsimp only at N'w); (try k_sweep))))
  k_with "g_fig" => ((k_here; k_dflt (refine' fig_item ?a_zL99 ?b_zL99 ?_ ?s_zL99 ?t_zL99; (case a_zL99 => first | decide | with_reducible assumption | omega); (case b_zL99 => first | decide | with_reducible assumption | omega); (case s_zL99 => with_unfolding_all rfl); (case t_zL99 => intro _; with_unfolding_all rfl); k_whole); intro u'w tk'w))
  k_with "call builtin:list.append" => ((k_here; (with_reducible show wpAny _ _ (call (Value.builtin _) [Value.ref _, _]) _ _ _); k_dflt (refine' append_L ?k1_zL100 ?k2_zL100 ?k3_zL100 ?_ ?z_zL100; (case k1_zL100 => k_asm); (case k2_zL100 => k_asm); (case k3_zL100 => k_upd); (case z_zL100 => first | with_reducible assumption | (simp [sizeLine]; done) | (simp only [List.length_append, List.length_cons, List.length_nil]; rw [sizeLine_eq]; omega)); k_whole); intro h'w F'w N'w; (try simp only [List.nil_append, List.cons_append] at N'w); (try k_sweep)))
  k_with "g_room2" => (first | decide | walk_at "g_room")
  k_with "call ref cons nil" => ((k_here; (with_reducible show wpAny _ _ (call (Value.ref 65) _) _ _ _); k_dflt (refine' filt_use ?B_zL102 ?T0_zL102 ?F_zL102 ?f_zL102 ?k_zL102 ?X_zL102 ?T_zL102 ?N_zL102 ?m1_zL102 ?m2_zL102 ?I_zL102 ?J_zL102 ?z_zL102 ?d_zL102 ?u_zL102 ?_; (case B_zL102 => k_asm); (case F_zL102 => k_asm); (case T0_zL102 => assumption); (case f_zL102 => exact rfl); (case k_zL102 => exact rfl); (case X_zL102 => assumption); (case T_zL102 => assumption); (case N_zL102 => k_asm); (case m1_zL102 => k_mem); (case m2_zL102 => k_mem); (case I_zL102 => walk_at "g_ints"); (case J_zL102 => walk_at "g_ints"); (case z_zL102 => first | assumption | (simp; done)); (case d_zL102 => walk_at "g_room2"); (case u_zL102 => walk_at "g_room2"); k_whole; intro g'w h'w tk'w l'w acc'w c'w T0'w B'w F'w N'w X'w T'w hA'w hz'w l1w l2w; (try k_lt l1w); (try k_lt2 l2w); (try k_sweep))))
  k_with "g_shf" => (first | exact ShF.head | (apply ShF.tail; walk_at "g_shf") | (apply ShF.tailo; walk_at "g_shf") | fail "no shape")
  k_with "g_shu" => (first | exact ShU.head | (apply ShU.tail; walk_at "g_shu") | (apply ShU.tailo; walk_at "g_shu") | fail "no shape")
  k_with "g_shd" => (first | exact ShD.head | (apply ShD.tail; walk_at "g_shd") | (apply ShD.tailo; walk_at "g_shd") | fail "no shape")
  k_with "g_shs1" => (first | exact ShS.nil | (apply ShS.knew; walk_at "g_shs1") | (apply ShS.kold; walk_at "g_shs1") | (apply ShS.snew; walk_at "g_shs1") | (apply ShS.sold; walk_at "g_shs1") | fail "no shape")
  k_with "g_shs" => (((try dsimp only [List.map]); walk_at "g_shs1"))
  k_with "g_sho1" => (first | exact ShO.nil | (apply ShO.cons; walk_at "g_sho1") | fail "no shape")
  k_with "g_sho" => (((try dsimp only [List.map]); walk_at "g_sho1"))
  k_with "g_apnow" => ((rename Ap _ => sA'w; rename News _ _ _ _ => nA'w; replace sA'w := Ap.now nA'w sA'w rfl (by walk_at "g_shs")))
  k_with "g_del" => (first | (refine' del_of ?S_zL111 ?uh_zL111 ?e_zL111; (case S_zL111 => assumption); (case e_zL111 => exact rfl); (case uh_zL111 => walk_at "g_shd")) | (walk_at "g_apnow"; refine' del_of ?S_zL111 ?uh_zL111 ?e_zL111; (case S_zL111 => assumption); (case e_zL111 => exact rfl); (case uh_zL111 => walk_at "g_shd")))
  k_with "g_updF" => (first | (refine' updF_of ?S_zL112 ?uh_zL112 ?e_zL112; (case S_zL112 => assumption); (case e_zL112 => exact rfl); (case uh_zL112 => walk_at "g_shf")) | (walk_at "g_apnow"; refine' updF_of ?S_zL112 ?uh_zL112 ?e_zL112; (case S_zL112 => assumption); (case e_zL112 => exact rfl); (case uh_zL112 => walk_at "g_shf")))
  k_with "g_upd" => (first | (refine' upd_of ?S_zL113 ?uh_zL113 ?e_zL113; (case S_zL113 => assumption); (case e_zL113 => exact rfl); (case uh_zL113 => walk_at "g_shu")) | (walk_at "g_apnow"; refine' upd_of ?S_zL113 ?uh_zL113 ?e_zL113; (case S_zL113 => assumption); (case e_zL113 => exact rfl); (case uh_zL113 => walk_at "g_shu")))
  k_with "g_ltm" => (first | with_reducible assumption | exact ltAll (by assumption) (by k_mem))
  k_with "g_shc" => (first | exact ShC.head | (apply ShC.tail; walk_at "g_shc") | (apply ShC.tailo; walk_at "g_shc") | fail "no shape")
  k_with "g_sh2" => (first | exact Sh2.head | (apply Sh2.tail; walk_at "g_sh2") | fail "no shape")
  trivial
set_option maxRecDepth 100000 in
set_option maxHeartbeats 8000000 in
theorem lawL : Challenge.rw_kt0001_01.Holds := by
  refine hd ?_
  k_go0
  w_top off
  all_goals try k_fold
  rename Shared => s1
  rename Fr _ _ _ _ => F0
  rename News _ _ _ _ => N0
  dsimp only at F0 N0 ⊢
  have S0 := (ApB.tab (L := s1.heap.objs.size) (by assumption)).cell.cell.cell.cell.1
  repeat' ((fail_if_success (with_reducible show codeAny _ _ (Code.compLoop _ 0 _ _ _) _ _)); (first | ((first | with_reducible show wpAny _ _ (exec (Stmt.Assign [Expr.Name (PySem.Str.ofString "drawn") _] _ _) _) _ _ _ | with_reducible show wpAny _ _ (exec (Stmt.Assign [Expr.Name (PySem.Str.ofString "numbers") _] _ _) _) _ _ _ | with_reducible show wpAny _ _ (exec (Stmt.Assign [Expr.Name (PySem.Str.ofString "places") _] _ _) _) _ _ _); walk_at "exec Assign") | ((with_reducible show wpAny _ _ (eval (Expr.ListComp _ _ _ _) _) _ _ _); (try k_fold); walk_at "eval ListComp") | ((with_reducible show wpAny _ _ (execs (_ :: _) _) _ _ _); k_fold; walk1) | ((with_reducible show wpAny _ _ (eval (Expr.DictComp _ _ _ _ _) _) _ _ _); walk_at "eval DictComp") | ((with_reducible show wpAny _ _ (subscriptTail _ _ (Value.bytes _ _) (Value.int _ _)) _ _ _); walk_at "g_fig") | (k_unfold; (try dsimp only)) | (refine hR9 _ _ ?_; try dsimp only) | (refine hR8 _ _ ?_; try dsimp only) | (k_end; wrow_close) | walk1 | (dsimp only; walk1) | (leave1; walk_say "STEP leave1"; try dsimp only) | fail "no step"))
  rename News _ _ _ ((_, _) :: (_, W.listOf #[] 0) :: _) => N9
  rename (Fr _ _ _ _) => F9
  rename LCg.NsObj _ _ => C9
  rename LIt _ _ 0 => I9
  rename IntsAre _ (List.take 60 _) => A8
  obtain ⟨xs, A8, hl60⟩ := ints_abs A8
  have hlen8 := ints_len A8
  refine LInv.loop (xs := xs) (f := (fun x => x.fmod 1073741824)) (LInv.mk F9 N9 C9 I9) ?_
  clear F9 N9 C9 I9
  intro R9 hR9 i oI oC mC acc cnt h1 tk1 hi F9 N9 C9 I9 A7 al ih
  refine compL_step ?_
  rcases Nat.lt_or_ge i xs.length with hlt | hge
  · obtain ⟨v9, e0v⟩ : ∃ p, _ = some p := ⟨_, List.getElem?_eq_getElem (hlen8 ▸ hlt)⟩
    obtain ⟨x9, t9, rfl, e1⟩ := ints_get A8 e0v
    have e2 := ItemAt.of e0v
    have hal : acc.length ≤ sizeLine := Nat.le_trans (by omega : acc.length ≤ 64) (by decide)
    repeat' ((fail_if_success (with_reducible show codeAny _ _ (Code.compLoop _ 0 _ _ _) _ _)); (first | ((first | with_reducible show wpAny _ _ (exec (Stmt.Assign [Expr.Name (PySem.Str.ofString "drawn") _] _ _) _) _ _ _ | with_reducible show wpAny _ _ (exec (Stmt.Assign [Expr.Name (PySem.Str.ofString "numbers") _] _ _) _) _ _ _ | with_reducible show wpAny _ _ (exec (Stmt.Assign [Expr.Name (PySem.Str.ofString "places") _] _ _) _) _ _ _); walk_at "exec Assign") | ((with_reducible show wpAny _ _ (eval (Expr.ListComp _ _ _ _) _) _ _ _); (try k_fold); walk_at "eval ListComp") | ((with_reducible show wpAny _ _ (execs (_ :: _) _) _ _ _); k_fold; walk1) | ((with_reducible show wpAny _ _ (eval (Expr.DictComp _ _ _ _ _) _) _ _ _); walk_at "eval DictComp") | ((with_reducible show wpAny _ _ (subscriptTail _ _ (Value.bytes _ _) (Value.int _ _)) _ _ _); walk_at "g_fig") | (k_unfold; (try dsimp only)) | (refine hR9 _ _ ?_; try dsimp only) | (refine hR8 _ _ ?_; try dsimp only) | (k_end; wrow_close) | walk1 | (dsimp only; walk1) | (leave1; walk_say "STEP leave1"; try dsimp only) | fail "no step"))
    refine ih _ _ (by omega) (LInv.next (by assumption) (by assumption) (by assumption) (by assumption) e1 A7 al rfl)
  · have e0v : _ = none := List.getElem?_eq_none (hlen8 ▸ hge)
    have e2 := OffAt.of e0v
    have hi2 := Nat.le_antisymm hi hge
    obtain ⟨ds, A7, hd60⟩ := ints_abs2 (k := 60) A7 (by omega)
    clear ih hi hi2 hge
    repeat' ((fail_if_success (with_reducible show codeAny _ _ (Code.compLoop _ 0 _ _ _) _ _)); (first | ((first | with_reducible show wpAny _ _ (exec (Stmt.Assign [Expr.Name (PySem.Str.ofString "drawn") _] _ _) _) _ _ _ | with_reducible show wpAny _ _ (exec (Stmt.Assign [Expr.Name (PySem.Str.ofString "numbers") _] _ _) _) _ _ _ | with_reducible show wpAny _ _ (exec (Stmt.Assign [Expr.Name (PySem.Str.ofString "places") _] _ _) _) _ _ _); walk_at "exec Assign") | ((with_reducible show wpAny _ _ (eval (Expr.ListComp _ _ _ _) _) _ _ _); (try k_fold); walk_at "eval ListComp") | ((with_reducible show wpAny _ _ (execs (_ :: _) _) _ _ _); k_fold; walk1) | ((with_reducible show wpAny _ _ (eval (Expr.DictComp _ _ _ _ _) _) _ _ _); walk_at "eval DictComp") | ((with_reducible show wpAny _ _ (subscriptTail _ _ (Value.bytes _ _) (Value.int _ _)) _ _ _); walk_at "g_fig") | (k_unfold; (try dsimp only)) | (refine hR9 _ _ ?_; try dsimp only) | (refine hR8 _ _ ?_; try dsimp only) | (k_end; wrow_close) | walk1 | (dsimp only; walk1) | (leave1; walk_say "STEP leave1"; try dsimp only) | fail "no step"))
    rename News _ _ _ ((_, _) :: (_, W.listOf #[] 0) :: _) => N9
    rename (Fr _ _ _ _) => F9
    rename LCg.NsObj _ (fun _ => none) => C9
    rename LIt _ _ 0 => I9
    obtain ⟨ov, on, AO, ho4', Ny⟩ := gen4 N9
    clear N9
    have hlenO := ints_len AO
    refine NInv.loop (NInv.mk F9 Ny C9 I9) ?_
    clear F9 Ny C9 I9
    intro R9 hR9 i oI oC mC accN cntN old ys h1 tk1 hi F9 N9 C9 I9 AN alN ih
    refine compL_step ?_
    rcases Nat.lt_or_ge i 4 with hlt | hge
    · obtain ⟨v9, e0v⟩ : ∃ p, ov[i]? = some p := ⟨_, List.getElem?_eq_getElem (by omega)⟩
      obtain ⟨x9, t9, rfl, e1⟩ := ints_get AO e0v
      have e2 := ItemAt.of e0v
      have hal : accN.length ≤ sizeLine := Nat.le_trans (by omega : accN.length ≤ 64) (by decide)
      repeat' ((fail_if_success (with_reducible show codeAny _ _ (Code.compLoop _ 0 _ _ _) _ _)); (first | ((first | with_reducible show wpAny _ _ (exec (Stmt.Assign [Expr.Name (PySem.Str.ofString "drawn") _] _ _) _) _ _ _ | with_reducible show wpAny _ _ (exec (Stmt.Assign [Expr.Name (PySem.Str.ofString "numbers") _] _ _) _) _ _ _ | with_reducible show wpAny _ _ (exec (Stmt.Assign [Expr.Name (PySem.Str.ofString "places") _] _ _) _) _ _ _); walk_at "exec Assign") | ((with_reducible show wpAny _ _ (eval (Expr.ListComp _ _ _ _) _) _ _ _); (try k_fold); walk_at "eval ListComp") | ((with_reducible show wpAny _ _ (execs (_ :: _) _) _ _ _); k_fold; walk1) | ((with_reducible show wpAny _ _ (eval (Expr.DictComp _ _ _ _ _) _) _ _ _); walk_at "eval DictComp") | ((with_reducible show wpAny _ _ (subscriptTail _ _ (Value.bytes _ _) (Value.int _ _)) _ _ _); walk_at "g_fig") | (k_unfold; (try dsimp only)) | (refine hR9 _ _ ?_; try dsimp only) | (refine hR8 _ _ ?_; try dsimp only) | (k_end; wrow_close) | walk1 | (dsimp only; walk1) | (leave1; walk_say "STEP leave1"; try dsimp only) | fail "no step"))
      refine ih _ _ (by omega) (NInv.next (by assumption) (News.sub (by assumption) (by kcj_all)) (by assumption) (by assumption) AN alN hlt)
    have e0v : ov[i]? = none := List.getElem?_eq_none (by omega)
    have e2 := OffAt.of e0v
    have hi2 := Nat.le_antisymm hi hge
    subst hi2
    have hlenN := ints_len AN
    clear ih hi hge
    repeat' ((fail_if_success (with_reducible show wpAny _ _ (exec (Stmt.Assign [Expr.Name (PySem.Str.ofString "octets") _] _ _) _) _ _ _)); (first | ((first | with_reducible show wpAny _ _ (exec (Stmt.Assign [Expr.Name (PySem.Str.ofString "drawn") _] _ _) _) _ _ _ | with_reducible show wpAny _ _ (exec (Stmt.Assign [Expr.Name (PySem.Str.ofString "numbers") _] _ _) _) _ _ _ | with_reducible show wpAny _ _ (exec (Stmt.Assign [Expr.Name (PySem.Str.ofString "places") _] _ _) _) _ _ _); walk_at "exec Assign") | ((with_reducible show wpAny _ _ (eval (Expr.ListComp _ _ _ _) _) _ _ _); (try k_fold); walk_at "eval ListComp") | ((with_reducible show wpAny _ _ (execs (_ :: _) _) _ _ _); k_fold; walk1) | ((with_reducible show wpAny _ _ (eval (Expr.DictComp _ _ _ _ _) _) _ _ _); walk_at "eval DictComp") | ((with_reducible show wpAny _ _ (subscriptTail _ _ (Value.bytes _ _) (Value.int _ _)) _ _ _); walk_at "g_fig") | (k_unfold; (try dsimp only)) | (refine hR9 _ _ ?_; try dsimp only) | (refine hR8 _ _ ?_; try dsimp only) | (k_end; wrow_close) | walk1 | (dsimp only; walk1) | (leave1; walk_say "STEP leave1"; try dsimp only) | fail "no step"))
    rename News _ _ _ _ => Nz
    have Ny := News.sub (sel := [(_, W.listOf accN.toArray cntN), (s1.heap.objs.size + 1 + 1 + 1 + 1, _), (s1.heap.objs.size + 1 + 1 + 1, _), (s1.heap.objs.size + 1 + 1, _), (s1.heap.objs.size + 1, _), (99, _)]) Nz (by kcj_all)
    clear Nz
    walk_at "g_apnow"
    repeat' ((fail_if_success (with_reducible show codeAny _ _ (Code.compLoop _ 0 _ _ _) _ _)); (first | ((first | with_reducible show wpAny _ _ (exec (Stmt.Assign [Expr.Name (PySem.Str.ofString "drawn") _] _ _) _) _ _ _ | with_reducible show wpAny _ _ (exec (Stmt.Assign [Expr.Name (PySem.Str.ofString "numbers") _] _ _) _) _ _ _ | with_reducible show wpAny _ _ (exec (Stmt.Assign [Expr.Name (PySem.Str.ofString "places") _] _ _) _) _ _ _); walk_at "exec Assign") | ((with_reducible show wpAny _ _ (eval (Expr.ListComp _ _ _ _) _) _ _ _); (try k_fold); walk_at "eval ListComp") | ((with_reducible show wpAny _ _ (execs (_ :: _) _) _ _ _); k_fold; walk1) | ((with_reducible show wpAny _ _ (eval (Expr.DictComp _ _ _ _ _) _) _ _ _); walk_at "eval DictComp") | ((with_reducible show wpAny _ _ (subscriptTail _ _ (Value.bytes _ _) (Value.int _ _)) _ _ _); walk_at "g_fig") | (k_unfold; (try dsimp only)) | (refine hR9 _ _ ?_; try dsimp only) | (refine hR8 _ _ ?_; try dsimp only) | (k_end; wrow_close) | walk1 | (dsimp only; walk1) | (leave1; walk_say "STEP leave1"; try dsimp only) | fail "no step"))
    rename News _ _ _ ((_, _) :: (_, W.listOf #[] 0) :: _) => N9
    rename (Fr _ _ _ _) => F9
    rename LCg.NsObj _ (fun _ => none) => C9
    rename LIt _ _ 0 => I9
    refine LInv.loop (xs := ys) (f := (fun x => x.fmod 256)) (LInv.mk F9 N9 C9 I9) ?_
    clear F9 N9 C9 I9
    intro R9 hR9 i oI oC mC acc6 cnt6 h1 tk1 hi F9 N9 C9 I9 A6 al6 ih
    refine compL_step ?_
    rcases Nat.lt_or_ge i ys.length with hlt | hge
    · obtain ⟨v9, e0v⟩ : ∃ p, _ = some p := ⟨_, List.getElem?_eq_getElem (hlenN ▸ hlt)⟩
      obtain ⟨x9, t9, rfl, e1⟩ := ints_get AN e0v
      have e2 := ItemAt.of e0v
      have hal : acc6.length ≤ sizeLine := Nat.le_trans (by omega : acc6.length ≤ 64) (by decide)
      repeat' ((fail_if_success (with_reducible show codeAny _ _ (Code.compLoop _ 0 _ _ _) _ _)); (first | ((first | with_reducible show wpAny _ _ (exec (Stmt.Assign [Expr.Name (PySem.Str.ofString "drawn") _] _ _) _) _ _ _ | with_reducible show wpAny _ _ (exec (Stmt.Assign [Expr.Name (PySem.Str.ofString "numbers") _] _ _) _) _ _ _ | with_reducible show wpAny _ _ (exec (Stmt.Assign [Expr.Name (PySem.Str.ofString "places") _] _ _) _) _ _ _); walk_at "exec Assign") | ((with_reducible show wpAny _ _ (eval (Expr.ListComp _ _ _ _) _) _ _ _); (try k_fold); walk_at "eval ListComp") | ((with_reducible show wpAny _ _ (execs (_ :: _) _) _ _ _); k_fold; walk1) | ((with_reducible show wpAny _ _ (eval (Expr.DictComp _ _ _ _ _) _) _ _ _); walk_at "eval DictComp") | ((with_reducible show wpAny _ _ (subscriptTail _ _ (Value.bytes _ _) (Value.int _ _)) _ _ _); walk_at "g_fig") | (k_unfold; (try dsimp only)) | (refine hR9 _ _ ?_; try dsimp only) | (refine hR8 _ _ ?_; try dsimp only) | (k_end; wrow_close) | walk1 | (dsimp only; walk1) | (leave1; walk_say "STEP leave1"; try dsimp only) | fail "no step"))
      refine ih _ _ (by omega) (LInv.next (by assumption) (by assumption) (by assumption) (by assumption) e1 A6 al6 rfl)
    have e0v : _ = none := List.getElem?_eq_none (hlenN ▸ hge)
    have e2 := OffAt.of e0v
    have hi2 := Nat.le_antisymm hi hge
    rw [hi2, List.take_length] at A6
    clear ih hi hge
    repeat' ((fail_if_success (with_reducible show codeAny _ _ (Code.compLoop _ 0 _ _ _) _ _)); (first | ((first | with_reducible show wpAny _ _ (exec (Stmt.Assign [Expr.Name (PySem.Str.ofString "drawn") _] _ _) _) _ _ _ | with_reducible show wpAny _ _ (exec (Stmt.Assign [Expr.Name (PySem.Str.ofString "numbers") _] _ _) _) _ _ _ | with_reducible show wpAny _ _ (exec (Stmt.Assign [Expr.Name (PySem.Str.ofString "places") _] _ _) _) _ _ _); walk_at "exec Assign") | ((with_reducible show wpAny _ _ (eval (Expr.ListComp _ _ _ _) _) _ _ _); (try k_fold); walk_at "eval ListComp") | ((with_reducible show wpAny _ _ (execs (_ :: _) _) _ _ _); k_fold; walk1) | ((with_reducible show wpAny _ _ (eval (Expr.DictComp _ _ _ _ _) _) _ _ _); walk_at "eval DictComp") | ((with_reducible show wpAny _ _ (subscriptTail _ _ (Value.bytes _ _) (Value.int _ _)) _ _ _); walk_at "g_fig") | (k_unfold; (try dsimp only)) | (refine hR9 _ _ ?_; try dsimp only) | (refine hR8 _ _ ?_; try dsimp only) | (k_end; wrow_close) | walk1 | (dsimp only; walk1) | (leave1; walk_say "STEP leave1"; try dsimp only) | fail "no step"))
    rename News _ _ _ ((_, _) :: (_, W.listOf #[] 0) :: _) => N9
    rename (Fr _ _ _ _) => F9
    rename LCg.NsObj _ (fun _ => none) => C9
    rename LIt _ _ 0 => I9
    refine LInv.loop (xs := ys) (f := (fun x => x.fdiv 512256)) (LInv.mk F9 N9 C9 I9) ?_
    clear F9 N9 C9 I9
    intro R9 hR9 i oI oC mC acc5 cnt5 h1 tk1 hi F9 N9 C9 I9 A5 al5 ih
    refine compL_step ?_
    rcases Nat.lt_or_ge i ys.length with hlt | hge
    · obtain ⟨v9, e0v⟩ : ∃ p, _ = some p := ⟨_, List.getElem?_eq_getElem (hlenN ▸ hlt)⟩
      obtain ⟨x9, t9, rfl, e1⟩ := ints_get AN e0v
      have e2 := ItemAt.of e0v
      have hal : acc5.length ≤ sizeLine := Nat.le_trans (by omega : acc5.length ≤ 64) (by decide)
      repeat' ((fail_if_success (with_reducible show codeAny _ _ (Code.compLoop _ 0 _ _ _) _ _)); (first | ((first | with_reducible show wpAny _ _ (exec (Stmt.Assign [Expr.Name (PySem.Str.ofString "drawn") _] _ _) _) _ _ _ | with_reducible show wpAny _ _ (exec (Stmt.Assign [Expr.Name (PySem.Str.ofString "numbers") _] _ _) _) _ _ _ | with_reducible show wpAny _ _ (exec (Stmt.Assign [Expr.Name (PySem.Str.ofString "places") _] _ _) _) _ _ _); walk_at "exec Assign") | ((with_reducible show wpAny _ _ (eval (Expr.ListComp _ _ _ _) _) _ _ _); (try k_fold); walk_at "eval ListComp") | ((with_reducible show wpAny _ _ (execs (_ :: _) _) _ _ _); k_fold; walk1) | ((with_reducible show wpAny _ _ (eval (Expr.DictComp _ _ _ _ _) _) _ _ _); walk_at "eval DictComp") | ((with_reducible show wpAny _ _ (subscriptTail _ _ (Value.bytes _ _) (Value.int _ _)) _ _ _); walk_at "g_fig") | (k_unfold; (try dsimp only)) | (refine hR9 _ _ ?_; try dsimp only) | (refine hR8 _ _ ?_; try dsimp only) | (k_end; wrow_close) | walk1 | (dsimp only; walk1) | (leave1; walk_say "STEP leave1"; try dsimp only) | fail "no step"))
      refine ih _ _ (by omega) (LInv.next (by assumption) (by assumption) (by assumption) (by assumption) e1 A5 al5 rfl)
    have e0v : _ = none := List.getElem?_eq_none (hlenN ▸ hge)
    have e2 := OffAt.of e0v
    have hi2 := Nat.le_antisymm hi hge
    rw [hi2, List.take_length] at A5
    clear ih hi hge
    have hz5 : acc5.length ≤ 64 := by omega
    repeat' ((fail_if_success (with_reducible show wpAny _ _ (exec (Stmt.Assign [Expr.Name (PySem.Str.ofString "weights") _] _ _) _) _ _ _)); (first | ((first | with_reducible show wpAny _ _ (exec (Stmt.Assign [Expr.Name (PySem.Str.ofString "drawn") _] _ _) _) _ _ _ | with_reducible show wpAny _ _ (exec (Stmt.Assign [Expr.Name (PySem.Str.ofString "numbers") _] _ _) _) _ _ _ | with_reducible show wpAny _ _ (exec (Stmt.Assign [Expr.Name (PySem.Str.ofString "places") _] _ _) _) _ _ _); walk_at "exec Assign") | ((with_reducible show wpAny _ _ (eval (Expr.ListComp _ _ _ _) _) _ _ _); (try k_fold); walk_at "eval ListComp") | ((with_reducible show wpAny _ _ (execs (_ :: _) _) _ _ _); k_fold; walk1) | ((with_reducible show wpAny _ _ (eval (Expr.DictComp _ _ _ _ _) _) _ _ _); walk_at "eval DictComp") | ((with_reducible show wpAny _ _ (subscriptTail _ _ (Value.bytes _ _) (Value.int _ _)) _ _ _); walk_at "g_fig") | (k_unfold; (try dsimp only)) | (refine hR9 _ _ ?_; try dsimp only) | (refine hR8 _ _ ?_; try dsimp only) | (k_end; wrow_close) | walk1 | (dsimp only; walk1) | (leave1; walk_say "STEP leave1"; try dsimp only) | fail "no step"))
    rename IntsAre _ (List.take _ (List.map _ ys)) => A3
    obtain ⟨os, A3, ho4, ho255⟩ := oct_abs A3 (by simp only [List.length_map]; omega) map256
    rename News _ _ _ _ => Nz
    obtain ⟨oA, hoA, Ny⟩ := News.take1 (o := W.listOf (List.toArray _) 0) (rest := [(_, W.listOf accN.toArray cntN), (s1.heap.objs.size + 1 + 1 + 1 + 1, _), (s1.heap.objs.size + 1 + 1 + 1, _), (s1.heap.objs.size + 1 + 1, _), (s1.heap.objs.size + 1, _), (99, _)]) Nz (by kcj_all)
    clear Nz
    subst hoA
    walk_at "g_apnow"
    rename (Fr _ _ _ _) => Fz
    rename IntsAre _ os => A6
    repeat' ((fail_if_success (with_reducible show codeAny _ _ (Code.compLoop _ 0 _ _ _) _ _)); (first | ((first | with_reducible show wpAny _ _ (exec (Stmt.Assign [Expr.Name (PySem.Str.ofString "drawn") _] _ _) _) _ _ _ | with_reducible show wpAny _ _ (exec (Stmt.Assign [Expr.Name (PySem.Str.ofString "numbers") _] _ _) _) _ _ _ | with_reducible show wpAny _ _ (exec (Stmt.Assign [Expr.Name (PySem.Str.ofString "places") _] _ _) _) _ _ _); walk_at "exec Assign") | ((with_reducible show wpAny _ _ (eval (Expr.ListComp _ _ _ _) _) _ _ _); (try k_fold); walk_at "eval ListComp") | ((with_reducible show wpAny _ _ (execs (_ :: _) _) _ _ _); k_fold; walk1) | ((with_reducible show wpAny _ _ (eval (Expr.DictComp _ _ _ _ _) _) _ _ _); walk_at "eval DictComp") | ((with_reducible show wpAny _ _ (subscriptTail _ _ (Value.bytes _ _) (Value.int _ _)) _ _ _); walk_at "g_fig") | (k_unfold; (try dsimp only)) | (refine hR9 _ _ ?_; try dsimp only) | (refine hR8 _ _ ?_; try dsimp only) | (k_end; wrow_close) | walk1 | (dsimp only; walk1) | (leave1; walk_say "STEP leave1"; try dsimp only) | fail "no step"))
    rename News _ _ _ _ => N9
    rename (Fr _ _ _ _) => F9
    rename LCg.NsObj _ (fun _ => none) => C9
    rename DictIs _ _ _ [] _ => D9
    refine VInv.loop (prog := Challenge.rw_kt0001_01.row.prog) (f := (wtOf ys)) (VInv.mk F9 N9 C9 D9) ?_
    clear F9 N9 C9 D9
    intro R9 hR9 i oC mC oW kvsW epW h1 tk1 hi F9 N9 C9 Dw PW hlW ih
    refine compD_step ?_
    rcases Nat.lt_or_ge i 4 with hlt | hge
    · have b0 : (0 : Int) ≤ (i : Int) := Int.natCast_nonneg _
      have b1 : (i : Int) < 4 := by omega
      have b2 : (0 : Int) < 4 - (i : Int) := by omega
      obtain ⟨v9, e0v⟩ : ∃ p, accN[i]? = some p := ⟨_, List.getElem?_eq_getElem (by omega)⟩
      obtain ⟨x9, t9, rfl, e1⟩ := ints_get AN e0v
      have e2 := ItemAt.of e0v
      have hfr9 := v_fresh PW
      have hkz : kvsW.length ≤ 1000 := by omega
      repeat' ((fail_if_success (with_reducible show codeAny _ _ (Code.compLoop _ 0 _ _ _) _ _)); (first | ((first | with_reducible show wpAny _ _ (exec (Stmt.Assign [Expr.Name (PySem.Str.ofString "drawn") _] _ _) _) _ _ _ | with_reducible show wpAny _ _ (exec (Stmt.Assign [Expr.Name (PySem.Str.ofString "numbers") _] _ _) _) _ _ _ | with_reducible show wpAny _ _ (exec (Stmt.Assign [Expr.Name (PySem.Str.ofString "places") _] _ _) _) _ _ _); walk_at "exec Assign") | ((with_reducible show wpAny _ _ (eval (Expr.ListComp _ _ _ _) _) _ _ _); (try k_fold); walk_at "eval ListComp") | ((with_reducible show wpAny _ _ (execs (_ :: _) _) _ _ _); k_fold; walk1) | ((with_reducible show wpAny _ _ (eval (Expr.DictComp _ _ _ _ _) _) _ _ _); walk_at "eval DictComp") | ((with_reducible show wpAny _ _ (subscriptTail _ _ (Value.bytes _ _) (Value.int _ _)) _ _ _); walk_at "g_fig") | (k_unfold; (try dsimp only)) | (refine hR9 _ _ ?_; try dsimp only) | (refine hR8 _ _ ?_; try dsimp only) | (k_end; wrow_close) | walk1 | (dsimp only; walk1) | (leave1; walk_say "STEP leave1"; try dsimp only) | fail "no step"))
      refine ih _ _ (by omega) (VInv.next (by assumption) (by assumption) (by assumption) (by assumption) PW hlW hlt (wtOf_at e1))
    have hi2 := Nat.le_antisymm hi hge
    subst hi2
    clear ih hi hge
    repeat' ((fail_if_success (with_reducible show wpAny _ _ (exec (Stmt.Assign [Expr.Name (PySem.Str.ofString "figures") _] _ _) _) _ _ _)); (first | ((first | with_reducible show wpAny _ _ (exec (Stmt.Assign [Expr.Name (PySem.Str.ofString "drawn") _] _ _) _) _ _ _ | with_reducible show wpAny _ _ (exec (Stmt.Assign [Expr.Name (PySem.Str.ofString "numbers") _] _ _) _) _ _ _ | with_reducible show wpAny _ _ (exec (Stmt.Assign [Expr.Name (PySem.Str.ofString "places") _] _ _) _) _ _ _); walk_at "exec Assign") | ((with_reducible show wpAny _ _ (eval (Expr.ListComp _ _ _ _) _) _ _ _); (try k_fold); walk_at "eval ListComp") | ((with_reducible show wpAny _ _ (execs (_ :: _) _) _ _ _); k_fold; walk1) | ((with_reducible show wpAny _ _ (eval (Expr.DictComp _ _ _ _ _) _) _ _ _); walk_at "eval DictComp") | ((with_reducible show wpAny _ _ (subscriptTail _ _ (Value.bytes _ _) (Value.int _ _)) _ _ _); walk_at "g_fig") | (k_unfold; (try dsimp only)) | (refine hR9 _ _ ?_; try dsimp only) | (refine hR8 _ _ ?_; try dsimp only) | (k_end; wrow_close) | walk1 | (dsimp only; walk1) | (leave1; walk_say "STEP leave1"; try dsimp only) | fail "no step"))
    obtain ⟨w0, w1, w2, w3, u0, u1, u2, u3, hb0, hb1, hb2, hb3, Dx, hkv⟩ := v_four Dw PW (wtOf_bd ys)
    clear Dw PW
    rename News _ _ _ _ => Nz
    obtain ⟨wA, hwA, Nq⟩ := News.take1 (rest := [(oA, _), (s1.heap.objs.size + 1 + 1 + 1 + 1, _), (s1.heap.objs.size + 1 + 1 + 1, _), (s1.heap.objs.size + 1 + 1, _), (s1.heap.objs.size + 1, _), (99, _)]) Nz (by kcj_all)
    clear Nz
    subst hwA
    walk_at "g_apnow"
    have hw4 := Nat.le_trans (Nat.le_of_eq (ints_len A6)) ho4
    have hwz := Nat.le_trans hw4 (show 4 ≤ sizeLine by decide)
    have ho256 : ∀ n ∈ os, 0 ≤ n ∧ n < 256 := fun n hn => by have := ho255 n hn; omega
    have hob : (octBytes os).size ≤ 4 := by simpa [octBytes] using ho4
    repeat' ((fail_if_success (with_reducible show wpAny _ _ (call (Value.ref 88) _) _ _ _)); (first | ((first | with_reducible show wpAny _ _ (exec (Stmt.Assign [Expr.Name (PySem.Str.ofString "drawn") _] _ _) _) _ _ _ | with_reducible show wpAny _ _ (exec (Stmt.Assign [Expr.Name (PySem.Str.ofString "numbers") _] _ _) _) _ _ _ | with_reducible show wpAny _ _ (exec (Stmt.Assign [Expr.Name (PySem.Str.ofString "places") _] _ _) _) _ _ _); walk_at "exec Assign") | ((with_reducible show wpAny _ _ (eval (Expr.ListComp _ _ _ _) _) _ _ _); (try k_fold); walk_at "eval ListComp") | ((with_reducible show wpAny _ _ (execs (_ :: _) _) _ _ _); k_fold; walk1) | ((with_reducible show wpAny _ _ (eval (Expr.DictComp _ _ _ _ _) _) _ _ _); walk_at "eval DictComp") | ((with_reducible show wpAny _ _ (subscriptTail _ _ (Value.bytes _ _) (Value.int _ _)) _ _ _); walk_at "g_fig") | (k_unfold; (try dsimp only)) | (refine hR9 _ _ ?_; try dsimp only) | (refine hR8 _ _ ?_; try dsimp only) | (k_end; wrow_close) | walk1 | (dsimp only; walk1) | (leave1; walk_say "STEP leave1"; try dsimp only) | fail "no step"))
    refine' gives_use (b16 _ _ _ ?hb_zq) ?B_zq ?F_zq ?f_zq ?kk_zq ?X_zq ?T_zq ?N_zq ?s_zq ?d_zq ?u_zq ?_
    case hb_zq => exact hob
    case B_zq => k_asm
    case F_zq => k_asm
    case X_zq => k_asm
    case T_zq => k_asm
    case f_zq => exact rfl
    case kk_zq => exact rfl
    case N_zq => k_asm
    case s_zq => intro p hp; cases hp
    case d_zq => decide
    case u_zq => decide
    k_whole
    intro r' h' tk' F' N' st' po'
    obtain ⟨t', e'⟩ := po'
    subst e'
    clear st'
    k_sweep
    repeat' ((fail_if_success (with_reducible show codeAny _ _ (Code.compLoop _ 0 _ _ _) _ _)); (first | ((first | with_reducible show wpAny _ _ (exec (Stmt.Assign [Expr.Name (PySem.Str.ofString "drawn") _] _ _) _) _ _ _ | with_reducible show wpAny _ _ (exec (Stmt.Assign [Expr.Name (PySem.Str.ofString "numbers") _] _ _) _) _ _ _ | with_reducible show wpAny _ _ (exec (Stmt.Assign [Expr.Name (PySem.Str.ofString "places") _] _ _) _) _ _ _); walk_at "exec Assign") | ((with_reducible show wpAny _ _ (eval (Expr.ListComp _ _ _ _) _) _ _ _); (try k_fold); walk_at "eval ListComp") | ((with_reducible show wpAny _ _ (execs (_ :: _) _) _ _ _); k_fold; walk1) | ((with_reducible show wpAny _ _ (eval (Expr.DictComp _ _ _ _ _) _) _ _ _); walk_at "eval DictComp") | ((with_reducible show wpAny _ _ (subscriptTail _ _ (Value.bytes _ _) (Value.int _ _)) _ _ _); walk_at "g_fig") | (k_unfold; (try dsimp only)) | (refine hR9 _ _ ?_; try dsimp only) | (refine hR8 _ _ ?_; try dsimp only) | (k_end; wrow_close) | walk1 | (dsimp only; walk1) | (leave1; walk_say "STEP leave1"; try dsimp only) | fail "no step"))
    rename News _ _ _ ((_, _) :: (_, W.listOf #[] 0) :: _) => N9
    rename (Fr _ _ _ _) => F9
    rename LCg.NsObj _ (fun _ => none) => C9
    rename LIt _ oA 0 => I9
    have hlen6 := ints_len A6
    refine GInv.loop (l := oA) (xs := os) (f := (fun o => [fg ((o.fdiv 16).fmod 16), fg ((o.fdiv 1).fmod 16)])) (GInv.mk F9 N9 C9 I9) ?_
    clear F9 N9 C9 I9
    intro R9 hR9 i oI oC mC acc cnt h1 tk1 hi F9 N9 C9 I9 A7 al ih
    refine comp2_outer ?_
    rcases Nat.lt_or_ge i os.length with hlt | hge
    · obtain ⟨v9, e0v⟩ : ∃ p, _ = some p := ⟨_, List.getElem?_eq_getElem (hlen6 ▸ hlt)⟩
      obtain ⟨x9, t9, rfl, e1⟩ := ints_get A6 e0v
      have e2 := ItemAt.of e0v
      have hx9 := nib_bd (ho255 x9 (List.mem_of_getElem? e1))
      have b0 := hx9.1.1
      have b1 := hx9.1.2
      have b2 := hx9.2.1
      have b3 := hx9.2.2
      clear hx9
      have hal0 : acc.length ≤ 8 := by omega
      have hal : acc.length ≤ sizeLine := Nat.le_trans hal0 (by decide)
      repeat' ((fail_if_success (with_reducible show codeAny _ _ (Code.compLoop _ 0 _ _ _) _ _)); (first | ((first | with_reducible show wpAny _ _ (exec (Stmt.Assign [Expr.Name (PySem.Str.ofString "drawn") _] _ _) _) _ _ _ | with_reducible show wpAny _ _ (exec (Stmt.Assign [Expr.Name (PySem.Str.ofString "numbers") _] _ _) _) _ _ _ | with_reducible show wpAny _ _ (exec (Stmt.Assign [Expr.Name (PySem.Str.ofString "places") _] _ _) _) _ _ _); walk_at "exec Assign") | ((with_reducible show wpAny _ _ (eval (Expr.ListComp _ _ _ _) _) _ _ _); (try k_fold); walk_at "eval ListComp") | ((with_reducible show wpAny _ _ (execs (_ :: _) _) _ _ _); k_fold; walk1) | ((with_reducible show wpAny _ _ (eval (Expr.DictComp _ _ _ _ _) _) _ _ _); walk_at "eval DictComp") | ((with_reducible show wpAny _ _ (subscriptTail _ _ (Value.bytes _ _) (Value.int _ _)) _ _ _); walk_at "g_fig") | (k_unfold; (try dsimp only)) | (refine hR9 _ _ ?_; try dsimp only) | (refine hR8 _ _ ?_; try dsimp only) | (k_end; wrow_close) | walk1 | (dsimp only; walk1) | (leave1; walk_say "STEP leave1"; try dsimp only) | fail "no step"))
      refine ih _ _ (by omega) (GInv.next (by assumption) (News.sub (by assumption) (by kcj_all)) (by assumption) (by assumption) e1 A7 al rfl)
    · have e0v : _ = none := List.getElem?_eq_none (hlen6 ▸ hge)
      have e2 := OffAt.of e0v
      have hi2 := Nat.le_antisymm hi hge
      rw [hi2, List.take_length] at A7
      have hfr := figInts_range ho255
      have A7 : IntsAre acc (figInts os) := A7
      have hal : acc.length ≤ sizeLine := Nat.le_trans (by omega : acc.length ≤ 8) (by decide)
      clear ih
      repeat' ((fail_if_success (with_reducible show wpAny _ _ (compareOp CmpOp.NotEq (Value.bytes _ _) (Value.bytes _ _)) _ _ _)); (first | ((first | with_reducible show wpAny _ _ (exec (Stmt.Assign [Expr.Name (PySem.Str.ofString "drawn") _] _ _) _) _ _ _ | with_reducible show wpAny _ _ (exec (Stmt.Assign [Expr.Name (PySem.Str.ofString "numbers") _] _ _) _) _ _ _ | with_reducible show wpAny _ _ (exec (Stmt.Assign [Expr.Name (PySem.Str.ofString "places") _] _ _) _) _ _ _); walk_at "exec Assign") | ((with_reducible show wpAny _ _ (eval (Expr.ListComp _ _ _ _) _) _ _ _); (try k_fold); walk_at "eval ListComp") | ((with_reducible show wpAny _ _ (execs (_ :: _) _) _ _ _); k_fold; walk1) | ((with_reducible show wpAny _ _ (eval (Expr.DictComp _ _ _ _ _) _) _ _ _); walk_at "eval DictComp") | ((with_reducible show wpAny _ _ (subscriptTail _ _ (Value.bytes _ _) (Value.int _ _)) _ _ _); walk_at "g_fig") | (k_unfold; (try dsimp only)) | (refine hR9 _ _ ?_; try dsimp only) | (refine hR8 _ _ ?_; try dsimp only) | (k_end; wrow_close) | walk1 | (dsimp only; walk1) | (leave1; walk_say "STEP leave1"; try dsimp only) | fail "no step"))
      refine ne_bytes_eq (written_is ho255) ?_
      repeat' ((fail_if_success (with_reducible show codeAny _ _ (Code.compLoop _ 0 _ _ _) _ _)); (first | ((first | with_reducible show wpAny _ _ (exec (Stmt.Assign [Expr.Name (PySem.Str.ofString "drawn") _] _ _) _) _ _ _ | with_reducible show wpAny _ _ (exec (Stmt.Assign [Expr.Name (PySem.Str.ofString "numbers") _] _ _) _) _ _ _ | with_reducible show wpAny _ _ (exec (Stmt.Assign [Expr.Name (PySem.Str.ofString "places") _] _ _) _) _ _ _); walk_at "exec Assign") | ((with_reducible show wpAny _ _ (eval (Expr.ListComp _ _ _ _) _) _ _ _); (try k_fold); walk_at "eval ListComp") | ((with_reducible show wpAny _ _ (execs (_ :: _) _) _ _ _); k_fold; walk1) | ((with_reducible show wpAny _ _ (eval (Expr.DictComp _ _ _ _ _) _) _ _ _); walk_at "eval DictComp") | ((with_reducible show wpAny _ _ (subscriptTail _ _ (Value.bytes _ _) (Value.int _ _)) _ _ _); walk_at "g_fig") | (k_unfold; (try dsimp only)) | (refine hR9 _ _ ?_; try dsimp only) | (refine hR8 _ _ ?_; try dsimp only) | (k_end; wrow_close) | walk1 | (dsimp only; walk1) | (leave1; walk_say "STEP leave1"; try dsimp only) | fail "no step"))
      rename News _ _ _ _ => N9
      rename (Fr _ _ _ _) => F9
      rename LCg.NsObj _ (fun _ => none) => C9
      rename DictIs _ _ _ [] _ => D9
      refine PInv.loop (prog := Challenge.rw_kt0001_01.row.prog) (PInv.mk F9 N9 C9 D9) ?_
      clear F9 N9 C9 D9
      intro R9 hR9 i oC mC oD kvs ep h1 tk1 hi F9 N9 C9 D9 P9 hl9 ih
      refine compD_step ?_
      rcases Nat.lt_or_ge i 16 with hlt | hge
      · have b0 : (0 : Int) ≤ (i : Int) := Int.natCast_nonneg _
        have b1 : (i : Int) < 16 := by omega
        have b2 : (0 : Int) < 16 - (i : Int) := by omega
        have hfr9 := pl_fresh hlt P9
        have hkz : kvs.length ≤ 1000 := by omega
        repeat' ((fail_if_success (with_reducible show codeAny _ _ (Code.compLoop _ 0 _ _ _) _ _)); (first | ((first | with_reducible show wpAny _ _ (exec (Stmt.Assign [Expr.Name (PySem.Str.ofString "drawn") _] _ _) _) _ _ _ | with_reducible show wpAny _ _ (exec (Stmt.Assign [Expr.Name (PySem.Str.ofString "numbers") _] _ _) _) _ _ _ | with_reducible show wpAny _ _ (exec (Stmt.Assign [Expr.Name (PySem.Str.ofString "places") _] _ _) _) _ _ _); walk_at "exec Assign") | ((with_reducible show wpAny _ _ (eval (Expr.ListComp _ _ _ _) _) _ _ _); (try k_fold); walk_at "eval ListComp") | ((with_reducible show wpAny _ _ (execs (_ :: _) _) _ _ _); k_fold; walk1) | ((with_reducible show wpAny _ _ (eval (Expr.DictComp _ _ _ _ _) _) _ _ _); walk_at "eval DictComp") | ((with_reducible show wpAny _ _ (subscriptTail _ _ (Value.bytes _ _) (Value.int _ _)) _ _ _); walk_at "g_fig") | (k_unfold; (try dsimp only)) | (refine hR9 _ _ ?_; try dsimp only) | (refine hR8 _ _ ?_; try dsimp only) | (k_end; wrow_close) | walk1 | (dsimp only; walk1) | (leave1; walk_say "STEP leave1"; try dsimp only) | fail "no step"))
        refine ih _ _ (by omega) (PInv.next (by assumption) (by assumption) (by assumption) (by assumption) P9 hl9 hlt)
      · have hi9 := Nat.le_antisymm hi hge
        subst hi9
        have hpl := places_of P9
        clear ih
        repeat' ((fail_if_success (with_reducible show wpAny _ _ (exec (Stmt.Assign [Expr.Name (PySem.Str.ofString "edges") _] _ _) _) _ _ _)); (first | ((first | with_reducible show wpAny _ _ (exec (Stmt.Assign [Expr.Name (PySem.Str.ofString "drawn") _] _ _) _) _ _ _ | with_reducible show wpAny _ _ (exec (Stmt.Assign [Expr.Name (PySem.Str.ofString "numbers") _] _ _) _) _ _ _ | with_reducible show wpAny _ _ (exec (Stmt.Assign [Expr.Name (PySem.Str.ofString "places") _] _ _) _) _ _ _); walk_at "exec Assign") | ((with_reducible show wpAny _ _ (eval (Expr.ListComp _ _ _ _) _) _ _ _); (try k_fold); walk_at "eval ListComp") | ((with_reducible show wpAny _ _ (execs (_ :: _) _) _ _ _); k_fold; walk1) | ((with_reducible show wpAny _ _ (eval (Expr.DictComp _ _ _ _ _) _) _ _ _); walk_at "eval DictComp") | ((with_reducible show wpAny _ _ (subscriptTail _ _ (Value.bytes _ _) (Value.int _ _)) _ _ _); walk_at "g_fig") | (k_unfold; (try dsimp only)) | (refine hR9 _ _ ?_; try dsimp only) | (refine hR8 _ _ ?_; try dsimp only) | (k_end; wrow_close) | walk1 | (dsimp only; walk1) | (leave1; walk_say "STEP leave1"; try dsimp only) | fail "no step"))
        rename News _ _ _ _ => Nz
        obtain ⟨pA, hpA, Nq⟩ := News.take1 (o := oD) (rest := [(wA, _), (oA, _), (s1.heap.objs.size + 1 + 1 + 1 + 1, _), (s1.heap.objs.size + 1 + 1 + 1, _), (s1.heap.objs.size + 1 + 1, _), (s1.heap.objs.size + 1, _), (99, _)]) Nz (by kcj_all)
        clear Nz
        subst hpA
        walk_at "g_apnow"
        repeat' ((fail_if_success (with_reducible show codeAny _ _ (Code.compLoop _ 0 _ _ _) _ _)); (first | ((first | with_reducible show wpAny _ _ (exec (Stmt.Assign [Expr.Name (PySem.Str.ofString "drawn") _] _ _) _) _ _ _ | with_reducible show wpAny _ _ (exec (Stmt.Assign [Expr.Name (PySem.Str.ofString "numbers") _] _ _) _) _ _ _ | with_reducible show wpAny _ _ (exec (Stmt.Assign [Expr.Name (PySem.Str.ofString "places") _] _ _) _) _ _ _); walk_at "exec Assign") | ((with_reducible show wpAny _ _ (eval (Expr.ListComp _ _ _ _) _) _ _ _); (try k_fold); walk_at "eval ListComp") | ((with_reducible show wpAny _ _ (execs (_ :: _) _) _ _ _); k_fold; walk1) | ((with_reducible show wpAny _ _ (eval (Expr.DictComp _ _ _ _ _) _) _ _ _); walk_at "eval DictComp") | ((with_reducible show wpAny _ _ (subscriptTail _ _ (Value.bytes _ _) (Value.int _ _)) _ _ _); walk_at "g_fig") | (k_unfold; (try dsimp only)) | (refine hR9 _ _ ?_; try dsimp only) | (refine hR8 _ _ ?_; try dsimp only) | (k_end; wrow_close) | walk1 | (dsimp only; walk1) | (leave1; walk_say "STEP leave1"; try dsimp only) | fail "no step"))
        rename News _ _ _ _ => N9
        rename (Fr _ _ _ _) => F9
        rename LCg.NsObj _ (fun _ => none) => C9
        rename BIt _ _ _ 0 => I9
        have hws := written_size ho255
        refine EInv.loop (b := (written (octBytes os))) (EInv.mk F9 N9 C9 I9) ?_
        clear F9 N9 C9 I9
        intro R9 hR9 i oI oC mC accE cntE h1 tk1 hi F9 N9 C9 I9 A7 al ih
        refine compL_step ?_
        rcases Nat.lt_or_ge i (written (octBytes os)).size with hlt | hge
        · obtain ⟨c9, ec⟩ : ∃ c, (written (octBytes os))[i]? = some c := ⟨_, Array.getElem?_eq_getElem hlt⟩
          obtain ⟨n9, hn9, rfl⟩ := written_fig ho255 ec
          obtain ⟨t9, e2⟩ := hpl n9 hn9
          have halE : accE.length ≤ sizeLine := Nat.le_trans (by omega : accE.length ≤ 8) (by decide)
          repeat' ((fail_if_success (with_reducible show codeAny _ _ (Code.compLoop _ 0 _ _ _) _ _)); (first | ((first | with_reducible show wpAny _ _ (exec (Stmt.Assign [Expr.Name (PySem.Str.ofString "drawn") _] _ _) _) _ _ _ | with_reducible show wpAny _ _ (exec (Stmt.Assign [Expr.Name (PySem.Str.ofString "numbers") _] _ _) _) _ _ _ | with_reducible show wpAny _ _ (exec (Stmt.Assign [Expr.Name (PySem.Str.ofString "places") _] _ _) _) _ _ _); walk_at "exec Assign") | ((with_reducible show wpAny _ _ (eval (Expr.ListComp _ _ _ _) _) _ _ _); (try k_fold); walk_at "eval ListComp") | ((with_reducible show wpAny _ _ (execs (_ :: _) _) _ _ _); k_fold; walk1) | ((with_reducible show wpAny _ _ (eval (Expr.DictComp _ _ _ _ _) _) _ _ _); walk_at "eval DictComp") | ((with_reducible show wpAny _ _ (subscriptTail _ _ (Value.bytes _ _) (Value.int _ _)) _ _ _); walk_at "g_fig") | (k_unfold; (try dsimp only)) | (refine hR9 _ _ ?_; try dsimp only) | (refine hR8 _ _ ?_; try dsimp only) | (k_end; wrow_close) | walk1 | (dsimp only; walk1) | (leave1; walk_say "STEP leave1"; try dsimp only) | fail "no step"))
          refine ih _ _ (by omega) (EInv.next (by assumption) (by assumption) (by assumption) (by assumption) ec A7 al (dig_figs n9 hn9).symm)
        · have ec : (written (octBytes os))[i]? = none := Array.getElem?_eq_none hge
          have hi5 := Nat.le_antisymm hi hge
          rw [List.take_of_length_le (by rw [Array.length_toList]; exact hge), dig_written ho255] at A7
          have hz64 : accE.length ≤ 64 := by omega
          clear ih
          have T0 := KtsTurn.refl (fs := framesOf []) (g := ghostOf s1.heap [(101, 99)])
          repeat' ((fail_if_success (with_reducible show codeAny _ _ (Code.compLoop _ 0 _ _ _) _ _)); (first | ((first | with_reducible show wpAny _ _ (exec (Stmt.Assign [Expr.Name (PySem.Str.ofString "drawn") _] _ _) _) _ _ _ | with_reducible show wpAny _ _ (exec (Stmt.Assign [Expr.Name (PySem.Str.ofString "numbers") _] _ _) _) _ _ _ | with_reducible show wpAny _ _ (exec (Stmt.Assign [Expr.Name (PySem.Str.ofString "places") _] _ _) _) _ _ _); walk_at "exec Assign") | ((with_reducible show wpAny _ _ (eval (Expr.ListComp _ _ _ _) _) _ _ _); (try k_fold); walk_at "eval ListComp") | ((with_reducible show wpAny _ _ (execs (_ :: _) _) _ _ _); k_fold; walk1) | ((with_reducible show wpAny _ _ (eval (Expr.DictComp _ _ _ _ _) _) _ _ _); walk_at "eval DictComp") | ((with_reducible show wpAny _ _ (subscriptTail _ _ (Value.bytes _ _) (Value.int _ _)) _ _ _); walk_at "g_fig") | (k_unfold; (try dsimp only)) | (refine hR9 _ _ ?_; try dsimp only) | (refine hR8 _ _ ?_; try dsimp only) | (k_end; wrow_close) | walk1 | (dsimp only; walk1) | (leave1; walk_say "STEP leave1"; try dsimp only) | fail "no step"))
          rename News _ _ _ ((_, _) :: (_, W.listOf #[] 0) :: _) => N9
          rename (Fr _ _ _ _) => F9
          rename LCg.NsObj _ (fun _ => none) => C9
          rename LIt _ _ 0 => I9
          have hlen7 := ints_len A7
          refine FInv.loop (xs := (halves os)) (p := (fun e => e.fdiv 4 != e.fmod 4)) (FInv.mk F9 N9 C9 I9) ?_
          clear F9 N9 C9 I9
          intro R9 hR9 i oI oC mC accF cntF h1 tk1 hi F9 N9 C9 I9 A4 al4 ih
          refine compL_step ?_
          rcases Nat.lt_or_ge i (halves os).length with hlt | hge
          · obtain ⟨v9, e0v⟩ : ∃ p, _ = some p := ⟨_, List.getElem?_eq_getElem (hlen7 ▸ hlt)⟩
            obtain ⟨x9, t9, rfl, e1⟩ := ints_get A7 e0v
            have e2 := ItemAt.of e0v
            have halF : accF.length ≤ sizeLine := Nat.le_trans (by omega : accF.length ≤ 64) (by decide)
            repeat' ((fail_if_success (with_reducible show codeAny _ _ (Code.compLoop _ 0 _ _ _) _ _)); (first | ((first | with_reducible show wpAny _ _ (exec (Stmt.Assign [Expr.Name (PySem.Str.ofString "drawn") _] _ _) _) _ _ _ | with_reducible show wpAny _ _ (exec (Stmt.Assign [Expr.Name (PySem.Str.ofString "numbers") _] _ _) _) _ _ _ | with_reducible show wpAny _ _ (exec (Stmt.Assign [Expr.Name (PySem.Str.ofString "places") _] _ _) _) _ _ _); walk_at "exec Assign") | ((with_reducible show wpAny _ _ (eval (Expr.ListComp _ _ _ _) _) _ _ _); (try k_fold); walk_at "eval ListComp") | ((with_reducible show wpAny _ _ (execs (_ :: _) _) _ _ _); k_fold; walk1) | ((with_reducible show wpAny _ _ (eval (Expr.DictComp _ _ _ _ _) _) _ _ _); walk_at "eval DictComp") | ((with_reducible show wpAny _ _ (subscriptTail _ _ (Value.bytes _ _) (Value.int _ _)) _ _ _); walk_at "g_fig") | (k_unfold; (try dsimp only)) | (refine hR9 _ _ ?_; try dsimp only) | (refine hR8 _ _ ?_; try dsimp only) | (k_end; wrow_close) | walk1 | (dsimp only; walk1) | (leave1; walk_say "STEP leave1"; try dsimp only) | fail "no step"))
            cases hb : (x9.fdiv 4 != x9.fmod 4) with
            | false =>
              dsimp only
              refine ih _ _ (by omega) (FInv.skip (by assumption) (by assumption) (by assumption) (by assumption) e1 A4 al4 hb)
            | true =>
              dsimp only
              repeat' ((fail_if_success (with_reducible show codeAny _ _ (Code.compLoop _ 0 _ _ _) _ _)); (first | ((first | with_reducible show wpAny _ _ (exec (Stmt.Assign [Expr.Name (PySem.Str.ofString "drawn") _] _ _) _) _ _ _ | with_reducible show wpAny _ _ (exec (Stmt.Assign [Expr.Name (PySem.Str.ofString "numbers") _] _ _) _) _ _ _ | with_reducible show wpAny _ _ (exec (Stmt.Assign [Expr.Name (PySem.Str.ofString "places") _] _ _) _) _ _ _); walk_at "exec Assign") | ((with_reducible show wpAny _ _ (eval (Expr.ListComp _ _ _ _) _) _ _ _); (try k_fold); walk_at "eval ListComp") | ((with_reducible show wpAny _ _ (execs (_ :: _) _) _ _ _); k_fold; walk1) | ((with_reducible show wpAny _ _ (eval (Expr.DictComp _ _ _ _ _) _) _ _ _); walk_at "eval DictComp") | ((with_reducible show wpAny _ _ (subscriptTail _ _ (Value.bytes _ _) (Value.int _ _)) _ _ _); walk_at "g_fig") | (k_unfold; (try dsimp only)) | (refine hR9 _ _ ?_; try dsimp only) | (refine hR8 _ _ ?_; try dsimp only) | (k_end; wrow_close) | walk1 | (dsimp only; walk1) | (leave1; walk_say "STEP leave1"; try dsimp only) | fail "no step"))
              refine ih _ _ (by omega) (FInv.next (by assumption) (by assumption) (by assumption) (by assumption) e1 A4 al4 hb)
          · have e0v : _ = none := List.getElem?_eq_none (hlen7 ▸ hge)
            have e2 := OffAt.of e0v
            have hi6 := Nat.le_antisymm hi hge
            rw [hi6, List.take_length, fil_loops (halves_range ho255)] at A4
            clear ih
            repeat' ((fail_if_success (with_reducible show wpAny _ _ (call (Value.ref 102) _) _ _ _)); (first | ((first | with_reducible show wpAny _ _ (exec (Stmt.Assign [Expr.Name (PySem.Str.ofString "drawn") _] _ _) _) _ _ _ | with_reducible show wpAny _ _ (exec (Stmt.Assign [Expr.Name (PySem.Str.ofString "numbers") _] _ _) _) _ _ _ | with_reducible show wpAny _ _ (exec (Stmt.Assign [Expr.Name (PySem.Str.ofString "places") _] _ _) _) _ _ _); walk_at "exec Assign") | ((with_reducible show wpAny _ _ (eval (Expr.ListComp _ _ _ _) _) _ _ _); (try k_fold); walk_at "eval ListComp") | ((with_reducible show wpAny _ _ (execs (_ :: _) _) _ _ _); k_fold; walk1) | ((with_reducible show wpAny _ _ (eval (Expr.DictComp _ _ _ _ _) _) _ _ _); walk_at "eval DictComp") | ((with_reducible show wpAny _ _ (subscriptTail _ _ (Value.bytes _ _) (Value.int _ _)) _ _ _); walk_at "g_fig") | (k_unfold; (try dsimp only)) | (refine hR9 _ _ ?_; try dsimp only) | (refine hR8 _ _ ?_; try dsimp only) | (k_end; wrow_close) | walk1 | (dsimp only; walk1) | (leave1; walk_say "STEP leave1"; try dsimp only) | fail "no step"))
            rename (Fr _ _ _ _) => Fz
            rename News _ _ _ ((_, W.listOf accF.toArray cntF) :: _) => Nz
            have Ny := News.sub (sel := [(_, W.listOf accE.toArray cntE), (pA, oD), (wA, _), (oA, _), (99, _)]) Nz (by kcj_all)
            clear Nz
            walk_at "g_apnow"
            rename IntsAre _ (halves os) => A7
            rename IntsAre _ os => A6
            have S9 : TabS pA oD #[] := ⟨by walk_at "g_ltm", .inl rfl⟩
            have hEl : (halves os).length < 9 := by rw [halves_len]; omega
            walk_at "g_apnow"
            refine' givesW_use (worthI _ 9 1000 _ _ _ _ _ _ _ _ _ A7 Dx hkv hz64 (Nat.le_refl _) (by simp) ?hb_zq (by decide) (by decide) (halves_fits ho255 _ _ _ _) hEl ?ha_zq ?hd_zq) ?B_zq ?T0_zq ?F_zq ?f_zq ?kk_zq ?XX_zq ?TT_zq ?CC_zq ?N_zq S9 ?U_zq ?s_zq ?d_zq ?u_zq ?_
            case hb_zq =>
              intro p hp
              simp only [List.mem_cons, List.not_mem_nil, or_false] at hp
              rcases hp with rfl | rfl | rfl | rfl <;> assumption
            case ha_zq => walk_at "g_ltm"
            case hd_zq => walk_at "g_ltm"
            case B_zq => k_asm
            case T0_zq => assumption
            case F_zq => k_asm
            case f_zq => exact rfl
            case kk_zq => exact rfl
            case XX_zq => assumption
            case TT_zq => assumption
            case CC_zq => assumption
            case N_zq => k_asm
            case U_zq => k_updF
            case s_zq => kcj_all
            case d_zq => decide
            case u_zq => decide
            k_whole
            intro g2' r2' h2' tk2' c2' oc2' ps2' T02' B2' F2' N2' X2' T2' S2' hc2' hn2' hp2'
            obtain ⟨t2', rfl⟩ := hp2'
            try dsimp only at N2'
            k_sweep
            clear hc2' hn2'
            repeat' ((fail_if_success (with_reducible show wpAny _ _ (call (Value.ref 107) _) _ _ _)); (first | ((first | with_reducible show wpAny _ _ (exec (Stmt.Assign [Expr.Name (PySem.Str.ofString "drawn") _] _ _) _) _ _ _ | with_reducible show wpAny _ _ (exec (Stmt.Assign [Expr.Name (PySem.Str.ofString "numbers") _] _ _) _) _ _ _ | with_reducible show wpAny _ _ (exec (Stmt.Assign [Expr.Name (PySem.Str.ofString "places") _] _ _) _) _ _ _); walk_at "exec Assign") | ((with_reducible show wpAny _ _ (eval (Expr.ListComp _ _ _ _) _) _ _ _); (try k_fold); walk_at "eval ListComp") | ((with_reducible show wpAny _ _ (execs (_ :: _) _) _ _ _); k_fold; walk1) | ((with_reducible show wpAny _ _ (eval (Expr.DictComp _ _ _ _ _) _) _ _ _); walk_at "eval DictComp") | ((with_reducible show wpAny _ _ (subscriptTail _ _ (Value.bytes _ _) (Value.int _ _)) _ _ _); walk_at "g_fig") | (k_unfold; (try dsimp only)) | (refine hR9 _ _ ?_; try dsimp only) | (refine hR8 _ _ ?_; try dsimp only) | (k_end; wrow_close) | walk1 | (dsimp only; walk1) | (leave1; walk_say "STEP leave1"; try dsimp only) | fail "no step"))
            refine' gives_use (table _ _ _ _ _ _ os _ _ _ _ _ _ _ _ _ A6 Dx ho255) ?B_zq ?F_zq ?f_zq ?kk_zq ?X_zq ?T_zq ?N_zq ?s_zq ?d_zq ?u_zq ?_
            case B_zq => k_asm
            case F_zq => k_asm
            case X_zq => k_asm
            case T_zq => k_asm
            case f_zq => exact rfl
            case kk_zq => exact rfl
            case N_zq => k_asm
            case s_zq => kcj_all
            case d_zq => decide
            case u_zq => decide
            k_whole
            intro r3' h3' tk3' F3' N3' st3' po3'
            obtain ⟨M, hM, fe, fb⟩ := final_eq2 po3' ho255 ho4 hb0 hb1 hb2 hb3
            rw [← hM] at po3'
            obtain ⟨l9, q0, q1, q2, q3, n9, m0, m1, m2, m3, x0, x1, x2, x3, rfl, I0, I1, I2, I3, N4, nd9⟩ := table_news F2' N2' N3' po3'
            clear st3' po3' N3'
            k_sweep
            repeat' ((fail_if_success (with_reducible show wpAny _ _ (call (Value.ref 112) _) _ _ _)); (first | ((first | with_reducible show wpAny _ _ (exec (Stmt.Assign [Expr.Name (PySem.Str.ofString "drawn") _] _ _) _) _ _ _ | with_reducible show wpAny _ _ (exec (Stmt.Assign [Expr.Name (PySem.Str.ofString "numbers") _] _ _) _) _ _ _ | with_reducible show wpAny _ _ (exec (Stmt.Assign [Expr.Name (PySem.Str.ofString "places") _] _ _) _) _ _ _); walk_at "exec Assign") | ((with_reducible show wpAny _ _ (eval (Expr.ListComp _ _ _ _) _) _ _ _); (try k_fold); walk_at "eval ListComp") | ((with_reducible show wpAny _ _ (execs (_ :: _) _) _ _ _); k_fold; walk1) | ((with_reducible show wpAny _ _ (eval (Expr.DictComp _ _ _ _ _) _) _ _ _); walk_at "eval DictComp") | ((with_reducible show wpAny _ _ (subscriptTail _ _ (Value.bytes _ _) (Value.int _ _)) _ _ _); walk_at "g_fig") | (k_unfold; (try dsimp only)) | (refine hR9 _ _ ?_; try dsimp only) | (refine hR8 _ _ ?_; try dsimp only) | (k_end; wrow_close) | walk1 | (dsimp only; walk1) | (leave1; walk_say "STEP leave1"; try dsimp only) | fail "no step"))
            refine' gives_use (dq4 _ _ _ _ _ _ _ _ _ _ _ _ _ _ _ _ _ _ _ I0 I1 I2 I3 rfl rfl rfl rfl (row_bd fb 0 (by decide)) (row_bd fb 1 (by decide)) (row_bd fb 2 (by decide)) (row_bd fb 3 (by decide)) nd9) ?B_zq ?F_zq ?f_zq ?kk_zq ?X_zq ?T_zq ?N_zq ?s_zq ?d_zq ?u_zq ?_
            case B_zq => k_asm
            case F_zq => k_asm
            case X_zq => k_asm
            case T_zq => k_asm
            case f_zq => exact rfl
            case kk_zq => exact rfl
            case N_zq => k_asm
            case s_zq => kcj_all
            case d_zq => decide
            case u_zq => decide
            k_whole
            intro r5' h5' tk5' F5' N5' st5' po5'
            obtain ⟨v5, hv5, t5, rfl⟩ := det_abs po5'
            clear st5'
            k_sweep
            have hfin : _ = v5 := fe.trans ((detL_4 ..).symm.trans hv5.symm)
            repeat' ((fail_if_success (with_reducible show wpAny _ _ (compareOp CmpOp.Eq _ _) _ _ _)); (first | ((first | with_reducible show wpAny _ _ (exec (Stmt.Assign [Expr.Name (PySem.Str.ofString "drawn") _] _ _) _) _ _ _ | with_reducible show wpAny _ _ (exec (Stmt.Assign [Expr.Name (PySem.Str.ofString "numbers") _] _ _) _) _ _ _ | with_reducible show wpAny _ _ (exec (Stmt.Assign [Expr.Name (PySem.Str.ofString "places") _] _ _) _) _ _ _); walk_at "exec Assign") | ((with_reducible show wpAny _ _ (eval (Expr.ListComp _ _ _ _) _) _ _ _); (try k_fold); walk_at "eval ListComp") | ((with_reducible show wpAny _ _ (execs (_ :: _) _) _ _ _); k_fold; walk1) | ((with_reducible show wpAny _ _ (eval (Expr.DictComp _ _ _ _ _) _) _ _ _); walk_at "eval DictComp") | ((with_reducible show wpAny _ _ (subscriptTail _ _ (Value.bytes _ _) (Value.int _ _)) _ _ _); walk_at "g_fig") | (k_unfold; (try dsimp only)) | (refine hR9 _ _ ?_; try dsimp only) | (refine hR8 _ _ ?_; try dsimp only) | (k_end; wrow_close) | walk1 | (dsimp only; walk1) | (leave1; walk_say "STEP leave1"; try dsimp only) | fail "no step"))
            rw [hfin]
            repeat' ((fail_if_success (with_reducible show codeAny _ _ (Code.compLoop _ 0 _ _ _) _ _)); (first | ((first | with_reducible show wpAny _ _ (exec (Stmt.Assign [Expr.Name (PySem.Str.ofString "drawn") _] _ _) _) _ _ _ | with_reducible show wpAny _ _ (exec (Stmt.Assign [Expr.Name (PySem.Str.ofString "numbers") _] _ _) _) _ _ _ | with_reducible show wpAny _ _ (exec (Stmt.Assign [Expr.Name (PySem.Str.ofString "places") _] _ _) _) _ _ _); walk_at "exec Assign") | ((with_reducible show wpAny _ _ (eval (Expr.ListComp _ _ _ _) _) _ _ _); (try k_fold); walk_at "eval ListComp") | ((with_reducible show wpAny _ _ (execs (_ :: _) _) _ _ _); k_fold; walk1) | ((with_reducible show wpAny _ _ (eval (Expr.DictComp _ _ _ _ _) _) _ _ _); walk_at "eval DictComp") | ((with_reducible show wpAny _ _ (subscriptTail _ _ (Value.bytes _ _) (Value.int _ _)) _ _ _); walk_at "g_fig") | (k_unfold; (try dsimp only)) | (refine hR9 _ _ ?_; try dsimp only) | (refine hR8 _ _ ?_; try dsimp only) | (k_end; wrow_close) | walk1 | (dsimp only; walk1) | (leave1; walk_say "STEP leave1"; try dsimp only) | fail "no step"))
            rw [show (v5 == v5) = true from by simp]
            have Fe : Fr (ghostOf s1.heap [(101, 99)]) _ h5' _ := ⟨F5'.ns, fun b o e => F5'.keep b o (B2'.stays b o e), T02'.size ▸ F5'.above⟩
            clear F5'
            have hg9 : s1.gens = #[] := by with_reducible assumption
            refine goodW_bool Fe hg9 (raisesW_false ?_) (law_post _)
            wrow_none_raised
end Mine
theorem PySem.Challenge.cw_kt0001_01_holds : PySem.Challenge.rw_kt0001_01.Holds := by
  exact Mine.lawL
