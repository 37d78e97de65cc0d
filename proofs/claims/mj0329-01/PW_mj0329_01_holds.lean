import PyProof.Rows.All
import Wide.All
import OpenK.AllK
import Wide.FinOn
import PySem.Challenge.RW_mj0329_01
open PySem PySem.W PyProof.Rows
set_option Elab.async false
set_option linter.unusedVariables false
set_option maxRecDepth 100000
namespace Mine

set_option maxHeartbeats 8000000
open_top hd for PySem.Challenge.rw_mj0329_01
set_option maxHeartbeats 200000

/-- what _div_nearest gives back -/
def divN (x y : Int) : Int := x.fdiv y + if decide (y < 2 * x.fmod y + Builtin.bitAnd (x.fdiv y) 1) = true then 1 else 0

/-- h is the height next to a / b, a half to the even one -/
structure Near (a b h : Int) : Prop where
  lo : -b ≤ 2 * a - 2 * (b * h)
  hi : 2 * a - 2 * (b * h) ≤ b
  elo : 2 * a - 2 * (b * h) = -b → h % 2 = 0
  ehi : 2 * a - 2 * (b * h) = b → h % 2 = 0

theorem divN_near {a b : Int} (hb : 1 ≤ b) : Near a b (divN a b) := by
  have e : b * a.fdiv b + a.fmod b = a := Int.mul_fdiv_add_fmod a b
  have h0 : 0 ≤ a.fmod b := Int.fmod_nonneg_of_pos a (by omega)
  have h1 : a.fmod b < b := Int.fmod_lt_of_pos a (by omega)
  unfold divN
  rw [PyProof.Rows.bitAnd_m1]
  generalize a.fdiv b = q at *
  generalize a.fmod b = r at *
  by_cases hc : b < 2 * r + q % 2
  · simp only [hc, decide_true, if_true]
    have e2 : b * (q + 1) = b * q + b := by rw [Int.mul_add, Int.mul_one]
    constructor <;> omega
  · simp only [hc, decide_false, Bool.false_eq_true, if_false, Int.add_zero]
    constructor <;> omega

theorem near_unique {a b h k : Int} (hb : 1 ≤ b) (p : Near a b h) (q : Near a b k) : h = k := by
  have key : ∀ {h k : Int}, Near a b h → Near a b k → ¬ h < k := by
    intro h k p q hlt
    have e : b * k = b * h + b * (k - h) := by rw [← Int.mul_add]; congr 1; omega
    have h2 : b * 1 ≤ b * (k - h) := Int.mul_le_mul_of_nonneg_left (by omega) (by omega)
    have p1 := p.hi; have q1 := q.lo
    have e3 : b * (k - h) = b := by omega
    have e4 : k - h = 1 := by
      have : b * (k - h) = b * 1 := by omega
      exact Int.eq_of_mul_eq_mul_left (by omega) this
    have a1 := p.ehi (by omega)
    have a2 := q.elo (by omega)
    omega
  have := key p q
  have := key q p
  omega

theorem divN_eq {a b h : Int} (hb : 1 ≤ b) (p : Near a b h) : divN a b = h := near_unique hb (divN_near hb) p

/-- a line's heights in its first n columns -/
def heights (x y z : Int) (n : Nat) : List Int := (rangeKs 0 n).map fun k => divN (z * x + y * k) x

/-- the walker's word -/
def WalkedInv (x y z : Int) (pre : List Int) (height over : Int) (row : List Int) : Prop :=
  over = 2 * (z * x + y * pre.length) - 2 * (x * height) ∧ Near (z * x + y * pre.length) x height ∧ row = heights x y z (pre.length + 1)

def W1 (x h₀ o₀ h o : Int) : Prop := o + 2 * (x * h) = o₀ + 2 * (x * h₀)
def W2 (x h₀ o₀ h o : Int) : Prop := o + 2 * (x * h) = o₀ + 2 * (x * h₀) ∧ o ≤ x ∧ (o = x → h % 2 = 0)

theorem fmod2 (h : Int) : h.fmod 2 = h % 2 := Int.fmod_eq_emod_of_nonneg h (by decide)

theorem w1_start {x h o : Int} : W1 x h o h o := rfl
theorem w1_step {x h₀ o₀ h o : Int} (p : W1 x h₀ o₀ h o) : W1 x h₀ o₀ (h + 1) (o - 2 * x) := by
  unfold W1 at *
  rw [Int.mul_add]; omega
theorem w2_start1 {x h o : Int} (a : ¬ x < o) (_b : o = x) (c : h.fmod 2 ≠ 1) : W2 x h o h o := by
  rw [fmod2] at c
  exact ⟨rfl, by omega, fun _ => by omega⟩
theorem w2_start2 {x h o : Int} (a : ¬ x < o) (b : o ≠ x) : W2 x h o h o := ⟨rfl, by omega, fun e => absurd e b⟩
theorem w2_step1 {x h₀ o₀ h o : Int} (hx : 1 ≤ x) (p : W2 x h₀ o₀ h o) (a : o < 0 - x) : W2 x h₀ o₀ (h - 1) (o + 2 * x) := by
  unfold W2 at *
  rw [Int.mul_sub]
  obtain ⟨p1, p2, p3⟩ := p
  exact ⟨by omega, by omega, fun _ => by omega⟩
theorem w2_step2 {x h₀ o₀ h o : Int} (hx : 1 ≤ x) (p : W2 x h₀ o₀ h o) (a : o = 0 - x) (b : h.fmod 2 = 1) : W2 x h₀ o₀ (h - 1) (o + 2 * x) := by
  unfold W2 at *
  rw [fmod2] at b
  rw [Int.mul_sub]
  obtain ⟨p1, p2, p3⟩ := p
  exact ⟨by omega, by omega, fun _ => by omega⟩

theorem heights_succ (x y z : Int) (n : Nat) : heights x y z (n + 1) = heights x y z n ++ [divN (z * x + y * n) x] := by
  unfold heights rangeKs
  simp [List.range_succ]

theorem near_start {x y z : Int} (hx : 1 ≤ x) : Near (z * x + y * ((0 : Nat) : Int)) x z := by
  have e : z * x = x * z := Int.mul_comm z x
  constructor <;> simp only [Int.natCast_zero, Int.mul_zero, Int.add_zero] <;> omega

theorem inv_start {x y z : Int} (hx : 1 ≤ x) : WalkedInv x y z [] z 0 [z] := by
  refine ⟨?_, near_start hx, ?_⟩
  · simp only [List.length_nil, Int.natCast_zero, Int.mul_zero, Int.add_zero]
    rw [Int.mul_comm z x]; omega
  · have := divN_eq hx (near_start (y := y) (z := z) hx)
    simp only [List.length_nil, heights_succ]
    rw [this]
    rfl

theorem inv_step {x y z h₀ o₀ h1 o1 h o k : Int} {pre row : List Int} (hx : 1 ≤ x) (p : WalkedInv x y z pre h₀ o₀ row) (q : W1 x h₀ (o₀ + 2 * y) h1 o1) (r : W2 x h1 o1 h o) (a : ¬ o < 0 - x) (b : o = 0 - x → h.fmod 2 ≠ 1) :
    WalkedInv x y z (pre ++ [k]) h o (row ++ [h]) := by
  obtain ⟨p1, p2, p3⟩ := p
  unfold W1 at q
  obtain ⟨r1, r2, r3⟩ := r
  have hl : (pre ++ [k]).length = pre.length + 1 := by simp
  have hc : y * ((pre.length + 1 : Nat) : Int) = y * pre.length + y := by rw [Int.natCast_add, Int.mul_add]; simp
  unfold WalkedInv
  rw [hl, hc]
  rw [fmod2] at b
  have e : o = 2 * (z * x + (y * pre.length + y)) - 2 * (x * h) := by omega
  have nr : Near (z * x + (y * pre.length + y)) x h := by
    constructor
    · omega
    · omega
    · intro e2
      have := b (by omega)
      omega
    · intro e2
      exact r3 (by omega)
  refine ⟨e, nr, ?_⟩
  rw [heights_succ, hc, divN_eq hx nr, p3]

theorem inv_step1 {x y z h₀ o₀ h1 o1 h o k : Int} {pre row : List Int} (hx : 1 ≤ x) (p : WalkedInv x y z pre h₀ o₀ row) (q : W1 x h₀ (o₀ + 2 * y) h1 o1) (r : W2 x h1 o1 h o) (a : ¬ o < 0 - x) (b : h.fmod 2 ≠ 1) :
    WalkedInv x y z (pre ++ [k]) h o (row ++ [h]) := inv_step hx p q r a fun _ => b
theorem inv_step2 {x y z h₀ o₀ h1 o1 h o k : Int} {pre row : List Int} (hx : 1 ≤ x) (p : WalkedInv x y z pre h₀ o₀ row) (q : W1 x h₀ (o₀ + 2 * y) h1 o1) (r : W2 x h1 o1 h o) (a : ¬ o < 0 - x) (b : o ≠ 0 - x) :
    WalkedInv x y z (pre ++ [k]) h o (row ++ [h]) := inv_step hx p q r a fun e => absurd e b

section
variable {prog : Program} {w : World} {A : Around} {E : Value → Shared → Prop} {s : Shared} {h₀ : Heap} {L l : Addr} {m : Str → Option Value} {news : List (Addr × Obj)} {value slice : PySem.Expr} {items : Array Value} {vs : List Value} {ns : List Int} {vk : Value} {ops : List Value} {st : Option Int} {Q : Value → Shared → Prop}

/-- a list cut by a step alone, whatever stands in front of the bracket -/
theorem cut_any (F : Fr h₀ L s.heap m) (N : News h₀ L s.heap news) (hl : s.heap.IsList l items) (pk : IsPart vk st) (h0 : st ≠ some 0)
    (h : ∀ D h', Fr h₀ L h' m → News h₀ L h' ((D, PySem.W.listOf (slicePick items none none st) 0) :: news) → (∀ p ∈ news, p.1 < D) → Q (.ref D) { s with heap := h' })
    (hs : subscripted slice false (.ref l) (.ref s.heap.objs.size) = operate ops (getItem (.ref l) (.ref s.heap.objs.size))) (hsz : items.size ≤ sizeLine) :
    wpAny (model prog w) A (subscriptTail value slice (.ref l) (.ref s.heap.objs.size)) Q E { s with heap := s.heap.push { cls := .type "slice", data := .fields #[.none, .none, vk] } } := by
  refine tail_any (Heap.IsList.typeIs (s := { s with heap := s.heap.push { cls := .type "slice", data := .fields #[.none, .none, vk] } }) (hl.push _)) list_getitem_lookup
    (wpAny_getItem_list_slice (hl.push _) (Heap.IsSliceOf.new ..) .none .none pk h0 ?_ hsz) hs
  have N1 := News.push (F.push { cls := .type "slice", data := .fields #[.none, .none, vk] }) (N.grown fun _ _ e => Heap.get?_push_of_some _ e) { cls := .type "list", data := .seq (slicePick items none none st) }
  refine h _ _ ((F.push _).push _) N1 fun p hp => ?_
  rw [Heap.size_push]
  exact Nat.lt_succ_of_lt (Heap.lt_size (N p hp).1)
end

/-- the items at the even places -/
def evens (ns : List Int) : List Int := (List.range ((ns.length + 1) / 2)).map fun i => ns.getD (2 * i) 0

theorem sliceRange_two (n : Nat) : sliceRange 0 (n : Int) 2 = (List.range ((n + 1) / 2)).map fun k => 2 * k := by
  unfold sliceRange
  have h1 : ((2 : Int) > 0) := by decide
  by_cases h : (0 : Int) < n
  · simp only [h1, if_true, h]
    have e : ((n : Int) - 0 + 2 - 1) / 2 = (((n + 1) / 2 : Nat) : Int) := by omega
    simp only [e, Int.toNat_natCast]
    apply List.map_congr_left
    intro k hk
    omega
  · have e : n = 0 := by omega
    subst e
    simp
theorem bounds_two (n : Nat) : sliceBounds none none (some 2) n = (0, (n : Int), 2) := by
  first
  | rfl
  | simp [sliceBounds]

theorem intsAre_get {vs : List Value} {ns : List Int} (h : IntsAre vs ns) : ∀ i, i < ns.length → ∃ t, vs[i]? = some (.int (ns.getD i 0) t) := by
  intro i hi
  obtain ⟨t, ht⟩ := h.get i (ns.getD i 0) (by rw [List.getElem?_eq_getElem hi]; simp [List.getD, hi])
  exact ⟨t, ht⟩

theorem pick_ints {vs : List Value} {ns : List Int} (h : IntsAre vs ns) : ∀ is : List Nat, (∀ i ∈ is, i < ns.length) → IntsAre (is.filterMap (vs.toArray[·]?)) (is.map fun i => ns.getD i 0)
  | [], _ => .nil
  | i :: r, hb => by
    obtain ⟨t, ht⟩ := intsAre_get h i (hb i List.mem_cons_self)
    have e : vs.toArray[i]? = some (.int (ns.getD i 0) t) := by simpa using ht
    rw [List.filterMap_cons, e]
    exact .cons _ _ (pick_ints h r fun j hj => hb j (List.mem_cons_of_mem _ hj))

theorem cut_two {vs : List Value} {ns : List Int} (h : IntsAre vs ns) : ∃ ws : List Value, slicePick vs.toArray none none (some 2) = ws.toArray ∧ IntsAre ws (evens ns) := by
  refine ⟨_, rfl, ?_⟩
  have hlen : vs.toArray.size = ns.length := by simp [h.length]
  rw [bounds_two, hlen]
  show IntsAre ((sliceRange 0 (ns.length : Int) 2).filterMap (vs.toArray[·]?)) _
  rw [sliceRange_two]
  have := pick_ints h ((List.range ((ns.length + 1) / 2)).map fun k => 2 * k) (fun i hi => by
    obtain ⟨k, hk, rfl⟩ := List.mem_map.mp hi
    have := List.mem_range.mp hk
    omega)
  rw [List.map_map] at this
  exact this

theorem cut_back {vs : List Value} {ns : List Int} (h : IntsAre vs ns) : ∃ ws : List Value, slicePick vs.toArray none none (some (-1)) = ws.toArray ∧ IntsAre ws ns.reverse :=
  ⟨vs.reverse, by rw [krv_pick], h.reverse⟩

section
variable {prog : Program} {w : World} {A : Around} {E : Value → Shared → Prop} {s : Shared} {h₀ : Heap} {L l : Addr} {m : Str → Option Value} {news : List (Addr × Obj)} {value slice : PySem.Expr} {vs : List Value} {ns : List Int} {vk : Value} {ops : List Value} {Q : Value → Shared → Prop}
theorem cut_evens (F : Fr h₀ L s.heap m) (N : News h₀ L s.heap news) (hl : s.heap.IsList l vs.toArray) (pk : IsPart vk (some 2)) (hi : IntsAre vs ns)
    (h : ∀ D ws h', Fr h₀ L h' m → News h₀ L h' ((D, PySem.W.listOf (List.toArray ws) 0) :: news) → (∀ p ∈ news, p.1 < D) → IntsAre ws (evens ns) → Q (.ref D) { s with heap := h' })
    (hs : subscripted slice false (.ref l) (.ref s.heap.objs.size) = operate ops (getItem (.ref l) (.ref s.heap.objs.size))) (hsz : vs.toArray.size ≤ sizeLine) :
    wpAny (model prog w) A (subscriptTail value slice (.ref l) (.ref s.heap.objs.size)) Q E { s with heap := s.heap.push { cls := .type "slice", data := .fields #[.none, .none, vk] } } := by
  obtain ⟨ws, e, hw⟩ := cut_two hi
  exact cut_any F N hl pk (by decide) (fun D h' F' N' l1 => h D ws h' F' (e ▸ N') l1 hw) hs hsz
theorem cut_rev (F : Fr h₀ L s.heap m) (N : News h₀ L s.heap news) (hl : s.heap.IsList l vs.toArray) (pk : IsPart vk (some (-1))) (hi : IntsAre vs ns)
    (h : ∀ D ws h', Fr h₀ L h' m → News h₀ L h' ((D, PySem.W.listOf (List.toArray ws) 0) :: news) → (∀ p ∈ news, p.1 < D) → IntsAre ws ns.reverse → Q (.ref D) { s with heap := h' })
    (hs : subscripted slice false (.ref l) (.ref s.heap.objs.size) = operate ops (getItem (.ref l) (.ref s.heap.objs.size))) (hsz : vs.toArray.size ≤ sizeLine) :
    wpAny (model prog w) A (subscriptTail value slice (.ref l) (.ref s.heap.objs.size)) Q E { s with heap := s.heap.push { cls := .type "slice", data := .fields #[.none, .none, vk] } } := by
  obtain ⟨ws, e, hw⟩ := cut_back hi
  exact cut_any F N hl pk (by decide) (fun D h' F' N' l1 => h D ws h' F' (e ▸ N') l1 hw) hs hsz
end

/-- a line's heights -/
def drawn (x y z : Int) : List Int := (rangeKs 0 (x + 1 - 0).toNat).map fun k => divN (z * x + y * k) x

theorem drawn_length {x y z : Int} (hx : 1 ≤ x) : ((drawn x y z).length : Int) = x + 1 := by
  unfold drawn
  rw [List.length_map, rangeKs_length]
  omega

theorem drawn_get {x y z : Int} (hx : 1 ≤ x) {i : Nat} (hi : (i : Int) ≤ x) : (drawn x y z).getD i 0 = divN (z * x + y * i) x := by
  unfold drawn rangeKs
  have h : i < (x + 1).toNat := by omega
  simp [List.getD, h]

theorem divN_at {x z : Int} (hx : 1 ≤ x) {a : Int} (e : a = x * z) : divN a x = z := by
  subst e
  refine divN_eq hx ?_
  constructor <;> omega

theorem drawn_first {x y z : Int} (hx : 1 ≤ x) : (drawn x y z).getD (Int.toNat 0) 0 = z := by
  rw [show Int.toNat 0 = 0 from rfl, drawn_get hx (i := 0) (by omega)]
  exact divN_at hx (by simp [Int.mul_comm])

theorem drawn_last {x y z : Int} (hx : 1 ≤ x) : (drawn x y z).getD (-1 + ((drawn x y z).length : Int)).toNat 0 = z + y := by
  rw [drawn_length hx, show (-1 + (x + 1)).toNat = x.toNat by omega, drawn_get hx (i := x.toNat) (by omega)]
  refine divN_at hx ?_
  rw [Int.toNat_of_nonneg (by omega), Int.mul_add, Int.mul_comm z x, Int.mul_comm y x]

theorem drawn_ends {x y z : Int} (hx : 1 ≤ x) : (drawn x y z).getD (-1 + ((drawn x y z).length : Int)).toNat 0 - (drawn x y z).getD (Int.toNat 0) 0 = y := by
  rw [drawn_first hx, drawn_last hx]; omega

theorem drawn_mirror {x y z : Int} (hx : 1 ≤ x) : drawn x (0 - y) z = (drawn x y z).map fun h => 2 * z - h := by
  unfold drawn
  rw [List.map_map]
  apply List.map_congr_left
  intro k _
  show divN (z * x + (0 - y) * k) x = 2 * z - divN (z * x + y * k) x
  refine divN_eq hx ?_
  have p := divN_near (a := z * x + y * k) (b := x) hx
  have e : (0 - y) * k = -(y * k) := by rw [Int.sub_mul]; omega
  rw [e]
  generalize divN (z * x + y * k) x = h at *
  have e2 : x * (2 * z - h) = 2 * (z * x) - x * h := by rw [Int.mul_sub, Int.mul_comm x (2 * z), Int.mul_assoc]
  obtain ⟨p1, p2, p3, p4⟩ := p
  constructor
  · omega
  · omega
  · intro q
    have := p4 (by omega)
    omega
  · intro q
    have := p3 (by omega)
    omega

theorem drawn_back {x y z : Int} (hx : 1 ≤ x) : (drawn x (0 - y) (z + y)).reverse = drawn x y z := by
  have l1 := drawn_length (x := x) (y := 0 - y) (z := z + y) hx
  have l2 := drawn_length (x := x) (y := y) (z := z) hx
  apply List.ext_getElem
  · rw [List.length_reverse]; omega
  · intro i h1 h2
    have hd : ∀ (l : List Int) (j : Nat) (hj : j < l.length), l[j] = l.getD j 0 := fun l j hj => by simp [List.getD, hj]
    rw [List.getElem_reverse, hd, hd, drawn_get hx (by omega), drawn_get hx (by omega)]
    congr 1
    have e : (((drawn x (0 - y) (z + y)).length - 1 - i : Nat) : Int) = x - i := by omega
    have e2 : (0 - y) * (x - i) = -(y * x) + y * i := by rw [Int.sub_mul, Int.zero_mul, Int.mul_sub]; omega
    rw [e, e2, Int.add_mul]
    omega

theorem drawn_double {x y z : Int} (hx : 1 ≤ x) : evens (drawn (2 * x) y z) = drawn x y z := by
  have l1 := drawn_length (x := 2 * x) (y := y) (z := z) (by omega)
  have l2 := drawn_length (x := x) (y := y) (z := z) hx
  have hl : (evens (drawn (2 * x) y z)).length = (drawn x y z).length := by
    unfold evens
    rw [List.length_map, List.length_range]
    omega
  apply List.ext_getElem hl
  intro i h1 h2
  have hd : ∀ (l : List Int) (j : Nat) (hj : j < l.length), l[j] = l.getD j 0 := fun l j hj => by simp [List.getD, hj]
  rw [hd _ _ h2, drawn_get hx (by omega)]
  have e : (evens (drawn (2 * x) y z))[i] = (drawn (2 * x) y z).getD (2 * i) 0 := by
    unfold evens
    simp
  rw [e, drawn_get (by omega) (by omega)]
  refine divN_eq (by omega) ?_
  have p := divN_near (a := z * x + y * i) (b := x) hx
  generalize divN (z * x + y * i) x = h at *
  have e1 : z * (2 * x) = 2 * (z * x) := by rw [Int.mul_left_comm]
  have e2 : y * ((2 * i : Nat) : Int) = 2 * (y * i) := by rw [Int.natCast_mul, Int.mul_left_comm]; rfl
  have e3 : 2 * x * h = 2 * (x * h) := Int.mul_assoc 2 x h
  rw [e1, e2]
  obtain ⟨p1, p2, p3, p4⟩ := p
  constructor
  · rw [e3]; omega
  · rw [e3]; omega
  · intro q
    exact p3 (by rw [e3] at q; omega)
  · intro q
    exact p4 (by rw [e3] at q; omega)

theorem drawn_shift {x y z : Int} {b : Int} (e : b = x) : (rangeKs 0 (x + 1 - 0).toNat).map (fun k => divN (z * x + y * k) b) = drawn x y z := by
  subst e; rfl

def halfG (x y : Int) (l : List Int) (k : Int) : List Int := if (2 * y * k).fmod (2 * x) = x then l ++ [k] else l
theorem halfG_pos {x y k : Int} {l : List Int} (h : (2 * y * k).fmod (2 * x) = x) : halfG x y l k = l ++ [k] := if_pos h
theorem halfG_neg {x y k : Int} {l : List Int} (h : (2 * y * k).fmod (2 * x) ≠ x) : halfG x y l k = l := if_neg h
theorem halfG_grows (x y : Int) : KPfGrows (halfG x y) := fun l k => by
  unfold halfG
  split <;> simp

theorem half_fold (x y : Int) : ∀ (ks l : List Int), ks.foldl (halfG x y) l = l ++ ks.filter fun k => decide ((2 * y * k).fmod (2 * x) = x)
  | [], l => by simp
  | k :: r, l => by
    rw [List.foldl_cons, half_fold x y r, List.filter_cons]
    by_cases h : (2 * y * k).fmod (2 * x) = x
    · rw [halfG_pos h]; simp [h]
    · rw [halfG_neg h]; simp [h]

theorem half_none {x y : Int} (hx : 1 ≤ x) (h : List.foldl (halfG x y) [] (rangeKs 0 (x - 0).toNat) = []) {i : Nat} (hi : (i : Int) < x) : (2 * y * i).fmod (2 * x) ≠ x := by
  rw [half_fold, List.nil_append, List.filter_eq_nil_iff] at h
  have hm : (i : Int) ∈ rangeKs 0 (x - 0).toNat := by
    unfold rangeKs
    refine List.mem_map.mpr ⟨i, List.mem_range.mpr (by omega), by omega⟩
  have := h _ hm
  simpa using this

theorem fmod_half {x q : Int} (hx : 1 ≤ x) {v : Int} (e : v = x + 2 * x * q) : v.fmod (2 * x) = x := by
  subst e
  rw [Int.add_mul_fmod_self_left, Int.fmod_eq_emod_of_nonneg _ (by omega)]
  exact Int.emod_eq_of_lt (by omega) (by omega)

/-- where no half lies the heights are nearer than a half -/
theorem near_strict {x y z : Int} (hx : 1 ≤ x) (hh : List.foldl (halfG x y) [] (rangeKs 0 (x - 0).toNat) = []) {i : Nat} (hi : (i : Int) ≤ x) {h : Int} (p : Near (z * x + y * i) x h) :
    -x < 2 * (z * x + y * i) - 2 * (x * h) ∧ 2 * (z * x + y * i) - 2 * (x * h) < x := by
  by_cases hlt : (i : Int) < x
  · have hn := half_none hx hh hlt
    have e0 : 2 * y * (i : Int) = 2 * (y * i) := Int.mul_assoc 2 y i
    have p1 := p.lo; have p2 := p.hi
    have n1 : 2 * (z * x + y * i) - 2 * (x * h) ≠ x := fun q => hn (fmod_half hx (q := h - z) (by
      have : 2 * x * (h - z) = 2 * (x * h) - 2 * (z * x) := by rw [Int.mul_sub, Int.mul_assoc, Int.mul_assoc, Int.mul_comm x z]
      omega))
    have n2 : 2 * (z * x + y * i) - 2 * (x * h) ≠ -x := fun q => hn (fmod_half hx (q := h - z - 1) (by
      have : 2 * x * (h - z - 1) = 2 * (x * h) - 2 * (z * x) - 2 * x := by rw [Int.mul_sub, Int.mul_sub, Int.mul_assoc, Int.mul_assoc, Int.mul_comm x z]; omega
      omega))
    omega
  · have e : (i : Int) = x := by omega
    have e2 : z * x + y * i = x * (z + y) := by rw [e, Int.mul_add, Int.mul_comm z x, Int.mul_comm y x]
    have q : Near (z * x + y * i) x (z + y) := by
      rw [e2]
      constructor <;> omega
    have := near_unique hx p q
    subst this
    rw [e2]
    omega

theorem bal_core {x e1 e2 e3 e4 s1 s2 c : Int} (hx : 1 ≤ x) (a1 : -x ≤ e1) (b1 : e1 ≤ x) (a2 : -x ≤ e2) (b2 : e2 ≤ x) (a3 : -x ≤ e3) (b3 : e3 ≤ x) (a4 : -x ≤ e4) (b4 : e4 ≤ x)
    (h1 : 2 * (x * s1) = c - e2 + e1) (h2 : 2 * (x * s2) = c - e4 + e3) : s1 - s2 ≤ 2 := by
  have e : 2 * (x * (s1 - s2)) ≤ 4 * x := by rw [Int.mul_sub]; omega
  have h : x * (s1 - s2) ≤ x * 2 := by omega
  exact Int.le_of_mul_le_mul_left h (by omega)
theorem bal_core1 {x e1 e2 e3 e4 s1 s2 c : Int} (hx : 1 ≤ x) (a1 : -x < e1) (b1 : e1 < x) (a2 : -x < e2) (b2 : e2 < x) (a3 : -x < e3) (b3 : e3 < x) (a4 : -x < e4) (b4 : e4 < x)
    (h1 : 2 * (x * s1) = c - e2 + e1) (h2 : 2 * (x * s2) = c - e4 + e3) : s1 - s2 ≤ 1 := by
  have e : 2 * (x * (s1 - s2)) < 4 * x := by rw [Int.mul_sub]; omega
  have h : x * (s1 - s2) < x * 2 := by omega
  have := Int.lt_of_mul_lt_mul_left h (by omega : (0 : Int) ≤ x)
  omega

theorem bal_eq {x y z h1 h2 : Int} {i m : Nat} : 2 * (x * (h2 - h1)) = 2 * (y * m) - (2 * (z * x + y * ((i + m : Nat) : Int)) - 2 * (x * h2)) + (2 * (z * x + y * i) - 2 * (x * h1)) := by
  rw [Int.mul_sub, Int.natCast_add, Int.mul_add y]; omega

theorem balance {x y z : Int} (hx : 1 ≤ x) {i j m : Nat} (hi : ((i + m : Nat) : Int) ≤ x) (hj : ((j + m : Nat) : Int) ≤ x) :
    ((drawn x y z).getD (i + m) 0 - (drawn x y z).getD i 0) - ((drawn x y z).getD (j + m) 0 - (drawn x y z).getD j 0) ≤ 2 := by
  rw [drawn_get hx hi, drawn_get hx hj, drawn_get hx (i := i) (by omega), drawn_get hx (i := j) (by omega)]
  have p1 := divN_near (a := z * x + y * i) (b := x) hx
  have p2 := divN_near (a := z * x + y * ((i + m : Nat) : Int)) (b := x) hx
  have p3 := divN_near (a := z * x + y * j) (b := x) hx
  have p4 := divN_near (a := z * x + y * ((j + m : Nat) : Int)) (b := x) hx
  exact bal_core hx p1.lo p1.hi p2.lo p2.hi p3.lo p3.hi p4.lo p4.hi bal_eq bal_eq

theorem balance1 {x y z : Int} (hx : 1 ≤ x) (hh : List.foldl (halfG x y) [] (rangeKs 0 (x - 0).toNat) = []) {i j m : Nat} (hi : ((i + m : Nat) : Int) ≤ x) (hj : ((j + m : Nat) : Int) ≤ x) :
    ((drawn x y z).getD (i + m) 0 - (drawn x y z).getD i 0) - ((drawn x y z).getD (j + m) 0 - (drawn x y z).getD j 0) ≤ 1 := by
  rw [drawn_get hx hi, drawn_get hx hj, drawn_get hx (i := i) (by omega), drawn_get hx (i := j) (by omega)]
  have p1 := near_strict hx hh (i := i) (by omega) (divN_near (a := z * x + y * i) (b := x) hx)
  have p2 := near_strict hx hh hi (divN_near (a := z * x + y * ((i + m : Nat) : Int)) (b := x) hx)
  have p3 := near_strict hx hh (i := j) (by omega) (divN_near (a := z * x + y * j) (b := x) hx)
  have p4 := near_strict hx hh hj (divN_near (a := z * x + y * ((j + m : Nat) : Int)) (b := x) hx)
  exact bal_core1 hx p1.1 p1.2 p2.1 p2.2 p3.1 p3.2 p4.1 p4.2 bal_eq bal_eq

/-! A for over a range whose name is a cell (a comprehension within the body reads it), nothing kept from turn to turn but the ledger. -/

def CEnd (h₀ : Heap) (L : Addr) (s : Shared) (J : Addr × Obj) (g : Obj → List (Addr × Obj)) (stored : List Str) (m₀ : Str → Option Value) (s₂ : Shared) : Prop :=
  ∃ (h' : Heap) (tk : Nat) (m' : Str → Option Value) (oc : Obj) (v₀ : Option Value) (news' : List (Addr × Obj)), s₂ = { s with heap := h', toks := tk } ∧ Fr h₀ L h' m' ∧ News h₀ L h' news' ∧ (∀ p ∈ J :: g oc, p ∈ news') ∧ oc.data = .cell v₀ ∧ ∀ z, stored.contains z = false → m' z = m₀ z

def CPost (h₀ : Heap) (L : Addr) (s : Shared) (J : Addr × Obj) (g : Obj → List (Addr × Obj)) (stored : List Str) (m₀ : Str → Option Value) (Q : Flow → Shared → Prop) (f : Flow) (s₂ : Shared) : Prop :=
  match f with
  | .ret v => Q (.ret v) s₂
  | .brk => Q .next s₂
  | _ => CEnd h₀ L s J g stored m₀ s₂

def CLoop (prog : Program) (w : World) (A : Around) (env : Env) (x : Str) (px : Pos) (body : List Stmt) (Q : Flow → Shared → Prop) (E : Value → Shared → Prop) (it : Value) (s₂ : Shared) : Prop :=
  codeAny (model prog w) A (.forLoop (.Name x px) it body [] env) (fun r s' => match r with | .ok f => Q f s' | .error e => cameBackBy (model prog w) A env E e s') s₂

theorem For_cell {prog : Program} {w : World} {A : Around} {E : Value → Shared → Prop} {s : Shared} {env : Env} {x : Str} {px pos : Pos} {iter : Expr} {body : List Stmt} {Q : Flow → Shared → Prop}
    (h : wpAny (model prog w) A (eval iter env) (fun xv s₁ => wpAny (model prog w) A (pyIter xv) (fun it s₂ => CLoop prog w A env x px body Q E it s₂) E s₁) E s)
    (hs : ∀ x, foldedSetIterable iter env x = pure x := by intro _; rfl) :
    wpAny (model prog w) A (exec (.For (.Name x px) iter body [] pos) env) Q E s := wpAny_For h hs

theorem updF_self {c : Addr} {o : Obj} : ∀ {l : List (Addr × Obj)} {g : Obj → List (Addr × Obj)}, UpdF c o l g → ∀ o', UpdF c o' (g o') g
  | _, _, .head h, _ => .head h
  | _, _, .tail h r, o' => .tail h (updF_self r o')
theorem updF_addr {c : Addr} {o : Obj} : ∀ {l : List (Addr × Obj)} {g : Obj → List (Addr × Obj)}, UpdF c o l g → ∀ o', ∀ p ∈ g o', ∃ q ∈ l, q.1 = p.1
  | _, _, .head (r := r) _, o', p, hp => by
    rcases List.mem_cons.mp hp with rfl | hp
    · exact ⟨_, List.mem_cons_self, rfl⟩
    · exact ⟨p, List.mem_cons_of_mem _ hp, rfl⟩
  | _, _, .tail (p := a) _ r, o', p, hp => by
    rcases List.mem_cons.mp hp with rfl | hp
    · exact ⟨_, List.mem_cons_self, rfl⟩
    · obtain ⟨q, hq, e⟩ := updF_addr r o' p hp
      exact ⟨q, List.mem_cons_of_mem _ hq, e⟩
theorem updF_has {c : Addr} {o : Obj} : ∀ {l : List (Addr × Obj)} {g : Obj → List (Addr × Obj)}, UpdF c o l g → (c, o) ∈ l ∧ g o = l
  | _, _, .head _ => ⟨List.mem_cons_self, rfl⟩
  | _, _, .tail _ r => ⟨List.mem_cons_of_mem _ (updF_has r).1, congrArg _ (updF_has r).2⟩

def CInv (h₀ : Heap) (L : Addr) (s : Shared) (I : Addr) (a₀ : Int) (n : Nat) (g : Obj → List (Addr × Obj)) (stored : List Str) (m₀ : Str → Option Value) (k : Nat) (s' : Shared) : Prop :=
  ∃ (h' : Heap) (tk : Nat) (m' : Str → Option Value) (oc : Obj) (vv : Option Value) (i : Nat), s' = { s with heap := h', toks := tk } ∧ IsRangeIter h' I (a₀ + (i : Nat) * 1) ((n : Int) - (i : Nat)) 1 ∧ Fr h₀ L h' m' ∧ News h₀ L h' (g oc) ∧ oc.data = .cell vv ∧ (∀ z, stored.contains z = false → m' z = m₀ z) ∧ i ≤ n ∧ k = n + 1 - i

section
variable {prog : Program} {w : World} {A : Around} {E : Value → Shared → Prop} {s : Shared} {h₀ : Heap} {x : Str} {px : Pos} {body : List Stmt} {Q : Flow → Shared → Prop} {cn : Str} {cs : Scope} {L a : Addr} {ccd : Value} {cl : List (Str × Addr)}

theorem cell_range {r : Addr} {a₀ b₀ : Int} {t₀ u₀ v₀ : Tok} {n : Nat} {m₀ : Str → Option Value} {c : Addr} {o : Obj} {vc : Option Value} {news : List (Addr × Obj)} {g : Obj → List (Addr × Obj)} (stored : List Str)
    (hh : A.handled = none) (hr : IsRange s.heap r a₀ b₀ 1 t₀ u₀ v₀) (hsmall : Builtin.Range.small a₀ b₀ 1 = true) (hn : Builtin.Range.rangeSize a₀ b₀ 1 = (n : Int)) (F : Fr h₀ L s.heap m₀) (N : News h₀ L s.heap news)
    (hk : cs.kind = .function) (hx : (envX cn cs L a ccd cl).kindOf x = some .cell) (hc : cl.lookup x = some c) (U : UpdF c o news g) (hd : o.data = .cell vc)
    (turn : ∀ (k : Int) (t : Tok) (I : Addr) (oI oc : Obj) (u : Str → Option Value) (h : Heap) (tk : Nat), a₀ ≤ k → k < a₀ + n → oc.data = .cell (some (.int k t)) → Fr h₀ L h (fun z => if stored.contains z then u z else m₀ z) → News h₀ L h ((I, oI) :: g oc) →
      wpAny (model prog w) A (execs body (envX cn cs L a ccd cl)) (CPost h₀ L { s with heap := h, toks := tk } (I, oI) g stored m₀ Q) E { s with heap := h, toks := tk })
    (done : ∀ (oc : Obj) (v₀ : Option Value) (u : Str → Option Value) (h : Heap) (tk : Nat), oc.data = .cell v₀ → Fr h₀ L h (fun z => if stored.contains z then u z else m₀ z) → News h₀ L h (g oc) → Q .next { s with heap := h, toks := tk })
    (hE : PassesOwn (model prog w) A (envX cn cs L a ccd cl) E := by passes_own) :
    wpAny (model prog w) A (pyIter (.ref r)) (fun it s₂ => CLoop prog w A (envX cn cs L a ccd cl) x px body Q E it s₂) E s := by
  refine wpAny_pyIter_range hr hsmall ?_
  have hnew := next_is_new F
  have hIL : s.heap.objs.size ≠ L := Nat.ne_of_gt F.ns.lt
  generalize hI : s.heap.objs.size = I at *
  have W : Walks prog w A I [I] [I] n (fun i v => i < n ∧ ∃ t, v = .int (a₀ + i * 1) t) (fun i h => IsRangeIter h I (a₀ + (i : Nat) * 1) ((n : Int) - (i : Nat)) 1) := (Walks.range hh _ a₀ 1 n).bound
  have hgI : ∀ o', ∀ p ∈ g o', p.1 ≠ I := fun o' p hp => by
    obtain ⟨q, hq, e⟩ := updF_addr U o' p hp
    have := Heap.lt_size (N q hq).1
    rw [hI, e] at this
    exact Nat.ne_of_lt this
  have hcI : I ≠ c := fun e => hgI o (c, o) (updF_has (updF_self U o)).1 e.symm
  have emap : ∀ m' : Str → Option Value, (∀ z, stored.contains z = false → m' z = m₀ z) → (fun z => if stored.contains z then m' z else m₀ z) = m' := fun m' hm => by
    funext z
    cases q : stored.contains z with
    | true => simp
    | false => simpa using (hm z q).symm
  refine codeAny_forLoop (CInv h₀ L s I a₀ n g stored m₀) ?_ (n + 1)
    ⟨_, s.toks, m₀, o, vc, 0, rfl, ?_, F.push _, fun p hp => ⟨Heap.get?_push_of_some _ (N p ((updF_has U).2 ▸ hp)).1, (N p ((updF_has U).2 ▸ hp)).2⟩, hd, fun _ _ => rfl, Nat.zero_le _, rfl⟩
  · rintro k s' ⟨h', tk, m', oc, vv, i, rfl, hst, F', N', hd', hm', hi, rfl⟩
    by_cases hlt : i < n
    · refine W.item i _ _ _ hlt hst fun v h₁ tk₁ hP hst₁ hk₁ => ?_
      obtain ⟨_, t, rfl⟩ := hP
      have F₁ : Fr h₀ L h₁ m' := LCg.fr_but F' hk₁ (Ne.symm hIL) hnew
      have N₁ : News h₀ L h₁ (g oc) := LCg.news_but N' hk₁ (hgI oc)
      have N₂ : News h₀ L h₁ ((I, _) :: g oc) := fun p hp => by
        rcases List.mem_cons.mp hp with rfl | hp
        · exact ⟨hst₁, hIL, hnew⟩
        · exact N₁ p hp
      refine wpAny_assign_Name (storeX_C F₁ N₂ hc (UpdF.tail (p := (I, _)) hcI (updF_self U oc)) hd' (fun h₂ o' F₂ N₃ hd₂ => ?_) hk hx)
      have e1 : a₀ + (i : Int) * 1 = a₀ + (i : Int) := by omega
      rw [e1] at hd₂
      refine wpAny_mono (wpAny_passesOwn hE (turn (a₀ + i) t I _ o' m' h₂ tk₁ (by omega) (by omega) hd₂ (by rw [emap m' hm']; exact F₂) N₃)) (fun f s₃ h₃ => ?_) fun _ _ e => e
      have go : CEnd h₀ L { s with heap := h₂, toks := tk₁ } (I, _) g stored m₀ s₃ → ∃ m, m < n + 1 - i ∧ CInv h₀ L s I a₀ n g stored m₀ m s₃ := fun ⟨h₃', tk₃, m₃, oc₃, v₃, news₃, e₃, F₃, N₃', hin, hd₃, hm₃⟩ =>
        ⟨n + 1 - (i + 1), by omega, h₃', tk₃, m₃, oc₃, v₃, i + 1, e₃, (N₃' _ (hin _ List.mem_cons_self)).1, F₃, fun p hp => N₃' p (hin p (List.mem_cons_of_mem _ hp)), hd₃, hm₃, hlt, rfl⟩
      cases f with
      | ret v => exact h₃
      | brk => exact h₃
      | next => exact go h₃
      | cont => exact go h₃
    · have hin : i = n := by omega
      subst hin
      refine W.done _ _ _ hst fun h₁ tk₁ hk₁ => wpAny_execs_nil ?_
      exact done oc vv m' h₁ tk₁ hd' (by rw [emap m' hm']; exact LCg.fr_but F' hk₁ (Ne.symm hIL) hnew) (LCg.news_but N' hk₁ (hgI oc))
  · show IsRangeIter _ _ _ _ _
    rw [hn, ← hI]
    simpa using Heap.get?_push_size _ rfl
end

theorem CEnd.intro {h₀ : Heap} {L : Addr} {s : Shared} {J : Addr × Obj} {g : Obj → List (Addr × Obj)} {stored : List Str} {m₀ m' : Str → Option Value} {h' : Heap} {tk : Nat} {oc : Obj} {v₀ : Option Value} {news' : List (Addr × Obj)}
    (F : Fr h₀ L h' m') (N : News h₀ L h' news') (hn : ∀ p ∈ J :: g oc, p ∈ news') (hd : oc.data = .cell v₀) (hm : ∀ z, stored.contains z = false → m' z = m₀ z) :
    CEnd h₀ L s J g stored m₀ { s with heap := h', toks := tk } := ⟨h', tk, m', oc, v₀, news', rfl, F, N, hn, hd, hm⟩

/-! A for over a range by any step, its name a local, nothing kept from turn to turn. -/

def SEnd (h₀ : Heap) (L : Addr) (s : Shared) (J : Addr × Obj) (news : List (Addr × Obj)) (x : Str) (m₀ : Str → Option Value) (s₂ : Shared) : Prop :=
  ∃ (h' : Heap) (tk : Nat) (m' : Str → Option Value) (news' : List (Addr × Obj)), s₂ = { s with heap := h', toks := tk } ∧ Fr h₀ L h' m' ∧ News h₀ L h' news' ∧ (∀ p ∈ J :: news, p ∈ news') ∧ ∀ z, z ≠ x → m' z = m₀ z

def SPost (h₀ : Heap) (L : Addr) (s : Shared) (J : Addr × Obj) (news : List (Addr × Obj)) (x : Str) (m₀ : Str → Option Value) (Q : Flow → Shared → Prop) (f : Flow) (s₂ : Shared) : Prop :=
  match f with
  | .ret v => Q (.ret v) s₂
  | .brk => Q .next s₂
  | _ => SEnd h₀ L s J news x m₀ s₂

def SInv (h₀ : Heap) (L : Addr) (s : Shared) (I : Addr) (a₀ d₀ : Int) (n : Nat) (news : List (Addr × Obj)) (x : Str) (m₀ : Str → Option Value) (k : Nat) (s' : Shared) : Prop :=
  ∃ (h' : Heap) (tk : Nat) (m' : Str → Option Value) (i : Nat), s' = { s with heap := h', toks := tk } ∧ IsRangeIter h' I (a₀ + (i : Nat) * d₀) ((n : Int) - (i : Nat)) d₀ ∧ Fr h₀ L h' m' ∧ News h₀ L h' news ∧ (∀ z, z ≠ x → m' z = m₀ z) ∧ i ≤ n ∧ k = n + 1 - i

section
variable {prog : Program} {w : World} {A : Around} {E : Value → Shared → Prop} {s : Shared} {h₀ : Heap} {x : Str} {px : Pos} {body : List Stmt} {Q : Flow → Shared → Prop} {cn : Str} {cs : Scope} {L a : Addr} {ccd : Value}

theorem step_range {r : Addr} {a₀ b₀ d₀ : Int} {t₀ u₀ v₀ : Tok} {n : Nat} {m₀ : Str → Option Value} {news : List (Addr × Obj)} (P : Int → Prop)
    (hh : A.handled = none) (hr : IsRange s.heap r a₀ b₀ d₀ t₀ u₀ v₀) (hsmall : Builtin.Range.small a₀ b₀ d₀ = true) (hn : Builtin.Range.rangeSize a₀ b₀ d₀ = (n : Int)) (F : Fr h₀ L s.heap m₀) (N : News h₀ L s.heap news)
    (hk : cs.kind = .function) (hx : (envOf cn cs L a ccd).kindOf x = some .local) (hP : ∀ i : Nat, i < n → P (a₀ + i * d₀))
    (turn : ∀ (k : Int) (t : Tok) (I : Addr) (oI : Obj) (h : Heap) (tk : Nat), P k → Fr h₀ L h (fun z => if z = x then some (.int k t) else m₀ z) → News h₀ L h ((I, oI) :: news) →
      wpAny (model prog w) A (execs body (envOf cn cs L a ccd)) (SPost h₀ L { s with heap := h, toks := tk } (I, oI) news x m₀ Q) E { s with heap := h, toks := tk })
    (done : ∀ (u : Option Value) (h : Heap) (tk : Nat), Fr h₀ L h (fun z => if z = x then u else m₀ z) → News h₀ L h news → Q .next { s with heap := h, toks := tk })
    (hE : PassesOwn (model prog w) A (envOf cn cs L a ccd) E := by passes_own) :
    wpAny (model prog w) A (pyIter (.ref r)) (fun it s₂ => CLoop prog w A (envOf cn cs L a ccd) x px body Q E it s₂) E s := by
  refine wpAny_pyIter_range hr hsmall ?_
  have hnew := next_is_new F
  have hIL : s.heap.objs.size ≠ L := Nat.ne_of_gt F.ns.lt
  generalize hI : s.heap.objs.size = I at *
  have W : Walks prog w A I [I] [I] n (fun i v => i < n ∧ ∃ t, v = .int (a₀ + i * d₀) t) (fun i h => IsRangeIter h I (a₀ + (i : Nat) * d₀) ((n : Int) - (i : Nat)) d₀) := (Walks.range hh _ a₀ d₀ n).bound
  have hgI : ∀ p ∈ news, p.1 ≠ I := fun p hp => by
    have := Heap.lt_size (N p hp).1
    rw [hI] at this
    exact Nat.ne_of_lt this
  have emap : ∀ (u : Option Value) (m' : Str → Option Value), (∀ z, z ≠ x → m' z = m₀ z) → (fun z => if z = x then u else m' z) = (fun z => if z = x then u else m₀ z) := fun u m' hm => by
    funext z
    by_cases q : z = x
    · simp [q]
    · simp [q, hm z q]
  refine codeAny_forLoop (SInv h₀ L s I a₀ d₀ n news x m₀) ?_ (n + 1)
    ⟨_, s.toks, m₀, 0, rfl, ?_, F.push _, fun p hp => ⟨Heap.get?_push_of_some _ (N p hp).1, (N p hp).2⟩, fun _ _ => rfl, Nat.zero_le _, rfl⟩
  · rintro k s' ⟨h', tk, m', i, rfl, hst, F', N', hm', hi, rfl⟩
    by_cases hlt : i < n
    · refine W.item i _ _ _ hlt hst fun v h₁ tk₁ hPv hst₁ hk₁ => ?_
      obtain ⟨_, t, rfl⟩ := hPv
      have F₁ : Fr h₀ L h₁ m' := LCg.fr_but F' hk₁ (Ne.symm hIL) hnew
      have N₁ : News h₀ L h₁ news := LCg.news_but N' hk₁ hgI
      have N₂ : News h₀ L h₁ ((I, _) :: news) := fun p hp => by
        rcases List.mem_cons.mp hp with rfl | hp
        · exact ⟨hst₁, hIL, hnew⟩
        · exact N₁ p hp
      refine wpAny_assign_Name (stN F₁ N₂ (fun h₂ F₂ N₃ => ?_) hk hx)
      rw [emap _ m' hm'] at F₂
      refine wpAny_mono (wpAny_passesOwn hE (turn _ t I _ h₂ _ (hP i hlt) F₂ N₃)) (fun f s₃ h₃ => ?_) fun _ _ e => e
      have go : ∀ tk₁, SEnd h₀ L { s with heap := h₂, toks := tk₁ } (I, _) news x m₀ s₃ → ∃ m, m < n + 1 - i ∧ SInv h₀ L s I a₀ d₀ n news x m₀ m s₃ := fun tk₁ ⟨h₃', tk₃, m₃, news₃, e₃, F₃, N₃', hin, hm₃⟩ =>
        ⟨n + 1 - (i + 1), by omega, h₃', tk₃, m₃, i + 1, e₃, (N₃' _ (hin _ List.mem_cons_self)).1, F₃, fun p hp => N₃' p (hin p (List.mem_cons_of_mem _ hp)), hm₃, hlt, rfl⟩
      cases f with
      | ret v => exact h₃
      | brk => exact h₃
      | next => exact go _ h₃
      | cont => exact go _ h₃
    · have hin : i = n := by omega
      subst hin
      refine W.done _ _ _ hst fun h₁ tk₁ hk₁ => wpAny_execs_nil ?_
      refine done (m' x) h₁ tk₁ ?_ (LCg.news_but N' hk₁ hgI)
      have e : (fun z => if z = x then m' x else m₀ z) = m' := by
        funext z
        by_cases q : z = x
        · simp [q]
        · simp [q, hm' z q]
      rw [e]
      exact LCg.fr_but F' hk₁ (Ne.symm hIL) hnew
  · show IsRangeIter _ _ _ _ _
    rw [hn, ← hI]
    simpa using Heap.get?_push_size _ rfl
end

theorem SEnd.intro {h₀ : Heap} {L : Addr} {s : Shared} {J : Addr × Obj} {news : List (Addr × Obj)} {x : Str} {m₀ m' : Str → Option Value} {h' : Heap} {tk : Nat} {news' : List (Addr × Obj)}
    (F : Fr h₀ L h' m') (N : News h₀ L h' news') (hn : ∀ p ∈ J :: news, p ∈ news') (hm : ∀ z, z ≠ x → m' z = m₀ z) :
    SEnd h₀ L s J news x m₀ { s with heap := h', toks := tk } := ⟨h', tk, m', news', rfl, F, N, hn, hm⟩

/-- a call that gives back an int -/
def TellsI (w : World) (mean : ExcName → Option Value) (mg mb : Str → Option Value) (f : Addr) (vs : List Value) (n : Int) : Prop :=
  ∀ (dp un : Nat) (gd : Option (List Code)) (cn : Str) (cs : Scope) (a : Addr) (ccd : Value) (cl : List (Str × Addr)) (outer : List Env) (A₀ : Around) (base h₀ : Heap) (L : Addr) (m : Str → Option Value) (news : List (Addr × Obj)) (s : Shared) (Q E : Value → Shared → Prop),
    Below A₀ base outer h₀ → Fr h₀ L s.heap m → (Mine.hd.heap_39 w.params).In h₀ → News h₀ L s.heap news → Top Mine.hd.view_39 (looseW Mine.hd.view_39 []) mean mg mb h₀ → cs.kind = .function →
    dp + 5 < recursionLimit → un + 60 < cLine →
    (∀ (t : Tok) (h' : Heap) (tk' : Nat), Fr h₀ L h' m → News h₀ L h' news → Q (.int n t) { s with heap := h', toks := tk' }) →
      wpAny (model PySem.Challenge.rw_mj0329_01.row.prog w) (ktrTop dp un gd cn cs L a ccd cl outer) (call (.ref f) vs) Q E s

theorem divmod_K {prog : Program} {w : World} {A : Around} {E : Value → Shared → Prop} {s : Shared} {a b : Int} {t u : Tok} {Q : Value → Shared → Prop} {h₀ : Heap} {L : Addr} {m : Str → Option Value} {news : List (Addr × Obj)}
    (F : Fr h₀ L s.heap m) (N : News h₀ L s.heap news) (hb : b ≠ 0) (hs : b.natAbs < 1073741824)
    (h : ∀ (D : Addr) h' (t u : Tok) tk, Fr h₀ L h' m → News h₀ L h' ((D, { cls := .type "tuple", data := .seq #[.int (a.fdiv b) t, .int (a.fmod b) u] }) :: news) → (∀ p ∈ news, p.1 < D) →
      Q (.ref D) { s with heap := h', toks := tk }) :
    wpAny (model prog w) A (call (.builtin "divmod") [.int a t, .int b u]) Q E s :=
  divmod_N F N hb (fun h' F' N' => h _ h' _ _ _ F' N' (fun p hp => Heap.lt_size (N p hp).1)) (Or.inl (PyProof.noPylong_small hs))

local macro_rules | `(tactic| walk_at "call builtin:divmod") => `(tactic| (k_here; (with_reducible show wpAny _ _ (call (Value.builtin _) [Value.int _ _, Value.int _ _]) _ _ _); refine' divmod_K ?F ?N ?b ?s ?_; (case F => k_asm); (case N => k_asm); (case b => omega); (case s => omega); intro D' h' t' u' tk' F' N' l1; (try k_lt l1); (try k_sweep)))

set_option maxHeartbeats 8000000 in
theorem div_tells (w : World) (mean : ExcName → Option Value) (mg mb : Str → Option Value) (x y : Int) (tx ty : Tok) (hy : 1 ≤ y) (hy2 : y ≤ 1000) :
    TellsI w mean mg mb 28 [.int x tx, .int y ty] (divN x y) := by
  unfold TellsI
  intro dp un gd cn cs a ccd cl outer A₀ base h₀ L m news s Q E B F X N T hk hd hu hret
  w_top off
  k_with_none
  refine wpAny_call ?_
  k_dflt cell_enter
  k_steps
  all_goals cb_end hret

theorem div_use {w : World} {mean : ExcName → Option Value} {mg mb : Str → Option Value} {x y : Int} {tx ty : Tok} {dp un : Nat} {gd : Option (List Code)} {cn : Str} {cs : Scope} {a : Addr} {ccd : Value} {cl : List (Str × Addr)} {outer : List Env} {A₀ : Around} {base h₀ : Heap} {L : Addr} {m : Str → Option Value} {news : List (Addr × Obj)} {s : Shared} {Q E : Value → Shared → Prop}
    (B : Below A₀ base outer h₀) (F : Fr h₀ L s.heap m) (X : (Mine.hd.heap_39 w.params).In h₀) (N : News h₀ L s.heap news) (T : Top Mine.hd.view_39 (looseW Mine.hd.view_39 []) mean mg mb h₀) (hk : cs.kind = .function)
    (hd : dp + 5 < recursionLimit) (hu : un + 60 < cLine) (hy : 1 ≤ y) (hy2 : y ≤ 1000)
    (ret : ∀ (t : Tok) (h' : Heap) (tk' : Nat), Fr h₀ L h' m → News h₀ L h' news → Q (.int (divN x y) t) { s with heap := h', toks := tk' }) :
    wpAny (model PySem.Challenge.rw_mj0329_01.row.prog w) (ktrTop dp un gd cn cs L a ccd cl outer) (call (.ref 28) [.int x tx, .int y ty]) Q E s :=
  div_tells w mean mg mb x y tx ty hy hy2 _ _ _ _ _ _ _ _ _ _ _ _ _ _ _ _ _ _ B F X N T hk hd hu ret

local macro_rules | `(tactic| walk_at "call ref") => `(tactic| (k_here; (with_reducible show wpAny _ _ (call (Value.ref 28) [Value.int _ _, Value.int _ _]) _ _ _); k_dflt (refine' div_use ?k1 ?k2 ?k3 ?k4 ?k5 ?kK ?kd ?ku ?h1 ?h2 ?_); (case k1 => k_asm); (case k2 => k_asm); (case k3 => k_asm); (case k4 => k_asm); (case k5 => k_asm); (case kK => first | exact rfl | assumption); (case kd => ktr_room); (case ku => ktr_units); (case h1 => omega); (case h2 => omega); intro t9 h9 tk9 F9 N9; (try dsimp only); (try k_fold)))

/-- a call that gives back a new list of ints -/
def TellsL (w : World) (mean : ExcName → Option Value) (mg mb : Str → Option Value) (f : Addr) (vs : List Value) (ns : List Int) : Prop :=
  ∀ (dp un : Nat) (gd : Option (List Code)) (cn : Str) (cs : Scope) (a : Addr) (ccd : Value) (cl : List (Str × Addr)) (outer : List Env) (A₀ : Around) (base h₀ : Heap) (L : Addr) (m : Str → Option Value) (news : List (Addr × Obj)) (s : Shared) (Q E : Value → Shared → Prop),
    Below A₀ base outer h₀ → Fr h₀ L s.heap m → (Mine.hd.heap_39 w.params).In h₀ → News h₀ L s.heap news → Top Mine.hd.view_39 (looseW Mine.hd.view_39 []) mean mg mb h₀ → cs.kind = .function →
    dp + 10 < recursionLimit → un + 120 < cLine →
    (∀ (l : Addr) (ws : List Value) (c : Nat) (h' : Heap) (tk' : Nat), Fr h₀ L h' m → News h₀ L h' ((l, PySem.W.listOf ws.toArray c) :: news) → IntsAre ws ns → LCg.Off1 l news → Q (.ref l) { s with heap := h', toks := tk' }) →
      wpAny (model PySem.Challenge.rw_mj0329_01.row.prog w) (ktrTop dp un gd cn cs L a ccd cl outer) (call (.ref f) vs) Q E s

theorem tellsL_use {w : World} {mean : ExcName → Option Value} {mg mb : Str → Option Value} {f : Addr} {vs : List Value} {ns : List Int} {dp un : Nat} {gd : Option (List Code)} {cn : Str} {cs : Scope} {a : Addr} {ccd : Value} {cl : List (Str × Addr)} {outer : List Env} {A₀ : Around} {base h₀ : Heap} {L : Addr} {m : Str → Option Value} {news : List (Addr × Obj)} {s : Shared} {Q E : Value → Shared → Prop}
    (B : Below A₀ base outer h₀) (F : Fr h₀ L s.heap m) (X : (Mine.hd.heap_39 w.params).In h₀) (N : News h₀ L s.heap news) (T : Top Mine.hd.view_39 (looseW Mine.hd.view_39 []) mean mg mb h₀) (hk : cs.kind = .function)
    (hd : dp + 10 < recursionLimit) (hu : un + 120 < cLine) (C : TellsL w mean mg mb f vs ns)
    (ret : ∀ (l : Addr) (ws : List Value) (c : Nat) (h' : Heap) (tk' : Nat), Fr h₀ L h' m → News h₀ L h' ((l, PySem.W.listOf ws.toArray c) :: news) → IntsAre ws ns → LCg.Off1 l news → Q (.ref l) { s with heap := h', toks := tk' }) :
    wpAny (model PySem.Challenge.rw_mj0329_01.row.prog w) (ktrTop dp un gd cn cs L a ccd cl outer) (call (.ref f) vs) Q E s :=
  C _ _ _ _ _ _ _ _ _ _ _ _ _ _ _ _ _ _ B F X N T hk hd hu ret

theorem off1_lt {l : Addr} : ∀ {news : List (Addr × Obj)}, (∀ p ∈ news, p.1 < l) → LCg.Off1 l news
  | [], _ => trivial
  | p :: _, h => ⟨Nat.ne_of_lt (h p List.mem_cons_self), off1_lt fun q hq => h q (List.mem_cons_of_mem _ hq)⟩
theorem keep3 {h₀ h : Heap} {L : Addr} {a b c d : Addr × Obj} {news : List (Addr × Obj)} (N : News h₀ L h (a :: b :: c :: d :: news)) : News h₀ L h (a :: news) := fun p hp => N p (by
  rcases List.mem_cons.mp hp with rfl | hp
  · exact List.mem_cons_self
  · exact .tail _ (.tail _ (.tail _ (.tail _ hp))))

set_option maxHeartbeats 8000000 in
theorem drawn_tells (w : World) (mean : ExcName → Option Value) (mg mb : Str → Option Value) (x y z : Int) (tx ty tz : Tok) (hy : 1 ≤ x) (hy2 : x ≤ 24) (h1 : -30 ≤ y) (h2 : y ≤ 30) (h3 : -40 ≤ z) (h4 : z ≤ 40) :
    TellsL w mean mg mb 40 [.int x tx, .int y ty, .int z tz] (drawn x y z) := by
  unfold TellsL
  intro dp un gd cn cs a ccd cl outer A₀ base h₀ L m news s Q E B F X N T hk hd hu hret
  w_top off
  k_with_none
  refine wpAny_call ?_
  k_dflt (refine' code_defC ?k1 ?k2 ?k3 ?k4 ?k5 ?kA ?kF ?kK ?k6 ?k7 ?k8 ?k9 ?kB ?kD ?_ ?c2 ?c3 ?c4; (case kA => exact rfl); (case kF => exact rfl); (case kK => assumption); (case k1 => k_asm); (case k2 => k_asm); (case k3 => k_asm); (case k4 => k_asm); (case k5 => k_asm); (case k6 => k_is); (case k7 => k_is); (case k8 => ktr_room); (case k9 => exact BindsTo.of_eq rfl); (case kB => exact rfl); (case kD => decide +kernel); (case c2 => exact rfl); (case c3 => exact rfl); (case c4 => exact rfl); k_whole; intro g' L' h' tk' cells' FG' F' N' Y' B' X' T' l1; (try k_lt l1); k_cells Y'; (try simp only [List.cons_append, List.nil_append] at N'); (try dsimp only); (try k_lift B'); (try k_fold))
  k_steps
  rename Fr h₀ L _ m => kF
  rename News h₀ L _ _ => kN
  rename IntsAre _ _ => kI
  rename _ ∧ _ ∧ _ ∧ LCg.Off1 _ _ => kO
  exact hret _ _ _ _ _ kF (keep3 kN) kI kO.2.2.2

theorem drawn_of_inv {x y z h o : Int} {row : List Int} (hx : 1 ≤ x) (p : WalkedInv x y z (rangeKs 0 (x - 0).toNat) h o row) : row = drawn x y z := by
  rw [p.2.2, rangeKs_length]
  unfold heights drawn
  rw [show (x - 0).toNat + 1 = (x + 1 - 0).toNat by omega]

local macro_rules | `(tactic| kst_facts1) => `(tactic| first | exact IntsAre.cons _ _ IntsAre.nil | assumption)

set_option maxHeartbeats 8000000 in
theorem walked_tells (w : World) (mean : ExcName → Option Value) (mg mb : Str → Option Value) (x y z : Int) (tx ty tz : Tok) (hy : 1 ≤ x) (hy2 : x ≤ 24) (h1 : -30 ≤ y) (h2 : y ≤ 30) (h3 : -40 ≤ z) (h4 : z ≤ 40) :
    TellsL w mean mg mb 35 [.int x tx, .int y ty, .int z tz] (drawn x y z) := by
  unfold TellsL
  intro dp un gd cn cs a ccd cl outer A₀ base h₀ L m news s Q E B F X N T hk hd hu hret
  w_top off
  k_with_none
  k_with "pyIter ref" => k_state (fun pre height over row => WalkedInv x y z pre height over row ∧ row.length = pre.length + 1) "height" "over" "row"
  k_with "state" => first | exact w1_start | exact w1_step (by assumption) | exact w2_start1 (by assumption) (by assumption) (by assumption) | exact w2_start2 (by assumption) (by assumption) | exact w2_step1 hy (by assumption) (by assumption) | exact w2_step2 hy (by assumption) (by assumption) (by assumption) | exact ⟨inv_start hy, rfl⟩ | exact ⟨inv_step1 hy (by assumption) (by assumption) (by assumption) (by assumption) (by assumption), by simp only [List.length_append, List.length_cons, List.length_nil]; omega⟩ | exact ⟨inv_step2 hy (by assumption) (by assumption) (by assumption) (by assumption) (by assumption), by simp only [List.length_append, List.length_cons, List.length_nil]; omega⟩
  k_with "exec While BoolOp" => ((with_reducible show wpAny _ _ (exec (Stmt.While (Expr.BoolOp _ (Expr.Compare _ [CmpOp.Gt] _ _ :: _) _) _ _ _) _) _ _ _); k_while_given ["height!", "over!"] (fun h₀ o₀ _ h o => W1 x h₀ o₀ h o) (fun _ _ _ _ o => o.toNat) "height" "over")
  k_with "exec While BoolOp" => ((with_reducible show wpAny _ _ (exec (Stmt.While (Expr.BoolOp _ (Expr.Compare _ [CmpOp.Lt] _ _ :: _) _) _ _ _) _) _ _ _); k_while_given ["height!", "over!"] (fun h₀ o₀ _ h o => W2 x h₀ o₀ h o) (fun _ _ _ _ o => (-o).toNat) "height" "over")
  refine wpAny_call ?_
  k_dflt cell_enter
  k_steps
  rename Fr h₀ L _ m => kF
  rename News h₀ L _ _ => kN
  rename IntsAre _ _ => kI
  rename WalkedInv _ _ _ _ _ _ _ => kW
  rename ∀ p ∈ news, p.1 < _ => kO
  exact hret _ _ _ _ _ kF (fun p hp => kN p (List.mem_cons_of_mem _ hp)) (drawn_of_inv hy kW ▸ kI) (off1_lt kO)

theorem rsh_eq (x y : Int) (hy : 0 ≤ y) (hy2 : y < 5) : (x.fdiv (2 ^ y.toNat) + if decide (1 * 2 ^ y.toNat < 2 * Builtin.bitAnd x (1 * 2 ^ y.toNat - 1) + Builtin.bitAnd (x.fdiv (2 ^ y.toNat)) 1) = true then 1 else 0) = divN x (2 ^ y.toNat) := by
  have e : Builtin.bitAnd x (1 * 2 ^ y.toNat - 1) = x.fmod (2 ^ y.toNat) := by
    have h : y = 0 ∨ y = 1 ∨ y = 2 ∨ y = 3 ∨ y = 4 := by omega
    rcases h with rfl | rfl | rfl | rfl | rfl
    · show Builtin.bitAnd x 0 = x.fmod 1
      rw [Int.fmod_one]
      have := bitAnd_range x (y := 0) (by decide)
      omega
    · exact (bitAnd_m1 x).trans (Int.fmod_eq_emod_of_nonneg x (by decide)).symm
    · exact (bitAnd_m2 x).trans (Int.fmod_eq_emod_of_nonneg x (by decide)).symm
    · exact (bitAnd_m3 x).trans (Int.fmod_eq_emod_of_nonneg x (by decide)).symm
    · exact (bitAnd_m4 x).trans (Int.fmod_eq_emod_of_nonneg x (by decide)).symm
  rw [e, Int.one_mul]
  rfl

set_option maxHeartbeats 8000000 in
theorem rsh_tells (w : World) (mean : ExcName → Option Value) (mg mb : Str → Option Value) (x y : Int) (tx ty : Tok) (hy : 0 ≤ y) (hy2 : y < 5) :
    TellsI w mean mg mb 21 [.int x tx, .int y ty] (divN x (2 ^ y.toNat)) := by
  unfold TellsI
  intro dp un gd cn cs a ccd cl outer A₀ base h₀ L m news s Q E B F X N T hk hd hu hret
  w_top off
  k_with_none
  refine wpAny_call ?_
  k_dflt cell_enter
  k_steps
  rename Fr h₀ L _ m => kF
  rename News h₀ L _ _ => kN
  exact cb_retI (Q := Q) hret (rsh_eq x y hy hy2) kF (fun p hp => kN p (List.mem_cons_of_mem _ hp))

theorem rsh_use {w : World} {mean : ExcName → Option Value} {mg mb : Str → Option Value} {x y : Int} {tx ty : Tok} {dp un : Nat} {gd : Option (List Code)} {cn : Str} {cs : Scope} {a : Addr} {ccd : Value} {cl : List (Str × Addr)} {outer : List Env} {A₀ : Around} {base h₀ : Heap} {L : Addr} {m : Str → Option Value} {news : List (Addr × Obj)} {s : Shared} {Q E : Value → Shared → Prop}
    (B : Below A₀ base outer h₀) (F : Fr h₀ L s.heap m) (X : (Mine.hd.heap_39 w.params).In h₀) (N : News h₀ L s.heap news) (T : Top Mine.hd.view_39 (looseW Mine.hd.view_39 []) mean mg mb h₀) (hk : cs.kind = .function)
    (hd : dp + 5 < recursionLimit) (hu : un + 60 < cLine) (hy : 0 ≤ y) (hy2 : y < 5)
    (ret : ∀ (t : Tok) (h' : Heap) (tk' : Nat), Fr h₀ L h' m → News h₀ L h' news → Q (.int (divN x (2 ^ y.toNat)) t) { s with heap := h', toks := tk' }) :
    wpAny (model PySem.Challenge.rw_mj0329_01.row.prog w) (ktrTop dp un gd cn cs L a ccd cl outer) (call (.ref 21) [.int x tx, .int y ty]) Q E s :=
  rsh_tells w mean mg mb x y tx ty hy hy2 _ _ _ _ _ _ _ _ _ _ _ _ _ _ _ _ _ _ B F X N T hk hd hu ret

/-- a call that gives back True -/
def TellsT (w : World) (mean : ExcName → Option Value) (mg mb : Str → Option Value) (f : Addr) (vs : List Value) : Prop :=
  ∀ (dp un : Nat) (gd : Option (List Code)) (cn : Str) (cs : Scope) (a : Addr) (ccd : Value) (cl : List (Str × Addr)) (outer : List Env) (A₀ : Around) (base h₀ : Heap) (L : Addr) (m : Str → Option Value) (news : List (Addr × Obj)) (s : Shared) (Q E : Value → Shared → Prop),
    Below A₀ base outer h₀ → Fr h₀ L s.heap m → (Mine.hd.heap_39 w.params).In h₀ → News h₀ L s.heap news → Top Mine.hd.view_39 (looseW Mine.hd.view_39 []) mean mg mb h₀ → cs.kind = .function →
    dp + 20 < recursionLimit → un + 200 < cLine →
    (∀ (h' : Heap) (tk' : Nat), Fr h₀ L h' m → News h₀ L h' news → Q (.bool true) { s with heap := h', toks := tk' }) →
      wpAny (model PySem.Challenge.rw_mj0329_01.row.prog w) (ktrTop dp un gd cn cs L a ccd cl outer) (call (.ref f) vs) Q E s

local macro_rules | `(tactic| walk_at "call ref") => `(tactic| k_dflt (k_here; (with_reducible show wpAny _ _ (call (Value.ref 21) [Value.int _ _, Value.int _ _]) _ _ _); k_dflt (refine' rsh_use ?k1 ?k2 ?k3 ?k4 ?k5 ?kK ?kd ?ku ?h1 ?h2 ?_); (case k1 => k_asm); (case k2 => k_asm); (case k3 => k_asm); (case k4 => k_asm); (case k5 => k_asm); (case kK => first | exact rfl | assumption); (case kd => ktr_room); (case ku => ktr_units); (case h1 => omega); (case h2 => omega); intro t9 h9 tk9 F9 N9; (try dsimp only); (try k_fold)))
local macro_rules | `(tactic| walk_at "call ref") => `(tactic| k_dflt (k_here; (with_reducible show wpAny _ _ (call (Value.ref 40) [Value.int _ _, Value.int _ _, Value.int _ _]) _ _ _); k_dflt (refine' tellsL_use ?k1 ?k2 ?k3 ?k4 ?k5 ?kK ?kd ?ku (drawn_tells _ _ _ _ _ _ _ _ _ _ ?h1 ?h2 ?h3 ?h4 ?h5 ?h6) ?_); (case k1 => k_asm); (case k2 => k_asm); (case k3 => k_asm); (case k4 => k_asm); (case k5 => k_asm); (case kK => first | exact rfl | assumption); (case kd => ktr_room); (case ku => ktr_units); (case h1 => omega); (case h2 => omega); (case h3 => omega); (case h4 => omega); (case h5 => omega); (case h6 => omega); intro l9 ws9 c9 h9 tk9 F9 N9 I9 O9; (try simp only [LCg.Off1, and_true] at O9); (try dsimp only); (try k_fold)))
local macro_rules | `(tactic| walk_at "call ref") => `(tactic| k_dflt (k_here; (with_reducible show wpAny _ _ (call (Value.ref 35) [Value.int _ _, Value.int _ _, Value.int _ _]) _ _ _); k_dflt (refine' tellsL_use ?k1 ?k2 ?k3 ?k4 ?k5 ?kK ?kd ?ku (walked_tells _ _ _ _ _ _ _ _ _ _ ?h1 ?h2 ?h3 ?h4 ?h5 ?h6) ?_); (case k1 => k_asm); (case k2 => k_asm); (case k3 => k_asm); (case k4 => k_asm); (case k5 => k_asm); (case kK => first | exact rfl | assumption); (case kd => ktr_room); (case ku => ktr_units); (case h1 => omega); (case h2 => omega); (case h3 => omega); (case h4 => omega); (case h5 => omega); (case h6 => omega); intro l9 ws9 c9 h9 tk9 F9 N9 I9 O9; (try simp only [LCg.Off1, and_true] at O9); (try dsimp only); (try k_fold)))

/-- what the caller has made lies below the new frame -/
structure Ap (d : Addr) (news : List (Addr × Obj)) : Prop where
  lt : ∀ p ∈ news, p.1 < d
theorem Ap.ne {d c : Addr} {news : List (Addr × Obj)} (h : Ap d news) (hc : @LE.le Nat _ d c) : ∀ p ∈ news, p.1 ≠ c :=
  fun p hp e => by
    have h1 : @LT.lt Nat _ p.1 d := h.lt p hp
    have h2 : @Eq Nat p.1 c := e
    omega
local macro_rules | `(tactic| k_all) => `(tactic| exact Ap.ne (by assumption) (by omega))

local macro_rules | `(tactic| walk_at "exec For Name Call cons nil") => `(tactic| k_dflt (k_here; (with_reducible show wpAny _ _ (exec (Stmt.For (Expr.Name _ _) _ _ [] _) (envOfC _ _ _ _ _)) _ _ _); refine For_cell ?_))
local macro_rules | `(tactic| walk_at "pyIter ref") => `(tactic| k_dflt (k_here; (with_reducible show wpAny _ _ (pyIter (Value.ref _)) (fun it s₂ => CLoop _ _ _ _ _ _ _ _ _ it s₂) _ _); (rename Fr _ _ _ _ => lF'); (rename News _ _ _ _ => lN'); (rename IsRange _ _ _ _ _ _ _ _ => rgX); (with_unfolding_all refine' cell_range [Str.ofString "sums"] (by rfl) rgX ?sm ?sz lF' lN' ?hk ?hx ?hc ?U ?hd ?_ ?_); (case sm => first | exact small_one (by omega) (by omega) (by omega) (by omega) | decide); (case sz => first | exact rangeSize_nat _ _ | rfl); (case hk => rfl); (case hx => rfl); (case hc => rfl); (case U => k_updF); (case hd => k_asm); (clear lF' lN'); (all_goals first | (intro k' t' I' oI' oc' u' h' tk' lo' hi' dc' F' N'; (try dsimp only at N'); (try dsimp only); (try k_fold)) | (intro oc' v' u' h' tk' dc' F' N'; (try dsimp only at N'); (try dsimp only); (try k_fold)))))
local macro_rules | `(tactic| walk_at "CPost") => `(tactic| k_dflt (dsimp only [CPost]))
local macro_rules | `(tactic| walk_at "CEnd") => `(tactic| k_dflt (refine' CEnd.intro ?F ?N ?hn ?hd ?hm; (case F => k_asm); (case N => k_asm); (case hn => ((try dsimp only); kst_allIn)); (case hd => k_asm); (case hm => (intro z h3; (simp only [List.contains_cons, List.contains_nil, Bool.or_false, Bool.or_eq_false_iff, beq_eq_false_iff_ne, ne_eq] at h3); (simp [h3]; done)))))

theorem ci_el {h₀ : Heap} {L I C D : Addr} {m : Str → Option Value} {s₁ : Shared} {oI oC oD : Obj} {S : List (Addr × Obj) → Prop} {h' : Heap} {tk : Nat} {all news : List (Addr × Obj)} {l R : List Int} {a : Int} {t : Tok}
    (F : Fr h₀ L h' m) (N : News h₀ L h' all) (sub : ∀ p ∈ (I, oI) :: (C, oC) :: (D, oD) :: news, p ∈ all) (off : LCg.Off3 I C D news) (hS : S news) (e : R = l ++ [a]) :
    LCg.CompEnd h₀ L m s₁ I oI C oC D oD S (fun y news' => KCiEl news l R y news') (.int a t) { s₁ with heap := h', toks := tk } :=
  LCg.CompEnd.intro F N news sub off hS ⟨rfl, a, t, rfl, e⟩
theorem ci_no {h₀ : Heap} {L I C D : Addr} {m : Str → Option Value} {s₁ : Shared} {oI oC oD : Obj} {S : List (Addr × Obj) → Prop} {h' : Heap} {tk : Nat} {all news : List (Addr × Obj)} {l R : List Int}
    (F : Fr h₀ L h' m) (N : News h₀ L h' all) (sub : ∀ p ∈ (I, oI) :: (C, oC) :: (D, oD) :: news, p ∈ all) (off : LCg.Off3 I C D news) (hS : S news) (e : R = l) :
    LCg.CompEnd h₀ L m s₁ I oI C oC D oD S (fun _ news' => KCiNo news l R news') Value.none { s₁ with heap := h', toks := tk } :=
  LCg.CompEnd.intro F N news sub off hS ⟨rfl, e⟩
local macro_rules | `(tactic| walk_at "CompEnd") => `(tactic| k_dflt (k_dflt (first | (refine' ci_el ?F ?N ?sub ?off ?hS ?e) | (refine' ci_no ?F ?N ?sub ?off ?hS ?e)); (case F => k_asm); (case N => k_asm); (case sub => kcf_all); (case off => first | assumption | (simp only [LCg.Off3, and_true]; assumption)); (case hS => first | lcg_src | assumption); (case e => first | exact halfG_pos (by assumption) | exact halfG_neg (by assumption))))

theorem item_led {prog : Program} {w : World} {A : Around} {E : Value → Shared → Prop} {s : Shared} {h₀ : Heap} {L l : Addr} {news : List (Addr × Obj)} {value slice : PySem.Expr} {vs : List Value} {ns : List Int} {k : Int} {u : Tok} {c : Nat} {Q : Value → Shared → Prop} (N : News h₀ L s.heap news) (hm : (l, PySem.W.listOf vs.toArray c) ∈ news) (hi : IntsAre vs ns)
    (h0 : 0 ≤ k) (h1 : k < ns.length) (hfit : k < 2 ^ 63) (h : ∀ t, Q (.int (ns.getD k.toNat 0) t) s)
    (hs : subscripted slice false (.ref l) (.int k u) = operate [.ref l, .int k u] (getItem (.ref l) (.int k u)) := by with_unfolding_all rfl) :
    wpAny (model prog w) A (subscriptTail value slice (.ref l) (.int k u)) Q E s := item_anyK (News.isList N hm) hi h0 h1 hfit h hs
local macro_rules | `(tactic| walk_at "subscriptTail Name BinOp ref int") => `(tactic| k_dflt (k_here; (with_reducible show wpAny _ _ (subscriptTail _ _ (Value.ref _) (Value.int _ _)) _ _ _); refine' item_led ?k0 ?k1 ?k2 ?k3 ?k4 ?k5 ?_; (case k0 => with_reducible assumption); (case k1 => k_mem); (case k2 => with_reducible assumption); (case k3 => omega); (case k4 => omega); (case k5 => omega); intro _))
local macro_rules | `(tactic| walk_at "subscriptTail Name Name ref int") => `(tactic| k_dflt (k_here; (with_reducible show wpAny _ _ (subscriptTail _ _ (Value.ref _) (Value.int _ _)) _ _ _); refine' item_led ?k0 ?k1 ?k2 ?k3 ?k4 ?k5 ?_; (case k0 => with_reducible assumption); (case k1 => k_mem); (case k2 => with_reducible assumption); (case k3 => omega); (case k4 => omega); (case k5 => omega); intro _))


/-- a run of one statement that goes on -/
structure Goes (Mid : Shared → Prop) (f : Flow) (s' : Shared) : Prop where
  next : f = .next
  mid : Mid s'
theorem cut_at {M : Model} {A : Around} {env : Env} {E : Value → Shared → Prop} {Q : Flow → Shared → Prop} (Mid : Shared → Prop) {st : Stmt} {rest : List Stmt} {s : Shared}
    (h1 : wpAny M A (exec st env) (Goes Mid) E s) (h2 : ∀ s', Mid s' → wpAny M A (execs rest env) Q E s') : wpAny M A (execs (st :: rest) env) Q E s :=
  execs_mid Mid (wpAny_mono h1 (fun f s' h => by cases h.next; exact h.mid) fun _ _ e => e) h2

/-- how things stand between two statements of _law_right -/
inductive Mid (g' : Heap) (L' : Nat) (x y z : Int) (tx ty tz : Tok) (news : List (Addr × Obj)) (s : Shared) (m' : (Str → Option Value) → Str → Option Value) : Shared → Prop
  | mk {h : Heap} {tk : Nat} {u : Str → Option Value} {l : Nat} {ws : List Value} {c : Nat} {o1 o2 o3 o4 o5 o6 : Obj} {v1 v2 : Option Value}
    (F : Fr g' L' h (m' u)) (N : News g' L' h ((l, PySem.W.listOf ws.toArray c) :: (L' + 1 + 1 + 1 + 1 + 1 + 1, o1) :: (L' + 1 + 1 + 1 + 1 + 1, o2) :: (L' + 1 + 1 + 1 + 1, o3) :: (L' + 1 + 1 + 1, o4) :: (L' + 1 + 1, o5) :: (L' + 1, o6) :: news))
    (I : IntsAre ws (drawn x y z)) (O : L' + 1 + 1 + 1 + 1 + 1 + 1 ≠ l ∧ L' + 1 + 1 + 1 + 1 + 1 ≠ l ∧ L' + 1 + 1 + 1 + 1 ≠ l ∧ L' + 1 + 1 + 1 ≠ l ∧ L' + 1 + 1 ≠ l ∧ L' + 1 ≠ l ∧ LCg.Off1 l news)
    (d1 : o1.data = .cell v1) (d2 : o2.data = .cell v2) (d3 : o3.data = .cell (some (.ref l))) (d4 : o4.data = .cell (some (.int z tz))) (d5 : o5.data = .cell (some (.int y ty))) (d6 : o6.data = .cell (some (.int x tx))) :
    Mid g' L' x y z tx ty tz news s m' { s with heap := h, toks := tk }

/-- what half is -/
inductive HalfIs (x y : Int) : Int → Prop
  | zero (h : List.foldl (halfG x y) [] (rangeKs 0 (x - 0).toNat) = []) : HalfIs x y 0
  | one : HalfIs x y 1
theorem half_is0 {x y : Int} (h : decide (List.foldl (fun l' k' => halfG x y l' k') [] (rangeKs 0 (x - 0).toNat) = []) = true) : HalfIs x y 0 := .zero (of_decide_eq_true h)
theorem half_is1 {x y : Int} : HalfIs x y 1 := .one
def MidH (g' : Heap) (L' : Nat) (x y z : Int) (tx ty tz : Tok) (news : List (Addr × Obj)) (s s' : Shared) : Prop :=
  ∃ (H : Int) (tH : Tok), HalfIs x y H ∧ Mid g' L' x y z tx ty tz news s (fun u z => if z = Str.ofString "half" then some (.int H tH) else if [Str.ofString "sums"].contains z then u z else none) s'

theorem sums_mem {x y z k v : Int} (hv : v ∈ List.map (fun k' => (drawn x y z).getD (k' + k).toNat 0 - (drawn x y z).getD k'.toNat 0) (rangeKs 0 (x + 1 - k - 0).toNat)) (h0 : 1 ≤ k) (hk : k ≤ x) :
    ∃ i : Nat, ((i + k.toNat : Nat) : Int) ≤ x ∧ v = (drawn x y z).getD (i + k.toNat) 0 - (drawn x y z).getD i 0 := by
  obtain ⟨j, hj, rfl⟩ := List.mem_map.mp hv
  have := mem_rangeKs hj
  refine ⟨j.toNat, by omega, ?_⟩
  rw [show (j + k).toNat = j.toNat + k.toNat by omega]
theorem bal_end {x y z H k M m : Int} (hx : 1 ≤ x) (hH : HalfIs x y H) (h0 : 1 ≤ k) (hk : k < 1 + ((x + 1 - 1).toNat : Int)) (hc : 1 + H < M - m)
    (hM : M ∈ List.map (fun k' => (drawn x y z).getD (k' + k).toNat 0 - (drawn x y z).getD k'.toNat 0) (rangeKs 0 (x + 1 - k - 0).toNat))
    (hm : m ∈ List.map (fun k' => (drawn x y z).getD (k' + k).toNat 0 - (drawn x y z).getD k'.toNat 0) (rangeKs 0 (x + 1 - k - 0).toNat)) : False := by
  obtain ⟨i, hi, rfl⟩ := sums_mem hM h0 (by omega)
  obtain ⟨j, hj, rfl⟩ := sums_mem hm h0 (by omega)
  cases hH with
  | zero hh =>
    have := balance1 (z := z) hx hh hi hj
    omega
  | one =>
    have := balance (y := y) (z := z) hx hi hj
    omega
theorem sums_len {x k : Int} {f : Int → Int} (hx : 1 ≤ x) (hk : k < 1 + ((x + 1 - 1).toNat : Int)) : 0 < (List.map f (rangeKs 0 (x + 1 - k - 0).toNat)).length := by
  rw [List.length_map, rangeKs_length]; omega

section
variable {prog : Program} {w : World} {A : Around} {E : Value → Shared → Prop} {s : Shared} {h₀ : Heap} {L l : Addr} {m : Str → Option Value} {news : List (Addr × Obj)} {vs : List Value} {ns : List Int} {Q : Value → Shared → Prop}
theorem max_led (F : Fr h₀ L s.heap m) (N : News h₀ L s.heap news) (hm : (l, LCg.lst vs) ∈ news) (hi : IntsAre vs ns) (hne : 0 < ns.length) (hh : A.handled = none)
    (h : ∀ h' M (t : Tok) tk, Fr h₀ L h' m → News h₀ L h' news → M ∈ ns → Q (.int M t) { s with heap := h', toks := tk }) : wpAny (model prog w) A (call (.builtin "max") [.ref l]) Q E s :=
  kso_max F N (News.isList N hm) hi hne hh fun h' M t tk F' N' a _ => h h' M t tk F' N' a
theorem min_led (F : Fr h₀ L s.heap m) (N : News h₀ L s.heap news) (hm : (l, LCg.lst vs) ∈ news) (hi : IntsAre vs ns) (hne : 0 < ns.length) (hh : A.handled = none)
    (h : ∀ h' M (t : Tok) tk, Fr h₀ L h' m → News h₀ L h' news → M ∈ ns → Q (.int M t) { s with heap := h', toks := tk }) : wpAny (model prog w) A (call (.builtin "min") [.ref l]) Q E s :=
  kso_min F N (News.isList N hm) hi hne hh fun h' M t tk F' N' a _ => h h' M t tk F' N' a
end
local macro_rules | `(tactic| walk_at "call builtin:max") => `(tactic| k_dflt (k_here; (with_reducible show wpAny _ _ (call (Value.builtin _) [Value.ref _]) _ _ _); refine' max_led ?k1 ?k2 ?k3 ?k4 ?k5 ?k6 ?_; (case k1 => k_asm); (case k2 => k_asm); (case k3 => k_mem); (case k4 => with_reducible assumption); (case k5 => exact sums_len (by with_reducible assumption) (by with_reducible assumption)); (case k6 => rfl); intro h' M' t' k' F' N' a'; (try k_sweep)))
local macro_rules | `(tactic| walk_at "call builtin:min") => `(tactic| k_dflt (k_here; (with_reducible show wpAny _ _ (call (Value.builtin _) [Value.ref _]) _ _ _); refine' min_led ?k1 ?k2 ?k3 ?k4 ?k5 ?k6 ?_; (case k1 => k_asm); (case k2 => k_asm); (case k3 => k_mem); (case k4 => with_reducible assumption); (case k5 => exact sums_len (by with_reducible assumption) (by with_reducible assumption)); (case k6 => rfl); intro h' M' t' k' F' N' a'; (try k_sweep)))

section
variable {prog : Program} {w : World} {A : Around} {E : Value → Shared → Prop} {s : Shared} {h h₀ : Heap} {L l : Addr} {m : Str → Option Value} {news : List (Addr × Obj)} {value slice : PySem.Expr} {vs : List Value} {ns : List Int} {ops : List Value} {Q : Value → Shared → Prop} {t c tk : Nat}
theorem cut_rev_led (F : Fr h₀ L h m) (N : News h₀ L h news) (hm : (l, PySem.W.listOf vs.toArray c) ∈ news) (hi : IntsAre vs ns)
    (hk : ∀ D ws h', Fr h₀ L h' m → News h₀ L h' ((D, PySem.W.listOf (List.toArray ws) 0) :: news) → (∀ p ∈ news, p.1 < D) → IntsAre ws ns.reverse → Q (.ref D) { heap := h', gens := s.gens, drawn := s.drawn, toks := tk, os := s.os })
    (hs : subscripted slice false (.ref l) (.ref h.objs.size) = operate ops (getItem (.ref l) (.ref h.objs.size))) (hsz : vs.toArray.size ≤ sizeLine) :
    wpAny (model prog w) A (subscriptTail value slice (.ref l) (.ref h.objs.size)) Q E { heap := h.push { cls := .type "slice", data := .fields #[.none, .none, .int (-1) t] }, gens := s.gens, drawn := s.drawn, toks := tk, os := s.os } :=
  cut_rev (s := { heap := h, gens := s.gens, drawn := s.drawn, toks := tk, os := s.os }) F N (News.isList N hm) (IsPart.int _ _) hi hk hs hsz
theorem cut_evens_led (F : Fr h₀ L h m) (N : News h₀ L h news) (hm : (l, PySem.W.listOf vs.toArray c) ∈ news) (hi : IntsAre vs ns)
    (hk : ∀ D ws h', Fr h₀ L h' m → News h₀ L h' ((D, PySem.W.listOf (List.toArray ws) 0) :: news) → (∀ p ∈ news, p.1 < D) → IntsAre ws (evens ns) → Q (.ref D) { heap := h', gens := s.gens, drawn := s.drawn, toks := tk, os := s.os })
    (hs : subscripted slice false (.ref l) (.ref h.objs.size) = operate ops (getItem (.ref l) (.ref h.objs.size))) (hsz : vs.toArray.size ≤ sizeLine) :
    wpAny (model prog w) A (subscriptTail value slice (.ref l) (.ref h.objs.size)) Q E { heap := h.push { cls := .type "slice", data := .fields #[.none, .none, .int 2 t] }, gens := s.gens, drawn := s.drawn, toks := tk, os := s.os } :=
  cut_evens (s := { heap := h, gens := s.gens, drawn := s.drawn, toks := tk, os := s.os }) F N (News.isList N hm) (IsPart.int _ _) hi hk hs hsz
theorem small_size {x y z : Int} (hi : IntsAre vs (drawn x y z)) (hx : 1 ≤ x) (hx2 : x ≤ 24) : vs.toArray.size ≤ sizeLine := by
  have e := hi.length
  have e2 := drawn_length (y := y) (z := z) hx
  rw [List.size_toArray, PySem.sizeLine_eq]
  omega
end
local macro_rules | `(tactic| walk_at "subscriptTail Call") => `(tactic| k_dflt (k_here; (with_reducible show wpAny _ _ (subscriptTail _ (PySem.Expr.Slice none none (some _) _) (Value.ref _) (Value.ref _)) _ _ _); (rename IntsAre _ _ => lI'); (first | (refine' cut_rev_led ?F ?N ?M lI' ?_ ?s ?z) | (refine' cut_evens_led ?F ?N ?M lI' ?_ ?s ?z)); (case F => k_asm); (case N => k_asm); (case M => k_mem); (case s => with_unfolding_all rfl); (case z => exact small_size lI' (by omega) (by omega)); intro D' ws' h' F' N' l1 hI'; (try k_lt l1); (try k_sweep)))

theorem news_tail {h₀ h : Heap} {L : Addr} {a : Addr × Obj} {news : List (Addr × Obj)} (N : News h₀ L h (a :: news)) : News h₀ L h news := fun p hp => N p (List.mem_cons_of_mem _ hp)

set_option maxHeartbeats 8000000 in
theorem right_tells (w : World) (mean : ExcName → Option Value) (mg mb : Str → Option Value) (x y z : Int) (tx ty tz : Tok) (hy : 1 ≤ x) (hy2 : x ≤ 12) (h1 : -30 ≤ y) (h2 : y ≤ 30) (h3 : -4 ≤ z) (h4 : z ≤ 4) :
    TellsT w mean mg mb 45 [.int x tx, .int y ty, .int z tz] := by
  unfold TellsT
  intro dp un gd cn cs a ccd cl outer A₀ base h₀ L m news s Q E B F X N T hk hd hu hret
  w_top off
  k_with_none
  have hlen := drawn_length (x := x) (y := y) (z := z) hy
  k_with "CompSrcT" => (k_here; k_dflt (refine LCt.CompSrcT.range (by rfl) (by k_asm) (by k_asm) (by assumption) (by exact small_one (by omega) (by omega) (by omega) (by omega)) (by exact rangeSize_nat _ _) (by rw [PySem.sizeLine_eq]; omega) ?_; intro g'; (refine' kci_range (halfG x y) (fun k' t' I' oI' C' oC' D' m' ys' l' h' tk' E' hlo' hhi' hI' hC' hx' F' N' off' ne' => ?_) ?_ (halfG_grows x y)); (all_goals (try (simp only [LCg.Off3, and_true] at off'))); (all_goals (try ((show KPfMark → _); intro hMark'))); kcf_last))
  refine wpAny_call ?_
  k_dflt (refine' code_defC ?k1 ?k2 ?k3 ?k4 ?k5 ?kA ?kF ?kK ?k6 ?k7 ?k8 ?k9 ?kB ?kD ?_ ?c2 ?c3 ?c4; (case kA => exact rfl); (case kF => exact rfl); (case kK => assumption); (case k1 => k_asm); (case k2 => k_asm); (case k3 => k_asm); (case k4 => k_asm); (case k5 => k_asm); (case k6 => k_is); (case k7 => k_is); (case k8 => ktr_room); (case k9 => exact BindsTo.of_eq rfl); (case kB => exact rfl); (case kD => decide +kernel); (case c2 => exact rfl); (case c3 => exact rfl); (case c4 => exact rfl); k_whole; intro g' L' h' tk' cells' FG' F' N' Y' B' X' T' l1; (have hAp := Ap.mk l1); (obtain ⟨o1, o2, o3, o4, o5, o6, hE, d1, d2, d3, d4, d5, d6⟩ := PyProof.Rows.kc_six Y'); subst hE; clear Y'; (try simp only [List.cons_append, List.nil_append] at N'); (try dsimp only); (try k_lift B'); (try k_fold))
  replace d1 : o1.data = Data.cell none := d1
  replace d2 : o2.data = Data.cell none := d2
  replace d3 : o3.data = Data.cell none := d3
  replace d4 : o4.data = Data.cell (some (Value.int z tz)) := d4
  replace d5 : o5.data = Data.cell (some (Value.int y ty)) := d5
  replace d6 : o6.data = Data.cell (some (Value.int x tx)) := d6
  replace F' : Fr g' L' h' (fun _ => none) := F'
  clear N F X T
  refine cut_at (Mid g' L' x y z tx ty tz news s (fun _ _ => none)) ?_ ?_
  · skip
    k_steps
    rename Fr g' L' _ _ => kF
    rename News g' L' _ _ => kN
    rename IntsAre _ (drawn x y z) => kI
    rename _ ≠ _ ∧ _ ≠ _ ∧ _ ≠ _ ∧ _ ≠ _ ∧ _ ≠ _ ∧ _ ≠ _ ∧ LCg.Off1 _ _ => kO
    rename _ = Data.cell (some (Value.ref _)) => kD
    exact ⟨rfl, Mid.mk (u := fun _ => none) kF kN kI kO d1 d2 kD d4 d5 d6⟩
  clear N' F' d1 d2 d3 d4 d5 d6 o1 o2 o3 o4 o5 o6 h' tk'
  rintro s' ⟨F', N', I', O', d1, d2, d3, d4, d5, d6⟩
  refine cut_at (Mid g' L' x y z tx ty tz news s (fun _ _ => none)) ?_ ?_
  · skip
    k_steps
    · exact absurd (drawn_ends hy) (by assumption)
    · exact absurd (drawn_first hy) (by assumption)
    · rename Fr g' L' _ _ => kF
      rename News g' L' _ _ => kN
      exact ⟨rfl, Mid.mk (u := fun _ => none) kF (news_tail kN) I' O' d1 d2 d3 d4 d5 d6⟩
  clear F' N' I' O' d1 d2 d3 d4 d5 d6
  rintro s' ⟨F', N', I', O', d1, d2, d3, d4, d5, d6⟩
  refine cut_at (Mid g' L' x y z tx ty tz news s (fun u z => if [Str.ofString "sums"].contains z then u z else none)) ?_ ?_
  · skip
    k_steps
    · exact absurd (drawn_shift (by assumption)) (by assumption)
    · rename Fr g' L' _ _ => kF
      rename News g' L' _ _ => kN
      exact ⟨rfl, Mid.mk kF kN I' O' d1 (by assumption) d3 d4 d5 d6⟩
  clear F' N' I' O' d1 d2 d3 d4 d5 d6
  rintro s' ⟨F', N', I', O', d1, d2, d3, d4, d5, d6⟩
  refine cut_at (MidH g' L' x y z tx ty tz news s) ?_ ?_
  · skip
    k_steps
    case _ =>
      rename Fr g' L' _ _ => kF
      rename News g' L' _ _ => kN
      rename decide _ = true => kH
      exact ⟨rfl, _, _, half_is0 kH, Mid.mk kF (news_tail (news_tail kN)) I' O' d1 d2 d3 d4 d5 d6⟩
    case _ =>
      rename Fr g' L' _ _ => kF
      rename News g' L' _ _ => kN
      exact ⟨rfl, _, _, half_is1, Mid.mk kF (news_tail (news_tail kN)) I' O' d1 d2 d3 d4 d5 d6⟩
    case _ => exact halfG_grows x y
  clear F' N' I' O' d1 d2 d3 d4 d5 d6
  rintro s' ⟨H, tH, hH, F', N', I', O', d1, d2, d3, d4, d5, d6⟩
  refine cut_at (Mid g' L' x y z tx ty tz news s (fun u => u)) ?_ ?_
  · skip
    k_steps
    · exact (bal_end hy hH (by assumption) (by assumption) (by assumption) (by assumption) (by assumption)).elim
    · rename Fr g' L' _ _ => kF
      rename News g' L' _ _ => kN
      exact ⟨rfl, Mid.mk kF kN I' O' (by assumption) d2 d3 d4 d5 d6⟩
  clear F' N' I' O' d1 d2 d3 d4 d5 d6
  rintro s' ⟨F', N', I', O', d1, d2, d3, d4, d5, d6⟩
  refine cut_at (Mid g' L' x y z tx ty tz news s (fun u => u)) ?_ ?_
  · skip
    k_steps
    · rename Fr g' L' _ _ => kF
      rename News g' L' _ _ => kN
      exact ⟨rfl, Mid.mk kF (news_tail (news_tail kN)) I' O' d1 d2 d3 d4 d5 d6⟩
    · exact absurd (drawn_mirror hy) (by assumption)
  clear F' N' I' O' d1 d2 d3 d4 d5 d6
  rintro s' ⟨F', N', I', O', d1, d2, d3, d4, d5, d6⟩
  k_steps
  · rename Fr g' L' _ _ => kF
    rename News g' L' _ _ => kN
    rw [decide_eq_true (drawn_double (y := y) (z := z) hy)]
    refine leaveK_ kF kN fun kF' kN' => ?_
    exact hret _ _ kF' fun p hp => kN' p (by repeat (first | exact hp | refine List.mem_cons_of_mem _ ?_))
  · exact absurd (drawn_back hy) (by assumption)

theorem sign_no {n : Nat} (h : (n : Int) - (n : Int).fmod 3 < 0) : False := by
  rw [Int.fmod_eq_emod_of_nonneg _ (by decide)] at h
  omega
theorem nums_len {l : List Int} : (l.take ((l.length : Int) - (l.length : Int).fmod 3).toNat ++ [6, 13, 1, 5, 33, 3, 3, 36, 4]).length % 3 = 0 ∧ (l.take ((l.length : Int) - (l.length : Int).fmod 3).toNat ++ [6, 13, 1, 5, 33, 3, 3, 36, 4]).length ≤ l.length + 9 := by
  rw [Int.fmod_eq_emod_of_nonneg _ (by decide)]
  simp only [List.length_append, List.length_take, List.length_cons, List.length_nil]
  omega

theorem size_three {n : Nat} (h : n % 3 = 0) : Builtin.Range.rangeSize 0 (n : Int) 3 = ((n / 3 : Nat) : Int) := by
  unfold Builtin.Range.rangeSize
  simp only [show (3 : Int) > 0 by decide, if_true]
  split <;> omega
theorem small_three {n : Nat} (h : n % 3 = 0) (hl : n ≤ 15) : Builtin.Range.small 0 (n : Int) 3 = true := by
  have e : n = 0 ∨ n = 3 ∨ n = 6 ∨ n = 9 ∨ n = 12 ∨ n = 15 := by omega
  rcases e with rfl | rfl | rfl | rfl | rfl | rfl <;> decide
theorem turns_three {n : Nat} (h : n % 3 = 0) : ∀ i : Nat, i < n / 3 → 0 ≤ 0 + (i : Int) * 3 ∧ 0 + (i : Int) * 3 + 2 < (n : Int) := fun i hi => by omega
theorem news_head {h₀ h : Heap} {L : Addr} {a : Addr × Obj} {news : List (Addr × Obj)} (N : News h₀ L h (a :: news)) : News h₀ L h [a] := fun p hp => N p (by rw [List.mem_singleton.mp hp]; exact List.mem_cons_self)
theorem fm_lo12 (v : Int) : 1 ≤ v.fmod 12 + 1 := by have := Int.fmod_nonneg_of_pos v (b := 12) (by decide); omega
theorem fm_hi12 (v : Int) : v.fmod 12 + 1 ≤ 12 := by have := Int.fmod_lt_of_pos v (b := 12) (by decide); omega
theorem fm_lo61 (v : Int) : -30 ≤ v.fmod 61 - 30 := by have := Int.fmod_nonneg_of_pos v (b := 61) (by decide); omega
theorem fm_hi61 (v : Int) : v.fmod 61 - 30 ≤ 30 := by have := Int.fmod_lt_of_pos v (b := 61) (by decide); omega
theorem fm_lo9 (v : Int) : -4 ≤ v.fmod 9 - 4 := by have := Int.fmod_nonneg_of_pos v (b := 9) (by decide); omega
theorem fm_hi9 (v : Int) : v.fmod 9 - 4 ≤ 4 := by have := Int.fmod_lt_of_pos v (b := 9) (by decide); omega

theorem tellsT_use {w : World} {mean : ExcName → Option Value} {mg mb : Str → Option Value} {f : Addr} {vs : List Value} {dp un : Nat} {gd : Option (List Code)} {cn : Str} {cs : Scope} {a : Addr} {ccd : Value} {cl : List (Str × Addr)} {outer : List Env} {A₀ : Around} {base h₀ : Heap} {L : Addr} {m : Str → Option Value} {news : List (Addr × Obj)} {s : Shared} {Q E : Value → Shared → Prop}
    (B : Below A₀ base outer h₀) (F : Fr h₀ L s.heap m) (X : (Mine.hd.heap_39 w.params).In h₀) (N : News h₀ L s.heap news) (T : Top Mine.hd.view_39 (looseW Mine.hd.view_39 []) mean mg mb h₀) (hk : cs.kind = .function)
    (hd : dp + 20 < recursionLimit) (hu : un + 200 < cLine) (C : TellsT w mean mg mb f vs)
    (ret : ∀ (h' : Heap) (tk' : Nat), Fr h₀ L h' m → News h₀ L h' news → Q (.bool true) { s with heap := h', toks := tk' }) :
    wpAny (model PySem.Challenge.rw_mj0329_01.row.prog w) (ktrTop dp un gd cn cs L a ccd cl outer) (call (.ref f) vs) Q E s :=
  C _ _ _ _ _ _ _ _ _ _ _ _ _ _ _ _ _ _ B F X N T hk hd hu ret

local macro_rules | `(tactic| walk_at "call ref") => `(tactic| k_dflt (k_here; (with_reducible show wpAny _ _ (call (Value.ref 45) [Value.int _ _, Value.int _ _, Value.int _ _]) _ _ _); k_dflt (refine' tellsT_use ?k1 ?k2 ?k3 ?k4 ?k5 ?kK ?kd ?ku (right_tells _ _ _ _ _ _ _ _ _ _ (fm_lo12 _) (fm_hi12 _) (fm_lo61 _) (fm_hi61 _) (fm_lo9 _) (fm_hi9 _)) ?_); (case k1 => k_asm); (case k2 => k_asm); (case k3 => k_asm); (case k4 => k_asm); (case k5 => k_asm); (case kK => first | exact rfl | assumption); (case kd => ktr_room); (case ku => ktr_units); intro h9 tk9 F9 N9; (try dsimp only); (try k_fold)))
local macro_rules | `(tactic| walk_at "exec For Name Call cons nil") => `(tactic| k_dflt (k_here; (with_reducible show wpAny _ _ (exec (Stmt.For (Expr.Name _ _) _ _ [] _) (envOf _ _ _ _ _)) _ _ _); refine For_cell ?_))
local macro_rules | `(tactic| walk_at "pyIter ref") => `(tactic| k_dflt (k_here; (with_reducible show wpAny _ _ (pyIter (Value.ref _)) (fun it s₂ => CLoop _ _ _ _ _ _ _ _ _ it s₂) _ _); (rename Fr _ _ _ _ => lF'); (rename News _ _ _ _ => lN'); (rename IsRange _ _ _ _ _ _ _ _ => rgX); (rename _ % 3 = 0 => l3'); (with_unfolding_all refine' step_range (fun k => 0 ≤ k ∧ k + 2 < _) (by rfl) rgX (small_three l3' ?sm) (size_three l3') lF' lN' ?hk ?hx (turns_three l3') ?_ ?_); (case sm => assumption); (case hk => rfl); (case hx => rfl); (clear lF' lN'); (all_goals first | (intro k' t' I' oI' h' tk' lo' F' N'; (try dsimp only at N'); (try dsimp only); (try k_fold)) | (intro u' h' tk' F' N'; (try dsimp only at N'); (try dsimp only); (try k_fold)))))
local macro_rules | `(tactic| walk_at "SPost") => `(tactic| k_dflt (dsimp only [SPost]))
local macro_rules | `(tactic| walk_at "SEnd") => `(tactic| k_dflt (refine' SEnd.intro ?F ?N ?hn ?hm; (case F => k_asm); (case N => k_asm); (case hn => ((try dsimp only); kst_allIn)); (case hm => (intro z h3; (simp [h3]; done)))))

/-- behind the law's first statement -/
inductive LawA (h₀ : Heap) (L : Nat) (s : Shared) : Shared → Prop
  | mk {h : Heap} {tk : Nat} {u : Str → Option Value} {D : Nat} {ws : List Value} (xs : List Int) (F : Fr h₀ L h (fun y => if y = Str.ofString "cells" then some (.ref D) else u y)) (N : News h₀ L h [(D, PySem.W.listOf ws.toArray 0)]) (I : IntsAre ws xs) (hl : xs.length ≤ 6) :
    LawA h₀ L s { s with heap := h, toks := tk }
/-- behind its second -/
inductive LawB (h₀ : Heap) (L : Nat) (s : Shared) : Shared → Prop
  | mk {h : Heap} {tk : Nat} {u : Str → Option Value} {D : Nat} {ws : List Value} (ns : List Int) (F : Fr h₀ L h (fun y => if y = Str.ofString "numbers" then some (.ref D) else u y)) (N : News h₀ L h [(D, PySem.W.listOf ws.toArray 0)]) (I : IntsAre ws ns) (h3 : ns.length % 3 = 0) (hl : ns.length ≤ 15) :
    LawB h₀ L s { s with heap := h, toks := tk }

set_option maxHeartbeats 8000000 in
theorem law_end : PySem.Challenge.rw_mj0329_01.Holds := by
  k_with_none
  refine Mine.hd ?_
  k_go0
  all_goals try k_fold
  all_goals dsimp only
  rename_i w s₀ s₁ mg mb G Y fa o pm doc kV ho hg KX X V GL T B TE TW a9 o9 M a7 a6 hcd xs hs hlay0 hL' hr' hl2 b4 b3 ax vs b0 hL ra w1 r0 hI hr hc1 hc2 K0 hD h₁ F N0
  refine cut_at (LawA s₁.heap s₁.heap.objs.size s₁) ?_ ?_
  · k_steps
    rename Fr s₁.heap _ _ _ => kF
    rename News s₁.heap _ _ _ => kN
    rename IntsAre _ (List.take 6 xs) => kI
    exact ⟨rfl, LawA.mk (List.take 6 xs) kF kN kI (by rw [List.length_take]; omega)⟩
  clear F N0
  rintro s' ⟨ys, F, N, I, hl⟩
  refine cut_at (LawB s₁.heap s₁.heap.objs.size s₁) ?_ ?_
  · k_steps
    · exact (sign_no (by assumption)).elim
    · rename Fr s₁.heap _ _ _ => kF
      rename News s₁.heap _ _ _ => kN
      rename IntsAre _ (_ ++ _) => kI
      exact ⟨rfl, LawB.mk _ kF (news_head kN) kI nums_len.1 (Nat.le_trans nums_len.2 (Nat.add_le_add_right hl 9))⟩
  clear F N I
  clear hl
  rintro s' ⟨ns, F, N, I, h3, hl2⟩
  k_steps
end Mine

set_option maxRecDepth 100000 in
set_option maxHeartbeats 8000000 in
theorem PySem.Challenge.cw_mj0329_01_holds : PySem.Challenge.rw_mj0329_01.Holds := by
  exact Mine.law_end
