import PyProof.Rows.All
import Wide.All
import OpenK.AllK
import Wide.FinOn
import PySem.Challenge.RW_ci0001_01
set_option Elab.async false
section
open PySem PySem.W PyProof.Rows
set_option maxRecDepth 100000
set_option maxHeartbeats 8000000
namespace Mine
open_top hd for PySem.Challenge.rw_ci0001_01
end Mine
end
section
open PySem PySem.W PyProof.Rows
set_option maxRecDepth 100000
namespace Mine

/-! bits of natural numbers -/
theorem xor_add_and (b : Nat) : ∀ a : Nat, (a ^^^ b) + 2 * (a &&& b) = a + b := by
  induction b using Nat.strongRecOn with
  | _ b ih =>
    intro a
    by_cases hb : b = 0
    · subst hb; simp
    · have h := ih (b / 2) (by omega) (a / 2)
      have h1 : (a ^^^ b) / 2 = a / 2 ^^^ b / 2 := Nat.xor_div_two
      have h2 : (a &&& b) / 2 = a / 2 &&& b / 2 := Nat.and_div_two
      have h3 : (a ^^^ b) % 2 = 1 ↔ ¬ ((a % 2 = 1) ↔ (b % 2 = 1)) := Nat.xor_mod_two_eq_one
      have h4 : (a &&& b) % 2 = 1 ↔ a % 2 = 1 ∧ b % 2 = 1 := Nat.and_mod_two_eq_one
      rw [← h1, ← h2] at h
      generalize (a ^^^ b) = u at h h3 ⊢
      generalize (a &&& b) = v at h h4 ⊢
      rcases Nat.mod_two_eq_zero_or_one a with x | x <;> rcases Nat.mod_two_eq_zero_or_one b with y | y <;> (rw [x, y] at h3 h4; simp only [reduceCtorEq, Nat.zero_ne_one, false_iff, iff_false, iff_self, not_true_eq_false, not_false_eq_true, true_iff, iff_true, and_self, and_false, false_and, and_true] at h3 h4; omega)
theorem bitAnd_nat (a b : Nat) : Builtin.bitAnd (a : Int) (b : Int) = ((a &&& b : Nat) : Int) := by
  rw [bitAnd_pp (by omega) (by omega)]; simp
theorem bitXor_nat (a b : Nat) : Builtin.bitXor (a : Int) (b : Int) = ((a ^^^ b : Nat) : Int) := by
  rw [bitXor_and, bitAnd_nat]
  have := xor_add_and b a
  omega

/-! one step of the code -/
@[irreducible] def tab (t : Nat) : Nat :=
  (if t.testBit 0 then 1056006543753 else 0) ^^^ (if t.testBit 1 then 730107360018 else 0) ^^^ (if t.testBit 2 then 118834127661 else 0) ^^^
  (if t.testBit 3 then 236335490938 else 0) ^^^ (if t.testBit 4 then 430795026429 else 0)
@[irreducible] def pm (c v : Nat) : Nat := ((c % 34359738368) * 32 ^^^ v) ^^^ tab (c / 34359738368)

theorem tab_lt (t : Nat) : tab t < 2 ^ 40 := by
  unfold tab
  refine Nat.xor_lt_two_pow (Nat.xor_lt_two_pow (Nat.xor_lt_two_pow (Nat.xor_lt_two_pow ?_ ?_) ?_) ?_) ?_ <;> split <;> decide
theorem pm_lt {c v : Nat} (hv : v < 32) : pm c v < 2 ^ 40 := by
  unfold pm
  refine Nat.xor_lt_two_pow (Nat.xor_lt_two_pow ?_ (by omega)) (tab_lt _)
  omega

/-! the step as the walk of polymod says it -/
@[irreducible] def pmI (c v : Int) : Int :=
  let c0 := c.fdiv (2 ^ Int.toNat 35)
  let x0 := Builtin.bitXor (Builtin.bitAnd c 34359738367 * 2 ^ Int.toNat 5) v
  let x1 := if Builtin.bitAnd c0 1 = 0 then x0 else Builtin.bitXor x0 1056006543753
  let x2 := if Builtin.bitAnd c0 2 = 0 then x1 else Builtin.bitXor x1 730107360018
  let x3 := if Builtin.bitAnd c0 4 = 0 then x2 else Builtin.bitXor x2 118834127661
  let x4 := if Builtin.bitAnd c0 8 = 0 then x3 else Builtin.bitXor x3 236335490938
  if Builtin.bitAnd c0 16 = 0 then x4 else Builtin.bitXor x4 430795026429
theorem bitAnd_lit (a : Nat) (k : Nat) (x : Int) (hx : x = (k : Int)) : Builtin.bitAnd (a : Int) x = ((a &&& k : Nat) : Int) := by subst hx; exact bitAnd_nat a k
theorem bitXor_lit (a : Nat) (k : Nat) (x : Int) (hx : x = (k : Int)) : Builtin.bitXor (a : Int) x = ((a ^^^ k : Nat) : Int) := by subst hx; exact bitXor_nat a k
theorem bits32 : ∀ t < 32, (t &&& 1 = 0 ↔ t.testBit 0 = false) ∧ (t &&& 2 = 0 ↔ t.testBit 1 = false) ∧ (t &&& 4 = 0 ↔ t.testBit 2 = false) ∧ (t &&& 8 = 0 ↔ t.testBit 3 = false) ∧ (t &&& 16 = 0 ↔ t.testBit 4 = false) := by decide +kernel
theorem top_nat (c : Nat) : (c : Int).fdiv (2 ^ Int.toNat 35) = ((c / 34359738368 : Nat) : Int) := by
  rw [Int.fdiv_eq_ediv_of_nonneg _ (by decide)]
  rfl
theorem low_nat (c : Nat) : Builtin.bitAnd (c : Int) 34359738367 * 2 ^ Int.toNat 5 = ((c % 34359738368 * 32 : Nat) : Int) := by
  rw [bitAnd_lit c 34359738367 34359738367 rfl, show (34359738367 : Nat) = 2 ^ 35 - 1 from rfl, Nat.and_two_pow_sub_one_eq_mod]
  rfl
theorem ite_xor (b : Prop) [Decidable b] (t : Bool) (hb : b ↔ t = false) (x : Nat) (g : Int) (n : Nat) (hg : g = (n : Int)) : (if b then (x : Int) else Builtin.bitXor (x : Int) g) = ((x ^^^ (if t then n else 0) : Nat) : Int) := by
  subst hg
  cases t with
  | false => rw [if_pos (hb.mpr rfl)]; simp
  | true => rw [if_neg (fun h => by cases hb.mp h)]; exact bitXor_nat _ _
theorem pmI_nat {c v : Nat} (hc : c < 2 ^ 40) : pmI (c : Int) (v : Int) = ((pm c v : Nat) : Int) := by
  have ht : c / 34359738368 < 32 := by omega
  obtain ⟨b0, b1, b2, b3, b4⟩ := bits32 _ ht
  unfold pmI pm tab
  simp only [top_nat, low_nat]
  generalize c / 34359738368 = t at *
  generalize c % 34359738368 * 32 = l
  rw [bitXor_nat]
  rw [bitAnd_lit t 1 1 rfl, bitAnd_lit t 2 2 rfl, bitAnd_lit t 4 4 rfl, bitAnd_lit t 8 8 rfl, bitAnd_lit t 16 16 rfl]
  rw [ite_xor _ _ (by rw [← b0]; omega) _ 1056006543753 1056006543753 rfl, ite_xor _ _ (by rw [← b1]; omega) _ 730107360018 730107360018 rfl, ite_xor _ _ (by rw [← b2]; omega) _ 118834127661 118834127661 rfl,
    ite_xor _ _ (by rw [← b3]; omega) _ 236335490938 236335490938 rfl, ite_xor _ _ (by rw [← b4]; omega) _ 430795026429 430795026429 rfl]
  simp only [Nat.xor_assoc]

/-! the law's own step -/
def gens : List Int := [1056006543753, 730107360018, 118834127661, 236335490938, 430795026429]
def turnI (top r k : Int) : Int := if (top.fdiv (2 ^ k.toNat)).fmod 2 = 1 then Builtin.bitXor r (gens.getD k.toNat 0) else r
theorem turn_yes {top x r k : Int} {pre : List Int} (hr : r = pre.foldl (turnI top) x) (hc : (top.fdiv (2 ^ k.toNat)).fmod 2 = 1) : Builtin.bitXor r (gens.getD k.toNat 0) = (pre ++ [k]).foldl (turnI top) x := by
  rw [List.foldl_append, ← hr]
  simp only [List.foldl_cons, List.foldl_nil, turnI, hc, if_true]
theorem turn_no {top x r k : Int} {pre : List Int} (hr : r = pre.foldl (turnI top) x) (hc : (top.fdiv (2 ^ k.toNat)).fmod 2 ≠ 1) : r = (pre ++ [k]).foldl (turnI top) x := by
  rw [List.foldl_append, ← hr]
  simp only [List.foldl_cons, List.foldl_nil, turnI, if_neg hc]
theorem bit_off (t : Int) (k : Nat) (u : Int) (hu : u = 2 ^ k) : (Builtin.bitAnd t u = 0) ↔ ¬ (t.fdiv (2 ^ k)).fmod 2 = 1 := by
  subst hu
  rw [PySem.W.kbt_bitF]
  have hp := PySem.W.kbt_pos k
  split <;> rename_i h
  · exact ⟨fun e => by omega, fun e => absurd h e⟩
  · exact ⟨fun _ => h, fun _ => rfl⟩
theorem fold5 (c v : Int) : (rangeKs 0 (5 - 0 : Int).toNat).foldl (turnI (c.fdiv (2 ^ Int.toNat 35))) (Builtin.bitXor (Builtin.bitAnd c 34359738367 * 2 ^ Int.toNat 5) v) = pmI c v := by
  have e : rangeKs 0 (5 - 0 : Int).toNat = [0, 1, 2, 3, 4] := by decide
  rw [e]
  unfold pmI
  simp only [List.foldl_cons, List.foldl_nil]
  generalize c.fdiv (2 ^ Int.toNat 35) = t
  simp only [bit_off t 0 1 rfl, bit_off t 1 2 rfl, bit_off t 2 4 rfl, bit_off t 3 8 rfl, bit_off t 4 16 rfl, turnI, ite_not]
  rfl
end Mine
end
section
open PySem PySem.W PyProof.Rows
set_option maxRecDepth 100000
namespace Mine
/-! the alphabet -/
def CS : Str := Str.ofString "0123456789()[],'/*abcdefgh@:$%{}IJKLMNOPQRSTUVWXYZ&+-.;<=>?!^_|~ijklmnopqrstuvwxyzABCDEFGH`#\"\\ "
@[irreducible] def CSL : List Nat := [48, 49, 50, 51, 52, 53, 54, 55, 56, 57, 40, 41, 91, 93, 44, 39, 47, 42, 97, 98, 99, 100, 101, 102, 103, 104, 64, 58, 36, 37, 123, 125, 73, 74, 75, 76, 77, 78, 79, 80, 81, 82, 83, 84, 85, 86, 87, 88, 89, 90, 38, 43, 45, 46, 59, 60, 61, 62, 63, 33, 94, 95, 124, 126, 105, 106, 107, 108, 109, 110, 111, 112, 113, 114, 115, 116, 117, 118, 119, 120, 121, 122, 65, 66, 67, 68, 69, 70, 71, 72, 96, 35, 34, 92, 32]
@[irreducible] def plc (n : Nat) : Int := Txt.find CS ⟨#[n]⟩
theorem CS_cps : CS.cps.toList = CSL := by decide +kernel
theorem CSL_length : CSL.length = 95 := by decide +kernel
/-! the place of one sign in a text without a sign twice -/
section
open PySem.StrLaws PySem.Builtin PySem.Builtin.Str
theorem occ_stays (s sub : Str) (hi : Nat) : ∀ (l : List Nat) (j free : Nat), (forIn l ((#[j] : Array Nat), free) (occBody s sub hi 1)).run.fst = #[j]
  | [], _, _ => rfl
  | a :: l, j, free => by
    rw [List.forIn_cons]
    unfold occBody
    have c : ¬ (((((#[j] : Array Nat), free).fst.size < 1 ∧ ((#[j] : Array Nat), free).snd ≤ a) ∧ a + sub.length ≤ hi) ∧ subAt s sub a = true) := fun h => by
      have := h.1.1.1
      simp at this
    rw [if_neg c]
    exact occ_stays s sub hi l j free
theorem occ_first (s sub : Str) (hi : Nat) : ∀ (l : List Nat) (free : Nat), (forIn l ((#[] : Array Nat), free) (occBody s sub hi 1)).run.fst = #[] ∨
    ∃ j, (forIn l ((#[] : Array Nat), free) (occBody s sub hi 1)).run.fst = #[j] ∧ j + sub.length ≤ hi ∧ subAt s sub j = true
  | [], _ => .inl rfl
  | a :: l, free => by
    rw [List.forIn_cons]
    unfold occBody
    by_cases c : (((((#[] : Array Nat), free).fst.size < 1 ∧ ((#[] : Array Nat), free).snd ≤ a) ∧ a + sub.length ≤ hi) ∧ subAt s sub a = true)
    · rw [if_pos c]
      exact .inr ⟨a, occ_stays s sub hi l a (a + sub.length), c.1.2, c.2⟩
    · rw [if_neg c]
      exact occ_first s sub hi l free
theorem find_no {x : Str} {c : Nat} (h : c ∉ x.cps.toList) : Txt.find x ⟨#[c]⟩ = -1 := by
  have f := found_one x c
  rw [decide_eq_false h] at f
  have e : occurrences x ⟨#[c]⟩ 0 x.length 1 = [] := by simpa using f
  unfold Txt.find
  rw [e]
theorem find_at {x : Str} {c i : Nat} (h : x.cps.toList[i]? = some c) (u : ∀ j, x.cps.toList[j]? = some c → j = i) : Txt.find x ⟨#[c]⟩ = (i : Int) := by
  have f := found_one x c
  rw [decide_eq_true (List.mem_of_getElem? h)] at f
  have e : occurrences x ⟨#[c]⟩ 0 x.length 1 = [i] := by
    rw [occ_eq] at f ⊢
    rcases occ_first x ⟨#[c]⟩ x.length (List.range' 0 (x.length + 1 - 0)) 0 with q | ⟨j, q, h1, h2⟩
    · rw [q] at f
      simp at f
    · rw [q, u j ((subAt_one x c j).mp ⟨h1, h2⟩)]
  unfold Txt.find
  rw [e]
end
theorem CSL_nodup : CSL.Nodup := by decide +kernel
theorem plc_at (i : Nat) (hi : i < 95) : plc (CSL.getD i 0) = (i : Int) := by
  have hl : i < CSL.length := by rw [CSL_length]; exact hi
  have e : CSL[i]? = some (CSL.getD i 0) := by rw [List.getD_eq_getElem?_getD, List.getElem?_eq_getElem hl, Option.getD_some]
  unfold plc
  refine find_at (by rw [CS_cps]; exact e) fun j hj => ?_
  rw [CS_cps, ← e] at hj
  exact ((List.getElem?_inj hl CSL_nodup).mp hj.symm).symm
theorem plc_mem {n : Nat} (h : n ∈ CSL) : 0 ≤ plc n ∧ plc n < 95 := by
  obtain ⟨i, hi, e⟩ := List.getElem_of_mem h
  have hl : i < 95 := CSL_length ▸ hi
  have := plc_at i hl
  rw [List.getD_eq_getElem?_getD, List.getElem?_eq_getElem hi, Option.getD_some, e] at this
  omega
theorem plc_def (n : Nat) : plc n = Txt.find (Str.ofString "0123456789()[],'/*abcdefgh@:$%{}IJKLMNOPQRSTUVWXYZ&+-.;<=>?!^_|~ijklmnopqrstuvwxyzABCDEFGH`#\"\\ ") ⟨#[n]⟩ := by unfold plc; rfl
theorem plc_nl : plc 10 = -1 := by
  unfold plc
  exact find_no (by rw [CS_cps]; decide +kernel)
theorem plc_ea : plc 233 = -1 := by
  unfold plc
  exact find_no (by rw [CS_cps]; decide +kernel)

/-! the turn of checksum's loop: the state (c, cls, clscount) and a place -/
def ckTurn (z : Int × Int × Int) (p : Int) : Int × Int × Int :=
  let c := pmI z.1 (Builtin.bitAnd p 31)
  let g := z.2.1 * 3 + p.fdiv (2 ^ Int.toNat 5)
  if z.2.2 + 1 = 3 then (pmI c g, 0, 0) else (c, g, z.2.2 + 1)
def ckFold (pre : List Int) : Int × Int × Int := (pre.map fun k => plc k.toNat).foldl ckTurn (1, 0, 0)
def CkInv (pre : List Int) (c g n : Int) : Prop := ckFold pre = (c, g, n) ∧ 0 ≤ g ∧ 0 ≤ n ∧ n ≤ 2 ∧ (n = 0 → g = 0) ∧ (n = 1 → g ≤ 2) ∧ (n = 2 → g ≤ 8)
theorem ckInv_start : CkInv [] 1 0 0 := ⟨rfl, by decide, by decide, by decide, fun _ => rfl, by decide, by decide⟩
theorem sh5 (p : Int) (h0 : 0 ≤ p) (h1 : p < 95) : 0 ≤ p.fdiv (2 ^ Int.toNat 5) ∧ p.fdiv (2 ^ Int.toNat 5) ≤ 2 := by
  rw [Int.fdiv_eq_ediv_of_nonneg _ (by decide)]
  have e : (2 : Int) ^ Int.toNat 5 = 32 := by decide
  rw [e]; omega
theorem ckInv_go {pre : List Int} {c g n : Int} {k : Nat} (h : CkInv pre c g n) (hk : k ∈ CSL) (hn : ¬ n + 1 = 3) :
    CkInv (pre ++ [(k : Int)]) (pmI c (Builtin.bitAnd (plc k) 31)) (g * 3 + (plc k).fdiv (2 ^ Int.toNat 5)) (n + 1) := by
  obtain ⟨e, h0, h1, h2, h3, h4, h5⟩ := h
  obtain ⟨p0, p1⟩ := plc_mem hk
  obtain ⟨q0, q1⟩ := sh5 _ p0 p1
  refine ⟨?_, by omega, by omega, by omega, by omega, by omega, by omega⟩
  unfold ckFold at e ⊢
  rw [List.map_append, List.foldl_append, e]
  simp only [List.map_cons, List.map_nil, List.foldl_cons, List.foldl_nil, ckTurn, Int.toNat_natCast, if_neg hn]
theorem ckInv_full {pre : List Int} {c g n : Int} {k : Nat} (h : CkInv pre c g n) (hk : k ∈ CSL) (hn : n + 1 = 3) :
    CkInv (pre ++ [(k : Int)]) (pmI (pmI c (Builtin.bitAnd (plc k) 31)) (g * 3 + (plc k).fdiv (2 ^ Int.toNat 5))) 0 0 := by
  obtain ⟨e, h0, h1, h2, h3, h4, h5⟩ := h
  refine ⟨?_, by decide, by decide, by decide, fun _ => rfl, by decide, by decide⟩
  unfold ckFold at e ⊢
  rw [List.map_append, List.foldl_append, e]
  simp only [List.map_cons, List.map_nil, List.foldl_cons, List.foldl_nil, ckTurn, Int.toNat_natCast, if_pos hn]

/-! the law's values, three places a group -/
def grp (sm : List Int) : List Int := sm.map (fun p => p.fmod 32) ++ [sm.foldl (fun g p => g * 3 + p.fdiv 32) 0]
def blocks (pl : List Int) : Nat → List Int
  | 0 => []
  | i + 1 => blocks pl i ++ grp ((pl.drop (3 * i)).take 3)
theorem grp_length (sm : List Int) : (grp sm).length = sm.length + 1 := by simp [grp]
theorem blocks_length (pl : List Int) : ∀ i, (blocks pl i).length ≤ 4 * i
  | 0 => Nat.le_refl _
  | i + 1 => by
    have := blocks_length pl i
    have h3 : ((pl.drop (3 * i)).take 3).length ≤ 3 := List.length_take_le 3 _
    rw [blocks, List.length_append, grp_length]
    omega
theorem inner_start (V : List Int) (h : V.length ≤ 160) : V = V ++ ([] : List Int).map (fun p => p.fmod 32) ∧ (0 : Int) = ([] : List Int).foldl (fun g p => g * 3 + p.fdiv 32) 0 ∧ V.length = V.length + ([] : List Int).length ∧ V.length ≤ 160 := by
  refine ⟨by simp, rfl, rfl, h⟩
theorem inner_go {V0 V pre : List Int} {g n : Int} (h1 : V = V0 ++ pre.map (fun p => p.fmod 32)) (h2 : g = pre.foldl (fun g p => g * 3 + p.fdiv 32) 0) (h3 : V.length = V0.length + pre.length) (h4 : V0.length ≤ 160) :
    V ++ [n.fmod 32] = V0 ++ (pre ++ [n]).map (fun p => p.fmod 32) ∧ g * 3 + n.fdiv 32 = (pre ++ [n]).foldl (fun g p => g * 3 + p.fdiv 32) 0 ∧ (V ++ [n.fmod 32]).length = V0.length + (pre ++ [n]).length ∧ V0.length ≤ 160 := by
  refine ⟨?_, ?_, ?_, h4⟩
  · rw [h1, List.map_append, List.append_assoc]; rfl
  · rw [List.foldl_append, ← h2]; rfl
  · rw [List.length_append, List.length_append, h3]; simp; omega
theorem outer_go {pl V ns : List Int} {i : Nat} {g : Int} (h0 : ns = blocks pl i) (h1 : V = ns ++ ((pl.drop (3 * i)).take 3).map (fun p => p.fmod 32)) (h2 : g = ((pl.drop (3 * i)).take 3).foldl (fun g p => g * 3 + p.fdiv 32) 0) :
    V ++ [g] = blocks pl (i + 1) := by
  rw [blocks, grp, h1, h0, h2, List.append_assoc]
theorem law_tail {pre : List Int} {r n : Int} (h : r = pre.foldl pmI 1) : pmI r n = (pre ++ [n]).foldl pmI 1 := by
  rw [List.foldl_append, ← h]; rfl
end Mine
end
section
open PySem PySem.W PyProof.Rows
set_option maxRecDepth 100000
namespace Mine
/-- the code at a place -/
@[irreducible] def cat (x : Str) (i : Int) : Nat := x.cps.toList.getD i.toNat 0
theorem item_cat {x : Str} {i : Int} (h0 : 0 ≤ i) (h1 : i < x.length) : Txt.item x i = ⟨#[cat x i]⟩ := by
  have hl : i.toNat < x.cps.size := by unfold PySem.Str.length at h1; omega
  refine item_meets h0 ?_
  unfold cat
  rw [← Array.getElem?_toList, List.getD_eq_getElem?_getD, List.getElem?_eq_getElem (by simpa using hl), Option.getD_some]
section
variable {prog : Program} {w : World} {A : Around} {E : Value → Shared → Prop} {s : Shared} {value slice : Expr} {x : Str} {t : Tok} {Q : Value → Shared → Prop}
theorem item_code {i : Int} {u : Tok} (h0 : 0 ≤ i) (h1 : i < x.length) (hx : (x.length : Int) < 9223372036854775808)
    (h : Q (.str ⟨#[cat x i]⟩ s.toks) { s with toks := s.toks + 1 })
    (hs : subscripted slice false (.str x t) (.int i u) = operate [.str x t, .int i u] (getItem (.str x t) (.int i u)) := by with_unfolding_all rfl)
    (ht : ∀ r, letTemporaryGo value (.str x t) r = pure () := by intro _; with_unfolding_all rfl) :
    wpAny (model prog w) A (subscriptTail value slice (.str x t) (.int i u)) Q E s :=
  item_str (fitsSsize_of (N := 9223372036854775808) (by omega) (by omega) (Int.le_refl _)) (by omega) (by omega) (fun _ => (item_cat h0 h1) ▸ h) hs ht
end

/-! the eight signs of the end -/
theorem and31 (y : Int) : 0 ≤ Builtin.bitAnd y 31 ∧ Builtin.bitAnd y 31 < 32 := by
  have e : Builtin.bitAnd y 31 = y % 2 ^ 5 := kbt_mask y 5
  rw [e]; omega
def CK : Str := Str.ofString "qpzry9x8gf2tvdw0s3jn54khce6mua7l"
theorem CK_length : CK.length = 32 := by decide
def signI (c k : Int) : Str := ⟨#[cat (Str.ofString "qpzry9x8gf2tvdw0s3jn54khce6mua7l") (Builtin.bitAnd (c.fdiv (2 ^ (5 * (7 - k)).toNat)) 31)]⟩
@[irreducible] def endI (c : Int) : Str := Txt.join (Str.ofString "") ((rangeKs 0 8).map (signI c))
section
variable {prog : Program} {w : World} {A : Around} {E : Value → Shared → Prop} {s : Shared} {value slice : Expr} {t : Tok} {Q : Value → Shared → Prop}
theorem item_ck {y : Int} {u : Tok} (h : Q (.str ⟨#[cat (Str.ofString "qpzry9x8gf2tvdw0s3jn54khce6mua7l") (Builtin.bitAnd y 31)]⟩ s.toks) { s with toks := s.toks + 1 })
    (hs : subscripted slice false (.str (Str.ofString "qpzry9x8gf2tvdw0s3jn54khce6mua7l") t) (.int (Builtin.bitAnd y 31) u) = operate [.str (Str.ofString "qpzry9x8gf2tvdw0s3jn54khce6mua7l") t, .int (Builtin.bitAnd y 31) u] (getItem (.str (Str.ofString "qpzry9x8gf2tvdw0s3jn54khce6mua7l") t) (.int (Builtin.bitAnd y 31) u)) := by with_unfolding_all rfl)
    (ht : ∀ r, letTemporaryGo value (.str (Str.ofString "qpzry9x8gf2tvdw0s3jn54khce6mua7l") t) r = pure () := by intro _; with_unfolding_all rfl) :
    wpAny (model prog w) A (subscriptTail value slice (.str (Str.ofString "qpzry9x8gf2tvdw0s3jn54khce6mua7l") t) (.int (Builtin.bitAnd y 31) u)) Q E s := by
  have hl : (Str.ofString "qpzry9x8gf2tvdw0s3jn54khce6mua7l").length = 32 := CK_length
  have hb := and31 y
  exact item_code hb.1 (by rw [hl]; exact hb.2) (by rw [hl]; decide) h hs ht
end

def z8 (c : Int) : Int := pmI (pmI (pmI (pmI (pmI (pmI (pmI (pmI c 0) 0) 0) 0) 0) 0) 0) 0
/-- what checksum gives for the codes pre -/
@[irreducible] def ckSum (pre : List Int) : Str := endI (Builtin.bitXor (z8 (if 0 < (ckFold pre).2.2 then pmI (ckFold pre).1 (ckFold pre).2.1 else (ckFold pre).1)) 1)
theorem endI_eq (c : Int) (n : Nat) (hn : n = 8) : Txt.join (Str.ofString "") (List.map (fun a => { cps := #[cat (Str.ofString "qpzry9x8gf2tvdw0s3jn54khce6mua7l") (Builtin.bitAnd (c.fdiv (2 ^ (5 * (7 - a)).toNat)) 31)] }) (rangeKs 0 n)) = endI c := by
  subst hn
  unfold endI
  rfl
theorem ckSum_more {pre : List Int} {c g n : Int} (h : CkInv pre c g n) (hn : 0 < n) : endI (Builtin.bitXor (z8 (pmI c g)) 1) = ckSum pre := by
  unfold ckSum
  rw [h.1]
  simp only [if_pos hn]
theorem ckSum_done {pre : List Int} {c g n : Int} (h : CkInv pre c g n) (hn : ¬ 0 < n) : endI (Builtin.bitXor (z8 c) 1) = ckSum pre := by
  unfold ckSum
  rw [h.1]
  simp only [if_neg hn]
theorem endL_eq (c : Int) (n : Nat) (hn : n = 8) : Txt.join (Str.ofString "") (List.map (fun a => { cps := #[cat (Str.ofString "qpzry9x8gf2tvdw0s3jn54khce6mua7l") (Builtin.bitAnd (c.fdiv (2 ^ (35 - 5 * a).toNat)) 31)] }) (rangeKs 0 n)) = endI c := by
  subst hn
  rw [← endI_eq c 8 rfl]
  congr 1
end Mine
end
section
open PySem PySem.W PySem.Spec PySem.Calls PyProof.Rows
set_option maxRecDepth 100000
set_option maxHeartbeats 8000000
namespace Mine

/-- what a call keeps: every object that stood ahead of it -/
def Kept (h h' : Heap) : Prop := ∀ b o, h.get? b = some o → h'.get? b = some o
theorem Kept.refl (h : Heap) : Kept h h := fun _ _ e => e
theorem Kept.trans {a b c : Heap} (x : Kept a b) (y : Kept b c) : Kept a c := fun i o e => y i o (x i o e)
theorem Kept.fr {h₀ h h' : Heap} {L : Addr} {m : Str → Option Value} (x : Kept h h') (F : Fr h₀ L h m) : Fr h₀ L h' m := by
  obtain ⟨oL, es, ep, hL, r⟩ := F.ns
  exact ⟨⟨oL, es, ep, x _ _ hL, r⟩, fun b o e => x b o (F.keep b o e), F.above⟩
theorem Kept.news {h₀ h h' : Heap} {L : Addr} {news : List (Addr × Obj)} (x : Kept h h') (N : News h₀ L h news) : News h₀ L h' news :=
  fun p hp => ⟨x _ _ (N p hp).1, (N p hp).2⟩

section
variable {prog : Program} {w : World} {A₀ A : Around} {s : Shared} {base h₀ : Heap} {outer : List Env} {L : Addr} {m : Str → Option Value} {env : Env} {K : Frag} {p : Program} {loose : List Str} {mean : ExcName → Option Value} {mg mb : Str → Option Value}
  {R : Result → Shared → Prop} {name qual : Str} {params : Arguments} {body : List Stmt} {scope : Scope} {dV kV doc pm cdv ct oc : Value} {an od : Option Addr} {osl : Array (Option Value)} {f : Addr} {args : Args} {binds : List (Str × Value)}

/-- a def is entered, its own ledger empty: all that stands is kept -/
theorem enter_cells (B : Below A₀ base outer h₀) (F : Fr h₀ L s.heap m) (X₀ : K.In h₀) (T : Top p loose mean mg mb h₀) (hA : A.frames = some (env :: outer)) (hf : env.frame = some L) (hke : env.scope.kind = .function)
    (ho : K.lookup f = some ⟨oc, od, .func (fnOf name qual params body scope dV kV doc pm an cdv ct), osl⟩) (hcd : codeIn K cdv qual = true) (hroom : A.depth < recursionLimit)
    (hbind : BindsTo s (fnOf name qual params body scope dV kV doc pm an cdv ct) args binds) (hkind : (binds.all fun y => scope.names.lookup y.1 == some .local || scope.names.lookup y.1 == some .cell) = true)
    (hnd : ((cellsFrom 0 scope.names []).map (·.1)).Nodup)
    (h : ∀ g L' h₁ tk cells, Kept s.heap g → Kept g s.heap → Fr g L' h₁ (bindL (envOfC qual scope L' f cdv).kindOf binds fun _ => none) → News g L' h₁ cells →
      CellsAre (bindC (envOfC qual scope L' f cdv).kindOf binds fun _ => none) (cellsFrom (L' + 1) scope.names []) cells → Below A base (env :: outer) g → K.In g → Top p loose mean mg mb g →
      wpAny (model prog w) (A.deeper (envOfC qual scope L' f cdv)) (execs body (envOfC qual scope L' f cdv))
        (fun fl s' => R (.ok (.ret (match fl with | .ret v => v | _ => .none))) s')
        (fun e s' => wpAny (model prog w) (A.deeper (envOfC qual scope L' f cdv)) (leaving (envOfC qual scope L' f cdv) e) (fun _ s'' => R (.error e) s'') (fun e' s'' => R (.error e') s'') s')
        { s with heap := h₁, toks := tk })
    (hco : scope.isCoroutine = false) (hgen : scope.isGenerator = false) (hk : scope.kind = .function) : codeAny (model prog w) A (.call (.ref f) args) R s := by
  obtain ⟨FG, BG, st, lv⟩ := groundX (R := R) B F News.nil hA hf hke
  change Fr h₀ L s.heap m at FG
  change Below A base (env :: outer) s.heap at BG
  have hlim := T.nolimit
  refine codeAny_call_function hroom ((X₀.keeps F.keep) _ _ ho) rfl hco hgen rfl (codeRec_of (X₀.keeps F.keep) hcd) (hbind _ _ _ _ ?_)
  refine wpAny_newFunctionEnv_cells hk (kindsX hkind _) fun env' he s' x => ?_
  subst he
  refine ⟨(hlim.keeps F.keep).keeps x.toInCall.keep, codeAny_func ?_⟩
  obtain ⟨h₁, tk, rfl, _⟩ := x.done
  have hk₁ := x.toInCall.keep
  obtain ⟨cells, NC, Y⟩ := Cl.news (h₀ := s.heap) (Nat.le_refl _) fun n c hm => ⟨x.cell n c (lookup_of_mem_nodup (cellsFrom_names scope.names 0 (s.heap.objs.size + 1) [] [] rfl ▸ hnd) hm), x.above n c hm⟩
  exact h s.heap s.heap.objs.size h₁ tk cells (Kept.refl _) (Kept.refl _) ⟨x.toInCall.ns, hk₁, Nat.le_refl _⟩ NC Y BG (X₀.keeps F.keep) (T.keeps F.keep)

theorem enter_plain (B : Below A₀ base outer h₀) (F : Fr h₀ L s.heap m) (X₀ : K.In h₀) (T : Top p loose mean mg mb h₀) (hA : A.frames = some (env :: outer)) (hf : env.frame = some L) (hke : env.scope.kind = .function)
    (ho : K.lookup f = some ⟨oc, od, .func (fnOf name qual params body scope dV kV doc pm an cdv ct), osl⟩) (hcd : codeIn K cdv qual = true) (hroom : A.depth < recursionLimit)
    (hbind : BindsTo s (fnOf name qual params body scope dV kV doc pm an cdv ct) args binds) (hloc : ∀ y ∈ binds, scope.names.lookup y.1 = some .local)
    (h : ∀ g L' h₁, Kept s.heap g → Kept g s.heap → Fr g L' h₁ (fun y => binds.reverse.lookup y) → News g L' h₁ [] → Below A base (env :: outer) g → K.In g → Top p loose mean mg mb g →
      wpAny (model prog w) (A.deeper (envOf qual scope L' f cdv)) (execs body (envOf qual scope L' f cdv))
        (fun fl s' => R (.ok (.ret (match fl with | .ret v => v | _ => .none))) s')
        (fun e s' => wpAny (model prog w) (A.deeper (envOf qual scope L' f cdv)) (leaving (envOf qual scope L' f cdv) e) (fun _ s'' => R (.error e) s'') (fun e' s'' => R (.error e') s'') s')
        { s with heap := h₁, toks := s.toks + binds.length })
    (hco : scope.isCoroutine = false) (hgen : scope.isGenerator = false) (hk : scope.kind = .function)
    (hcell : ∀ x ∈ scope.names, x.2 ≠ .cell) : codeAny (model prog w) A (.call (.ref f) args) R s := by
  obtain ⟨FG, BG, st, lv⟩ := groundX (R := R) B F News.nil hA hf hke
  change Fr h₀ L s.heap m at FG
  change Below A base (env :: outer) s.heap at BG
  refine codeAny_call_def (fd := fnOf name qual params body scope dV kV doc pm an cdv ct) (body := body) (binds := binds) hroom ((X₀.keeps F.keep) _ _ ho) rfl (T.nolimit.keeps F.keep) (codeRec_of (X₀.keeps F.keep) hcd) rfl hbind hcell hloc (fun h₁ hns hk₁ => ?_) hco hgen hk
  exact h s.heap s.heap.objs.size h₁ (Kept.refl _) (Kept.refl _) ⟨hns, hk₁, Nat.le_refl _⟩ News.nil BG (X₀.keeps F.keep) (T.keeps F.keep)
end


/-- a call of the def at f upon vs gives R, and keeps all that stood -/
def KClaim (room : Nat) (w : World) (f : Addr) (vs : List Value) (R : Tok → Value) : Prop :=
  ∀ (dp un : Nat) (gd : Option (List Code)) (cn : Str) (cs : Scope) (a : Addr) (ccd : Value) (cl : List (Str × Addr)) (outer : List Env) (A₀ : Around) (base h₀ : Heap) (L : Addr) (m : Str → Option Value)
    (mean : ExcName → Option Value) (mg mb : Str → Option Value) (s : Shared) (Q E : Value → Shared → Prop),
    Below A₀ base outer h₀ → Fr h₀ L s.heap m → (hd.heap_39 w.params).In h₀ → Top hd.view_39 (looseW hd.view_39 []) mean mg mb h₀ → cs.kind = .function → dp + room < recursionLimit → un + 8 * room < cLine →
    (∀ t h' tk', Kept s.heap h' → Q (R t) { s with heap := h', toks := tk' }) →
    wpAny (model PySem.Challenge.rw_ci0001_01.row.prog w) (ktrTop dp un gd cn cs L a ccd cl outer) (call (.ref f) vs) Q E s

theorem use_claim {room : Nat} {w : World} {f : Addr} {vs : List Value} {R : Tok → Value} {dp un : Nat} {gd : Option (List Code)} {cn : Str} {cs : Scope} {a : Addr} {ccd : Value} {cl : List (Str × Addr)} {outer : List Env} {A₀ : Around} {base h₀ : Heap} {L : Addr} {m : Str → Option Value}
    {mean : ExcName → Option Value} {mg mb : Str → Option Value} {s : Shared} {Q E : Value → Shared → Prop} {news : List (Addr × Obj)} (C : KClaim room w f vs R)
    (B : Below A₀ base outer h₀) (F : Fr h₀ L s.heap m) (N : News h₀ L s.heap news) (X : (hd.heap_39 w.params).In h₀) (T : Top hd.view_39 (looseW hd.view_39 []) mean mg mb h₀) (hk : cs.kind = .function) (hdp : dp + room < recursionLimit) (hun : un + 8 * room < cLine)
    (ret : ∀ t h' tk', Fr h₀ L h' m → News h₀ L h' news → Q (R t) { s with heap := h', toks := tk' }) :
    wpAny (model PySem.Challenge.rw_ci0001_01.row.prog w) (ktrTop dp un gd cn cs L a ccd cl outer) (call (.ref f) vs) Q E s :=
  C dp un gd cn cs a ccd cl outer A₀ base h₀ L m mean mg mb s Q E B F X T hk hdp hun fun t h' tk' k => ret t h' tk' (k.fr F) (k.news N)
end Mine
end
section
open PySem PySem.W PySem.Spec PySem.Calls PyProof.Rows
set_option maxRecDepth 100000
set_option maxHeartbeats 8000000
namespace Mine
theorem ret_int {s : Shared} {Q : Value → Shared → Prop} {x y : Int} {t : Tok} {h' : Heap} {tk' : Nat} (hret : ∀ (t : Tok) (h' : Heap) (tk' : Nat), Kept s.heap h' → Q (.int x t) { s with heap := h', toks := tk' }) (e : y = x) (k : Kept s.heap h') : Q (.int y t) { s with heap := h', toks := tk' } := e ▸ hret t h' tk' k
theorem ret_str {s : Shared} {Q : Value → Shared → Prop} {x y : Str} {t : Tok} {h' : Heap} {tk' : Nat} (hret : ∀ (t : Tok) (h' : Heap) (tk' : Nat), Kept s.heap h' → Q (.str x t) { s with heap := h', toks := tk' }) (e : y = x) (k : Kept s.heap h') : Q (.str y t) { s with heap := h', toks := tk' } := e ▸ hret t h' tk' k

theorem shl_fits (c : Int) : (Builtin.bitAnd c 34359738367).natAbs < 2 ^ 64 := by
  have e : Builtin.bitAnd c 34359738367 = c % 2 ^ 35 := kbt_mask c 35
  rw [e]
  omega
local macro_rules | `(tactic| walk_at "binaryOp LShift int int") => `(tactic| (refine lshift_int_small (by decide) (by decide) (shl_fits _) ?_))

theorem polymod_walk (w : World) (c v : Int) (t u : Tok) : KClaim 2 w 46 [.int c t, .int v u] (fun t => .int (pmI c v) t) := by
  w_top off
  k_with_none
  unfold KClaim
  k_fill
  intro dp un gd cn cs a ccd cl outer A₀ base h₀ L m mean mg mb s Q E hB hF hX hT hk hd hu hret
  refine wpAny_call ?_
  k_dflt (refine' enter_plain ?k1 ?k2 ?k3 ?k5 ?kA ?kF ?kK ?k6 ?k7 ?k8 ?k9 ?kB ?_ ?c2 ?c3 ?c4 ?c5; (case kA => exact rfl); (case kF => exact rfl); (case kK => assumption); (case k1 => k_asm); (case k2 => k_asm); (case k3 => k_asm); (case k5 => k_asm); (case k6 => k_is); (case k7 => k_is); (case k8 => ktr_room); (case k9 => exact BindsTo.of_eq rfl); (case c5 => decide); (case kB => exact locs rfl); (case c2 => exact rfl); (case c3 => exact rfl); (case c4 => exact rfl); k_whole; intro g' L' h' hG1 hG2 F' N' B' X' T'; (try dsimp only); (try k_fold))
  k_steps
  all_goals (try dsimp only)
  all_goals (try (k_unfold; (try dsimp only)))
  all_goals ((refine ret_int hret ?_ (hG1.trans (by (rename Fr _ _ _ _ => F9); exact F9.keep))))
  all_goals (simp only [pmI, ↓reduceIte, *])
end Mine
end
section
open PySem PySem.W PySem.Spec PySem.Calls PyProof.Rows
set_option maxRecDepth 100000
set_option maxHeartbeats 8000000
namespace Mine
local macro_rules | `(tactic| walk_at "binaryOp LShift int int") => `(tactic| (refine lshift_int_small (by decide) (by decide) (shl_fits _) ?_))
local macro_rules | `(tactic| walk_at "pyIter ref") => `(tactic| k_dflt (k_extra "pyIter ref"))
theorem step_walk (w : World) (c v : Int) (t u : Tok) : KClaim 2 w 72 [.int c t, .int v u] (fun t => .int (pmI c v) t) := by
  w_top off
  k_with_none
  unfold KClaim
  k_fill
  intro dp un gd cn cs a ccd cl outer A₀ base h₀ L m mean mg mb s Q E hB hF hX hT hk hd hu hret
  refine wpAny_call ?_
  k_dflt (refine' enter_plain ?k1 ?k2 ?k3 ?k5 ?kA ?kF ?kK ?k6 ?k7 ?k8 ?k9 ?kB ?_ ?c2 ?c3 ?c4 ?c5; (case kA => exact rfl); (case kF => exact rfl); (case kK => assumption); (case k1 => k_asm); (case k2 => k_asm); (case k3 => k_asm); (case k5 => k_asm); (case k6 => k_is); (case k7 => k_is); (case k8 => ktr_room); (case k9 => exact BindsTo.of_eq rfl); (case c5 => decide); (case kB => exact locs rfl); (case c2 => exact rfl); (case c3 => exact rfl); (case c4 => exact rfl); k_whole; intro g' L' h' hG1 hG2 F' N' B' X' T'; (try dsimp only); (try k_fold))
  k_with "pyIter ref" => k_state_short (fun pre r => r = pre.foldl (turnI (c.fdiv (2 ^ Int.toNat 35))) (Builtin.bitXor (Builtin.bitAnd c 34359738367 * 2 ^ Int.toNat 5) v)) "rest"
  k_with "state" => first | exact rfl | exact turn_yes (by assumption) (by assumption) | exact turn_no (by assumption) (by assumption)
  k_steps
  all_goals (try dsimp only)
  all_goals (try (k_unfold; (try dsimp only)))
  all_goals (refine ret_int hret ?_ (hG1.trans (by (rename Fr _ _ _ _ => F9); exact F9.keep)))
  rw [← fold5]
  assumption

theorem signs_walk (w : World) : KClaim 2 w 65 [] (fun t => .str (Str.ofString "0123456789()[],'/*abcdefgh@:$%{}IJKLMNOPQRSTUVWXYZ&+-.;<=>?!^_|~ijklmnopqrstuvwxyzABCDEFGH`#\"\\ ") t) := by
  w_top off
  k_with_none
  unfold KClaim
  k_fill
  intro dp un gd cn cs a ccd cl outer A₀ base h₀ L m mean mg mb s Q E hB hF hX hT hk hd hu hret
  refine wpAny_call ?_
  k_dflt (refine' enter_plain ?k1 ?k2 ?k3 ?k5 ?kA ?kF ?kK ?k6 ?k7 ?k8 ?k9 ?kB ?_ ?c2 ?c3 ?c4 ?c5; (case kA => exact rfl); (case kF => exact rfl); (case kK => assumption); (case k1 => k_asm); (case k2 => k_asm); (case k3 => k_asm); (case k5 => k_asm); (case k6 => k_is); (case k7 => k_is); (case k8 => ktr_room); (case k9 => exact BindsTo.of_eq rfl); (case c5 => decide); (case kB => exact locs rfl); (case c2 => exact rfl); (case c3 => exact rfl); (case c4 => exact rfl); k_whole; intro g' L' h' hG1 hG2 F' N' B' X' T'; (try dsimp only); (try k_fold))
  k_steps
  all_goals (try dsimp only)
  all_goals (try (k_unfold; (try dsimp only)))
  all_goals (refine ret_str (s := s) hret rfl (hG1.trans (by (rename Fr _ _ _ _ => F9); exact F9.keep)))
end Mine
end
section
open PySem PySem.W PySem.Spec PySem.Calls PyProof.Rows
set_option maxRecDepth 100000
set_option maxHeartbeats 8000000
namespace Mine
section
variable {prog : Program} {w : World} {A : Around} {E : Value → Shared → Prop} {s : Shared} {h₀ : Heap} {L : Addr} {m : Str → Option Value} {env : Env}

/-- the source of a comprehension is a text -/
def SrcText (prog : Program) (w : World) (A : Around) (h₀ : Heap) (L : Addr) (m : Str → Option Value) (env : Env) (elt : Expr) (x : Str) (scope : Scope) (cl : List (Str × Addr)) (Fin : Shared → List Value → List (Addr × Obj) → Prop) (xv : Value) (s₁ : Shared) : Prop :=
  ∃ xt tx news, xv = .str xt tx ∧ A.handled = none ∧ Fr h₀ L s₁.heap m ∧ News h₀ L s₁.heap news ∧ xt.cps.size ≤ sizeLine ∧
    ∀ s₂ : Shared, (∃ h, s₂ = { s₁ with heap := h }) → LCg.CompRest prog w A h₀ L m env elt x scope cl s₂ (fun _ => True) (SignAt xt) (Fin s₂) xt.cps.size 0 [] news

theorem srcText_intro {elt : Expr} {x : Str} {scope : Scope} {cl : List (Str × Addr)} {Fin : Shared → List Value → List (Addr × Obj) → Prop} {xt : Str} {tx : Tok} {news : List (Addr × Obj)} {s₁ : Shared}
    (hh : A.handled = none) (F : Fr h₀ L s₁.heap m) (N : News h₀ L s₁.heap news) (hsz : xt.cps.size ≤ sizeLine)
    (h : ∀ g, LCg.CompRest prog w A h₀ L m env elt x scope cl { s₁ with heap := g } (fun _ => True) (SignAt xt) (Fin { s₁ with heap := g }) xt.cps.size 0 [] news) :
    SrcText prog w A h₀ L m env elt x scope cl Fin (.str xt tx) s₁ := ⟨xt, tx, news, rfl, hh, F, N, hsz, fun _ ⟨g, e⟩ => e ▸ h g⟩

theorem striter_st {I : Addr} {ty : String} {xt : Str} {tx : Tok} {L : Addr} : ∀ i (h h' : Heap) (o : Obj) (nw : List (Addr × Obj)), h.IsStrIter I ty xt tx i → h.get? I = some o → h'.get? I = some o → (∀ b o, h₀.get? b = some o → h'.get? b = some o) → News h₀ L h' nw → True → h'.IsStrIter I ty xt tx i :=
  fun i h h' o nw st e e' _ _ _ => by obtain ⟨o', q, r⟩ := st; rw [e] at q; cases q; exact ⟨o, e', r⟩

theorem assign_comp_text {elt iter : Expr} {x y : Str} {px py : Pos} {scope : Scope} {cl : List (Str × Addr)} {pos spos : Pos} {Q : Flow → Shared → Prop} (kF₀ : Fr h₀ L s.heap m) (hLe : env.locals = L)
    (hsw : swapsWith (.ListComp elt [⟨.Name x px, iter, [], 0⟩] scope pos) (some (.Name y py)) spos.line env = pure true)
    (hclos : closureFor scope env = pure cl) (hcell : ∀ z ∈ scope.names, z.2 ≠ .cell) (hkind : scope.kind = .function)
    (hnames : ∀ z ∈ scope.names, z.2 = .local → scope.names.lookup z.1 = some .local) (hx : scope.names.lookup x = some .local)
    (hy : env.kindOf y = some .local) (hp : (env.scope.kind == .class || (env.scope.kind == .module && env.locals != env.globals)) = false)
    (h : wpAny (model prog w) A (eval iter env) (SrcText prog w A h₀ L m env elt x scope cl (fun s₂ => LCg.FinA h₀ L m s₂ y Q)) E s)
    (hs : ∀ x, foldedSetIterable iter env x = pure x := by intro _; rfl) :
    wpAny (model prog w) A (exec (.Assign [.Name y py] (.ListComp elt [⟨.Name x px, iter, [], 0⟩] scope pos) spos) env) Q E s := by
  subst hLe
  rw [exec_Assign_Name_used _ _ _ _ hsw]
  refine wpAny_bind (wpAny_standAt (wpAny_bind ?_))
  show wpAny _ A (do let _ ← comprehension (.ListComp elt [⟨.Name x px, iter, [], 0⟩] scope pos) scope env _ (newList []) false (eval iter env) (some (assign (.Name y py) env))) _ _ s
  refine wpAny_bind (wpAny_mono (wpAny_comprehension_free (use := some (assign (.Name y py) env)) (Q := fun _ s' => Q .next s') rfl hs hclos hkind hnames
    (wpAny_mono h (fun xv s₁ h₁ => ?_) fun _ _ e => e)) (fun _ s' hq => wpAny_pure (wpAny_pure hq)) fun _ _ e => e)
  obtain ⟨xt, tx, news, rfl, hh, F, N, hsz, R⟩ := h₁
  cases ha : xt.cps.all (· < 128) with
  | true =>
    refine wpAny_pyIter_ascii ha ?_
    refine LCg.block_U (Walks.strAscii hh s₁.heap.objs.size xt tx) hsz (fun i h st => by obtain ⟨o, e, _⟩ := st; exact ⟨o, e⟩) striter_st hcell hkind hx ⟨_, Heap.get?_push_size _ rfl, rfl, rfl⟩ (fun b hb => ?_)
      (F.keeps fun _ _ e => Heap.get?_push_of_some _ e) (N.grown fun _ _ e => Heap.get?_push_of_some _ e) (Nat.ne_of_lt F.ns.lt) (next_is_new F) (fun p hp => Nat.ne_of_lt (Heap.lt_size (N p hp).1)) trivial (R _ ⟨_, rfl⟩) ?_
    · rw [List.mem_singleton.mp hb]
      show s₁.heap.objs.size < (s₁.heap.push _).objs.size
      rw [Heap.size_push]; exact Nat.lt_succ_self _
    · intro D C h' tk m' ys news' F' N' o1 hn hC₀ hD₀ hCL hDL hCD offC fin
      show wpAny _ A (assign (.Name y py) env (.ref D)) _ _ _
      refine wpAny_assign_Name (wpAny_storeName_local hy F'.ns (fun h₂ hn₂ hs₂ => ?_) hp)
      have hL₀ : h₀.get? env.locals = none := Heap.get?_none_of_le F'.above
      have F₂ : Fr h₀ env.locals h₂ (fun z => if z = y then some (.ref D) else m z) := ⟨hn₂, fun b o e => hs₂.extBut b o (fun q => by rw [q, hL₀] at e; cases e) (F'.keep b o e), F'.above⟩
      refine ⟨m', hn.sameBut hs₂ hCL, fun h'' hs'' => fin D h'' _ (F₂.change hs'' hCL hC₀) (fun p hp => ?_) o1⟩
      have z : h₂.get? p.1 = some p.2 := hs₂.extBut _ _ (N' p hp).2.1 (N' p hp).1
      refine ⟨hs''.extBut _ _ ?_ z, (N' p hp).2⟩
      rcases List.mem_cons.mp hp with rfl | hp
      · exact Ne.symm hCD
      · exact offC p hp
  | false =>
    refine wpAny_pyIter_wide ha ?_
    refine LCg.block_U (Walks.strWide hh s₁.heap.objs.size xt tx) hsz (fun i h st => by obtain ⟨o, e, _⟩ := st; exact ⟨o, e⟩) striter_st hcell hkind hx ⟨_, Heap.get?_push_size _ rfl, rfl, rfl⟩ (fun b hb => ?_)
      (F.keeps fun _ _ e => Heap.get?_push_of_some _ e) (N.grown fun _ _ e => Heap.get?_push_of_some _ e) (Nat.ne_of_lt F.ns.lt) (next_is_new F) (fun p hp => Nat.ne_of_lt (Heap.lt_size (N p hp).1)) trivial (R _ ⟨_, rfl⟩) ?_
    · rw [List.mem_singleton.mp hb]
      show s₁.heap.objs.size < (s₁.heap.push _).objs.size
      rw [Heap.size_push]; exact Nat.lt_succ_self _
    · intro D C h' tk m' ys news' F' N' o1 hn hC₀ hD₀ hCL hDL hCD offC fin
      show wpAny _ A (assign (.Name y py) env (.ref D)) _ _ _
      refine wpAny_assign_Name (wpAny_storeName_local hy F'.ns (fun h₂ hn₂ hs₂ => ?_) hp)
      have hL₀ : h₀.get? env.locals = none := Heap.get?_none_of_le F'.above
      have F₂ : Fr h₀ env.locals h₂ (fun z => if z = y then some (.ref D) else m z) := ⟨hn₂, fun b o e => hs₂.extBut b o (fun q => by rw [q, hL₀] at e; cases e) (F'.keep b o e), F'.above⟩
      refine ⟨m', hn.sameBut hs₂ hCL, fun h'' hs'' => fin D h'' _ (F₂.change hs'' hCL hC₀) (fun p hp => ?_) o1⟩
      have z : h₂.get? p.1 = some p.2 := hs₂.extBut _ _ (N' p hp).2.1 (N' p hp).1
      refine ⟨hs''.extBut _ _ ?_ z, (N' p hp).2⟩
      rcases List.mem_cons.mp hp with rfl | hp
      · exact Ne.symm hCD
      · exact offC p hp

theorem signs_rest {elt : Expr} {x : Str} {scope : Scope} {cl : List (Str × Addr)} {S : List (Addr × Obj) → Prop} {Fin : List Value → List (Addr × Obj) → Prop} {news : List (Addr × Obj)} {xt : Str} (g : Nat → Int) (hall : ∀ c ∈ xt.cps.toList, c ∈ CSL)
    (turn : ∀ n t I oI C oC D m₂ ys h tk (E' : Value → Shared → Prop), n ∈ CSL → LCg.NsObj oC m₂ → m₂ x = some (.str ⟨#[n]⟩ t) → Fr h₀ L h m → News h₀ L h ((I, oI) :: (C, oC) :: (D, LCg.lst ys) :: news) → LCg.Off3 I C D news → ((@Ne Nat I C) ∧ (@Ne Nat I D) ∧ (@Ne Nat C D)) →
      wpAny (model prog w) A (eval elt (compEnvC scope cl C env)) (LCg.CompEnd h₀ L m { s with heap := h, toks := tk } I oI C oC D (LCg.lst ys) S (fun y news' => KCfEl news (g n) y news')) E' { s with heap := h, toks := tk })
    (fin : KPfDone (∀ ys, IntsAre ys (xt.cps.toList.map g) → Fin ys news)) : LCg.CompRest prog w A h₀ L m env elt x scope cl s S (SignAt xt) Fin xt.cps.size 0 [] news := by
  unfold KPfDone at fin
  have key : ∀ (j i : Nat) (ys : List Value), i + j = xt.cps.size → IntsAre ys ((xt.cps.toList.take i).map g) → LCg.CompRest prog w A h₀ L m env elt x scope cl s S (SignAt xt) Fin j i ys news := by
    intro j
    induction j with
    | zero =>
      intro i ys hi hy
      have e : i = xt.cps.toList.length := by rw [Array.length_toList]; omega
      subst e
      rw [List.take_length] at hy
      exact LCg.CompRest.zero (fin ys hy)
    | succ j ih =>
      intro i ys hi hy
      refine LCg.CompRest.succ ?_
      intro v I oI C oC D m₂ h tk E' hv hC hx F N off ne
      obtain ⟨n, t, hn, hv'⟩ := hv
      rw [hv'] at hx
      have hn' : xt.cps.toList[i]? = some n := by rw [Array.getElem?_toList]; exact hn
      refine wpAny_mono (turn n t I oI C oC D m₂ ys h tk E' (hall n (List.mem_of_getElem? hn')) hC hx F N off ne) (fun y s₂ hq => ?_) fun _ _ e => e
      obtain ⟨h', tk', nw, e, F', N', off', hS, hnw, t', hy'⟩ := hq
      rw [hnw] at N' off' hS
      refine ⟨h', tk', news, e, F', N', off', hS, ?_⟩
      rw [hy']
      refine ih (i + 1) _ (by omega) ?_
      rw [List.take_add_one, hn']
      simpa using IntsAre.append hy (.cons (g n) t' .nil)
  exact key xt.cps.size 0 [] (by omega) (by simp only [List.take_zero, List.map_nil]; exact .nil)
end

theorem index_sign {prog : Program} {w : World} {A : Around} {E : Value → Shared → Prop} {s : Shared} {Q : Value → Shared → Prop} {n : Nat} {t u : Tok} (hA : A.handled = none) (hn : n ∈ CSL)
    (h : 0 ≤ plc n → plc n < 95 → Q (.int (plc n) s.toks) { s with toks := s.toks + 1 }) :
    wpAny (model prog w) A (call (.builtin "str.index") [.str (Str.ofString "0123456789()[],'/*abcdefgh@:$%{}IJKLMNOPQRSTUVWXYZ&+-.;<=>?!^_|~ijklmnopqrstuvwxyzABCDEFGH`#\"\\ ") t, .str ⟨#[n]⟩ u]) Q E s := by
  have hp := plc_mem hn
  have e := plc_def n
  refine index_or hA (fun e0 => ?_) fun _ _ => e ▸ h hp.1 hp.2
  exfalso
  rw [← e] at e0
  omega

section
variable {prog : Program} {w : World} {A : Around} {E : Value → Shared → Prop} {s : Shared} {env : Env} {h₀ : Heap} {x : Str} {body : List Stmt} {Q : Flow → Shared → Prop}
/-- a loop over a range by steps, by what holds of its state after so many turns -/
theorem kst_step {σ : Type} {r : Addr} {a₀ b₀ c : Int} {t₀ u₀ v₀ : Tok} {n : Nat} {m₀ : Str → Option Value} (Led : σ → List (Addr × Obj)) (ps : σ → List (Str × Value)) (Facts : σ → Prop) (stored : List Str) (P : Nat → σ → Prop) (c₀ : σ)
    (hh : A.handled = none) (hr : IsRange s.heap r a₀ b₀ c t₀ u₀ v₀) (hsmall : Builtin.Range.small a₀ b₀ c = true) (hn : Builtin.Range.rangeSize a₀ b₀ c = (n : Int)) (F : Fr h₀ env.locals s.heap m₀) (N : News h₀ env.locals s.heap (Led c₀)) (hf : Facts c₀) (hk : ∀ p ∈ ps c₀, m₀ p.1 = some p.2) (hp : P 0 c₀)
    (turn : ∀ (z : σ) (i : Nat) t (u : Str → Option Value) h tk own, i < n → OwnOff own ((Led c₀).map (·.1)) → Facts z → P i z →
      Fr h₀ env.locals h (fun y => if y = x then some (.int (a₀ + (i : Int) * c) t) else kstB (fun z => if stored.contains z then u z else m₀ z) (ps z) y) → News h₀ env.locals h (Led z ++ own) →
      wpAny (model prog w) A (execs body env) (InvPostN h₀ env.locals (KstS Led ps Facts x stored m₀ (fun _ z => P (i + 1) z) []) own ((Led c₀).map (·.1)) { s with heap := h, toks := tk } Q) E { s with heap := h, toks := tk })
    (done : ∀ (z : σ) (u : Str → Option Value) h tk, Facts z → P n z → Fr h₀ env.locals h (fun y => if y = x then u y else kstB (fun z => if stored.contains z then u z else m₀ z) (ps z) y) → News h₀ env.locals h (Led z) → Q .next { s with heap := h, toks := tk }) :
    wpAny (model prog w) A (pyIter (.ref r)) (fun it s₂ => LoopAtV prog w A h₀ env x body Q E it s₂) E s := by
  refine wpAny_pyIter_range hr hsmall ?_
  have W : Walks prog w A s.heap.objs.size [s.heap.objs.size] [s.heap.objs.size] n (fun i v => i < n ∧ ∃ t, v = .int (a₀ + i * c) t)
      (fun i h => IsRangeIter h s.heap.objs.size (a₀ + (i : Nat) * c) ((n : Int) - (i : Nat)) c) := (Walks.range hh _ a₀ c n).bound
  refine loop_invN (fun i m nx => KstS Led ps Facts x stored m₀ (fun _ z => P i z) [] m nx) W ?_ ?_ ?_ ?_ (by show IsRangeIter _ _ _ _ _; rw [hn]; simpa using Heap.get?_push_size _ rfl) (F.push _) (fun p hp => ⟨Heap.get?_push_of_some _ (N p hp).1, (N p hp).2⟩) ⟨c₀, rfl, hf, hk, fun _ _ _ _ => rfl, hp⟩ ?_ ?_
  · intro hm
    exact absurd F.ns.lt ((List.mem_singleton.mp hm) ▸ Nat.lt_irrefl _)
  · intro b hb
    rw [List.mem_singleton.mp hb]
    exact next_is_new F
  · intro p hp hI
    exact absurd (Heap.lt_size (N p hp).1) ((List.mem_singleton.mp hI) ▸ Nat.lt_irrefl _)
  · intro p hp hI
    exact absurd (Heap.lt_size (N p hp).1) ((List.mem_singleton.mp hI) ▸ Nat.lt_irrefl _)
  · rintro i v m₁ nx h tk own hi ⟨_, t, rfl⟩ _ hoff ⟨z, rfl, hf', h1, h2, hp'⟩ F₁ N₁
    exact turn z i t m₁ h tk own hi hoff hf' hp' (kst_fr h1 h2 F₁) N₁
  · rintro m₁ nx h tk ⟨z, rfl, hf', h1, h2, hp'⟩ F₁ N₁
    exact done z m₁ h tk hf' hp' (kst_frOut h1 h2 F₁) N₁
end
theorem small3 {n : Nat} (h : n ≤ 40) : Builtin.Range.small 0 (n : Int) 3 = true := by
  have key : ∀ m < 41, Builtin.Range.small 0 ((m : Nat) : Int) 3 = true := by decide +kernel
  exact key n (by omega)
theorem size3 {n : Nat} (h : n ≤ 40) : Builtin.Range.rangeSize 0 (n : Int) 3 = (((n + 2) / 3 : Nat) : Int) := by
  have key : ∀ m < 41, Builtin.Range.rangeSize 0 ((m : Nat) : Int) 3 = (((m + 2) / 3 : Nat) : Int) := by decide +kernel
  exact key n (by omega)
end Mine
end
section
open PySem PySem.W PyProof.Rows
set_option maxRecDepth 100000
namespace Mine
def fin3 (z : Int × Int × Int) : Int := if 0 < z.2.2 then pmI z.1 z.2.1 else z.1
def blocks3 : List Int → List Int
  | [] => []
  | [a] => grp [a]
  | [a, b] => grp [a, b]
  | a :: b :: c :: r => grp [a, b, c] ++ blocks3 r
theorem blocks_shift (a b c : Int) (r : List Int) : ∀ i, blocks (a :: b :: c :: r) (i + 1) = grp [a, b, c] ++ blocks r i
  | 0 => by simp [blocks]
  | i + 1 => by
    rw [blocks, blocks_shift a b c r i, blocks]
    have e : (a :: b :: c :: r).drop (3 * (i + 1)) = r.drop (3 * i) := by
      rw [show 3 * (i + 1) = 3 * i + 3 by omega]
      simp
    rw [e, List.append_assoc]
theorem blocks_eq : ∀ pl : List Int, blocks pl ((pl.length + 2) / 3) = blocks3 pl
  | [] => rfl
  | [a] => by simp [blocks, blocks3]
  | [a, b] => by simp [blocks, blocks3]
  | a :: b :: c :: r => by
    have e : ((a :: b :: c :: r).length + 2) / 3 = (r.length + 2) / 3 + 1 := by simp; omega
    rw [e, blocks_shift, blocks_eq r, blocks3]
theorem and31_fmod (p : Int) : Builtin.bitAnd p 31 = p.fmod 32 := kbt_maskF p 5
theorem two5 : (2 : Int) ^ Int.toNat 5 = 32 := by decide
theorem fin_fold : ∀ (pl : List Int) (c : Int), fin3 (pl.foldl ckTurn (c, 0, 0)) = (blocks3 pl).foldl pmI c
  | [], c => rfl
  | [a], c => by
    simp [blocks3, grp, ckTurn, fin3, and31_fmod, two5]
  | [a, b], c => by
    simp [blocks3, grp, ckTurn, fin3, and31_fmod, two5]
  | a :: b :: d :: r, c => by
    rw [blocks3, List.foldl_append, ← fin_fold r]
    simp [grp, ckTurn, and31_fmod, two5]
theorem codes_plc (x : Str) : (KStt.codes x).map (fun k => plc k.toNat) = x.cps.toList.map plc := by
  unfold KStt.codes
  rw [List.map_map]
  exact List.map_congr_left fun c _ => by simp
theorem eight : (List.replicate (Int.toNat 8) [(0 : Int)]).flatten = [0, 0, 0, 0, 0, 0, 0, 0] := by decide
theorem law_eq {x : Str} {r : Int} (h : r = (blocks (x.cps.toList.map plc) ((x.cps.size + 2) / 3) ++ (List.replicate (Int.toNat 8) [0]).flatten).foldl pmI 1) : endI (Builtin.bitXor r 1) = ckSum (KStt.codes x) := by
  have e : (x.cps.size + 2) / 3 = ((x.cps.toList.map plc).length + 2) / 3 := by rw [List.length_map, Array.length_toList]
  rw [e, blocks_eq, List.foldl_append, ← fin_fold, eight, ← codes_plc] at h
  unfold ckSum
  rw [h]
  rfl
end Mine
end
section
open PySem PySem.W PySem.Spec PySem.Calls PyProof.Rows
set_option maxRecDepth 100000
set_option maxHeartbeats 8000000
namespace Mine
theorem find_sign {prog : Program} {w : World} {A : Around} {E : Value → Shared → Prop} {s : Shared} {Q : Value → Shared → Prop} {n : Nat} {t u : Tok} (hn : n ∈ CSL)
    (h : 0 ≤ plc n → plc n < 95 → Q (.int (plc n) s.toks) { s with toks := s.toks + 1 }) :
    wpAny (model prog w) A (call (.builtin "str.find") [.str (Str.ofString "0123456789()[],'/*abcdefgh@:$%{}IJKLMNOPQRSTUVWXYZ&+-.;<=>?!^_|~ijklmnopqrstuvwxyzABCDEFGH`#\"\\ ") t, .str ⟨#[n]⟩ u]) Q E s :=
  SC.find ((plc_def n) ▸ h (plc_mem hn).1 (plc_mem hn).2)

structure CkS where
  o : Obj
  c : Int
  tc : Tok
  g : Int
  tg : Tok
  n : Int
  tn : Tok

local macro_rules | `(tactic| walk_at "call ref") => `(tactic| (k_here; (with_reducible show wpAny _ _ (call (Value.ref 46) [Value.int _ _, Value.int _ _]) _ _ _); k_dflt (refine' use_claim (polymod_walk _ _ _ _ _) ?k1 ?k2 ?k3 ?k4 ?k5 ?kK ?kd ?ku ?_; (case k1 => k_asm); (case k2 => k_asm); (case k3 => k_asm); (case k4 => k_asm); (case k5 => k_asm); (case kK => first | exact rfl | assumption); (case kd => ktr_room); (case ku => ktr_units); k_whole; intro t9 h9 tk9 F9 N9; (try dsimp only); (try k_sweep))))
local macro_rules | `(tactic| walk_at "call builtin:str.find") => `(tactic| (k_here; k_dflt (refine' find_sign ?k1 ?_; (case k1 => assumption); k_whole; intro p0 p1)))

local macro_rules | `(tactic| walk_at "ite") => `(tactic| k_dflt (first | (refine ite_neg (by (intro hC; (try simp only [decide_eq_true_eq, beq_iff_eq, bne_iff_ne, ne_eq] at hC); omega)) ?_; walk_say "CUT") | (refine ite_pos (by ((try simp only [decide_eq_true_eq, beq_iff_eq, bne_iff_ne, ne_eq]); omega)) ?_; walk_say "CUT")))
local macro_rules | `(tactic| walk_at "InvEndN") => `(tactic| fail "mine")

local macro_rules | `(tactic| walk_at "CompSrc") => `(tactic| (k_here; k_dflt (refine LCg.CompSrc.range (by rfl) (by k_asm) (by k_asm) (by assumption) (by decide) (by rfl) (by exact Nat.le_of_ble_eq_true rfl) ?_; intro g'; (refine' kct_range _ (fun k' t' I' oI' C' oC' D' m' ys' h' tk' E' hlo' hhi' hC' hx' F' N' off' ne' => ?_) ?_); (all_goals (try (simp only [LCg.Off3, and_true] at off'))); (all_goals (try ((show KPfMark → _); intro hMark'))); kcf_last)))
local macro_rules | `(tactic| walk_at "subscriptTail Name BinOp str int") => `(tactic| (k_here; k_dflt (refine' item_ck ?_)))

theorem code_in {x : Str} {pre post : List Int} {n : Nat} (e : KStt.codes x = pre ++ (n : Int) :: post) (hx : ∀ c ∈ x.cps.toList, c ∈ CSL) : n ∈ CSL := by
  have hm : (n : Int) ∈ KStt.codes x := by rw [e]; simp
  unfold KStt.codes at hm
  obtain ⟨c, hc, q⟩ := List.mem_map.mp hm
  have : c = n := by omega
  exact this ▸ hx c hc

theorem checksum_walk (w : World) (x : Str) (t : Tok) (hx : ∀ c ∈ x.cps.toList, c ∈ CSL) : KClaim 4 w 51 [.str x t] (fun t => .str (ckSum (KStt.codes x)) t) := by
  w_top off
  k_with_none
  unfold KClaim
  k_fill
  intro dp un gd cn cs a ccd cl outer A₀ base h₀ L m mean mg mb s Q E hB hF hX hT hk hd hu hret
  refine wpAny_call ?_
  k_dflt (refine' enter_cells ?k1 ?k2 ?k3 ?k5 ?kA ?kF ?kK ?k6 ?k7 ?k8 ?k9 ?kB ?kD ?_ ?c2 ?c3 ?c4; (case kA => exact rfl); (case kF => exact rfl); (case kK => assumption); (case k1 => k_asm); (case k2 => k_asm); (case k3 => k_asm); (case k5 => k_asm); (case k6 => k_is); (case k7 => k_is); (case k8 => ktr_room); (case k9 => exact BindsTo.of_eq rfl); (case kB => exact rfl); (case kD => decide +kernel); (case c2 => exact rfl); (case c3 => exact rfl); (case c4 => exact rfl); k_whole; intro g' L' h' tk' cells' hG1 hG2 F' N' Y' B' X' T'; k_cells Y'; (try simp only [List.cons_append, List.nil_append] at N'); (try dsimp only); (try k_fold))
  k_steps
  · rename_i oCh hCh _ oC hC _ _ F1 N1
    rename Fr _ _ _ _ => lF'
    with_unfolding_all refine' For_invVF lF' ?k1 ?k2 ?_
    case k1 => exact rfl
    case k2 => exact rfl
    k_steps
    with_unfolding_all refine' KStt.kst_text (σ := CkS) (fun z => [(L' + 1 + 1, z.o), (L' + 1, oCh)]) (fun z => [(Str.ofString "cls", .int z.g z.tg), (Str.ofString "clscount", .int z.n z.tn)]) (fun z => z.o.data = Data.cell (some (.int z.c z.tc))) [Str.ofString "pos"] (fun pre z => CkInv pre z.c z.g z.n) ⟨oC, 1, _, 0, _, 0, _⟩ (by rfl) (by assumption) (by assumption) hC ?kk ckInv_start ?turn ?done
    case kk => kst_all
    case turn =>
      intro z pre post n tn u h9 tk9 own e hoff hf hinv F9 N9
      have hn := code_in e hx
      obtain ⟨o9, c9, tc9, g9, tg9, n9, tn9⟩ := z
      obtain ⟨hinv0, i1, i2, i3, i4, i5, i6⟩ := id hinv
      dsimp only [kstB] at hf hinv F9 N9 i1 i2 i3 i4 i5 i6
      simp only [List.cons_append, List.nil_append] at N9
      clear lF' N1
      have kMark := kstMark
      (try k_fold)
      k_steps
      all_goals (rename Fr _ _ _ _ => F8; rename News _ _ _ _ => N8)
      all_goals (refine' kst_end (CkS.mk _ _ _ _ _ _ _) F8 N8 ?hn ?ho ?ha ?hf ?hk ?hr ?hp; (case hf => assumption); (case hk => kst_all); (case ha => rfl); (case hn => exact List.forall_mem_cons.mpr ⟨List.mem_cons_self, List.forall_mem_cons.mpr ⟨List.mem_cons_of_mem _ List.mem_cons_self, List.forall_mem_nil _⟩⟩); (case ho => exact fun p hp => List.mem_cons_of_mem _ (List.mem_cons_of_mem _ hp)); (case hr => kst_same); (case hp => (dsimp only; first | with_reducible exact ckInv_go (by assumption) (by assumption) (by assumption) | with_reducible exact ckInv_full (by assumption) (by assumption) (by assumption))))
    case done =>
      intro z u h9 tk9 hf hinv F9 N9
      obtain ⟨o9, c9, tc9, g9, tg9, n9, tn9⟩ := z
      obtain ⟨hinv0, i1, i2, i3, i4, i5, i6⟩ := id hinv
      dsimp only [kstB] at hf hinv F9 N9 i1 i2 i3 i4 i5 i6
      clear lF' N1
      (try k_fold)
      k_steps
      all_goals (refine ret_str (s := s) hret ?_ (hG1.trans (by (rename Fr _ _ _ _ => F8); exact F8.keep)))
      · exact (endI_eq _ _ rfl).trans (ckSum_more hinv (by omega))
      · exact (endI_eq _ _ rfl).trans (ckSum_done hinv (by omega))
end Mine
end
section
open PySem PySem.W PySem.Spec PySem.Calls PyProof.Rows
set_option maxRecDepth 100000
set_option maxHeartbeats 8000000
namespace Mine
local macro_rules | `(tactic| walk_at "call ref") => `(tactic| (k_here; (with_reducible show wpAny _ _ (call (Value.ref 72) [Value.int _ _, Value.int _ _]) _ _ _); k_dflt (refine' use_claim (step_walk _ _ _ _ _) ?k1 ?k2 ?k3 ?k4 ?k5 ?kK ?kd ?ku ?_; (case k1 => k_asm); (case k2 => k_asm); (case k3 => k_asm); (case k4 => k_asm); (case k5 => k_asm); (case kK => first | exact rfl | assumption); (case kd => ktr_room); (case ku => ktr_units); k_whole; intro t9 h9 tk9 F9 N9; (try dsimp only); (try k_sweep))))
local macro_rules | `(tactic| walk_at "call ref") => `(tactic| (k_here; (with_reducible show wpAny _ _ (call (Value.ref 65) _) _ _ _); k_dflt (refine' use_claim (signs_walk _) ?k1 ?k2 ?k3 ?k4 ?k5 ?kK ?kd ?ku ?_; (case k1 => k_asm); (case k2 => k_asm); (case k3 => k_asm); (case k4 => k_asm); (case k5 => k_asm); (case kK => first | exact rfl | assumption); (case kd => ktr_room); (case ku => ktr_units); k_whole; intro t9 h9 tk9 F9 N9; (try dsimp only); (try k_sweep))))
theorem len_places {ys : List Value} {x : Str} (h : IntsAre ys (x.cps.toList.map plc)) : ys.length = x.cps.size := by
  rw [IntsAre.length h, List.length_map, Array.length_toList]
local macro_rules | `(tactic| walk_at "call builtin:len") => `(tactic| (k_here; (with_reducible show wpAny _ _ (call (Value.builtin "len") [Value.ref _]) _ _ _); k_dflt (refine' kst_len ?k1 ?k2 ?k3 ?k4 ?_; (case k1 => k_asm); (case k2 => k_mem); (case k3 => exact len_places (by assumption)); (case k4 => omega); k_whole)))
local macro_rules | `(tactic| walk_at "call builtin:str.index") => `(tactic| (k_here; k_dflt (refine' index_sign (by rfl) ?k1 ?_; (case k1 => assumption); k_whole; intro p0 p1)))
local macro_rules | `(tactic| walk_at "exec Assign cons ListComp") => `(tactic| (k_here; k_dflt (refine assign_comp_text (by k_asm) (by rfl) (by with_unfolding_all rfl) (by with_unfolding_all rfl) (by decide) (by rfl) (by decide) (by rfl) (by rfl) (by rfl) ?_)))
local macro_rules | `(tactic| walk_at "SrcText") => `(tactic| (k_here; k_dflt (refine' srcText_intro (by rfl) ?k1 ?k2 ?k3 ?_; (case k1 => k_asm); (case k2 => k_asm); (case k3 => (rw [sizeLine_eq]; omega)); intro g'; (refine' signs_rest plc ?k4 (fun k' t' I' oI' C' oC' D' m' ys' h' tk' E' hn' hC' hx' F' N' off' ne' => ?_) ?_); (case k4 => assumption); (all_goals (try (simp only [LCg.Off3, and_true] at off'))); kcf_last)))

local macro_rules | `(tactic| walk_at "KCfEl") => `(tactic| (k_dflt (exact ⟨rfl, _, rfl⟩)))
theorem slice3 {ys : List Value} {pl : List Int} (h : IntsAre ys pl) (i : Nat) : IntsAre (slicePick ys.toArray (some (0 + (i : Int) * 3)) (some (0 + (i : Int) * 3 + 3)) none).toList ((pl.drop (3 * i)).take 3) := by
  have hr := kmk_run (x := 0 + (i : Int) * 3) (y := 0 + (i : Int) * 3 + 3) h (by omega) (by omega)
  have e1 : (0 + (i : Int) * 3).toNat = 3 * i := by omega
  have e2 : (0 + (i : Int) * 3 + 3).toNat = 3 * i + 3 := by omega
  rw [e1, e2] at hr
  have e : (pl.drop (3 * i)).take (min (3 * i + 3) pl.length - 3 * i) = (pl.drop (3 * i)).take 3 := by
    by_cases hc : 3 * i + 3 ≤ pl.length
    · rw [Nat.min_eq_left hc]
      congr 1
      omega
    · rw [Nat.min_eq_right (by omega), List.take_of_length_le (by rw [List.length_drop]; omega), List.take_of_length_le (by rw [List.length_drop]; omega)]
  rw [e] at hr
  exact hr
theorem places_size {ys : List Value} {x : Str} (h : IntsAre ys (x.cps.toList.map plc)) (hl : x.cps.size ≤ 40) : ys.toArray.size ≤ sizeLine := by
  rw [List.size_toArray, len_places h, sizeLine_eq]; omega
local macro_rules | `(tactic| walk_at "subscriptTail Name Slice ref ref") => `(tactic| (k_here; (with_reducible show wpAny _ _ (subscriptTail _ (PySem.Expr.Slice _ _ none _) (Value.ref _) (Value.ref _)) _ _ _); k_dflt (refine' kmk_slice_ints ?F ?N ?l ?p ?q ?i ?m ?c ?_ ?s ?t ?z; (case F => k_asm); (case N => k_asm); (case l => kmk_list); (case p => kmk_part); (case q => kmk_part); (case i => assumption); (case m => exact slice3 (by assumption) _); (case c => exact List.length_take ..); (case s => with_unfolding_all rfl); (case t => kmk_pure); (case z => exact places_size (by assumption) (by assumption)); intro D' ws' h' F' N' l1 hI' hC' hL'; (try k_lt l1); (try k_sweep))))
local macro_rules | `(tactic| walk_at "pyIter ref") => `(tactic| k_dflt ((k_extra "pyIter ref")))
local macro_rules | `(tactic| walk_at "exec For Name BinOp cons nil") => `(tactic| (k_here; (rename Fr _ _ _ _ => lF'); k_dflt (with_unfolding_all refine' For_invVF lF' ?k1 ?k2 ?_; (case k1 => exact rfl); (case k2 => exact rfl); k_whole)))
local macro_rules | `(tactic| walk_at "CompSrc") => `(tactic| (k_here; k_dflt (refine LCg.CompSrc.range (by rfl) (by k_asm) (by k_asm) (by assumption) (by decide) (by rfl) (by exact Nat.le_of_ble_eq_true rfl) ?_; intro g'; (refine' kct_range _ (fun k' t' I' oI' C' oC' D' m' ys' h' tk' E' hlo' hhi' hC' hx' F' N' off' ne' => ?_) ?_); (all_goals (try (simp only [LCg.Off3, and_true] at off'))); (all_goals (try ((show KPfMark → _); intro hMark'))); kcf_last)))
local macro_rules | `(tactic| walk_at "subscriptTail Constant str BinOp str int") => `(tactic| (k_here; k_dflt (refine' item_ck ?_)))
local macro_rules | `(tactic| walk_at "subscriptTail Name BinOp str int") => `(tactic| (k_here; k_dflt (refine' item_ck ?_)))
structure RS where
  o : Obj
  r : Int
  t : Tok
structure VS where
  vs : List Value
  ns : List Int
  k : Nat
theorem law_end_walk (w : World) (x : Str) (t : Tok) (hx : ∀ c ∈ x.cps.toList, c ∈ CSL) (hlen : x.cps.size ≤ 40) : KClaim 4 w 77 [.str x t] (fun t => .str (ckSum (KStt.codes x)) t) := by
  w_top off
  k_with_none
  unfold KClaim
  k_fill
  intro dp un gd cn cs a ccd cl outer A₀ base h₀ L m mean mg mb s Q E hB hF hX hT hk hd hu hret
  refine wpAny_call ?_
  k_dflt (refine' enter_cells ?k1 ?k2 ?k3 ?k5 ?kA ?kF ?kK ?k6 ?k7 ?k8 ?k9 ?kB ?kD ?_ ?c2 ?c3 ?c4; (case kA => exact rfl); (case kF => exact rfl); (case kK => assumption); (case k1 => k_asm); (case k2 => k_asm); (case k3 => k_asm); (case k5 => k_asm); (case k6 => k_is); (case k7 => k_is); (case k8 => ktr_room); (case k9 => exact BindsTo.of_eq rfl); (case kB => exact rfl); (case kD => decide +kernel); (case c2 => exact rfl); (case c3 => exact rfl); (case c4 => exact rfl); k_whole; intro g' L' h' tk' cells' hG1 hG2 F' N' Y' B' X' T'; k_cells Y'; (try simp only [List.cons_append, List.nil_append] at N'); (try dsimp only); (try k_fold))
  rename_i oR dR
  k_steps
  rename_i D' _ _ o1 l' _ l1 _ _ _ _ _ _ _ _ hR F1 N1 _
  with_unfolding_all refine' kst_step (σ := VS) (fun z => [(l', W.listOf z.vs.toArray z.k), (D', LCg.lst ys), (L' + 1, oR)]) (fun _ => []) (fun z => IntsAre z.vs z.ns) [Str.ofString "some", Str.ofString "group", Str.ofString "place"] (fun i z => z.ns = blocks (x.cps.toList.map plc) i) ⟨[], [], 0⟩ (by rfl) (by assumption) (small3 hlen) (size3 hlen) F1 N1 IntsAre.nil (fun _ hp => nomatch hp) rfl ?turn ?done
  case turn =>
    intro z i tt u h9 tk9 own hi hoff hf hinv F9 N9
    obtain ⟨vs, ns, k⟩ := z
    dsimp only [kstB] at hf hinv F9 N9
    simp only [List.cons_append, List.nil_append] at N9
    clear F1 N1
    have kMark := kstMark
    have kLen := IntsAre.length hf
    have hb : ns.length ≤ 160 := by have := blocks_length (x.cps.toList.map plc) i; rw [hinv]; omega
    (try k_fold)
    k_with "pyIter ref" => k_state_given ["values!"] (fun V0 pre V g => V = V0 ++ pre.map (fun p => p.fmod 32) ∧ g = pre.foldl (fun g p => g * 3 + p.fdiv 32) 0 ∧ V.length = V0.length + pre.length ∧ V0.length ≤ 160) "values" "group"
    k_with "state" => (first | exact inner_start _ (by assumption) | exact inner_go (by assumption) (by assumption) (by assumption) (by assumption))
    k_steps
    rename Fr _ _ _ _ => F8
    rename News _ _ _ _ => N8
    simp only [List.push_toArray] at N8
    refine' kst_end (VS.mk _ _ _) F8 N8 ?hn ?ho ?ha ?hf ?hk ?hr ?hp
    case hn => first | kst_in | kst_inAny
    case ho => first | (intro p hp; kst_mem) | kst_anyIn
    case ha => rfl
    case hf => exact IntsAre.append (by assumption) (.cons _ _ .nil)
    case hk => exact fun _ hp => nomatch hp
    case hr => kst_same
    case hp => exact outer_go (by assumption) (by assumption) (by assumption)
  case done =>
    intro z u h9 tk9 hf hinv F9 N9
    obtain ⟨vs, ns, k⟩ := z
    dsimp only [kstB] at hf hinv F9 N9
    clear F1 N1
    have kMark := kstMark
    have kLen := IntsAre.length hf
    have hb : ns.length ≤ 160 := by have := blocks_length (x.cps.toList.map plc) ((x.cps.size + 2) / 3); rw [hinv]; omega
    (try k_fold)
    k_steps
    dsimp only
    rename_i oC dC _ _ _ _ _ _ _ _ _ _ _ _ Dl ws _ F2 N2 hW _
    with_unfolding_all refine' kst_listL (σ := RS) (fun z => [(Dl, W.listOf ws.toArray 0), (L' + 1, z.o)]) (fun _ => []) (fun z => z.o.data = Data.cell (some (.int z.r z.t))) [] (fun pre z => z.r = pre.foldl pmI 1) ⟨oC, 1, _⟩ (by rfl) (fun _ => List.mem_cons_self) hW F2 (kst_newsOf N2 (List.forall_mem_cons.mpr ⟨by k_mem, List.forall_mem_cons.mpr ⟨by k_mem, List.forall_mem_nil _⟩⟩)) dC (fun _ hp => nomatch hp) rfl ?turn ?done
    case turn =>
      intro z pre post n tn u2 h8 tk8 own e hmem hoff hf2 hinv2 F9 N9
      obtain ⟨o8, r8, t8⟩ := z
      dsimp only [kstB] at hf2 hinv2 F9 N9
      simp only [List.cons_append, List.nil_append] at N9
      clear F2 N2
      (try k_fold)
      k_steps
      rename Fr _ _ _ _ => F8
      rename News _ _ _ _ => N8
      refine' kst_end (RS.mk _ _ _) F8 N8 ?hn ?ho ?ha ?hf ?hk ?hr ?hp
      case hf => assumption
      case hn => first | kst_in | kst_inAny
      case ho => first | (intro p hp; kst_mem) | kst_anyIn
      case ha => rfl
      case hk => exact fun _ hp => nomatch hp
      case hr => kst_same
      case hp => exact law_tail (by assumption)
    case done =>
      intro z u2 h8 tk8 hf2 hinv2 F9 N9
      obtain ⟨o8, r8, t8⟩ := z
      dsimp only [kstB] at hf2 hinv2 F9 N9
      clear F2 N2
      (try k_fold)
      k_steps
      all_goals (refine ret_str (s := s) hret ?_ (hG1.trans (by (rename Fr _ _ _ _ => F8); exact F8.keep)))
      rw [hinv] at hinv2
      exact (endL_eq _ _ rfl).trans (law_eq hinv2)
end Mine
end
section
open PySem PySem.W PySem.Spec PySem.Calls PyProof.Rows
set_option maxRecDepth 100000
set_option maxHeartbeats 400000
namespace Mine
theorem mem_frames {env : Env} {outer : List Env} {L b : Addr} (hf : env.frame = some L) (hm : b ∈ (env :: outer).filterMap (·.frame)) : b = L ∨ b ∈ outer.filterMap (·.frame) := by
  obtain ⟨env', he, hf'⟩ := List.mem_filterMap.mp hm
  rcases List.mem_cons.mp he with rfl | he
  · rw [hf] at hf'; exact .inl (Option.some.inj hf').symm
  · exact .inr (List.mem_filterMap.mpr ⟨env', he, hf'⟩)

section
variable {M : Model} {A : Around} {E : Value → Shared → Prop} {s' : Shared} {base g h : Heap} {outer : List Env} {L e : Addr} {m : Str → Option Value} {env : Env} {Q : Unit → Shared → Prop}
/-- an exception just made leaves a frame, cells or none -/
theorem leaveX {cls : Value} {vs : List Value} (K : Below A base outer g) (hx : Heap.MadeExcOf h s'.heap e cls vs) (F : Fr g L h m) (hf : env.frame = some L) (hke : env.scope.kind = .function)
    (hQ : ∀ h' t, RaisedS base g outer e cls t vs [] h' → g.UpToSlots h' → Q () { s' with heap := h' }) :
    wpAny M (A.deeper env) (leaving env (.ref e)) Q E s' := by
  have K' := pushX K F hf hke
  have hin : ∀ env' ∈ (env :: outer), ∀ b, env'.frame = some b → b ∈ (env :: outer).filterMap (·.frame) := fun env' he b hb => List.mem_filterMap.mpr ⟨env', he, hb⟩
  have st : base.StaysIn (hideAll h ((env :: outer).filterMap (·.frame))) := fun b o q => hideAll_get _ (K'.stays b o q) fun hm => by
    rw [(K'.frames.mem hm).1] at q; cases q
  have sg : ∀ b o, g.get? b = some o → b ∉ outer.filterMap (·.frame) → (hideAll h ((env :: outer).filterMap (·.frame))).get? b = some o := fun b o q nm => hideAll_get _ (F.keep b o q) fun hm => by
    rcases mem_frames hf hm with z | z
    · rw [z, kts_self F] at q
      cases q
    · exact nm z
  exact wpAny_leaves_madeW K'.stack hf (fun b o q => of_hideAll _ q) (funFrames_hide K'.frames hin) hx fun h' t x1 x2 x3 x4 =>
    hQ h' t ⟨⟨_, st, sg, (fun _ hq => (nomatch hq)), x1, x3⟩, x2⟩ (((Heap.UpToSlots.of_keeps F.keep).trans (Heap.UpToSlots.of_keeps hx.keeps)).trans x4)
end

section
variable {prog : Program} {w : World} {A : Around} {E : Value → Shared → Prop} {s : Shared} {K : Frag} {h₀ : Heap} {L a : Addr} {m mg mb : Str → Option Value} {cn : Str} {cs : Scope} {ccd : Value} {cl : List (Str × Addr)} {p : Program} {loose : List Str}
  {x : Str} {C : Addr} {B newId initId : String} {bm : List Value} {np cpos pos : Pos} {Q : Flow → Shared → Prop}
/-- raise X(..) of the text's own class, in a frame with cells or none -/
theorem raiseX {e₀ : Expr} {rest : List Expr} (F : Fr h₀ L s.heap m) (X : K.In h₀) (T : TopRead p loose mg mb h₀) (en : nsIn K mainGlobals x = some (some (.ref C))) (q : excIn K C bm newId = true) (FB : ExcBaseFacts B newId initId bm) (hh : A.handled = none)
    (h : wpAny (model prog w) A (spliced (backTo cpos (starEach (e₀ :: rest) (envX cn cs L a ccd cl)))) (fun vs s₂ => vs.length ≤ sizeLine ∧ (∀ b o, h₀.get? b = some o → s₂.heap.get? b = some o) ∧
      ∀ h' e, Heap.MadeExcOf s₂.heap h' e (.ref C) vs → E (.ref e) { s₂ with heap := h' }) E s)
    (he : starEach (e₀ :: rest) (envX cn cs L a ccd cl) = (false, eval e₀ (envX cn cs L a ccd cl)) :: starEach rest (envX cn cs L a ccd cl) := by rfl)
    (hplain : (backTo cpos (starEach rest (envX cn cs L a ccd cl))).any (·.1) = false := by rfl)
    (hk : cs.kind = .function := by rfl) (hx : (envX cn cs L a ccd cl).kindOf x = some .globalImplicit := by rfl) (hd : (x == ("__debug__" : Str)) = false := by decide) :
    wpAny (model prog w) A (exec (.Raise (some (.Call (.Name x np) (e₀ :: rest) [] cpos)) none pos) (envX cn cs L a ccd cl)) Q E s := by
  have O := own_of_in X T en q
  obtain ⟨tl, N, nm, q', bs, hdct, sn, sub, ab, col, dd, k0, k1, k2, k3, k5, mN, hC, hN, hni, TT⟩ := O.obj
  refine wpAny_Raise_call_subT (C := C) (nm := nm) (q := q') (N := N) (bs := bs) (bm := tl) (hdct := hdct) (sn := sn) (sub := sub) (ab := ab) (col := col) (dd := dd) (k0 := k0) (k1 := k1) (k2 := k2) (k3 := k3) (k5 := k5)
    FB (mN := mN) (TT.hasType FB.hasBase) hh (by rw [he]; show (false || (backTo cpos (starEach rest (envX cn cs L a ccd cl))).any (·.1)) = false; rw [hplain]; rfl) hni (nameX_K F X T en ⟨rfl, ?_⟩ hk hx hd)
  rw [he] at h ⊢
  exact Calls.evalArgs_plain (wpAny_mono h (fun vs s₂ h₂ => ⟨rfl, h₂.1, h₂.2.1 _ _ hC, hN.keeps h₂.2.1, TT.keeps h₂.2.1, h₂.2.2⟩) fun _ _ y => y)
end

section
variable {prog : Program} {w : World} {A₀ A : Around} {s : Shared} {base h₀ : Heap} {L : Addr} {m : Str → Option Value} {env : Env} {K : Frag} {p : Program} {loose : List Str} {mean : ExcName → Option Value} {mg mb : Str → Option Value}
  {R : Result → Shared → Prop} {name qual : Str} {params : Arguments} {body : List Stmt} {scope : Scope} {dV kV doc pm cdv ct oc : Value} {an od : Option Addr} {osl : Array (Option Value)} {f : Addr} {args : Args} {binds : List (Str × Value)}
/-- a def that catches is entered from a frame below which none stands -/
theorem enter_try (B : Below A₀ base [] h₀) (F : Fr h₀ L s.heap m) (X₀ : K.In h₀) (T : Top p loose mean mg mb h₀) (hA : A.frames = some [env]) (hf : env.frame = some L) (hke : env.scope.kind = .function)
    (ho : K.lookup f = some ⟨oc, od, .func (fnOf name qual params body scope dV kV doc pm an cdv ct), osl⟩) (hcd : codeIn K cdv qual = true) (hroom : A.depth < recursionLimit)
    (hbind : BindsTo s (fnOf name qual params body scope dV kV doc pm an cdv ct) args binds) (hloc : ∀ y ∈ binds, scope.names.lookup y.1 = some .local)
    (h : ∀ g L' h₁, (∀ g' L'' m'' h'', KtsTurn [L] g g' → Fr g' L'' h'' m'' → Fr h₀ L h'' m) → Fr g L' h₁ (fun y => binds.reverse.lookup y) → News g L' h₁ [] → Below A base [env] g → K.In g → Top p loose mean mg mb g → KtsDicts [L] g →
      wpAny (model prog w) (A.deeper (envOf qual scope L' f cdv)) (execs body (envOf qual scope L' f cdv))
        (fun fl s' => R (.ok (.ret (match fl with | .ret v => v | _ => .none))) s')
        (fun e s' => wpAny (model prog w) (A.deeper (envOf qual scope L' f cdv)) (leaving (envOf qual scope L' f cdv) e) (fun _ s'' => R (.error e) s'') (fun e' s'' => R (.error e') s'') s')
        { s with heap := h₁, toks := s.toks + binds.length })
    (hco : scope.isCoroutine = false) (hgen : scope.isGenerator = false) (hk : scope.kind = .function)
    (hcell : ∀ x ∈ scope.names, x.2 ≠ .cell) : codeAny (model prog w) A (.call (.ref f) args) R s := by
  obtain ⟨FG, BG, st, lv⟩ := groundX (R := R) B F News.nil hA hf hke
  change Fr h₀ L s.heap m at FG
  change Below A base [env] s.heap at BG
  refine codeAny_call_def (fd := fnOf name qual params body scope dV kV doc pm an cdv ct) (body := body) (binds := binds) hroom ((X₀.keeps F.keep) _ _ ho) rfl (T.nolimit.keeps F.keep) (codeRec_of (X₀.keeps F.keep) hcd) rfl hbind hcell hloc (fun h₁ hns hk₁ => ?_) hco hgen hk
  obtain ⟨oL, es, ep, hL, hLd, hLk, hLf⟩ := F.ns
  refine h s.heap s.heap.objs.size h₁ (fun g' L'' m'' h'' T' F' => ?_) ⟨hns, hk₁, Nat.le_refl _⟩ News.nil BG (X₀.keeps F.keep) (T.keeps F.keep) (fun b hb => by
    rw [List.mem_singleton.mp hb]; exact ⟨oL, es, ep, hL, hLd⟩)
  obtain ⟨sl, hs⟩ := T'.up hL
  refine ⟨⟨_, es, ep, F'.keep _ _ hs, hLd, hLk, hLf⟩, fun b o e => F'.keep b o (T'.other b o (F.keep b o e) fun q => ?_), F.above⟩
  rw [List.mem_singleton.mp q, kts_self F] at e
  cases e
end
end Mine
end
section
open PySem PySem.W PySem.Spec PySem.Calls PyProof.Rows
set_option maxRecDepth 100000
set_option maxHeartbeats 8000000
namespace Mine
theorem find_any {prog : Program} {w : World} {A : Around} {E : Value → Shared → Prop} {s : Shared} {Q : Value → Shared → Prop} {n : Nat} {t u : Tok} (h : Q (.int (plc n) s.toks) { s with toks := s.toks + 1 }) :
    wpAny (model prog w) A (call (.builtin "str.find") [.str (Str.ofString "0123456789()[],'/*abcdefgh@:$%{}IJKLMNOPQRSTUVWXYZ&+-.;<=>?!^_|~ijklmnopqrstuvwxyzABCDEFGH`#\"\\ ") t, .str ⟨#[n]⟩ u]) Q E s :=
  SC.find ((plc_def n) ▸ h)
theorem RaisedS_kept {base G G' : Heap} {l : List Env} {e t : Addr} {cls : Value} {vs : List Value} {h : Heap} (k : Kept G' G) (R : RaisedS base G l e cls t vs [] h) : RaisedS base G' l e cls t vs [] h := by
  obtain ⟨⟨B, hB, hBG, hl, hfl, hnew⟩, htup⟩ := R
  exact ⟨⟨B, hB, fun b o q nm => hBG b o (k b o q) nm, fun _ hq => (nomatch hq), hfl, hnew⟩, htup⟩
def AllIn (pre : List Int) : Prop := ∀ k ∈ pre, k.toNat ∈ CSL
theorem allIn_snoc {pre : List Int} {n : Nat} (h : AllIn pre) (hn : n ∈ CSL) : AllIn (pre ++ [(n : Int)]) := by
  intro k hk
  rcases List.mem_append.mp hk with hk | hk
  · exact h k hk
  · rw [List.mem_singleton.mp hk]; exact hn
theorem allIn_not {x : Str} (h : AllIn (KStt.codes x)) (hb : ∃ c ∈ x.cps.toList, c ∉ CSL) : False := by
  obtain ⟨c, hc, hn⟩ := hb
  have hm : (c : Int) ∈ KStt.codes x := List.mem_map.mpr ⟨c, hc, rfl⟩
  exact hn (by have := h _ hm; rwa [Int.toNat_natCast] at this)
theorem code_of {x : Str} {pre post : List Int} {n : Nat} (e : KStt.codes x = pre ++ (n : Int) :: post) : n ∈ x.cps.toList := by
  have hm : (n : Int) ∈ KStt.codes x := by rw [e]; simp
  unfold KStt.codes at hm
  obtain ⟨c, hc, q⟩ := List.mem_map.mp hm
  have : c = n := by omega
  exact this ▸ hc

def RClaim (room : Nat) (w : World) (x : Str) (t : Tok) : Prop :=
  ∀ (dp un : Nat) (gd : Option (List Code)) (cn : Str) (cs : Scope) (a : Addr) (ccd : Value) (cl : List (Str × Addr)) (outer : List Env) (A₀ : Around) (base h₀ : Heap) (L : Addr) (m : Str → Option Value)
    (mean : ExcName → Option Value) (mg mb : Str → Option Value) (s : Shared) (Q E : Value → Shared → Prop),
    Below A₀ base outer h₀ → Fr h₀ L s.heap m → (hd.heap_39 w.params).In h₀ → Top hd.view_39 (looseW hd.view_39 []) mean mg mb h₀ → cs.kind = .function → dp + room < recursionLimit → un + 8 * room < cLine →
    (∀ e tt vs h' tk', RaisedS base s.heap (envX cn cs L a ccd cl :: outer) e (.ref 37) tt vs [] h' → s.heap.UpToSlots h' → E (.ref e) { s with heap := h', toks := tk' }) →
    wpAny (model PySem.Challenge.rw_ci0001_01.row.prog w) (ktrTop dp un gd cn cs L a ccd cl outer) (call (.ref 51) [.str x t]) Q E s
local macro_rules | `(tactic| walk_at "call ref") => `(tactic| (k_here; (with_reducible show wpAny _ _ (call (Value.ref 46) [Value.int _ _, Value.int _ _]) _ _ _); k_dflt (refine' use_claim (polymod_walk _ _ _ _ _) ?k1 ?k2 ?k3 ?k4 ?k5 ?kK ?kd ?ku ?_; (case k1 => k_asm); (case k2 => k_asm); (case k3 => k_asm); (case k4 => k_asm); (case k5 => k_asm); (case kK => first | exact rfl | assumption); (case kd => ktr_room); (case ku => ktr_units); k_whole; intro t9 h9 tk9 F9 N9; (try dsimp only); (try k_sweep))))
local macro_rules | `(tactic| walk_at "call builtin:str.find") => `(tactic| (k_here; k_dflt (refine' find_any ?_)))
local macro_rules | `(tactic| walk_at "ite") => `(tactic| k_dflt (first | (refine ite_neg (by (intro hC; (try simp only [decide_eq_true_eq, beq_iff_eq, bne_iff_ne, ne_eq] at hC); omega)) ?_; walk_say "CUT") | (refine ite_pos (by ((try simp only [decide_eq_true_eq, beq_iff_eq, bne_iff_ne, ne_eq]); omega)) ?_; walk_say "CUT")))
local macro_rules | `(tactic| walk_at "InvEndN") => `(tactic| fail "mine")
local macro_rules | `(tactic| walk_at "exec Raise some none") => `(tactic| (k_here; k_dflt ((refine' raiseX (bm := [.type "Exception", .type "BaseException", .type "object"]) ?F ?X ?T ?e ?q PySem.F.excBase_Exception ?h ?_ ?a ?b ?c ?d ?f; (case F => k_asm); (case X => k_asm); (case T => exact topRead_of (by k_asm)); (case e => k_is); (case q => k_exc); (case h => rfl); (case a => rfl); (case b => rfl); (case c => rfl); (case d => rfl); (case f => decide); k_whole))))
theorem one_sign (n : Nat) : (⟨#[n]⟩ : Str).length ≤ 1000000 := by show 1 ≤ 1000000; decide
local macro_rules | `(tactic| walk_at "binaryOp Mod str str") => `(tactic| (k_here; (refine' KPc.mod_str ?kpcF ?kpcl ?kpcm ?_; (case kpcF => kpc_eq); (case kpcl => exact one_sign _); (case kpcm => k_dflt kpc_run_s)); intro _ _))
local macro_rules | `(tactic| walk_at "leaving ref") => `(tactic| (k_here; k_dflt (refine' leaveX ?k1 ?k0 ?k2 ?kf ?kk ?_; (case k0 => assumption); (case k1 => assumption); (case k2 => assumption); (case kf => rfl); (case kk => rfl); k_whole; intro h' t' S' U'; (try dsimp only at S' U' ⊢))))

theorem checksum_raises (w : World) (x : Str) (t : Tok) (hx : ∀ c ∈ x.cps.toList, c ∈ CSL ∨ plc c = -1) (hb : ∃ c ∈ x.cps.toList, c ∉ CSL) : RClaim 4 w x t := by
  w_top off
  k_with_none
  unfold RClaim
  k_fill
  intro dp un gd cn cs a ccd cl outer A₀ base h₀ L m mean mg mb s Q E hB hF hX hT hk hd hu hret
  refine wpAny_call ?_
  k_dflt (refine' enter_cells ?k1 ?k2 ?k3 ?k5 ?kA ?kF ?kK ?k6 ?k7 ?k8 ?k9 ?kB ?kD ?_ ?c2 ?c3 ?c4; (case kA => exact rfl); (case kF => exact rfl); (case kK => assumption); (case k1 => k_asm); (case k2 => k_asm); (case k3 => k_asm); (case k5 => k_asm); (case k6 => k_is); (case k7 => k_is); (case k8 => ktr_room); (case k9 => exact BindsTo.of_eq rfl); (case kB => exact rfl); (case kD => decide +kernel); (case c2 => exact rfl); (case c3 => exact rfl); (case c4 => exact rfl); k_whole; intro g' L' h' tk' cells' hG1 hG2 F' N' Y' B' X' T'; k_cells Y'; (try simp only [List.cons_append, List.nil_append] at N'); (try dsimp only); (try k_fold))
  k_steps
  · rename_i oCh hCh _ oC hC _ _ F1 N1
    rename Fr _ _ _ _ => lF'
    with_unfolding_all refine' For_invVF lF' ?k1 ?k2 ?_
    case k1 => exact rfl
    case k2 => exact rfl
    k_steps
    with_unfolding_all refine' KStt.kst_text (σ := CkS) (fun z => [(L' + 1 + 1, z.o), (L' + 1, oCh)]) (fun z => [(Str.ofString "cls", .int z.g z.tg), (Str.ofString "clscount", .int z.n z.tn)]) (fun z => z.o.data = Data.cell (some (.int z.c z.tc))) [Str.ofString "pos"] (fun pre z => CkInv pre z.c z.g z.n ∧ AllIn pre) ⟨oC, 1, _, 0, _, 0, _⟩ (by rfl) (by assumption) (by assumption) hC ?kk ⟨ckInv_start, fun _ hq => (nomatch hq)⟩ ?turn ?done
    case kk => kst_all
    case turn =>
      intro z pre post n tn u h9 tk9 own e hoff hf hinv F9 N9
      obtain ⟨o9, c9, tc9, g9, tg9, n9, tn9⟩ := z
      obtain ⟨hinv, hall⟩ := hinv
      obtain ⟨hinv0, i1, i2, i3, i4, i5, i6⟩ := id hinv
      dsimp only [kstB] at hf hinv F9 N9 i1 i2 i3 i4 i5 i6
      simp only [List.cons_append, List.nil_append] at N9
      clear lF' N1
      have kMark := kstMark
      rcases hx n (code_of e) with hn | hn
      · have hp := plc_mem hn
        (try k_fold)
        k_steps
        all_goals (rename Fr _ _ _ _ => F8; rename News _ _ _ _ => N8)
        all_goals (refine' kst_end (CkS.mk _ _ _ _ _ _ _) F8 N8 ?hn ?ho ?ha ?hf ?hk ?hr ?hp; (case hf => assumption); (case hk => kst_all); (case ha => rfl); (case hn => exact List.forall_mem_cons.mpr ⟨List.mem_cons_self, List.forall_mem_cons.mpr ⟨List.mem_cons_of_mem _ List.mem_cons_self, List.forall_mem_nil _⟩⟩); (case ho => exact fun p hp => List.mem_cons_of_mem _ (List.mem_cons_of_mem _ hp)); (case hr => kst_same); (case hp => (dsimp only; refine ⟨?_, allIn_snoc hall hn⟩; first | with_reducible exact ckInv_go (by assumption) (by assumption) (by assumption) | with_reducible exact ckInv_full (by assumption) (by assumption) (by assumption))))
      · (try k_fold)
        k_steps
        all_goals exact hret _ _ _ _ _ (RaisedS_kept hG1 (by assumption)) ((Heap.UpToSlots.of_keeps hG1).trans (by assumption))
    case done =>
      intro z u h9 tk9 hf hinv F9 N9
      exact (allIn_not hinv.2 hb).elim
end Mine
end
section
open PySem PySem.W PySem.Spec PySem.Calls PyProof.Rows
set_option maxRecDepth 100000
set_option maxHeartbeats 8000000
namespace Mine
theorem use_raises {room : Nat} {w : World} {x : Str} {t : Tok} {dp un : Nat} {gd : Option (List Code)} {cn : Str} {cs : Scope} {a : Addr} {ccd : Value} {cl : List (Str × Addr)} {outer : List Env} {A₀ : Around} {base h₀ : Heap} {L : Addr} {m : Str → Option Value}
    {mean : ExcName → Option Value} {mg mb : Str → Option Value} {s : Shared} {Q E : Value → Shared → Prop} (C : RClaim room w x t)
    (B : Below A₀ base outer h₀) (F : Fr h₀ L s.heap m) (X : (hd.heap_39 w.params).In h₀) (T : Top hd.view_39 (looseW hd.view_39 []) mean mg mb h₀) (hk : cs.kind = .function) (hdp : dp + room < recursionLimit) (hun : un + 8 * room < cLine)
    (ret : ∀ e tt vs h' tk', RaisedS base s.heap (envX cn cs L a ccd cl :: outer) e (.ref 37) tt vs [] h' → s.heap.UpToSlots h' → E (.ref e) { s with heap := h', toks := tk' }) :
    wpAny (model PySem.Challenge.rw_ci0001_01.row.prog w) (ktrTop dp un gd cn cs L a ccd cl outer) (call (.ref 51) [.str x t]) Q E s :=
  C dp un gd cn cs a ccd cl outer A₀ base h₀ L m mean mg mb s Q E B F X T hk hdp hun ret

/-- a call of _law_refused from the law's own frame gives True -/
def TClaim (room : Nat) (w : World) (x : Str) (t : Tok) : Prop :=
  ∀ (dp un : Nat) (gd : Option (List Code)) (cn : Str) (cs : Scope) (a : Addr) (ccd : Value) (cl : List (Str × Addr)) (A₀ : Around) (base h₀ : Heap) (L : Addr) (m : Str → Option Value)
    (mean : ExcName → Option Value) (mg mb : Str → Option Value) (s : Shared) (Q E : Value → Shared → Prop),
    Below A₀ base [] h₀ → Fr h₀ L s.heap m → (hd.heap_39 w.params).In base → Top hd.view_39 (looseW hd.view_39 []) mean mg mb base → cs.kind = .function → dp + room < recursionLimit → un + 8 * room < cLine →
    (∀ h' tk', Fr h₀ L h' m → Q (.bool true) { s with heap := h', toks := tk' }) →
    wpAny (model PySem.Challenge.rw_ci0001_01.row.prog w) (ktrTop dp un gd cn cs L a ccd cl []) (call (.ref 84) [.str x t]) Q E s

local macro_rules | `(tactic| walk_at "call ref") => `(tactic| (k_here; (with_reducible show wpAny _ _ (call (Value.ref 51) _) _ _ _); k_dflt (refine' use_raises (checksum_raises _ _ _ ?kx ?ky) ?k1 ?k2 ?k4 ?k5 ?kK ?kd ?ku ?_; (case kx => assumption); (case ky => assumption); (case k1 => k_asm); (case k2 => k_asm); (case k4 => k_asm); (case k5 => k_asm); (case kK => first | exact rfl | assumption); (case kd => ktr_room); (case ku => ktr_units); k_whole; intro e9 t9 v9 h9 tk9 R9 U9; (try dsimp only))))
local macro_rules | `(tactic| walk_at "noteFrame ref") => `(tactic| (k_here; k_dflt ((refine' caught_SO0 ?R ?F ?K ?U ?XB ?TB ?D ?T0 ?ex ?q ?_; (case R => assumption); (case F => assumption); (case K => assumption); (case U => assumption); (case XB => assumption); (case TB => assumption); (case D => assumption); (case T0 => first | assumption | exact KtsTurn.refl); (case ex => k_is); (case q => kts_isx); k_whole; intro h' g' n₂ T' F' N₂ G' N' K' X' P' D'; (try k_sweep)))))

theorem refused_walk (w : World) (x : Str) (t : Tok) (hx : ∀ c ∈ x.cps.toList, c ∈ CSL ∨ plc c = -1) (hb : ∃ c ∈ x.cps.toList, c ∉ CSL) : TClaim 8 w x t := by
  w_top off
  k_with_none
  unfold TClaim
  k_fill
  intro dp un gd cn cs a ccd cl A₀ base h₀ L m mean mg mb s Q E hB hF hXb hTb hk hd hu hret
  have hX := hXb.keeps hB.stays
  have hT := hTb.keeps hB.stays
  refine wpAny_call ?_
  k_dflt (refine' enter_try ?k1 ?k2 ?k3 ?k5 ?kA ?kF ?kK ?k6 ?k7 ?k8 ?k9 ?kB ?_ ?c2 ?c3 ?c4 ?c5; (case kA => exact rfl); (case kF => exact rfl); (case kK => assumption); (case k1 => k_asm); (case k2 => k_asm); (case k3 => k_asm); (case k5 => k_asm); (case k6 => k_is); (case k7 => k_is); (case k8 => ktr_room); (case k9 => exact BindsTo.of_eq rfl); (case c5 => decide); (case kB => exact locs rfl); (case c2 => exact rfl); (case c3 => exact rfl); (case c4 => exact rfl); k_whole; intro g' L' h' hLv F' N' B' X' T' D'; (try dsimp only); (try k_fold))
  k_steps
  all_goals (try dsimp only)
  all_goals (try (k_unfold; (try dsimp only)))
  exact hret _ _ (hLv _ _ _ _ (by assumption) (by assumption))
end Mine
end
section
open PySem PySem.W PyProof.Rows PySem.Builtin PySem.Builtin.Str
set_option maxRecDepth 100000
namespace Mine
theorem endI_length (c : Int) : (endI c).length = 8 := by
  unfold endI
  rw [KT.join_ones]
  · simp [rangeKs]
  · intro a ha
    obtain ⟨k, _, rfl⟩ := List.mem_map.mp ha
    rfl
theorem ckSum_length (pre : List Int) : (ckSum pre).length = 8 := by unfold ckSum; exact endI_length _
theorem hash_lit : Str.ofString "#" = (⟨#[35]⟩ : Str) := by decide
theorem has_hash (x : Str) : (!(occurrences x (Str.ofString "#") 0 x.length 1).isEmpty) = decide (35 ∈ x.cps.toList) := by
  rw [hash_lit]; exact StrLaws.found_one x 35
theorem app_list (a b : Str) : (a ++ b).cps.toList = a.cps.toList ++ b.cps.toList := KT.app_list a b
theorem str_ext {a b : Str} (h : a.cps.toList = b.cps.toList) : a = b := Str.ext' (Array.toList_inj.mp h)
theorem cut_eq {p x a b : List Nat} (hp : 35 ∉ p) (hx : 35 ∉ x) (e : p ++ 35 :: a = x ++ 35 :: b) : p = x := by
  induction p generalizing x with
  | nil =>
    cases x with
    | nil => rfl
    | cons c r =>
      have := (List.cons.inj e).1
      subst this
      exact (hx List.mem_cons_self).elim
  | cons c r ih =>
    cases x with
    | nil =>
      have := (List.cons.inj e).1
      subst this
      exact (hp List.mem_cons_self).elim
    | cons d q =>
      obtain ⟨rfl, e2⟩ := List.cons.inj e
      rw [ih (fun h => hp (List.mem_cons_of_mem _ h)) (fun h => hx (List.mem_cons_of_mem _ h)) e2]
theorem split_head {x z : Str} (hx : 35 ∉ x.cps.toList) : ∃ r, Txt.split (x ++ Str.ofString "#" ++ z) (Str.ofString "#") = x :: r := by
  have hj := StrLaws.join_split (x ++ Str.ofString "#" ++ z) (Str.ofString "#")
  have hf := StrLaws.split_free (x ++ Str.ofString "#" ++ z) 35
  rw [← hash_lit] at hf
  generalize Txt.split (x ++ Str.ofString "#" ++ z) (Str.ofString "#") = ps at hj hf
  have ey : (x ++ Str.ofString "#" ++ z).cps.toList = x.cps.toList ++ 35 :: z.cps.toList := by
    rw [app_list, app_list, hash_lit, List.append_assoc]; rfl
  match ps, hj, hf with
  | [], hj, _ =>
    exfalso
    have : (x ++ Str.ofString "#" ++ z).cps.toList = [] := by rw [← hj]; rfl
    rw [ey] at this
    simp at this
  | [p], hj, hf =>
    exfalso
    have h1 : p = x ++ Str.ofString "#" ++ z := by rw [← hj]; rfl
    refine hf p List.mem_cons_self ?_
    rw [h1, ey]; simp
  | p :: q :: r, hj, hf =>
    refine ⟨q :: r, ?_⟩
    congr 1
    have h1 : (p ++ Str.ofString "#" ++ Str.join (Str.ofString "#") (q :: r)) = x ++ Str.ofString "#" ++ z := hj
    have h2 : (p ++ Str.ofString "#" ++ Str.join (Str.ofString "#") (q :: r)).cps.toList = p.cps.toList ++ 35 :: (Str.join (Str.ofString "#") (q :: r)).cps.toList := by
      rw [app_list, app_list, hash_lit, List.append_assoc]; rfl
    rw [h1, ey] at h2
    exact str_ext (cut_eq (hf p List.mem_cons_self) hx h2.symm)

theorem join0_list : ∀ l : List Str, (Str.join (Str.ofString "") l).cps.toList = (l.map (·.cps.toList)).flatten
  | [] => rfl
  | [a] => by simp [Str.join]
  | a :: b :: r => by
    have ih := join0_list (b :: r)
    show (a ++ Str.ofString "" ++ Str.join (Str.ofString "") (b :: r)).cps.toList = _
    have e0 : (Str.ofString "").cps.toList = [] := by decide
    rw [app_list, app_list, e0, List.append_nil, ih]
    simp
theorem join_ones_list {α : Type} (l : List α) (f : α → Nat) : (Txt.join (Str.ofString "") (l.map fun a => (⟨#[f a]⟩ : Str))).cps.toList = l.map f := by
  show (Builtin.Str.glued (Str.ofString "") _).cps.toList = _
  rw [StrLaws.glued_eq_join, join0_list, List.map_map]
  induction l with
  | nil => rfl
  | cons a r ih => simpa using ih
def noHash (c : Nat) : Nat := if c = 35 then 97 else c
theorem map_noHash {l : List Nat} (hp : 35 ∉ l) : l = l.map noHash :=
  (List.map_id _).symm.trans (List.map_congr_left fun c hc => by
    have : c ≠ 35 := fun e => hp (e ▸ hc)
    simp [noHash, this])
theorem join_swap : ∀ ps : List Str, (∀ p ∈ ps, 35 ∉ p.cps.toList) → (Str.join (Str.ofString "a") ps).cps.toList = (Str.join (Str.ofString "#") ps).cps.toList.map noHash
  | [], _ => rfl
  | [p], h => by
    exact map_noHash (h p List.mem_cons_self)
  | p :: q :: r, h => by
    have ih := join_swap (q :: r) fun x hx => h x (List.mem_cons_of_mem _ hx)
    show (p ++ Str.ofString "a" ++ Str.join (Str.ofString "a") (q :: r)).cps.toList = (p ++ Str.ofString "#" ++ Str.join (Str.ofString "#") (q :: r)).cps.toList.map noHash
    have ea : (Str.ofString "a").cps.toList = [97] := by decide
    have eh : (Str.ofString "#").cps.toList = [35] := by decide
    rw [app_list, app_list, app_list, app_list, ea, eh, ih, List.map_append, List.map_append]
    have hp' := map_noHash (h p List.mem_cons_self)
    rw [← hp']
    rfl
theorem replace_hash (x : Str) : (Txt.replace x (Str.ofString "#") (Str.ofString "a")).cps.toList = x.cps.toList.map noHash := by
  have hf := StrLaws.split_free x 35
  have hj := StrLaws.join_split x (Str.ofString "#")
  rw [hash_lit, StrLaws.replace_one, join_swap _ hf, ← hash_lit, hj]
theorem CSL_a : 97 ∈ CSL := by unfold CSL; decide
theorem cat_mem {i : Int} (h0 : 0 ≤ i) (h1 : i < 95) : cat CS i ∈ CSL := by
  unfold cat
  rw [CS_cps]
  have hl : i.toNat < CSL.length := by rw [CSL_length]; omega
  rw [List.getD_eq_getElem?_getD, List.getElem?_eq_getElem hl, Option.getD_some]
  exact List.getElem_mem hl
/-- what is known of the law's text -/
structure Good (x : Str) : Prop where
  all : ∀ c ∈ x.cps.toList, c ∈ CSL
  none : 35 ∉ x.cps.toList
  len : x.length ≤ 16
theorem good_made (ks : List Int) (hk : ks.length ≤ 16) : Good (Txt.replace (Txt.join (Str.ofString "") (ks.map fun k => (⟨#[cat CS (k.fmod 95)]⟩ : Str))) (Str.ofString "#") (Str.ofString "a")) := by
  have e := replace_hash (Txt.join (Str.ofString "") (ks.map fun k => (⟨#[cat CS (k.fmod 95)]⟩ : Str)))
  rw [join_ones_list ks fun k => cat CS (k.fmod 95), List.map_map] at e
  refine ⟨fun c hc => ?_, fun hc => ?_, ?_⟩
  · rw [e] at hc
    obtain ⟨k, _, rfl⟩ := List.mem_map.mp hc
    have h0 := Int.fmod_nonneg_of_pos k (b := 95) (by decide)
    have h1 := Int.fmod_lt_of_pos k (b := 95) (by decide)
    show noHash (cat CS (k.fmod 95)) ∈ CSL
    unfold noHash
    split
    · exact CSL_a
    · exact cat_mem h0 h1
  · rw [e] at hc
    obtain ⟨k, _, hq⟩ := List.mem_map.mp hc
    have hq' : noHash (cat CS (k.fmod 95)) = 35 := hq
    unfold noHash at hq'
    split at hq' <;> omega
  · have hl : ∀ y : Str, y.length = y.cps.toList.length := fun y => Array.length_toList.symm
    rw [hl, e, List.length_map]
    exact hk
end Mine
end
section
open PySem PySem.W PySem.Spec PySem.Calls PyProof.Rows
set_option maxRecDepth 100000
set_option maxHeartbeats 8000000
namespace Mine
theorem in_hash {prog : Program} {w : World} {A : Around} {E : Value → Shared → Prop} {s : Shared} {Q : Value → Shared → Prop} {x : Str} {t u : Tok} {b : Bool} (hb : decide (35 ∈ x.cps.toList) = b) (h : Q (.bool b) s) :
    wpAny (model prog w) A (compareOp .In (.str (Str.ofString "#") u) (.str x t)) Q E s := P.in_str (by rw [has_hash, hb]; exact h)
local macro_rules | `(tactic| walk_at "compareOp In str str") => `(tactic| (k_here; k_dflt (refine' in_hash ?k1 ?_; (case k1 => assumption))))
local macro_rules | `(tactic| walk_at "call ref") => `(tactic| (k_here; (with_reducible show wpAny _ _ (call (Value.ref 51) _) _ _ _); k_dflt (refine' use_claim (checksum_walk _ _ _ ?kx) ?k1 ?k2 ?k3 ?k4 ?k5 ?kK ?kd ?ku ?_; (case kx => assumption); (case k1 => k_asm); (case k2 => k_asm); (case k3 => k_asm); (case k4 => k_asm); (case k5 => k_asm); (case kK => first | exact rfl | assumption); (case kd => ktr_room); (case ku => ktr_units); k_whole; intro t9 h9 tk9 F9 N9; (try dsimp only); (try k_sweep))))

section
variable {prog : Program} {w : World} {A : Around} {E : Value → Shared → Prop} {s : Shared} {h₀ : Heap} {L : Addr} {m : Str → Option Value} {news : List (Addr × Obj)} {x z : Str} {t u : Tok} {Q : Value → Shared → Prop}
theorem split_x (hn : 35 ∉ x.cps.toList) (hF : Fr h₀ L s.heap m) (hN : News h₀ L s.heap news) (h1 : x.length ≤ 40) (h2 : z.length ≤ 40)
    (h : ∀ D tx vs h' k, Fr h₀ L h' m → News h₀ L h' ((D, W.listOf (Value.str x tx :: vs).toArray 0) :: news) → (∀ p ∈ news, p.1 < D) → Q (.ref D) { s with heap := h', toks := k }) :
    wpAny (model prog w) A (call (.builtin "str.split") [.str (x ++ Str.ofString "#" ++ z) t, .str (Str.ofString "#") u]) Q E s := by
  obtain ⟨r, hr⟩ := split_head (z := z) hn
  refine KSpl.split1 hF hN (by decide) (fun D l h' k e _ F N l1 => ?_) (by
    have hl : (Str.ofString "#").length = 1 := by decide
    rw [Str.length_append, Str.length_append, hl, sizeLine_eq]; omega)
  rw [hr] at e
  obtain ⟨tx, l', hl, _⟩ := KSpl.cons_of e
  subst hl
  exact h D tx _ h' k F N l1
theorem item0 {value slice : PySem.Expr} {D : Addr} {v : Value} {vs : List Value} {o : Nat} (N : News h₀ L s.heap news) (hm : (D, W.listOf (v :: vs).toArray o) ∈ news) {u : Tok} (h : Q v s)
    (hs : subscripted slice false (.ref D) (.int 0 u) = operate [.ref D, .int 0 u] (getItem (.ref D) (.int 0 u)) := by with_unfolding_all rfl) :
    wpAny (model prog w) A (subscriptTail value slice (.ref D) (.int 0 u)) Q E s :=
  have hl : s.heap.IsList D (v :: vs).toArray := News.isList N hm
  tail_any hl.typeIs slot_list_getitem.lookup (wpAny_getItem_list hl (by decide) (by decide) rfl h) hs
end
local macro_rules | `(tactic| walk_at "call builtin:str.split") => `(tactic| (k_here; k_dflt (refine' split_x ?k0 ?k1 ?k2 ?k3 ?k4 ?_; (case k0 => assumption); (case k1 => k_asm); (case k2 => k_asm); (case k3 => assumption); (case k4 => assumption); k_whole; intro D9 tx9 vs9 h9 k9 F9 N9 l1; (try k_sweep))))
local macro_rules | `(tactic| walk_at "subscriptTail Call Attribute cons nil Constant ref int") => `(tactic| (k_here; k_dflt (refine' item0 ?k1 ?k2 ?_; (case k1 => k_asm); (case k2 => exact List.mem_cons_self); k_whole)))
theorem add_walk (w : World) (x : Str) (t : Tok) (hx : ∀ c ∈ x.cps.toList, c ∈ CSL) (hh : decide (35 ∈ x.cps.toList) = false) (hlen : x.length ≤ 40) : KClaim 6 w 58 [.str x t] (fun t => .str (x ++ Str.ofString "#" ++ ckSum (KStt.codes x)) t) := by
  w_top off
  k_with_none
  unfold KClaim
  k_fill
  intro dp un gd cn cs a ccd cl outer A₀ base h₀ L m mean mg mb s Q E hB hF hX hT hk hd hu hret
  have hl8 := ckSum_length (KStt.codes x)
  refine wpAny_call ?_
  k_dflt (refine' enter_plain ?k1 ?k2 ?k3 ?k5 ?kA ?kF ?kK ?k6 ?k7 ?k8 ?k9 ?kB ?_ ?c2 ?c3 ?c4 ?c5; (case kA => exact rfl); (case kF => exact rfl); (case kK => assumption); (case k1 => k_asm); (case k2 => k_asm); (case k3 => k_asm); (case k5 => k_asm); (case k6 => k_is); (case k7 => k_is); (case k8 => ktr_room); (case k9 => exact BindsTo.of_eq rfl); (case c5 => decide); (case kB => exact locs rfl); (case c2 => exact rfl); (case c3 => exact rfl); (case c4 => exact rfl); k_whole; intro g' L' h' hG1 hG2 F' N' B' X' T'; (try dsimp only); (try k_fold))
  k_steps
  all_goals (try dsimp only)
  all_goals (try (k_unfold; (try dsimp only)))
  all_goals (refine ret_str (s := s) hret rfl (hG1.trans (by (rename Fr _ _ _ _ => F8); exact F8.keep)))
theorem add_walk2 (w : World) (x z : Str) (t : Tok) (hx : ∀ c ∈ x.cps.toList, c ∈ CSL) (hn : 35 ∉ x.cps.toList) (hh : decide (35 ∈ (x ++ Str.ofString "#" ++ z).cps.toList) = true) (hlen : x.length ≤ 40) (hlz : z.length ≤ 40) : KClaim 6 w 58 [.str (x ++ Str.ofString "#" ++ z) t] (fun t => .str (x ++ Str.ofString "#" ++ ckSum (KStt.codes x)) t) := by
  w_top off
  k_with_none
  unfold KClaim
  k_fill
  intro dp un gd cn cs a ccd cl outer A₀ base h₀ L m mean mg mb s Q E hB hF hX hT hk hd hu hret
  have hl8 := ckSum_length (KStt.codes x)
  refine wpAny_call ?_
  k_dflt (refine' enter_plain ?k1 ?k2 ?k3 ?k5 ?kA ?kF ?kK ?k6 ?k7 ?k8 ?k9 ?kB ?_ ?c2 ?c3 ?c4 ?c5; (case kA => exact rfl); (case kF => exact rfl); (case kK => assumption); (case k1 => k_asm); (case k2 => k_asm); (case k3 => k_asm); (case k5 => k_asm); (case k6 => k_is); (case k7 => k_is); (case k8 => ktr_room); (case k9 => exact BindsTo.of_eq rfl); (case c5 => decide); (case kB => exact locs rfl); (case c2 => exact rfl); (case c3 => exact rfl); (case c4 => exact rfl); k_whole; intro g' L' h' hG1 hG2 F' N' B' X' T'; (try dsimp only); (try k_fold))
  k_steps
  all_goals (try dsimp only)
  all_goals (try (k_unfold; (try dsimp only)))
  all_goals (refine ret_str (s := s) hret rfl (hG1.trans (by (rename Fr _ _ _ _ => F8); exact F8.keep)))
end Mine
end
section
open PySem PySem.W PySem.Spec PySem.Calls PyProof.Rows
set_option maxRecDepth 100000
namespace Mine
section
variable {prog : Program} {w : World} {A : Around} {E : Value → Shared → Prop} {s : Shared} {t u v : Tok} {Q : Value → Shared → Prop} {α : Type} {D : Addr} {ys : List Value} {l : List α} {g : α → PySem.Str}
/-- join, and the counter of tokens has not fallen -/
theorem join_T (hl : s.heap.IsList D ys.toArray) (hc : CarriedAll ys (l.map fun a => PyData.str (g a))) (h1 : ∀ a ∈ l, (g a).length = 1) (hn : l.length ≤ 1048576) (hk : 1 ≤ s.toks)
    (h : ∀ t' k, 1 ≤ k → Q (.str (PySem.Txt.join (PySem.Str.ofString "") (l.map g)) t') { s with toks := k }) :
    wpAny (model prog w) A (call (.builtin "str.join") [.str (PySem.Str.ofString "") t, .ref D]) Q E s :=
  wpAny_with_toks hk (KT.join_1 hl hc h1 hn fun t' k _ h1' => h t' k h1')
theorem replace_T {ks : List Int} (hk : ks.length ≤ 16) (hu : u ≠ 0) (hv : v ≠ 0) (huv : u ≠ v)
    (h : ∀ y t' k, Good y → Q (.str y t') { s with toks := k }) :
    wpAny (model prog w) A (call (.builtin "str.replace") [.str (Txt.join (Str.ofString "") (ks.map fun k => (⟨#[cat CS (k.fmod 95)]⟩ : Str))) t, .str (Str.ofString "#") u, .str (Str.ofString "a") v]) Q E s := by
  refine SC.replaceW hu hv huv (by decide) ?_ (by decide) fun t' k => h _ t' k (good_made ks hk)
  have e : (Txt.join (Str.ofString "") (ks.map fun k => (⟨#[cat CS (k.fmod 95)]⟩ : Str))).length = _ := Array.length_toList.symm
  rw [e, join_ones_list ks fun k => cat CS (k.fmod 95), List.length_map]
  omega
end
end Mine
end
section
open PySem PySem.W PySem.Spec PySem.Calls PyProof.Rows
set_option maxRecDepth 100000
namespace Mine
/-- a text of the alphabet, at most n long -/
structure OkT (x : Str) (n : Nat) : Prop where
  all : ∀ c ∈ x.cps.toList, c ∈ CSL
  len : x.length ≤ n
theorem Good.ok {x : Str} (h : Good x) : OkT x 16 := ⟨h.all, h.len⟩
theorem OkT.app {x y : Str} {a b : Nat} (hx : OkT x a) (hy : OkT y b) : OkT (x ++ y) (a + b) := by
  refine ⟨fun c hc => ?_, by rw [Str.length_append]; have := hx.len; have := hy.len; omega⟩
  rw [app_list] at hc
  rcases List.mem_append.mp hc with h | h
  · exact hx.all c h
  · exact hy.all c h
theorem OkT.code {x : Str} {a : Nat} {i : Int} (hx : OkT x a) (h0 : 0 ≤ i) (h1 : i < x.length) : OkT ⟨#[cat x i]⟩ 1 := by
  refine ⟨fun c hc => ?_, Nat.le_refl _⟩
  have e : c = cat x i := by simpa using hc
  subst e
  have hl : i.toNat < x.cps.toList.length := by rw [Array.length_toList]; unfold PySem.Str.length at h1; omega
  unfold cat
  rw [List.getD_eq_getElem?_getD, List.getElem?_eq_getElem hl, Option.getD_some]
  exact hx.all _ (List.getElem_mem hl)
theorem OkT.sign {k : Int} : OkT ⟨#[cat CS (k.fmod 95)]⟩ 1 := by
  refine ⟨fun c hc => ?_, Nat.le_refl _⟩
  have e : c = cat CS (k.fmod 95) := by simpa using hc
  subst e
  exact cat_mem (Int.fmod_nonneg_of_pos k (b := 95) (by decide)) (Int.fmod_lt_of_pos k (b := 95) (by decide))
end Mine
namespace Mine
theorem hash_in (x z : Str) : decide (35 ∈ (x ++ Str.ofString "#" ++ z).cps.toList) = true := by
  refine decide_eq_true ?_
  rw [app_list, app_list]
  exact List.mem_append_left _ (List.mem_append_right _ (by decide))
theorem revCk_len (pre : List Int) (u : Tok) : (Txt.sliceBy (ckSum pre) none none (-1, u)).length ≤ 40 :=
  Nat.le_trans (Txt.sliceBy_le _ _ _ _ (by show (-1 : Int) ≠ 0; decide)) (by rw [ckSum_length]; decide)
theorem OkT.slice {x : Str} {a : Nat} {l u : Option Int} (h : OkT x a) : OkT (Txt.slice x l u) a := by
  refine ⟨fun c hc => ?_, Nat.le_trans (Txt.slice_le x l u) h.len⟩
  unfold Txt.slice at hc
  split at hc
  · exact h.all c hc
  · obtain ⟨i, _, hi⟩ := List.mem_filterMap.mp hc
    exact h.all c (Array.mem_toList_iff.mpr (Array.mem_of_getElem? hi))
end Mine
namespace Mine
theorem len_app {x y : Str} {a b : Nat} (hx : x.length ≤ a) (hy : y.length ≤ b) : (x ++ y).length ≤ a + b := by rw [Str.length_append]; omega
theorem len_ck (pre : List Int) : (ckSum pre).length ≤ 8 := Nat.le_of_eq (ckSum_length pre)
section
variable {prog : Program} {w : World} {A : Around} {E : Value → Shared → Prop} {s : Shared} {x y : Str} {t u : Tok} {Q : Value → Shared → Prop} {a b : Nat}
theorem add_T (hx : x.length ≤ a) (hy : y.length ≤ b) (hs : a + b ≤ 16777216) (h : ∀ t' k, Q (.str (x ++ y) t') { s with toks := k }) : wpAny (model prog w) A (binaryOp .Add (.str x t) (.str y u)) Q E s :=
  KXadd.add hx hy hs fun t' k _ => h t' k
end
end Mine
namespace Mine
/-- short: no unknown number stands in it -/
def Sh (k : Nat) (x : Str) : Prop := x.length ≤ 2 ^ k
theorem Sh.app {k : Nat} {x y : Str} (hx : Sh k x) (hy : Sh k y) : Sh (k + 1) (x ++ y) := by
  unfold Sh at *
  rw [Str.length_append, Nat.pow_succ]; omega
theorem sh_of {k : Nat} {x : Str} (h : x.length ≤ 64) : Sh (k + 6) x := by
  unfold Sh
  have e : 2 ^ (k + 6) = 2 ^ k * 64 := by rw [Nat.pow_add]
  have := Nat.one_le_two_pow (n := k)
  omega
theorem sh_good {k : Nat} {x : Str} (h : Good x) : Sh (k + 6) x := sh_of (Nat.le_trans h.len (by decide))
theorem sh_slice {k : Nat} {x : Str} {l u : Option Int} (h : Good x) : Sh (k + 6) (Txt.slice x l u) := sh_of (Nat.le_trans (Txt.slice_le x l u) (Nat.le_trans h.len (by decide)))
theorem sh_ck {k : Nat} (pre : List Int) : Sh (k + 6) (ckSum pre) := sh_of (Nat.le_trans (len_ck pre) (by decide))
theorem sh_rev {k : Nat} (pre : List Int) (u : Tok) : Sh (k + 6) (Txt.sliceBy (ckSum pre) none none (-1, u)) := sh_of (Nat.le_trans (revCk_len pre u) (by decide))
theorem sh_one {k c : Nat} : Sh (k + 6) ⟨#[c]⟩ := sh_of (show 1 ≤ 64 by decide)
theorem Good.ok40 {x : Str} (h : Good x) : OkT x 40 := ⟨h.all, Nat.le_trans h.len (by decide)⟩
theorem ok3 {x y z : Str} (hx : OkT x 16) (hy : OkT y 1) (hz : OkT z 16) : OkT (x ++ y ++ z) 40 := ⟨((hx.app hy).app hz).all, Nat.le_trans ((hx.app hy).app hz).len (by decide)⟩
theorem ok4 {x y z q : Str} (hx : OkT x 16) (hy : OkT y 1) (hz : OkT z 1) (hq : OkT q 16) : OkT (x ++ y ++ z ++ q) 40 := ⟨(((hx.app hy).app hz).app hq).all, Nat.le_trans (((hx.app hy).app hz).app hq).len (by decide)⟩
theorem ok2 {x z : Str} (hx : OkT x 16) (hz : OkT z 16) : OkT (x ++ z) 40 := ⟨(hx.app hz).all, Nat.le_trans (hx.app hz).len (by decide)⟩
theorem ok_slice {x : Str} {l u : Option Int} (h : Good x) : OkT (Txt.slice x l u) 16 := h.ok.slice
section
variable {prog : Program} {w : World} {A : Around} {E : Value → Shared → Prop} {s : Shared} {x y : Str} {t u : Tok} {Q : Value → Shared → Prop}
theorem add_S (hx : Sh 20 x) (hy : Sh 20 y) (h : ∀ t' k, Q (.str (x ++ y) t') { s with toks := k }) : wpAny (model prog w) A (binaryOp .Add (.str x t) (.str y u)) Q E s :=
  KXadd.add hx hy (by decide) fun t' k _ => h t' k
end
end Mine
namespace Mine
open PySem.Builtin PySem.Builtin.Str
section
variable {prog : Program} {w : World} {A : Around} {E : Value → Shared → Prop} {s : Shared} {value slice : PySem.Expr} {x : Str} {t : Tok} {h₀ : Heap} {L : Addr} {m : Str → Option Value} {news : List (Addr × Obj)} {Q : Value → Shared → Prop}
theorem slice_ns {j : Int} {uj : Tok} (hF : Fr h₀ L s.heap m) (hN : News h₀ L s.heap news) (hsz : x.length ≤ sizeLine) (h : ∀ h' t' c, Fr h₀ L h' m → News h₀ L h' news → Q (.str (Txt.slice x none (some j)) t') { s with heap := h', toks := c })
    (hs : subscripted slice false (.str x t) (.ref s.heap.objs.size) = operate [.ref s.heap.objs.size, .str x t] (getItem (.str x t) (.ref s.heap.objs.size)) := by with_unfolding_all rfl)
    (ht : ∀ r, letTemporaryGo value (.str x t) r = pure () := by intro _; with_unfolding_all rfl) :
    wpAny (model prog w) A (subscriptTail value slice (.str x t) (.ref s.heap.objs.size)) Q E { s with heap := s.heap.push { cls := .type "slice", data := .fields #[.none, .int j uj, .none] } } :=
  tail_of_ItemOn ⟨"str", _, F.slot_str_getitem.lookup, typeIs_str _ _ _, wpAny_getItem_str_slice (l := none) (u := some (j, uj)) (st := none) ⟨_, Heap.get?_push_size _ rfl, rfl, rfl⟩ rfl
    (post_val_or_str ⟨Nat.le_trans (Txt.slice_le x _ _) hsz, fun t' c => h _ t' c (keptFrN _ _ ⟨hF, hN⟩).1 (keptFrN _ _ ⟨hF, hN⟩).2⟩)⟩ hs ht
theorem slice_sn {i : Int} {ui : Tok} (hF : Fr h₀ L s.heap m) (hN : News h₀ L s.heap news) (hsz : x.length ≤ sizeLine) (h : ∀ h' t' c, Fr h₀ L h' m → News h₀ L h' news → Q (.str (Txt.slice x (some i) none) t') { s with heap := h', toks := c })
    (hs : subscripted slice false (.str x t) (.ref s.heap.objs.size) = operate [.ref s.heap.objs.size, .str x t] (getItem (.str x t) (.ref s.heap.objs.size)) := by with_unfolding_all rfl)
    (ht : ∀ r, letTemporaryGo value (.str x t) r = pure () := by intro _; with_unfolding_all rfl) :
    wpAny (model prog w) A (subscriptTail value slice (.str x t) (.ref s.heap.objs.size)) Q E { s with heap := s.heap.push { cls := .type "slice", data := .fields #[.int i ui, .none, .none] } } :=
  tail_of_ItemOn ⟨"str", _, F.slot_str_getitem.lookup, typeIs_str _ _ _, wpAny_getItem_str_slice (l := some (i, ui)) (u := none) (st := none) ⟨_, Heap.get?_push_size _ rfl, rfl, rfl⟩ rfl
    (post_val_or_str ⟨Nat.le_trans (Txt.slice_le x _ _) hsz, fun t' c => h _ t' c (keptFrN _ _ ⟨hF, hN⟩).1 (keptFrN _ _ ⟨hF, hN⟩).2⟩)⟩ hs ht
end
theorem line_ck (pre : List Int) : (ckSum pre).length ≤ sizeLine := by rw [ckSum_length]; decide
theorem line_good {x : Str} (h : Good x) : x.length ≤ sizeLine := Nat.le_trans h.len (by decide)
end Mine
namespace Mine
section
variable {prog : Program} {w : World} {A : Around} {s : Shared} {x : Str} {t : Tok}
theorem truthy_T {E : Value → Shared → Prop} {Q : Bool → Shared → Prop} (hg : Good x) (h0 : x.length = 0 → Q false { s with toks := s.toks + 1 + 1 }) (h1 : 0 < x.length → Q true { s with toks := s.toks + 1 + 1 }) : wpAny (model prog w) A (truthy (.str x t)) Q E s := by
  refine P.truthy_str (by have := hg.len; omega) ?_
  by_cases hz : x.length = 0
  · rw [hz]; exact h0 hz
  · have e : ((x.length : Int) != 0) = true := by rw [bne_iff_ne]; omega
    rw [e]; exact h1 (by omega)
end
end Mine
end
section
open PySem PySem.W PyProof.Rows
set_option maxRecDepth 100000
namespace Mine
/-! two unlike lists of values, unlike within eight, end unlike -/
theorem xor_left (a b c : Nat) : a ^^^ (b ^^^ c) = b ^^^ (a ^^^ c) := by rw [← Nat.xor_assoc, Nat.xor_comm a b, Nat.xor_assoc]
theorem xor_zero {a b : Nat} (h : a ^^^ b = 0) : a = b := by
  have e : a ^^^ b ^^^ b = b := by rw [h, Nat.zero_xor]
  rw [Nat.xor_assoc, Nat.xor_self, Nat.xor_zero] at e
  exact e
theorem ite_xor_b (a b : Bool) (g : Nat) : (if (a ^^ b) = true then g else 0) = (if a = true then g else 0) ^^^ (if b = true then g else 0) := by cases a <;> cases b <;> simp
theorem tab_xor (s t : Nat) : tab (s ^^^ t) = tab s ^^^ tab t := by
  unfold tab
  simp only [Nat.testBit_xor, ite_xor_b]
  simp only [Nat.xor_assoc, Nat.xor_comm, xor_left]
theorem mul_xor (a b : Nat) : (a ^^^ b) * 32 = a * 32 ^^^ b * 32 := by
  have h := Nat.shiftLeft_xor_distrib (a := a) (b := b) (i := 5)
  simpa [Nat.shiftLeft_eq] using h
theorem pm_xor (c d v w : Nat) : pm (c ^^^ d) (v ^^^ w) = pm c v ^^^ pm d w := by
  unfold pm
  have h1 : (c ^^^ d) % 34359738368 = c % 34359738368 ^^^ d % 34359738368 := Nat.xor_mod_two_pow (a := c) (b := d) (n := 35)
  have h2 : (c ^^^ d) / 34359738368 = c / 34359738368 ^^^ d / 34359738368 := Nat.xor_div_two_pow (a := c) (b := d) (n := 35)
  rw [h1, h2, mul_xor, tab_xor]
  simp only [Nat.xor_assoc, Nat.xor_comm, xor_left]
theorem tab_low : ∀ t < 32, tab t % 32 = 0 → t = 0 := by decide +kernel
theorem pm_zero {d : Nat} (hd : d < 2 ^ 40) (h : pm d 0 = 0) : d = 0 := by
  unfold pm at h
  rw [Nat.xor_zero] at h
  have e := xor_zero h
  have ht : d / 34359738368 = 0 := tab_low _ (by omega) (by rw [← e]; omega)
  rw [ht] at e
  have e0 : tab 0 = 0 := by decide +kernel
  rw [e0] at e
  omega
theorem pm_inj {c d v : Nat} (hc : c < 2 ^ 40) (hd : d < 2 ^ 40) (h : pm c v = pm d v) : c = d := by
  have e := pm_xor c d v v
  rw [h, Nat.xor_self, Nat.xor_self] at e
  exact xor_zero (pm_zero (Nat.xor_lt_two_pow hc hd) e)
theorem pms_lt : ∀ (vs : List Nat) {c : Nat}, c < 2 ^ 40 → (∀ v ∈ vs, v < 32) → vs.foldl pm c < 2 ^ 40
  | [], _, h, _ => h
  | v :: vs, c, h, hv => by
    show vs.foldl pm (pm c v) < 2 ^ 40
    exact pms_lt vs (pm_lt (hv v List.mem_cons_self)) fun x hx => hv x (List.mem_cons_of_mem _ hx)
theorem pms_inj : ∀ (vs : List Nat) {c d : Nat}, c < 2 ^ 40 → d < 2 ^ 40 → (∀ v ∈ vs, v < 32) → vs.foldl pm c = vs.foldl pm d → c = d
  | [], _, _, _, _, _, h => h
  | v :: vs, c, d, hc, hd, hv, h => by
    have hl := hv v List.mem_cons_self
    exact pm_inj hc hd (pms_inj vs (pm_lt hl) (pm_lt hl) (fun x hx => hv x (List.mem_cons_of_mem _ hx)) h)
theorem fold_xor : ∀ (vs ws : List Nat) (c d : Nat), vs.length = ws.length → (List.zipWith (· ^^^ ·) vs ws).foldl pm (c ^^^ d) = vs.foldl pm c ^^^ ws.foldl pm d
  | [], [], _, _, _ => rfl
  | v :: vs, w :: ws, c, d, h => by
    show (List.zipWith (· ^^^ ·) vs ws).foldl pm (pm (c ^^^ d) (v ^^^ w)) = vs.foldl pm (pm c v) ^^^ ws.foldl pm (pm d w)
    rw [pm_xor]
    exact fold_xor vs ws _ _ (Nat.succ.inj h)
  | [], _ :: _, _, _, h => by cases h
  | _ :: _, [], _, _, h => by cases h
theorem pack : ∀ (ds : List Nat) (k c : Nat), k + ds.length ≤ 8 → c < 2 ^ (5 * k) → (∀ d ∈ ds, d < 32) → ds.foldl pm c = 0 → c = 0 ∧ ∀ d ∈ ds, d = 0
  | [], _, _, _, _, _, h => ⟨h, fun _ hd => nomatch hd⟩
  | d :: ds, k, c, hk, hc, hd, h => by
    have hl : k + (ds.length + 1) ≤ 8 := hk
    have h5 : 2 ^ (5 * k) ≤ 2 ^ 35 := Nat.pow_le_pow_right (by decide) (by omega)
    have h6 : 2 ^ (5 * (k + 1)) = 2 ^ (5 * k) * 32 := by rw [Nat.mul_add, Nat.pow_add]
    have hd0 := hd d List.mem_cons_self
    have e : pm c d = c * 32 ^^^ d := by
      have q1 : c / 34359738368 = 0 := Nat.div_eq_of_lt (Nat.lt_of_lt_of_le hc h5)
      have q2 : c % 34359738368 = c := Nat.mod_eq_of_lt (Nat.lt_of_lt_of_le hc h5)
      have e0 : tab 0 = 0 := by decide +kernel
      unfold pm
      rw [q1, q2, e0, Nat.xor_zero]
    have h1 := Nat.one_le_two_pow (n := 5 * k)
    have hlt : pm c d < 2 ^ (5 * (k + 1)) := by
      rw [e]
      exact Nat.xor_lt_two_pow (by rw [h6]; omega) (by rw [h6]; omega)
    obtain ⟨z, r⟩ := pack ds (k + 1) (pm c d) (by omega) hlt (fun x hx => hd x (List.mem_cons_of_mem _ hx)) h
    rw [e] at z
    have z' := xor_zero z
    refine ⟨by omega, fun x hx => ?_⟩
    rcases List.mem_cons.mp hx with rfl | hx
    · omega
    · exact r x hx
theorem zip_zero : ∀ (vs ws : List Nat), vs.length = ws.length → (∀ d ∈ List.zipWith (· ^^^ ·) vs ws, d = 0) → vs = ws
  | [], [], _, _ => rfl
  | v :: vs, w :: ws, h, hz => by
    have h0 : v ^^^ w = 0 := hz _ (by rw [List.zipWith_cons_cons]; exact List.mem_cons_self)
    rw [xor_zero h0, zip_zero vs ws (Nat.succ.inj h) fun d hd => hz d (by rw [List.zipWith_cons_cons]; exact List.mem_cons_of_mem _ hd)]
  | [], _ :: _, h, _ => by cases h
  | _ :: _, [], h, _ => by cases h
theorem zip_lt : ∀ (vs ws : List Nat), (∀ v ∈ vs, v < 32) → (∀ v ∈ ws, v < 32) → ∀ d ∈ List.zipWith (· ^^^ ·) vs ws, d < 32
  | [], _, _, _, _, hd => by simp at hd
  | _ :: _, [], _, _, _, hd => by simp at hd
  | v :: vs, w :: ws, hv, hw, d, hd => by
    rw [List.zipWith_cons_cons] at hd
    rcases List.mem_cons.mp hd with rfl | hd
    · exact Nat.xor_lt_two_pow (n := 5) (hv v List.mem_cons_self) (hw w List.mem_cons_self)
    · exact zip_lt vs ws (fun x hx => hv x (List.mem_cons_of_mem _ hx)) (fun x hx => hw x (List.mem_cons_of_mem _ hx)) d hd
theorem window {p a b s : List Nat} (hl : a.length = b.length) (h8 : a.length ≤ 8) (hp : ∀ v ∈ p, v < 32) (ha : ∀ v ∈ a, v < 32) (hb : ∀ v ∈ b, v < 32) (hs : ∀ v ∈ s, v < 32)
    (h : (p ++ a ++ s).foldl pm 1 = (p ++ b ++ s).foldl pm 1) : a = b := by
  rw [List.foldl_append, List.foldl_append, List.foldl_append, List.foldl_append] at h
  have hc : p.foldl pm 1 < 2 ^ 40 := pms_lt p (by decide) hp
  generalize p.foldl pm 1 = c at h hc
  have e := pms_inj s (pms_lt a hc ha) (pms_lt b hc hb) hs h
  have x := fold_xor a b c c hl
  rw [e, Nat.xor_self, Nat.xor_self] at x
  refine zip_zero a b hl (pack _ 0 0 ?_ (by decide) (zip_lt a b ha hb) x).2
  rw [List.length_zipWith]; omega

/-! the end tells the state -/
@[irreducible] def CKL : List Nat := [113, 112, 122, 114, 121, 57, 120, 56, 103, 102, 50, 116, 118, 100, 119, 48, 115, 51, 106, 110, 53, 52, 107, 104, 99, 101, 54, 109, 117, 97, 55, 108]
theorem ck_codes : (Str.ofString "qpzry9x8gf2tvdw0s3jn54khce6mua7l").cps.toList = CKL := by decide +kernel
theorem CKL_length : CKL.length = 32 := by decide +kernel
theorem CKL_nodup : CKL.Nodup := by decide +kernel
theorem ck_inj (i : Nat) (hi : i < 32) (j : Nat) (hj : j < 32) (h : (Str.ofString "qpzry9x8gf2tvdw0s3jn54khce6mua7l").cps.toList.getD i 0 = (Str.ofString "qpzry9x8gf2tvdw0s3jn54khce6mua7l").cps.toList.getD j 0) : i = j := by
  have li : i < CKL.length := by rw [CKL_length]; exact hi
  have lj : j < CKL.length := by rw [CKL_length]; exact hj
  rw [ck_codes, List.getD_eq_getElem?_getD, List.getD_eq_getElem?_getD, List.getElem?_eq_getElem li, List.getElem?_eq_getElem lj, Option.getD_some, Option.getD_some] at h
  exact (List.getElem?_inj li CKL_nodup).mp (by rw [List.getElem?_eq_getElem li, List.getElem?_eq_getElem lj, h])
theorem digit (a j : Nat) : (Builtin.bitAnd ((a : Int).fdiv (2 ^ j)) 31).toNat = a / 2 ^ j % 32 := by
  have e : Builtin.bitAnd ((a : Int).fdiv (2 ^ j)) 31 = ((a : Int).fdiv (2 ^ j)) % 2 ^ 5 := kbt_mask _ 5
  rw [e, Int.fdiv_eq_ediv_of_nonneg _ (Int.le_of_lt (Int.pow_pos (by decide)))]
  have e2 : ((2 : Int) ^ j) = ((2 ^ j : Nat) : Int) := by simp
  rw [e2, ← Int.natCast_ediv]
  omega
theorem endI_inj {a b : Nat} (ha : a < 2 ^ 40) (hb : b < 2 ^ 40) (h : endI (a : Int) = endI (b : Int)) : a = b := by
  unfold endI at h
  have h' := congrArg (·.cps.toList) h
  unfold signI at h'
  rw [join_ones_list (rangeKs 0 8), join_ones_list (rangeKs 0 8)] at h'
  have er : rangeKs 0 8 = [0, 1, 2, 3, 4, 5, 6, 7] := by decide
  rw [er] at h'
  simp only [List.map_cons, List.map_nil, List.cons.injEq, and_true] at h'
  have key : ∀ j : Nat, cat (Str.ofString "qpzry9x8gf2tvdw0s3jn54khce6mua7l") (Builtin.bitAnd ((a : Int).fdiv (2 ^ j)) 31) = cat (Str.ofString "qpzry9x8gf2tvdw0s3jn54khce6mua7l") (Builtin.bitAnd ((b : Int).fdiv (2 ^ j)) 31) → a / 2 ^ j % 32 = b / 2 ^ j % 32 := by
    intro j q
    unfold cat at q
    rw [digit, digit] at q
    exact ck_inj _ (Nat.mod_lt _ (by decide)) _ (Nat.mod_lt _ (by decide)) q
  obtain ⟨h0, h1, h2, h3, h4, h5, h6, h7⟩ := h'
  have k0 := key 35 h0
  have k1 := key 30 h1
  have k2 := key 25 h2
  have k3 := key 20 h3
  have k4 := key 15 h4
  have k5 := key 10 h5
  have k6 := key 5 h6
  have k7 := key 0 h7
  clear key h0 h1 h2 h3 h4 h5 h6 h7 h
  simp only [Nat.reducePow] at *
  omega

/-! the values of a text -/
def Pls (pl : List Int) : Prop := ∀ p ∈ pl, 0 ≤ p ∧ p < 95
theorem blocks3_lt : ∀ pl : List Int, Pls pl → ∀ v ∈ blocks3 pl, 0 ≤ v ∧ v < 32
  | [], _, v, hv => by simp [blocks3] at hv
  | [a], h, v, hv => by
    have ha := h a (by simp)
    simp [blocks3, grp, Int.fmod_eq_emod_of_nonneg, Int.fdiv_eq_ediv_of_nonneg] at hv
    omega
  | [a, b], h, v, hv => by
    have ha := h a (by simp)
    have hb := h b (by simp)
    simp [blocks3, grp, Int.fmod_eq_emod_of_nonneg, Int.fdiv_eq_ediv_of_nonneg] at hv
    omega
  | a :: b :: c :: r, h, v, hv => by
    have ha := h a (by simp)
    have hb := h b (by simp)
    have hc := h c (by simp)
    rw [blocks3] at hv
    rcases List.mem_append.mp hv with hv | hv
    · simp [grp, Int.fmod_eq_emod_of_nonneg, Int.fdiv_eq_ediv_of_nonneg] at hv
      omega
    · exact blocks3_lt r (fun p hp => h p (by simp [hp])) v hv
theorem blocks3_length : ∀ pl : List Int, (blocks3 pl).length = pl.length + (pl.length + 2) / 3
  | [] => rfl
  | [a] => by simp [blocks3, grp]
  | [a, b] => by simp [blocks3, grp]
  | a :: b :: c :: r => by
    rw [blocks3, List.length_append, blocks3_length r]
    simp [grp]; omega
theorem blocks3_inj : ∀ pl ql : List Int, pl.length = ql.length → Pls pl → Pls ql → blocks3 pl = blocks3 ql → pl = ql
  | [], [], _, _, _, _ => rfl
  | [a], [x], _, hp, hq, h => by
    have ha := hp a (by simp)
    have hx := hq x (by simp)
    simp [blocks3, grp, Int.fmod_eq_emod_of_nonneg, Int.fdiv_eq_ediv_of_nonneg] at h
    simp; omega
  | [a, b], [x, y], _, hp, hq, h => by
    have ha := hp a (by simp)
    have hx := hq x (by simp)
    have hb := hp b (by simp)
    have hy := hq y (by simp)
    simp [blocks3, grp, Int.fmod_eq_emod_of_nonneg, Int.fdiv_eq_ediv_of_nonneg] at h
    simp; omega
  | a :: b :: c :: r, x :: y :: z :: q, hl, hp, hq, h => by
    have ha := hp a (by simp)
    have hx := hq x (by simp)
    have hb := hp b (by simp)
    have hy := hq y (by simp)
    have hc := hp c (by simp)
    have hz := hq z (by simp)
    rw [blocks3, blocks3] at h
    obtain ⟨h1, h2⟩ := List.append_inj h (by simp [grp])
    have ih := blocks3_inj r q (by simpa using hl) (fun p hp' => hp p (by simp [hp'])) (fun p hp' => hq p (by simp [hp'])) h2
    simp [grp, Int.fmod_eq_emod_of_nonneg, Int.fdiv_eq_ediv_of_nonneg] at h1
    rw [ih]
    have : a = x ∧ b = y ∧ c = z := by omega
    rw [this.1, this.2.1, this.2.2]
  | [], _ :: _, hl, _, _, _ => by simp at hl
  | _ :: _, [], hl, _, _, _ => by simp at hl
  | [_], _ :: _ :: _, hl, _, _, _ => by simp at hl
  | _ :: _ :: _, [_], hl, _, _, _ => by simp at hl
  | [_, _], _ :: _ :: _ :: _, hl, _, _, _ => by simp at hl
  | _ :: _ :: _ :: _, [_, _], hl, _, _, _ => by simp at hl
theorem blocks3_app (r : List Int) : ∀ (n : Nat) (u : List Int), u.length = 3 * n → blocks3 (u ++ r) = blocks3 u ++ blocks3 r
  | 0, u, h => by
    have : u = [] := List.length_eq_zero_iff.mp h
    subst this; rfl
  | n + 1, [], h => by simp at h
  | n + 1, [_], h => by simp at h; omega
  | n + 1, [_, _], h => by simp at h; omega
  | n + 1, a :: b :: c :: u, h => by
    show blocks3 (a :: b :: c :: (u ++ r)) = _
    rw [blocks3, blocks3, blocks3_app r n u (by simp at h; omega), List.append_assoc]
theorem blocks3_cut (r : List Int) : blocks3 r = blocks3 (r.take 6) ++ blocks3 (r.drop 6) := by
  by_cases h : 6 ≤ r.length
  · conv => lhs; rw [← List.take_append_drop 6 r]
    exact blocks3_app _ 2 _ (by rw [List.length_take]; omega)
  · rw [List.take_of_length_le (by omega), List.drop_of_length_le (by omega)]
    simp [blocks3]
theorem pmI_fold : ∀ (vs : List Int) (c : Nat), c < 2 ^ 40 → (∀ v ∈ vs, 0 ≤ v ∧ v < 32) → vs.foldl pmI (c : Int) = (((vs.map Int.toNat).foldl pm c : Nat) : Int)
  | [], _, _, _ => rfl
  | v :: vs, c, hc, hv => by
    have hv0 := hv v List.mem_cons_self
    have e : v = ((v.toNat : Nat) : Int) := by omega
    show vs.foldl pmI (pmI c v) = (((vs.map Int.toNat).foldl pm (pm c v.toNat) : Nat) : Int)
    conv => lhs; rw [e]
    rw [pmI_nat hc]
    exact pmI_fold vs _ (pm_lt (by omega)) fun x hx => hv x (List.mem_cons_of_mem _ hx)
def syms (pl : List Int) : List Nat := (blocks3 pl ++ [0, 0, 0, 0, 0, 0, 0, 0]).map Int.toNat
theorem syms_lt {pl : List Int} (h : Pls pl) : ∀ v ∈ syms pl, v < 32 := by
  intro v hv
  obtain ⟨x, hx, rfl⟩ := List.mem_map.mp hv
  rcases List.mem_append.mp hx with hx | hx
  · have := blocks3_lt pl h x hx; omega
  · simp at hx; subst hx; decide
theorem ckSum_syms {cs : List Int} (h : Pls (cs.map fun k : Int => plc k.toNat)) : ckSum cs = endI ((((syms (cs.map fun k : Int => plc k.toNat)).foldl pm 1 ^^^ 1 : Nat)) : Int) := by
  unfold ckSum ckFold
  have e := fin_fold (cs.map fun k : Int => plc k.toNat) 1
  unfold fin3 at e
  rw [e]
  have e2 : z8 ((blocks3 (cs.map fun k : Int => plc k.toNat)).foldl pmI 1) = (blocks3 (cs.map fun k : Int => plc k.toNat) ++ [0, 0, 0, 0, 0, 0, 0, 0]).foldl pmI 1 := by
    rw [List.foldl_append]; rfl
  rw [e2]
  have e3 := pmI_fold (blocks3 (cs.map fun k : Int => plc k.toNat) ++ [0, 0, 0, 0, 0, 0, 0, 0]) 1 (by decide) (by
    intro v hv
    rcases List.mem_append.mp hv with hv | hv
    · exact blocks3_lt _ h v hv
    · simp at hv; subst hv; decide)
  have e4 : (blocks3 (cs.map fun k : Int => plc k.toNat) ++ [0, 0, 0, 0, 0, 0, 0, 0]).foldl pmI 1 = (((syms (cs.map fun k : Int => plc k.toNat)).foldl pm 1 : Nat) : Int) := e3
  rw [e4, bitXor_lit _ 1 1 rfl]
/-- two texts of one length, unlike within two groups alone, do not end alike -/
theorem dist {pl ql : List Int} (j : Nat) (hl : pl.length = ql.length) (hp : Pls pl) (hq : Pls ql) (h0 : pl.take (3 * j) = ql.take (3 * j)) (h1 : pl.drop (3 * j + 6) = ql.drop (3 * j + 6))
    (h : (syms pl).foldl pm 1 ^^^ 1 = (syms ql).foldl pm 1 ^^^ 1) : pl = ql := by
  have hx : (syms pl).foldl pm 1 = (syms ql).foldl pm 1 := by
    have := congrArg (· ^^^ 1) h
    simpa [Nat.xor_assoc] using this
  by_cases hj : 3 * j ≤ pl.length
  · have cut : ∀ rl : List Int, 3 * j ≤ rl.length → syms rl = (blocks3 (rl.take (3 * j))).map Int.toNat ++ (blocks3 ((rl.drop (3 * j)).take 6)).map Int.toNat ++ (blocks3 (rl.drop (3 * j + 6)) ++ [0, 0, 0, 0, 0, 0, 0, 0]).map Int.toNat := by
      intro rl hr
      unfold syms
      have e : blocks3 rl = blocks3 (rl.take (3 * j)) ++ (blocks3 ((rl.drop (3 * j)).take 6) ++ blocks3 (rl.drop (3 * j + 6))) := by
        conv => lhs; rw [← List.take_append_drop (3 * j) rl]
        rw [blocks3_app _ j _ (by rw [List.length_take]; omega), blocks3_cut (rl.drop (3 * j)), List.drop_drop]
      rw [e]
      simp only [List.map_append, List.append_assoc]
    have lt : ∀ rl : List Int, Pls rl → ∀ v ∈ (blocks3 rl).map Int.toNat, v < 32 := by
      intro rl hr v hv
      obtain ⟨x, hx, rfl⟩ := List.mem_map.mp hv
      have := blocks3_lt rl hr x hx
      omega
    have pt : ∀ {rl : List Int} (n : Nat), Pls rl → Pls (rl.take n) := fun n hr p hp => hr p (List.mem_of_mem_take hp)
    have pd : ∀ {rl : List Int} (n : Nat), Pls rl → Pls (rl.drop n) := fun n hr p hp => hr p (List.mem_of_mem_drop hp)
    rw [cut pl hj, cut ql (hl ▸ hj), h0, h1] at hx
    have hm : ((pl.drop (3 * j)).take 6).length = ((ql.drop (3 * j)).take 6).length := by
      rw [List.length_take, List.length_take, List.length_drop, List.length_drop, hl]
    have w := window (by rw [List.length_map, List.length_map, blocks3_length, blocks3_length, hm]) (by
      rw [List.length_map, blocks3_length, List.length_take]; omega) (lt _ (pt _ hq)) (lt _ (pt _ (pd _ hp))) (lt _ (pt _ (pd _ hq))) (by
      intro v hv
      obtain ⟨x, hx', rfl⟩ := List.mem_map.mp hv
      rcases List.mem_append.mp hx' with hx' | hx'
      · have := blocks3_lt _ (pd _ hq) x hx'; omega
      · simp at hx'; subst hx'; decide) hx
    have w' : blocks3 ((pl.drop (3 * j)).take 6) = blocks3 ((ql.drop (3 * j)).take 6) := by
      have back : ∀ rl : List Int, Pls rl → ((blocks3 rl).map Int.toNat).map (fun n : Nat => (n : Int)) = blocks3 rl := by
        intro rl hr
        rw [List.map_map]
        conv => rhs; rw [← List.map_id (blocks3 rl)]
        refine List.map_congr_left fun x hx => ?_
        have := blocks3_lt rl hr x hx
        show ((x.toNat : Nat) : Int) = x
        omega
      rw [← back _ (pt _ (pd _ hp)), ← back _ (pt _ (pd _ hq)), w]
    have m := blocks3_inj _ _ hm (pt _ (pd _ hp)) (pt _ (pd _ hq)) w'
    have e : ∀ rl : List Int, rl = rl.take (3 * j) ++ ((rl.drop (3 * j)).take 6 ++ rl.drop (3 * j + 6)) := by
      intro rl
      rw [← List.drop_drop, List.take_append_drop, List.take_append_drop]
    rw [e pl, e ql, h0, m, h1]
  · rw [List.take_of_length_le (by omega), List.take_of_length_le (by omega)] at h0
    exact h0
end Mine
end
section
open PySem PySem.W PyProof.Rows
set_option maxRecDepth 100000
namespace Mine
theorem slice_to {x : Str} {j : Int} (h0 : 0 ≤ j) (h1 : j ≤ x.length) : (Txt.slice x none (some j)).cps.toList = x.cps.toList.take j.toNat := by
  have e := eq_of_beq (slice_closes_toL h0 h1)
  rw [e]
  simp
theorem slice_from {x : Str} {i : Int} (h0 : 0 ≤ i) (h1 : i ≤ x.length) : (Txt.slice x (some i) none).cps.toList = x.cps.toList.drop i.toNat := by
  have e := eq_of_beq (slice_closes_fromL h0 h1 rfl)
  rw [e]
  show List.take _ _ = _
  refine List.take_of_length_le ?_
  rw [List.length_drop, Array.length_toList]
  unfold PySem.Str.length
  omega
theorem plc_inj {n m : Nat} (hn : n ∈ CSL) (hm : m ∈ CSL) (h : plc n = plc m) : n = m := by
  have key : ∀ k ∈ CSL, CSL.getD (plc k).toNat 0 = k := by
    intro k hk
    obtain ⟨i, hi, e⟩ := List.getElem_of_mem hk
    have hl : i < 95 := CSL_length ▸ hi
    have q := plc_at i hl
    have e2 : CSL.getD i 0 = k := by rw [List.getD_eq_getElem?_getD, List.getElem?_eq_getElem hi, Option.getD_some]; exact e
    rw [e2] at q
    rw [q, Int.toNat_natCast]
    exact e2
  rw [← key n hn, ← key m hm, h]
theorem map_plc_inj : ∀ l q : List Nat, (∀ c ∈ l, c ∈ CSL) → (∀ c ∈ q, c ∈ CSL) → l.map plc = q.map plc → l = q
  | [], [], _, _, _ => rfl
  | a :: l, b :: q, hl, hq, h => by
    rw [List.map_cons, List.map_cons] at h
    obtain ⟨h1, h2⟩ := List.cons.inj h
    rw [plc_inj (hl a (by simp)) (hq b (by simp)) h1, map_plc_inj l q (fun c hc => hl c (by simp [hc])) (fun c hc => hq c (by simp [hc])) h2]
  | [], _ :: _, _, _, h => by simp at h
  | _ :: _, [], _, _, h => by simp at h
theorem pls_of {x : Str} (hx : ∀ c ∈ x.cps.toList, c ∈ CSL) : Pls (x.cps.toList.map plc) := by
  intro p hp
  obtain ⟨c, hc, rfl⟩ := List.mem_map.mp hp
  exact plc_mem (hx c hc)
theorem far {x y : Str} (j : Nat) (hx : ∀ c ∈ x.cps.toList, c ∈ CSL) (hy : ∀ c ∈ y.cps.toList, c ∈ CSL) (hl : x.cps.toList.length = y.cps.toList.length) (h0 : x.cps.toList.take (3 * j) = y.cps.toList.take (3 * j))
    (h1 : x.cps.toList.drop (3 * j + 6) = y.cps.toList.drop (3 * j + 6)) (h : ckSum (KStt.codes x) = ckSum (KStt.codes y)) : x.cps.toList = y.cps.toList := by
  have px := pls_of hx
  have py := pls_of hy
  rw [ckSum_syms (by rw [codes_plc]; exact px), ckSum_syms (by rw [codes_plc]; exact py), codes_plc, codes_plc] at h
  have lt : ∀ rl : List Int, Pls rl → (syms rl).foldl pm 1 ^^^ 1 < 2 ^ 40 := fun rl hr => Nat.xor_lt_two_pow (pms_lt _ (by decide) (syms_lt hr)) (by decide)
  have e := endI_inj (lt _ px) (lt _ py) h
  refine map_plc_inj _ _ hx hy (dist j ?_ px py ?_ ?_ e)
  · rw [List.length_map, List.length_map, hl]
  · rw [← List.map_take, ← List.map_take, h0]
  · rw [← List.map_drop, ← List.map_drop, h1]
/-- a text that parts from another in two places side by side -/
theorem far2 {x y : Str} {l P : List Nat} {a k : Nat} (hx : ∀ c ∈ x.cps.toList, c ∈ CSL) (hy : ∀ c ∈ y.cps.toList, c ∈ CSL) (ey : y.cps.toList = l) (ha : a ≤ l.length) (ex : x.cps.toList = l.take a ++ P ++ l.drop (a + k)) (hP : P.length = k) (hk : k ≤ 2) (hl : a + k ≤ l.length)
    (h : ckSum (KStt.codes x) = ckSum (KStt.codes y)) : x.cps.toList = y.cps.toList := by
  refine far (a / 3) hx hy ?_ ?_ ?_ h
  · rw [ex, ey, List.length_append, List.length_append, List.length_take, List.length_drop, hP]; omega
  · rw [ex, ey, List.append_assoc, List.take_append_of_le_length (by rw [List.length_take]; omega), List.take_take]
    congr 1
    omega
  · have hq : (l.take a ++ P).length = a + k := by rw [List.length_append, List.length_take, hP]; omega
    have e : ∀ Z : List Nat, (l.take a ++ P ++ Z).drop (3 * (a / 3) + 6) = Z.drop (3 * (a / 3) + 6 - (a + k)) := by
      intro Z
      rw [List.drop_append, hq, List.drop_of_length_le (by rw [hq]; omega), List.nil_append]
    rw [ex, ey, e, List.drop_drop]
    congr 1
    omega
theorem code_list {n : Nat} : (⟨#[n]⟩ : Str).cps.toList = [n] := rfl
theorem plc_cat {i : Int} (h0 : 0 ≤ i) (h1 : i < 95) : plc (cat CS i) = i := by
  unfold cat
  rw [CS_cps, plc_at _ (by omega)]
  omega
theorem cat_get {y : Str} {a : Int} (h0 : 0 ≤ a) (h1 : a < y.length) : y.cps.toList[a.toNat]? = some (cat y a) := by
  have hl : a.toNat < y.cps.toList.length := by rw [Array.length_toList]; unfold PySem.Str.length at h1; omega
  unfold cat
  rw [List.getD_eq_getElem?_getD, List.getElem?_eq_getElem hl, Option.getD_some]
theorem turned_far {y : Str} {a b : Int} (hg : Good y) (h0 : 0 ≤ a) (h1 : a < y.length) (h : ckSum (KStt.codes (Txt.slice y none (some a) ++ ⟨#[cat CS ((plc (cat y a) + 1 + b.fmod 94).fmod 95)]⟩ ++ Txt.slice y (some (a + 1)) none)) = ckSum (KStt.codes y)) : False := by
  have hc : cat y a ∈ CSL := hg.all _ (List.mem_of_getElem? (cat_get h0 h1))
  obtain ⟨p0, p1⟩ := plc_mem hc
  have b0 := Int.fmod_nonneg_of_pos b (b := 94) (by decide)
  have b1 := Int.fmod_lt_of_pos b (b := 94) (by decide)
  have hyl : y.cps.toList.length = y.length := Array.length_toList
  have ok : OkT (Txt.slice y none (some a) ++ ⟨#[cat CS ((plc (cat y a) + 1 + b.fmod 94).fmod 95)]⟩ ++ Txt.slice y (some (a + 1)) none) 40 := ok3 (ok_slice hg) OkT.sign (ok_slice hg)
  have ex : (Txt.slice y none (some a) ++ ⟨#[cat CS ((plc (cat y a) + 1 + b.fmod 94).fmod 95)]⟩ ++ Txt.slice y (some (a + 1)) none).cps.toList = y.cps.toList.take a.toNat ++ [cat CS ((plc (cat y a) + 1 + b.fmod 94).fmod 95)] ++ y.cps.toList.drop (a.toNat + 1) := by
    rw [app_list, app_list, slice_to h0 (by omega), slice_from (by omega) (by omega), code_list]
    congr 2
    omega
  have e := far2 ok.all hg.all rfl (by omega) ex rfl (by decide) (by omega) h
  rw [ex] at e
  have e2 := congrArg (·[a.toNat]?) e
  have hlen : (y.cps.toList.take a.toNat).length = a.toNat := by rw [List.length_take]; omega
  simp only [cat_get h0 h1] at e2
  rw [List.append_assoc, List.getElem?_append_right (by omega), hlen, Nat.sub_self] at e2
  have e3 : cat CS ((plc (cat y a) + 1 + b.fmod 94).fmod 95) = cat y a := by simpa using e2
  have e4 := congrArg plc e3
  rw [plc_cat (Int.fmod_nonneg_of_pos _ (by decide)) (Int.fmod_lt_of_pos _ (by decide))] at e4
  rw [Int.fmod_eq_emod_of_nonneg _ (by decide)] at e4
  omega
theorem swapped_far {y : Str} {a : Int} (hg : Good y) (h0 : 0 ≤ a) (h1 : a + 1 < y.length) (hne : cat y a ≠ cat y (a + 1))
    (h : ckSum (KStt.codes (Txt.slice y none (some a) ++ ⟨#[cat y (a + 1)]⟩ ++ ⟨#[cat y a]⟩ ++ Txt.slice y (some (a + 2)) none)) = ckSum (KStt.codes y)) : False := by
  have hyl : y.cps.toList.length = y.length := Array.length_toList
  have ok : OkT (Txt.slice y none (some a) ++ ⟨#[cat y (a + 1)]⟩ ++ ⟨#[cat y a]⟩ ++ Txt.slice y (some (a + 2)) none) 40 := ok4 (ok_slice hg) (hg.ok.code (by omega) (by omega)) (hg.ok.code (by omega) (by omega)) (ok_slice hg)
  have ex : (Txt.slice y none (some a) ++ ⟨#[cat y (a + 1)]⟩ ++ ⟨#[cat y a]⟩ ++ Txt.slice y (some (a + 2)) none).cps.toList = y.cps.toList.take a.toNat ++ [cat y (a + 1), cat y a] ++ y.cps.toList.drop (a.toNat + 2) := by
    rw [app_list, app_list, app_list, slice_to h0 (by omega), slice_from (by omega) (by omega), code_list, code_list, List.append_assoc (List.take _ _)]
    congr 2
    omega
  have e := far2 ok.all hg.all rfl (by omega) ex rfl (by decide) (by omega) h
  rw [ex] at e
  have e2 := congrArg (·[a.toNat]?) e
  have hlen : (y.cps.toList.take a.toNat).length = a.toNat := by rw [List.length_take]; omega
  simp only [cat_get h0 (by omega : a < y.length)] at e2
  rw [List.append_assoc, List.getElem?_append_right (by omega), hlen, Nat.sub_self] at e2
  have e3 : cat y (a + 1) = cat y a := by simpa using e2
  exact hne e3.symm
end Mine
end
section
open PySem PySem.W PySem.Spec PySem.Calls PyProof.Rows
set_option maxRecDepth 100000
namespace Mine
/-- an int came back, nothing was made -/
def IntPost (s : Shared) : Value → Shared → Prop := fun v s' => ∃ i t tk, v = .int i t ∧ s' = { s with toks := tk }
section
variable {prog : Program} {w : World} {A : Around} {E : Value → Shared → Prop} {s : Shared} {Q : Value → Shared → Prop} {x y : Str} {t u : Tok}
theorem join_int {c : Sem Value} (h1 : wpAny (model prog w) A c (IntPost s) E s) (h2 : ∀ i t tk, Q (.int i t) { s with toks := tk }) : wpAny (model prog w) A c Q E s :=
  wpAny_mono h1 (fun v s' hq => by obtain ⟨i, t, tk, rfl, rfl⟩ := hq; exact h2 i t tk) fun _ _ e => e
theorem int_post {i : Int} {tk : Nat} : IntPost s (.int i t) { s with toks := tk } := ⟨i, t, tk, rfl, rfl⟩
theorem ne_same (h : Q (.bool false) s) : wpAny (model prog w) A (compareOp .NotEq (.str x t) (.str x u)) Q E s := by
  refine PyProof.Rows.ne_str ?_
  rw [bne_self_eq_false]; exact h
theorem eq_far (hne : x = y → False) (h : Q (.bool false) s) : wpAny (model prog w) A (compareOp .Eq (.str x t) (.str y u)) Q E s := by
  refine PyProof.Rows.eq_str ?_
  rw [beq_eq_false_iff_ne.mpr hne]; exact h
theorem ne_codes {a b : Int} (h1 : cat x a ≠ cat x b → Q (.bool true) s) (h2 : cat x a = cat x b → Q (.bool false) s) : wpAny (model prog w) A (compareOp .NotEq (.str ⟨#[cat x a]⟩ t) (.str ⟨#[cat x b]⟩ u)) Q E s := by
  refine PyProof.Rows.ne_str ?_
  by_cases hc : cat x a = cat x b
  · rw [hc, bne_self_eq_false]; exact h2 hc
  · have e : ((⟨#[cat x a]⟩ : Str) != ⟨#[cat x b]⟩) = true := by
      rw [bne_iff_ne]
      intro q
      have := congrArg (fun z : Str => z.cps.toList) q
      simp at this
      exact hc this
    rw [e]; exact h1 hc
theorem len_good (hg : Good x) (h : Q (.int x.length (s.toks + 1)) { s with toks := s.toks + 1 + 1 }) : wpAny (model prog w) A (call (.builtin "len") [.str x t]) Q E s :=
  PySem.P.len_str (by have := hg.len; omega) h
theorem mod_len {b : Int} (hg : 0 < x.length) (h : ∀ a : Int, 0 ≤ a → a < x.length → Q (.int a s.toks) { s with toks := s.toks + 1 }) : wpAny (model prog w) A (binaryOp .Mod (.int b t) (.int (x.length : Int) u)) Q E s := by
  have hp : (0 : Int) < x.length := by omega
  exact PyProof.Rows.mod_int' (by omega) (h (b.fmod x.length) (Int.fmod_nonneg_of_pos b hp) (Int.fmod_lt_of_pos b hp))
theorem item_good {value slice : PySem.Expr} {i : Int} {u : Tok} (hg : Good x) (h0 : 0 ≤ i) (h1 : i < x.length)
    (h : Q (.str ⟨#[cat x i]⟩ s.toks) { s with toks := s.toks + 1 })
    (hs : subscripted slice false (.str x t) (.int i u) = operate [.str x t, .int i u] (getItem (.str x t) (.int i u)) := by with_unfolding_all rfl)
    (ht : ∀ r, letTemporaryGo value (.str x t) r = pure () := by intro _; with_unfolding_all rfl) :
    wpAny (model prog w) A (subscriptTail value slice (.str x t) (.int i u)) Q E s :=
  item_code h0 h1 (by have := hg.len; omega) h hs ht
end
theorem cat_in {y : Str} {a : Int} (hg : Good y) (h0 : 0 ≤ a) (h1 : a < y.length) : cat y a ∈ CSL := hg.all _ (List.mem_of_getElem? (cat_get h0 h1))
theorem not_in {n : Nat} (h : plc n = -1) : n ∉ CSL := fun hn => by have := plc_mem hn; omega
theorem nl_codes {y : Str} (hg : Good y) : ∀ c ∈ (y ++ Str.ofString "\n").cps.toList, c ∈ CSL ∨ plc c = -1 := by
  intro c hc
  rw [app_list] at hc
  rcases List.mem_append.mp hc with h | h
  · exact .inl (hg.all c h)
  · have e : (Str.ofString "\n").cps.toList = [10] := by decide
    rw [e] at h
    rw [List.mem_singleton.mp h]
    exact .inr plc_nl
theorem nl_bad (y : Str) : ∃ c ∈ (y ++ Str.ofString "\n").cps.toList, c ∉ CSL := by
  refine ⟨10, ?_, not_in plc_nl⟩
  rw [app_list]
  exact List.mem_append_right _ (by decide)
theorem ea_codes {y : Str} (hg : Good y) : ∀ c ∈ (Str.ofString "é" ++ y).cps.toList, c ∈ CSL ∨ plc c = -1 := by
  intro c hc
  rw [app_list] at hc
  rcases List.mem_append.mp hc with h | h
  · have e : (Str.ofString "é").cps.toList = [233] := by decide
    rw [e] at h
    rw [List.mem_singleton.mp h]
    exact .inr plc_ea
  · exact .inl (hg.all c h)
theorem ea_bad (y : Str) : ∃ c ∈ (Str.ofString "é" ++ y).cps.toList, c ∉ CSL := by
  refine ⟨233, ?_, not_in plc_ea⟩
  rw [app_list]
  exact List.mem_append_left _ (by decide)
theorem use_refused {room : Nat} {w : World} {x : Str} {t : Tok} {dp un : Nat} {gd : Option (List Code)} {cn : Str} {cs : Scope} {a : Addr} {ccd : Value} {cl : List (Str × Addr)} {A₀ : Around} {base h₀ : Heap} {L : Addr} {m : Str → Option Value}
    {mean : ExcName → Option Value} {mg mb : Str → Option Value} {s : Shared} {Q E : Value → Shared → Prop} (C : TClaim room w x t)
    (B : Below A₀ base [] h₀) (F : Fr h₀ L s.heap m) (X : (hd.heap_39 w.params).In base) (T : Top hd.view_39 (looseW hd.view_39 []) mean mg mb base) (hk : cs.kind = .function) (hdp : dp + room < recursionLimit) (hun : un + 8 * room < cLine)
    (ret : ∀ h' tk', Fr h₀ L h' m → News h₀ L h' [] → Q (.bool true) { s with heap := h', toks := tk' }) :
    wpAny (model PySem.Challenge.rw_ci0001_01.row.prog w) (ktrTop dp un gd cn cs L a ccd cl []) (call (.ref 84) [.str x t]) Q E s :=
  C dp un gd cn cs a ccd cl A₀ base h₀ L m mean mg mb s Q E B F X T hk hdp hun fun h' tk' F' => ret h' tk' F' News.nil
end Mine
end
section
open PySem PySem.W PySem.Spec PySem.Calls PyProof.Rows
set_option maxRecDepth 100000
set_option maxHeartbeats 8000000
namespace Mine
section
variable {prog : Program} {w : World} {A : Around} {E : Value → Shared → Prop} {s : Shared} {value slice : PySem.Expr} {t : Tok} {Q : Value → Shared → Prop}
theorem item_cs {k : Int} {u : Tok} (h : Q (.str ⟨#[cat CS (k.fmod 95)]⟩ s.toks) { s with toks := s.toks + 1 })
    (hs : subscripted slice false (.str CS t) (.int (k.fmod 95) u) = operate [.str CS t, .int (k.fmod 95) u] (getItem (.str CS t) (.int (k.fmod 95) u)) := by with_unfolding_all rfl)
    (ht : ∀ r, letTemporaryGo value (.str CS t) r = pure () := by intro _; with_unfolding_all rfl) :
    wpAny (model prog w) A (subscriptTail value slice (.str CS t) (.int (k.fmod 95) u)) Q E s := by
  have hl : CS.length = 95 := by show CS.cps.size = 95; rw [← Array.length_toList, CS_cps, CSL_length]
  have h0 := Int.fmod_nonneg_of_pos k (b := 95) (by decide)
  have h1 := Int.fmod_lt_of_pos k (b := 95) (by decide)
  exact item_code h0 (by rw [hl]; exact h1) (by rw [hl]; decide) h hs ht
end
local macro_rules | `(tactic| walk_at "CompSrc") => `(tactic| (k_here; (with_reducible show LCg.CompSrc _ _ _ _ _ _ _ (Expr.Subscript _ _ _) _ _ _ _ _ _); k_dflt ((refine LCg.CompSrc.ledger (by rfl) (by k_asm) (by k_asm) (by k_mem) (by kcf_size) ?_; intro g'; (refine' kct_list _ (by first | assumption | l_ints) (fun k' t' I' oI' C' oC' D' m' ys' h' tk' E' hk' hC' hx' F' N' off' ne' => ?_) ?_); (all_goals (try (simp only [LCg.Off3, and_true] at off'))); (all_goals (try ((show KPfMark → _); intro hMark'))); kcf_last))))
local macro_rules | `(tactic| walk_at "subscriptTail Name BinOp str int") => `(tactic| (k_here; (with_reducible show wpAny _ _ (subscriptTail _ _ (Value.str _ _) (Value.int (Int.fmod _ 95) _)) _ _ _); k_dflt (refine' item_cs ?_)))
local macro_rules | `(tactic| walk_at "call ref") => `(tactic| (k_here; (with_reducible show wpAny _ _ (call (Value.ref 65) _) _ _ _); k_dflt (refine' use_claim (signs_walk _) ?k1 ?k2 ?k3 ?k4 ?k5 ?kK ?kd ?ku ?_; (case k1 => k_asm); (case k2 => k_asm); (case k3 => k_asm); (case k4 => k_asm); (case k5 => k_asm); (case kK => first | exact rfl | assumption); (case kd => ktr_room); (case ku => ktr_units); k_whole; intro t9 h9 tk9 F9 N9; (try dsimp only); (try k_sweep))))
local macro_rules | `(tactic| walk_at "eval ListComp") => `(tactic| (k_here; (with_reducible show wpAny _ _ (eval (Expr.ListComp (Expr.Subscript _ _ _) _ _ _) _) _ _ _); (k_dflt (refine' wpAny_with_toks (n := 1) ?kt ?_; (case kt => exact Nat.succ_le_succ (Nat.zero_le _)))); k_dflt (refine LCg.ListComp_U (F₀ := by k_asm) (by with_unfolding_all rfl) (by decide) (by rfl) (by decide) (by rfl) ?_)))
local macro_rules | `(tactic| walk_at "FinE") => `(tactic| ((unfold LCg.FinE); intro D' h' tk' F' N' o1'; (try simp only [LCg.Off1, and_true] at o1'); (try simp only [List.nil_append, List.cons_append] at N'); (try dsimp only); (try ((with_reducible show (1 : Nat) ≤ _ → _); intro hT'; (try dsimp only)))))
local macro_rules | `(tactic| walk_at "call builtin:str.join") => `(tactic| (k_here; (with_reducible show wpAny _ _ (call (Value.builtin "str.join") [Value.str _ _, Value.ref _]) _ _ _); (with_reducible rename CarriedAll _ (List.map _ _) => ktC); k_dflt (refine' join_T ?k1 ktC ?k2 ?k3 ?k4 ?_; (case k1 => first | assumption | is_list | exact News.isList (by k_asm) (by k_mem)); (case k2 => intro ktA ktM; kct_one); (case k3 => first | omega | kt_fact); (case k4 => assumption); k_whole; intro tj kj hj)))
local macro_rules | `(tactic| walk_at "call builtin:str.replace") => `(tactic| (k_here; k_dflt ((refine' replace_T ?k1 ?k2 ?k3 ?k4 ?_); (case k1 => (simp only [List.length_take]; omega)); (case k2 => ((show @Ne Nat _ _); (try dsimp only); omega)); (case k3 => ((show @Ne Nat _ _); (try dsimp only); omega)); (case k4 => ((show @Ne Nat _ _); (try dsimp only); omega)); k_whole; intro y9 ty9 ky9 hy9)))
local macro_rules | `(tactic| walk_at "okt") => `(tactic| first | (with_reducible exact Good.ok40 (by with_reducible assumption)) | (with_reducible refine ok4 ?_ ?_ ?_ ?_ <;> walk_at "okt") | (with_reducible refine ok3 ?_ ?_ ?_ <;> walk_at "okt") | (with_reducible refine ok2 ?_ ?_ <;> walk_at "okt") | (with_reducible exact ok_slice (by with_reducible assumption)) | (with_reducible exact OkT.sign) | (with_reducible refine OkT.code (Good.ok (by with_reducible assumption)) ?_ ?_ <;> omega))
local macro_rules | `(tactic| walk_at "sht") => `(tactic| first | (with_reducible refine Sh.app ?_ ?_ <;> walk_at "sht") | (with_reducible exact sh_ck _) | (with_reducible exact sh_one) | (with_reducible exact sh_rev _ _) | (with_reducible exact sh_slice (by with_reducible assumption)) | (with_reducible exact sh_good (by with_reducible assumption)) | exact sh_of (by decide))
local macro_rules | `(tactic| walk_at "call ref") => `(tactic| (k_here; (with_reducible show wpAny _ _ (call (Value.ref 77) _) _ _ _); k_dflt (refine' use_claim (law_end_walk _ _ _ ?kx ?kl) ?k1 ?k2 ?k3 ?k4 ?k5 ?kK ?kd ?ku ?_; (case kx => (refine OkT.all (n := 40) ?_; walk_at "okt")); (case kl => (refine OkT.len (n := 40) ?_; walk_at "okt")); (case k1 => k_asm); (case k2 => k_asm); (case k3 => k_asm); (case k4 => k_asm); (case k5 => k_asm); (case kK => first | exact rfl | assumption); (case kd => ktr_room); (case ku => ktr_units); k_whole; intro t9 h9 tk9 F9 N9; (try dsimp only); (try k_sweep))))
local macro_rules | `(tactic| walk_at "call ref") => `(tactic| (k_here; (with_reducible show wpAny _ _ (call (Value.ref 51) _) _ _ _); k_dflt (refine' use_claim (checksum_walk _ _ _ ?kx) ?k1 ?k2 ?k3 ?k4 ?k5 ?kK ?kd ?ku ?_; (case kx => (refine OkT.all (n := 40) ?_; walk_at "okt")); (case k1 => k_asm); (case k2 => k_asm); (case k3 => k_asm); (case k4 => k_asm); (case k5 => k_asm); (case kK => first | exact rfl | assumption); (case kd => ktr_room); (case ku => ktr_units); k_whole; intro t9 h9 tk9 F9 N9; (try dsimp only); (try k_sweep))))
local macro_rules | `(tactic| walk_at "call ref") => `(tactic| (k_here; (with_reducible show wpAny _ _ (call (Value.ref 58) [Value.str _ _]) _ _ _); k_dflt (refine' use_claim (add_walk _ _ _ ?kx ?kh ?kl) ?k1 ?k2 ?k3 ?k4 ?k5 ?kK ?kd ?ku ?_; (case kx => (exact Good.all (by with_reducible assumption))); (case kh => (exact decide_eq_false (Good.none (by with_reducible assumption)))); (case kl => (exact Nat.le_trans (Good.len (by with_reducible assumption)) (by decide))); (case k1 => k_asm); (case k2 => k_asm); (case k3 => k_asm); (case k4 => k_asm); (case k5 => k_asm); (case kK => first | exact rfl | assumption); (case kd => ktr_room); (case ku => ktr_units); k_whole; intro t9 h9 tk9 F9 N9; (try dsimp only); (try k_sweep))))
local macro_rules | `(tactic| walk_at "call ref") => `(tactic| (k_here; (with_reducible show wpAny _ _ (call (Value.ref 58) [Value.str (_ ++ _ ++ _) _]) _ _ _); k_dflt (refine' use_claim (add_walk2 _ _ _ _ ?kx ?kn (hash_in _ _) ?kl ?kz) ?k1 ?k2 ?k3 ?k4 ?k5 ?kK ?kd ?ku ?_; (case kx => (exact Good.all (by with_reducible assumption))); (case kn => (exact Good.none (by with_reducible assumption))); (case kl => (exact Nat.le_trans (Good.len (by with_reducible assumption)) (by decide))); (case kz => (exact revCk_len _ _)); (case k1 => k_asm); (case k2 => k_asm); (case k3 => k_asm); (case k4 => k_asm); (case k5 => k_asm); (case kK => first | exact rfl | assumption); (case kd => ktr_room); (case ku => ktr_units); k_whole; intro t9 h9 tk9 F9 N9; (try dsimp only); (try k_sweep))))
local macro_rules | `(tactic| walk_at "binaryOp Add str str") => `(tactic| ((k_here); k_dflt ((refine' add_S ?kx ?ky ?_); (case kx => (walk_at "sht")); (case ky => (walk_at "sht")); (k_whole); (intro ta9 ka9))))
local macro_rules | `(tactic| walk_at "subscriptTail Name Slice str ref") => `(tactic| (k_here; (with_reducible show wpAny _ _ (subscriptTail _ (Expr.Slice none none (some _) _) (Value.str (ckSum _) _) _) _ _ _); k_dflt ((refine' slice_strK_nn (s := ⟨_, _, _, _, _⟩) (hsz := line_ck _) ?k1 ?k2 ?k3 ?_; (case k1 => k_asm); (case k2 => k_asm); (case k3 => decide); k_whole; intro hs9 ts9 cs9 Fs9 Ns9))))
local macro_rules | `(tactic| walk_at "subscriptTail Name Slice str ref") => `(tactic| (k_here; (with_reducible show wpAny _ _ (subscriptTail _ (Expr.Slice none (some _) none _) _ _) _ _ _); k_dflt ((refine' slice_ns (s := ⟨_, _, _, _, _⟩) ?k1 ?k2 ?k3 ?_; (case k1 => k_asm); (case k2 => k_asm); (case k3 => exact line_good (by with_reducible assumption)); k_whole; intro hs9 ts9 cs9 Fs9 Ns9))))
local macro_rules | `(tactic| walk_at "subscriptTail Name Slice str ref") => `(tactic| (k_here; (with_reducible show wpAny _ _ (subscriptTail _ (Expr.Slice (some _) none none _) _ _) _ _ _); k_dflt ((refine' slice_sn (s := ⟨_, _, _, _, _⟩) ?k1 ?k2 ?k3 ?_; (case k1 => k_asm); (case k2 => k_asm); (case k3 => exact line_good (by with_reducible assumption)); k_whole; intro hs9 ts9 cs9 Fs9 Ns9))))
local macro_rules | `(tactic| walk_at "truthy str") => `(tactic| (k_here; k_dflt ((refine' truthy_T ?k1 ?_ ?_; (case k1 => assumption); (all_goals k_whole); intro hz9))))
local macro_rules | `(tactic| walk_at "eval IfExp") => `(tactic| (k_here; (with_reducible show wpAny _ _ (eval (Expr.IfExp _ _ _ _) _) _ _ _); k_dflt (refine join_int (IfExp_ ?_) ?_); k_whole; (try intro hd9 thd9 khd9)))
local macro_rules | `(tactic| walk_at "IntPost") => `(tactic| (k_dflt (exact int_post)))
local macro_rules | `(tactic| walk_at "compareOp NotEq str str") => `(tactic| (k_here; k_dflt (refine ne_same ?_)))
local macro_rules | `(tactic| walk_at "compareOp NotEq str str") => `(tactic| (k_here; (with_reducible show wpAny _ _ (compareOp _ (Value.str ⟨#[cat _ _]⟩ _) (Value.str ⟨#[cat _ _]⟩ _)) _ _ _); k_dflt (refine ne_codes ?_ ?_); (all_goals k_whole); intro hne9))
local macro_rules | `(tactic| walk_at "compareOp Eq str str") => `(tactic| (k_here; (with_reducible show wpAny _ _ (compareOp _ (Value.str (ckSum _) _) (Value.str (ckSum _) _)) _ _ _); k_dflt (refine eq_far ?_ ?_; (case _ => (intro hq9; first | (with_reducible refine turned_far ?_ ?_ ?_ hq9 <;> with_reducible assumption) | (with_reducible refine swapped_far ?_ ?_ ?_ ?_ hq9 <;> first | with_reducible assumption | omega))))))
local macro_rules | `(tactic| walk_at "call builtin:len") => `(tactic| (k_here; (with_reducible show wpAny _ _ (call (Value.builtin "len") [Value.str _ _]) _ _ _); k_dflt (refine' len_good ?k1 ?_; (case k1 => assumption); k_whole)))
local macro_rules | `(tactic| walk_at "binaryOp Mod int int") => `(tactic| (k_here; (with_reducible show wpAny _ _ (binaryOp _ (Value.int _ _) (Value.int (Nat.cast (PySem.Str.length _)) _)) _ _ _); k_dflt (refine' mod_len ?k1 ?_; (case k1 => assumption); k_whole; intro at9 ha9 hb9)))
local macro_rules | `(tactic| walk_at "subscriptTail Name Name str int") => `(tactic| (k_here; k_dflt ((refine' item_good ?k1 ?k2 ?k3 ?_; (case k1 => assumption); (case k2 => first | assumption | omega); (case k3 => first | assumption | omega); k_whole))))
local macro_rules | `(tactic| walk_at "subscriptTail Name BinOp str int") => `(tactic| (k_here; (with_reducible show wpAny _ _ (subscriptTail _ _ (Value.str _ _) (Value.int (_ + 1) _)) _ _ _); k_dflt ((refine' item_good ?k1 ?k2 ?k3 ?_; (case k1 => assumption); (case k2 => first | assumption | omega); (case k3 => first | assumption | omega); k_whole))))
local macro_rules | `(tactic| walk_at "call builtin:str.index") => `(tactic| (k_here; k_dflt ((refine' index_sign (by rfl) ?k1 ?_; (case k1 => exact cat_in (by assumption) (by assumption) (by assumption)); k_whole; intro p0 p1))))
local macro_rules | `(tactic| walk_at "call ref") => `(tactic| (k_here; (with_reducible show wpAny _ _ (call (Value.ref 84) [Value.str _ _]) _ _ _); k_dflt ((refine' use_refused (refused_walk _ _ _ ?kx ?ky) ?k1 ?k2 ?k3 ?k4 ?kK ?kd ?ku ?_; (case kx => first | exact nl_codes (by assumption) | exact ea_codes (by assumption)); (case ky => first | exact nl_bad _ | exact ea_bad _); (case k1 => assumption); (case k2 => k_asm); (case k3 => assumption); (case k4 => assumption); (case kK => first | exact rfl | assumption); (case kd => ktr_room); (case ku => ktr_units); k_whole; intro h9 tk9 F9 N9; (try dsimp only); (try k_sweep)))))
theorem top : PySem.Challenge.rw_ci0001_01.Holds := hd (by
  w_top off; k_with_none; (w_strict (k_go0; (all_goals try k_fold); k_steps)))
end Mine
end
set_option maxRecDepth 100000 in
set_option maxHeartbeats 8000000 in
theorem PySem.Challenge.cw_ci0001_01_holds : PySem.Challenge.rw_ci0001_01.Holds := by
  exact Mine.top
