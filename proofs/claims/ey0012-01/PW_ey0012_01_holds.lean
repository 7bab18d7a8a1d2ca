import PyProof.Rows.All
import Wide.All
import OpenK.AllK
import Wide.FinOn
import Lean
import PySem.Challenge.RW_ey0012_01
set_option Elab.async false
namespace Mine
open PySem PySem.W PyProof.Rows
set_option maxRecDepth 100000 in
set_option maxHeartbeats 8000000 in
open_top hd for PySem.Challenge.rw_ey0012_01
end Mine

section PartL0
open PySem
namespace Mine

theorem toList_len (x : Str) : x.cps.toList.length = x.length := by simp [Str.length]
theorem str_eq {x y : Str} (h : x.cps.toList = y.cps.toList) : x = y := Str.ext' (Array.toList_inj.mp h)

theorem cut_to {x : Str} {j : Int} (h0 : 0 ≤ j) (h1 : j ≤ x.length) : (Txt.slice x none (some j)).cps.toList = x.cps.toList.take j.toNat := by
  have e : Txt.slice x none (some j) = StrLaws.sliceText x none (some j) := rfl
  rw [e, StrLaws.sliceText_to ⟨h0, by rw [toList_len]; exact h1⟩]
  simp
theorem cut_from {x : Str} {i : Int} (h0 : 0 ≤ i) (h1 : i ≤ x.length) : (Txt.slice x (some i) none).cps.toList = x.cps.toList.drop i.toNat := by
  have e : Txt.slice x (some i) none = StrLaws.sliceText x (some i) none := rfl
  rw [e, StrLaws.sliceText_from ⟨h0, by rw [toList_len]; exact h1⟩]
  have : (List.drop i.toNat x.cps.toList).length ≤ ((x.cps.toList.length : Int) - i).toNat := by simp; omega
  simpa using List.take_of_length_le this
theorem cut_to_neg {x : Str} {j : Int} (h0 : 1 ≤ j) (h1 : j ≤ x.length) : Txt.slice x none (some (-j)) = Txt.slice x none (some (x.length - j)) := by
  have e := StrLaws.sliceText_neg_hi x none (j := -j) (by omega) (by omega)
  have e2 : (-j + (x.length : Int)) = x.length - j := by omega
  rw [e2] at e
  exact e
theorem cut_from_neg {x : Str} {j : Int} (h0 : 1 ≤ j) (h1 : j ≤ x.length) : Txt.slice x (some (-j)) none = Txt.slice x (some (x.length - j)) none := by
  have e := StrLaws.sliceText_neg_lo x none (i := -j) (by omega) (by omega)
  have e2 : (-j + (x.length : Int)) = x.length - j := by omega
  rw [e2] at e
  exact e
theorem cut_to_len {x : Str} {j : Int} (h0 : 0 ≤ j) (h1 : j ≤ x.length) : ((Txt.slice x none (some j)).length : Int) = j := by
  rw [← toList_len, cut_to h0 h1, List.length_take, toList_len]; omega
theorem cut_from_len {x : Str} {j : Int} (h0 : 0 ≤ j) (h1 : j ≤ x.length) : ((Txt.slice x (some j) none).length : Int) = x.length - j := by
  rw [← toList_len, cut_from h0 h1, List.length_drop, toList_len]; omega

/-- the digits parted from the right -/
def goPart (text left : Str) (size second : Int) (sign : Str) : Str :=
  if h : 1 ≤ size ∧ size < left.length then
    goPart (sign ++ Txt.slice left (some (left.length - size)) none ++ text) (Txt.slice left none (some (left.length - size))) second second sign
  else left ++ text
termination_by left.length
decreasing_by
  have := cut_to_len (x := left) (j := left.length - size) (by omega) (by omega)
  omega

theorem part_turn {t l sign R : Str} {s second : Int} (h : goPart t l s second sign = R) (h0 : 1 ≤ s) (h1 : s < l.length) :
    goPart (sign ++ Txt.slice l (some (l.length - s)) none ++ t) (Txt.slice l none (some (l.length - s))) second second sign = R := by
  rw [goPart, dif_pos ⟨h0, h1⟩] at h
  exact h
theorem part_stop {t l sign R : Str} {s second : Int} (h : goPart t l s second sign = R) (h1 : ¬ s < l.length) : l ++ t = R := by
  rw [goPart, dif_neg (fun x => h1 x.2)] at h
  exact h
theorem part_len {t l sign : Str} {s : Int} (h0 : 1 ≤ s) (h1 : s < l.length) (hb : t.length + 2 * l.length ≤ 2000) (hs : sign.length ≤ 1) :
    (sign ++ Txt.slice l (some (l.length - s)) none ++ t).length + 2 * (Txt.slice l none (some (l.length - s))).length ≤ 2000 := by
  have a := cut_to_len (x := l) (j := l.length - s) (by omega) (by omega)
  have b := cut_from_len (x := l) (j := l.length - s) (by omega) (by omega)
  rw [Str.length_append, Str.length_append]
  omega
theorem part_less {l : Str} {s : Int} (h0 : 1 ≤ s) (h1 : s < l.length) : (Txt.slice l none (some (l.length - s))).length < l.length := by
  have a := cut_to_len (x := l) (j := l.length - s) (by omega) (by omega)
  omega
def parted (digits : Str) (first second : Int) (sign : Str) : Str := goPart (Str.ofString "") digits first second sign
end Mine
end PartL0

section PartL1
open PySem
namespace Mine
abbrev fractionT (digits : Str) (least : Int) : Str := digits ++ Txt.mul (Str.ofString "0") (least - digits.length)
@[irreducible] def fraction (digits : Str) (least most : Int) (sign : Str) : Str :=
  if most = 0 ∨ (least = 0 ∧ (Txt.stripChars (fractionT digits least) (Str.ofString "0") == Str.ofString "") = true) then Str.ofString ""
  else sign ++ Txt.slice (fractionT digits least) none (some least) ++ Txt.rstripChars (Txt.slice (fractionT digits least) (some least) none) (Str.ofString "0")
theorem frac1 {digits sign : Str} {least most : Int} (h : most = 0) : Str.ofString "" = fraction digits least most sign := by
  unfold fraction; rw [if_pos (.inl h)]
theorem frac2 {digits sign : Str} {least most : Int} (h : least = 0) (h2 : (Txt.stripChars (fractionT digits least) (Str.ofString "0") == Str.ofString "") = true) : Str.ofString "" = fraction digits least most sign := by
  unfold fraction; rw [if_pos (.inr ⟨h, h2⟩)]
theorem frac3 {digits sign : Str} {least most : Int} (h : most ≠ 0) (h2 : (Txt.stripChars (fractionT digits least) (Str.ofString "0") == Str.ofString "") = false) :
    sign ++ Txt.slice (fractionT digits least) none (some least) ++ Txt.rstripChars (Txt.slice (fractionT digits least) (some least) none) (Str.ofString "0") = fraction digits least most sign := by
  unfold fraction; rw [if_neg (by rintro (x | ⟨_, x⟩); exact h x; rw [h2] at x; exact Bool.noConfusion x)]
theorem frac4 {digits sign : Str} {least most : Int} (h : most ≠ 0) (h2 : least ≠ 0) :
    sign ++ Txt.slice (fractionT digits least) none (some least) ++ Txt.rstripChars (Txt.slice (fractionT digits least) (some least) none) (Str.ofString "0") = fraction digits least most sign := by
  unfold fraction; rw [if_neg (by rintro (x | ⟨x, _⟩); exact h x; exact h2 x)]
end Mine
namespace Mine
theorem one_not_empty {p : Str} (h : p.length = 1) : (p.length == 0) = false := by rw [h]; rfl
end Mine
namespace Mine
@[irreducible] def bare (s p : Str) : Str :=
  if ((Txt.partition s p).2.2.length : Int) = 0 then s
  else if ((Txt.rstripChars (Txt.partition s p).2.2 (Str.ofString "0")).length : Int) = 0 then (Txt.partition s p).1
  else (Txt.partition s p).1 ++ p ++ Txt.rstripChars (Txt.partition s p).2.2 (Str.ofString "0")
theorem bare1 {s p : Str} (h : ((Txt.partition s p).2.2.length : Int) = 0) : s = bare s p := by unfold bare; rw [if_pos h]
theorem bare2 {s p : Str} (h : ((Txt.partition s p).2.2.length : Int) ≠ 0) (h2 : ((Txt.rstripChars (Txt.partition s p).2.2 (Str.ofString "0")).length : Int) = 0) : (Txt.partition s p).1 = bare s p := by unfold bare; rw [if_neg h, if_pos h2]
theorem bare3 {s p : Str} (h : ((Txt.partition s p).2.2.length : Int) ≠ 0) (h2 : ((Txt.rstripChars (Txt.partition s p).2.2 (Str.ofString "0")).length : Int) ≠ 0) : (Txt.partition s p).1 ++ p ++ Txt.rstripChars (Txt.partition s p).2.2 (Str.ofString "0") = bare s p := by unfold bare; rw [if_neg h, if_neg h2]
end Mine
namespace Mine
@[irreducible] def cellV (ns : List Int) (i : Int) : Int := if i < (ns.length : Int) then ((ns.getD i.toNat 0).natAbs : Int) else 7 * i + 3
theorem cell1 {ns : List Int} {i : Int} (h : i < (ns.length : Int)) : (if ns.getD i.toNat 0 < 0 then -ns.getD i.toNat 0 else ns.getD i.toNat 0) = cellV ns i := by
  unfold cellV; rw [if_pos h]; split <;> omega
theorem cell2 {ns : List Int} {i : Int} (h : ¬ i < (ns.length : Int)) : 7 * i + 3 = cellV ns i := by
  unfold cellV; rw [if_neg h]
theorem cell_nn (ns : List Int) (i : Int) (h : 0 ≤ i) : 0 ≤ cellV ns i := by
  unfold cellV; split <;> omega
@[irreducible] def grp (p : Str) : Int × Int :=
  if Txt.rfind p (Str.ofString ",") = -1 then (1000, 1000)
  else if Txt.rfind (Txt.slice p none (some (-((p.length : Int) - Txt.rfind p (Str.ofString ",") - 1) - 1))) (Str.ofString ",") = -1 then ((p.length : Int) - Txt.rfind p (Str.ofString ",") - 1, (p.length : Int) - Txt.rfind p (Str.ofString ",") - 1)
  else ((p.length : Int) - Txt.rfind p (Str.ofString ",") - 1, (p.length : Int) - ((p.length : Int) - Txt.rfind p (Str.ofString ",") - 1) - Txt.rfind (Txt.slice p none (some (-((p.length : Int) - Txt.rfind p (Str.ofString ",") - 1) - 1))) (Str.ofString ",") - 2)
theorem grp1 {p : Str} (h : Txt.rfind p (Str.ofString ",") = -1) : grp p = (1000, 1000) := by unfold grp; rw [if_pos h]
theorem grp2 {p : Str} (h : Txt.rfind p (Str.ofString ",") ≠ -1) (h2 : Txt.rfind (Txt.slice p none (some (-((p.length : Int) - Txt.rfind p (Str.ofString ",") - 1) - 1))) (Str.ofString ",") = -1) :
    grp p = ((p.length : Int) - Txt.rfind p (Str.ofString ",") - 1, (p.length : Int) - Txt.rfind p (Str.ofString ",") - 1) := by unfold grp; rw [if_neg h, if_pos h2]
theorem grp3 {p : Str} (h : Txt.rfind p (Str.ofString ",") ≠ -1) (h2 : Txt.rfind (Txt.slice p none (some (-((p.length : Int) - Txt.rfind p (Str.ofString ",") - 1) - 1))) (Str.ofString ",") ≠ -1) :
    grp p = ((p.length : Int) - Txt.rfind p (Str.ofString ",") - 1, (p.length : Int) - ((p.length : Int) - Txt.rfind p (Str.ofString ",") - 1) - Txt.rfind (Txt.slice p none (some (-((p.length : Int) - Txt.rfind p (Str.ofString ",") - 1) - 1))) (Str.ofString ",") - 2) := by unfold grp; rw [if_neg h, if_neg h2]
end Mine
namespace Mine
@[irreducible] def groupsL (n : Int) : List Int := List.map (fun k' => 1 + (n.fdiv (4 * (k' + 1))).fmod 4) (PySem.W.rangeKs 0 (1 + n.fmod 4 - 0).toNat)
theorem groupsL_def (n : Int) : groupsL n = List.map (fun k' => 1 + (n.fdiv (4 * (k' + 1))).fmod 4) (PySem.W.rangeKs 0 (1 + n.fmod 4 - 0).toNat) := by unfold groupsL; rfl
end Mine
namespace Mine
@[irreducible] def patL (n : Int) : Str := Txt.join (Str.ofString ",") ((groupsL n).reverse.map fun k => Txt.mul (Str.ofString "#") k)
theorem patL_def (n : Int) : patL n = Txt.join (Str.ofString ",") ((groupsL n).reverse.map fun k => Txt.mul (Str.ofString "#") k) := by unfold patL; rfl
theorem groups_one {n k : Int} (h : k ∈ groupsL n) : 1 ≤ k ∧ k ≤ 4 := by
  rw [groupsL_def] at h
  obtain ⟨j, _, rfl⟩ := List.mem_map.mp h
  have h1 := PySem.W.fmod_lo ((n.fdiv (4 * (j + 1)))) (n := 4) (by decide)
  have h2 := PySem.W.fmod_hi ((n.fdiv (4 * (j + 1)))) (n := 4) (by decide)
  omega
theorem groups_len (n : Int) : 1 ≤ (groupsL n).length ∧ (groupsL n).length ≤ 4 := by
  rw [groupsL_def, List.length_map, PySem.W.rangeKs_length]
  have h1 := PySem.W.fmod_lo n (n := 4) (by decide)
  have h2 := PySem.W.fmod_hi n (n := 4) (by decide)
  omega
theorem groups_rev {n k : Int} (h : k ∈ (groupsL n).reverse) : 1 ≤ k ∧ k ≤ 4 := groups_one (List.mem_reverse.mp h)
theorem hash_len {k : Int} (h0 : 1 ≤ k) (h : k ≤ 4) : (Txt.mul (Str.ofString "#") k).length ≤ 4 := by
  have : k = 1 ∨ k = 2 ∨ k = 3 ∨ k = 4 := by omega
  rcases this with rfl | rfl | rfl | rfl <;> decide
end Mine
namespace Mine
/-- a text of digits, not empty, of k signs at most -/
structure DigT (d : Str) (k : Nat) : Prop where
  pos : 1 ≤ d.length
  top : d.length ≤ k
  dig : ∀ c ∈ d.cps.toList, 48 ≤ c ∧ c ≤ 57
theorem digits_of_nat (n : Nat) : ∀ c ∈ (Nat.toDigits 10 n), 48 ≤ c.toNat ∧ c.toNat ≤ 57 := by
  intro c hc
  have := Nat.isDigit_of_mem_toDigits (by decide) (by decide) hc
  simp only [Char.isDigit, Bool.and_eq_true, decide_eq_true_eq] at this
  exact ⟨this.1, this.2⟩
theorem toString_list (n : Nat) : (toString (n : Int)).toList = Nat.toDigits 10 n := by
  show (Nat.repr n).toList = _
  unfold Nat.repr
  simp
theorem digT_of {v : Int} {k : Nat} (h0 : 0 ≤ v) (hk : 0 < k) (h : v < 10 ^ k) : DigT (Str.ofString (toString v)) k := by
  obtain ⟨n, rfl⟩ := Int.eq_ofNat_of_zero_le h0
  refine ⟨?_, PyProof.Rows.toString_length_le h0 hk h, ?_⟩
  · rw [PyProof.Rows.ofString_length, toString_list]
    exact List.length_pos_iff.mpr Nat.toDigits_ne_nil
  · intro c hc
    rw [Str.ofString_eq_toList, toString_list] at hc
    simp only [List.mem_map] at hc
    obtain ⟨x, hx, rfl⟩ := hc
    exact digits_of_nat n x hx
end Mine
namespace Mine
@[irreducible] def padT (value : Str) (mn : Int) : Str := if (value.length : Int) < mn then Txt.mul (Str.ofString "0") (mn - value.length) ++ value else value
theorem pad1 {value : Str} {mn : Int} (h : (value.length : Int) < mn) : padT value mn = Txt.mul (Str.ofString "0") (mn - value.length) ++ value := by unfold padT; rw [if_pos h]
theorem pad2 {value : Str} {mn : Int} (h : ¬ (value.length : Int) < mn) : padT value mn = value := by unfold padT; rw [if_neg h]
end Mine
namespace Mine
theorem zeros_len {k : Int} (h : 0 ≤ k) : ((Txt.mul (Str.ofString "0") k).length : Int) = k := by
  rw [PyProof.Rows.len_mul_k1 (by decide), if_neg (by omega)]; omega
theorem pad_len (value : Str) (mn : Int) : (padT value mn).length ≤ max value.length mn.toNat := by
  by_cases h : (value.length : Int) < mn
  · rw [pad1 h, Str.length_append]
    have := zeros_len (k := mn - value.length) (by omega)
    omega
  · rw [pad2 h]; omega
theorem fmt_start1 {value symbol : Str} {mn x y : Int} (h : (value.length : Int) < mn) (h1 : value.length ≤ 100) (h2 : mn ≤ 100) (h3 : 1 ≤ x) (h4 : symbol.length ≤ 1) :
    goPart (Str.ofString "") (Txt.mul (Str.ofString "0") (mn - value.length) ++ value) x y symbol = parted (padT value mn) x y symbol ∧ 1 ≤ x ∧ (Str.ofString "").length + 2 * (Txt.mul (Str.ofString "0") (mn - value.length) ++ value).length ≤ 2000 ∧ symbol.length ≤ 1 := by
  rw [← pad1 h]
  have := pad_len value mn
  have e : (Str.ofString "").length = 0 := rfl
  exact ⟨rfl, h3, by omega, h4⟩
theorem fmt_start2 {value symbol : Str} {mn x y : Int} (h : ¬ (value.length : Int) < mn) (h1 : value.length ≤ 100) (h3 : 1 ≤ x) (h4 : symbol.length ≤ 1) :
    goPart (Str.ofString "") value x y symbol = parted (padT value mn) x y symbol ∧ 1 ≤ x ∧ (Str.ofString "").length + 2 * value.length ≤ 2000 ∧ symbol.length ≤ 1 := by
  rw [pad2 h]
  have e : (Str.ofString "").length = 0 := rfl
  exact ⟨rfl, h3, by omega, h4⟩
theorem fmt_turn {t l sign R : Str} {s second : Int} (h : goPart t l s second sign = R) (h0 : 1 ≤ s) (h1 : s < l.length) (hb : t.length + 2 * l.length ≤ 2000) (hs : sign.length ≤ 1) (h2 : 1 ≤ second) :
    goPart (sign ++ Txt.slice l (some (-s)) none ++ t) (Txt.slice l none (some (-s))) second second sign = R ∧ 1 ≤ second ∧ (sign ++ Txt.slice l (some (-s)) none ++ t).length + 2 * (Txt.slice l none (some (-s))).length ≤ 2000 ∧ sign.length ≤ 1 := by
  rw [cut_from_neg h0 (by omega), cut_to_neg h0 (by omega)]
  exact ⟨part_turn h h0 h1, h2, part_len h0 h1 hb hs, hs⟩
theorem fmt_less {l : Str} {s : Int} (h0 : 1 ≤ s) (h1 : s < l.length) : (Txt.slice l none (some (-s))).length < l.length := by
  rw [cut_to_neg h0 (by omega)]
  exact part_less h0 h1
end Mine
namespace Mine
theorem zero_cps : (Str.ofString "0").cps.toList = [48] := by decide
theorem mul_zero_list (k : Int) : (Txt.mul (Str.ofString "0") k).cps.toList = List.replicate k.toNat 48 := by
  unfold Txt.mul
  have e : (Str.ofString "0") = ⟨#[48]⟩ := by decide
  rw [e]
  by_cases h : k < 1
  · rw [if_pos h]
    have : k.toNat = 0 := by omega
    rw [this]; rfl
  · rw [if_neg h]
    by_cases h1 : k = 1
    · subst h1; rfl
    · have h2 : (k == 1 || (⟨#[48]⟩ : Str).length == 0) = false := by
        simp only [Bool.or_eq_false_iff, beq_eq_false_iff_ne, ne_eq]
        exact ⟨h1, by decide⟩
      rw [if_neg (by rw [h2]; exact Bool.false_ne_true)]
      have key : ∀ (n : Nat) (acc : Array Nat), ((List.replicate n #[48]).foldl (· ++ ·) acc).toList = acc.toList ++ List.replicate n 48 := by
        intro n
        induction n with
        | zero => intro acc; simp
        | succ n ih =>
          intro acc
          rw [List.replicate_succ, List.foldl_cons, ih, Array.toList_append, List.append_assoc, List.replicate_succ]
          rfl
      have := key k.toNat #[]
      simpa using this
theorem dig_app {v : Str} {n : Nat} {k : Int} (h : DigT v n) (hk : k ≤ 100) : DigT (v ++ Txt.mul (Str.ofString "0") k) (n + 100) := by
  refine ⟨?_, ?_, ?_⟩
  · rw [Str.length_append]; have := h.pos; omega
  · rw [Str.length_append]
    have e : (Txt.mul (Str.ofString "0") k).length = k.toNat := by rw [← toList_len, mul_zero_list, List.length_replicate]
    have := h.top; omega
  · intro c hc
    rw [PySem.W.KT.app_list] at hc
    rcases List.mem_append.mp hc with hc | hc
    · exact h.dig c hc
    · rw [mul_zero_list] at hc
      have := List.eq_of_mem_replicate hc
      omega
end Mine
end PartL1

section PartL2
open PySem
namespace Mine
@[irreducible] def trimZ (v : Str) (low : Int) : Str := Txt.slice v none (some low) ++ Txt.rstripChars (Txt.slice v (some low) none) (Str.ofString "0")
theorem trimZ_def (v : Str) (low : Int) : trimZ v low = Txt.slice v none (some low) ++ Txt.rstripChars (Txt.slice v (some low) none) (Str.ofString "0") := by unfold trimZ; rfl

theorem frT_same {value : Str} {low : Int} (h : ¬ (value.length : Int) < low) : fractionT value low = value := by
  apply str_eq
  rw [PySem.W.KT.app_list, mul_zero_list]
  have : (low - (value.length : Int)).toNat = 0 := by omega
  rw [this]; simp
theorem frc_start1 {value : Str} {low : Int} (h : (value.length : Int) < low) (h0 : low ≤ 50) : trimZ (value ++ Txt.mul (Str.ofString "0") (low - value.length)) low = trimZ (fractionT value low) low ∧ low ≤ (value ++ Txt.mul (Str.ofString "0") (low - value.length)).length ∧ (value ++ Txt.mul (Str.ofString "0") (low - value.length)).length ≤ 200 := by
  have e := zeros_len (k := low - value.length) (by omega)
  refine ⟨rfl, ?_, ?_⟩ <;> (rw [Str.length_append]; omega)
theorem frc_start2 {value : Str} {low : Int} (h : ¬ (value.length : Int) < low) (h0 : value.length ≤ 20) : trimZ value low = trimZ (fractionT value low) low ∧ low ≤ value.length ∧ value.length ≤ 200 := by
  rw [frT_same h]
  exact ⟨rfl, by omega, by omega⟩
end Mine
namespace Mine
open PySem.Builtin PySem.Builtin.Str
def rz (l : List Nat) : List Nat := l.take (l.length - (l.reverse.takeWhile (· == 48)).length)
theorem goes_zero : (Str.ofString "0").cps.contains = fun c => c == 48 := by
  have e : (Str.ofString "0") = ⟨#[48]⟩ := by decide
  rw [e]
  funext c
  rw [Bool.eq_iff_iff]
  simp
theorem tw_mem {p : Nat → Bool} : ∀ {l : List Nat} {c : Nat}, c ∈ l.takeWhile p → p c = true
  | [], _, h => by simp at h
  | a :: l, c, h => by
    rw [List.takeWhile_cons] at h
    split at h
    · rename_i ha
      rcases List.mem_cons.mp h with rfl | h
      · exact ha
      · exact tw_mem h
    · simp at h
theorem tw_all {p : Nat → Bool} : ∀ {l : List Nat}, (∀ c ∈ l, p c = true) → l.takeWhile p = l
  | [], _ => rfl
  | a :: l, h => by
    rw [List.takeWhile_cons, if_pos (h a (List.mem_cons_self ..)), tw_all (fun c hc => h c (List.mem_cons_of_mem _ hc))]
theorem tw_drop {p : Nat → Bool} : ∀ (l : List Nat), l.drop (l.takeWhile p).length = l.dropWhile p
  | [] => rfl
  | a :: l => by
    rw [List.takeWhile_cons, List.dropWhile_cons]
    cases p a
    · simp
    · simpa using tw_drop l
theorem rstrip_list (x : Str) : (Txt.rstripChars x (Str.ofString "0")).cps.toList = rz x.cps.toList := by
  unfold Txt.rstripChars
  rw [goes_zero]
  unfold Txt.stripBy stripSame stripped
  have e1 : stripLo (fun c => c == 48) false x = 0 := rfl
  have e2 : stripHi (fun c => c == 48) true x 0 = x.length - (x.cps.toList.reverse.takeWhile (· == 48)).length := rfl
  rw [e1, e2]
  have hl := toList_len x
  unfold rz
  rw [hl]
  split
  · rename_i h
    have h2 : x.length - (x.cps.toList.reverse.takeWhile (· == 48)).length = x.length := by simpa using h
    rw [h2, ← hl, List.take_length]
  · rw [StrLaws.strSub_toList]; simp
theorem rz_snoc_zero (d : List Nat) : rz (d ++ [48]) = rz d := by
  unfold rz
  rw [List.reverse_append, List.reverse_singleton, List.singleton_append, List.takeWhile_cons, if_pos (show ((48 : Nat) == 48) = true from rfl), List.length_cons, List.length_append, List.length_singleton]
  have : d.length + 1 - ((d.reverse.takeWhile (· == 48)).length + 1) = d.length - (d.reverse.takeWhile (· == 48)).length := by omega
  rw [this, List.take_append_of_le_length (by omega)]
theorem rz_snoc {d : List Nat} {c : Nat} (h : c ≠ 48) : rz (d ++ [c]) = d ++ [c] := by
  unfold rz
  rw [List.reverse_append, List.reverse_singleton, List.singleton_append, List.takeWhile_cons, if_neg (by simpa using h)]
  exact List.take_of_length_le (by simp)
theorem trim_list {v : Str} {low : Int} (h0 : 0 ≤ low) (h1 : low ≤ v.length) : (trimZ v low).cps.toList = v.cps.toList.take low.toNat ++ rz (v.cps.toList.drop low.toNat) := by
  rw [trimZ_def, PySem.W.KT.app_list, cut_to h0 h1, rstrip_list, cut_from h0 h1]
theorem snoc_of {v : Str} (h : 1 ≤ v.length) : ∃ i c, v.cps.toList = i ++ [c] := by
  have hl := toList_len v
  have hne : v.cps.toList ≠ [] := by intro e; rw [e] at hl; simp at hl; omega
  exact ⟨v.cps.toList.dropLast, v.cps.toList.getLast hne, (List.dropLast_concat_getLast hne).symm⟩
theorem item_last {v : Str} {i : List Nat} {c : Nat} (e : v.cps.toList = i ++ [c]) : Txt.item v (-1) = ⟨#[c]⟩ := by
  have hl := toList_len v
  rw [e, List.length_append, List.length_singleton] at hl
  unfold Txt.item Txt.charAt
  have : v.cps[((-1 : Int) + v.length).toNat]? = some c := by
    have h2 : ((-1 : Int) + v.length).toNat = i.length := by omega
    rw [h2, ← Array.getElem?_toList, e]
    simp
  rw [StrLaws.at_neg (by decide) (by omega) this]
  rfl
theorem item_zero {v : Str} {i : List Nat} {c : Nat} (e : v.cps.toList = i ++ [c]) : (Txt.item v (-1) == Str.ofString "0") = (c == 48) := by
  rw [item_last e]
  have e0 : (Str.ofString "0") = ⟨#[48]⟩ := by decide
  rw [e0, Bool.eq_iff_iff]
  simp
theorem last_cut {v : Str} {i : List Nat} {c : Nat} (e : v.cps.toList = i ++ [c]) : (Txt.slice v none (some (-1))).cps.toList = i := by
  have hl := toList_len v
  rw [e, List.length_append, List.length_singleton] at hl
  rw [cut_to_neg (by decide) (by omega), cut_to (by omega) (by omega), e]
  have : ((v.length : Int) - 1).toNat = i.length := by omega
  rw [this]; simp
theorem frc_turn {v T : Str} {low : Int} (h : trimZ v low = trimZ T low) (h0 : 0 ≤ low) (h1 : low < v.length) (h2 : v.length ≤ 200) (hc : (Txt.item v (-1) == Str.ofString "0") = true) :
    trimZ (Txt.slice v none (some (-1))) low = trimZ T low ∧ low ≤ (Txt.slice v none (some (-1))).length ∧ (Txt.slice v none (some (-1))).length ≤ 200 := by
  obtain ⟨i, c, e⟩ := snoc_of (v := v) (by omega)
  rw [item_zero e] at hc
  have hc' : c = 48 := by simpa using hc
  subst hc'
  have hl := toList_len v
  rw [e, List.length_append, List.length_singleton] at hl
  have hs := last_cut e
  have hs2 := toList_len (Txt.slice v none (some (-1)))
  rw [hs] at hs2
  refine ⟨?_, by omega, by omega⟩
  rw [← h]
  apply str_eq
  rw [trim_list h0 (by omega), trim_list h0 (by omega), hs, e, List.take_append_of_le_length (by omega), List.drop_append_of_le_length (by omega), rz_snoc_zero]
theorem frc_less {v : Str} {low : Int} (h0 : 0 ≤ low) (h1 : low < v.length) : (Txt.slice v none (some (-1))).length < v.length := by
  obtain ⟨i, c, e⟩ := snoc_of (v := v) (by omega)
  have hl := toList_len v
  rw [e, List.length_append, List.length_singleton] at hl
  have hs := last_cut e
  have hs2 := toList_len (Txt.slice v none (some (-1)))
  rw [hs] at hs2
  omega
theorem trim_stop1 {v : Str} {low : Int} (h0 : 0 ≤ low) (h1 : low ≤ v.length) (h2 : ¬ low < v.length) : trimZ v low = v := by
  apply str_eq
  have hl := toList_len v
  have e : low.toNat = v.cps.toList.length := by omega
  rw [trim_list h0 h1, e, List.take_length, List.drop_length]
  simp [rz]
theorem trim_stop2 {v : Str} {low : Int} (h0 : 0 ≤ low) (h1 : low < v.length) (hc : (Txt.item v (-1) == Str.ofString "0") = false) : trimZ v low = v := by
  obtain ⟨i, c, e⟩ := snoc_of (v := v) (by omega)
  rw [item_zero e] at hc
  have hc' : c ≠ 48 := by simpa using hc
  have hl := toList_len v
  rw [e, List.length_append, List.length_singleton] at hl
  apply str_eq
  rw [trim_list h0 (by omega), e, List.take_append_of_le_length (by omega), List.drop_append_of_le_length (by omega), rz_snoc hc', ← List.append_assoc, List.take_append_drop]
theorem val_zero : ∀ (l : List Nat) (acc : Nat), (∀ c ∈ l, 48 ≤ c ∧ c ≤ 57) → (l.foldl (fun acc c => acc * 10 + (c - 48)) acc = 0 ↔ acc = 0 ∧ ∀ c ∈ l, c = 48)
  | [], acc, _ => by simp
  | c :: l, acc, h => by
    have hc := h c (List.mem_cons_self ..)
    rw [List.foldl_cons, val_zero l _ (fun d hd => h d (List.mem_cons_of_mem _ hd))]
    constructor
    · rintro ⟨h1, h2⟩
      refine ⟨by omega, fun d hd => ?_⟩
      rcases List.mem_cons.mp hd with rfl | hd
      · omega
      · exact h2 d hd
    · rintro ⟨h1, h2⟩
      have := h2 c (List.mem_cons_self ..)
      exact ⟨by omega, fun d hd => h2 d (List.mem_cons_of_mem _ hd)⟩
theorem strip_zero (x : Str) : (Txt.stripChars x (Str.ofString "0") == Str.ofString "") = true ↔ ∀ c ∈ x.cps.toList, c = 48 := by
  have e0 : (Str.ofString "") = ⟨#[]⟩ := rfl
  have hl := toList_len x
  have key : (Txt.stripChars x (Str.ofString "0")).cps.toList = (x.cps.toList.drop (x.cps.toList.takeWhile (· == 48)).length).take (x.length - ((x.cps.toList.drop (x.cps.toList.takeWhile (· == 48)).length).reverse.takeWhile (· == 48)).length - (x.cps.toList.takeWhile (· == 48)).length) := by
    unfold Txt.stripChars
    rw [goes_zero]
    unfold Txt.stripBy stripSame stripped
    have e1 : stripLo (fun c => c == 48) true x = (x.cps.toList.takeWhile (· == 48)).length := rfl
    have e2 : ∀ lo, stripHi (fun c => c == 48) true x lo = x.length - ((x.cps.toList.drop lo).reverse.takeWhile (· == 48)).length := fun _ => rfl
    rw [e1, e2]
    split
    · rename_i h
      simp only [Bool.and_eq_true, beq_iff_eq] at h
      obtain ⟨h1, h2⟩ := h
      rw [h2, h1, List.drop_zero, Nat.sub_zero, ← hl, List.take_length]
    · rw [StrLaws.strSub_toList]
  have hb : (Txt.stripChars x (Str.ofString "0") == Str.ofString "") = true ↔ (Txt.stripChars x (Str.ofString "0")).cps.toList = [] := by
    rw [e0, beq_iff_eq]
    constructor
    · intro h; rw [h]
    · intro h; exact str_eq h
  rw [hb, key]
  constructor
  · intro h
    by_cases hd : x.cps.toList.drop (x.cps.toList.takeWhile (· == 48)).length = []
    · have : x.cps.toList.takeWhile (· == 48) = x.cps.toList := by
        have h1 := List.drop_eq_nil_iff.mp hd
        exact (List.takeWhile_sublist (· == 48)).eq_of_length_le h1
      intro c hc
      rw [← this] at hc
      simpa using tw_mem hc
    · exfalso
      have hdw := tw_drop (p := (· == 48)) x.cps.toList
      rw [hdw] at h hd
      generalize hw : x.cps.toList.dropWhile (· == 48) = w at h hd
      match w, hd with
      | c0 :: r, _ =>
        have hc0 : (c0 == 48) = false := by
          have := List.head?_dropWhile_not (fun c => c == 48) x.cps.toList
          rw [hw] at this
          simpa using this
        have hlen : ((c0 :: r).reverse.takeWhile (· == 48)).length ≤ r.length := by
          rw [List.reverse_cons, List.takeWhile_append]
          split
          · rw [List.takeWhile_cons, hc0]
            simp
          · have := (List.takeWhile_sublist (· == 48) (l := r.reverse)).length_le
            simpa using this
        have htot : x.length = (x.cps.toList.takeWhile (· == 48)).length + (r.length + 1) := by
          rw [← hl]
          conv => lhs; rw [← List.takeWhile_append_dropWhile (p := (· == 48)) (l := x.cps.toList)]
          rw [List.length_append, hw, List.length_cons]
        have hpos : x.length - ((c0 :: r).reverse.takeWhile (· == 48)).length - (x.cps.toList.takeWhile (· == 48)).length ≠ 0 := by omega
        obtain ⟨k, hk⟩ := Nat.exists_eq_succ_of_ne_zero hpos
        rw [hk] at h
        simp at h
  · intro h
    have : x.cps.toList.takeWhile (· == 48) = x.cps.toList := by
      refine tw_all fun c hc => ?_
      simpa using h c hc
    rw [this]
    simp
end Mine
namespace Mine
theorem fr_main {value symbol : Str} {low most : Int} (h : most ≠ 0) (h2 : low ≠ 0 ∨ ¬ ∀ c ∈ (fractionT value low).cps.toList, c = 48) : symbol ++ trimZ (fractionT value low) low = fraction value low most symbol := by
  rw [trimZ_def, ← Str.append_assoc]
  by_cases hl : low = 0
  · have hz : ¬ ∀ c ∈ (fractionT value low).cps.toList, c = 48 := h2.resolve_left (fun x => x hl)
    refine frac3 h ?_
    cases hb : (Txt.stripChars (fractionT value low) (Str.ofString "0") == Str.ofString "")
    · rfl
    · exact absurd ((strip_zero _).mp hb) hz
  · exact frac4 h hl
theorem frT_zero {value : Str} {low : Int} (h : low = 0) : fractionT value low = value := frT_same (by omega)
theorem frc_none {value symbol : Str} {low most : Int} {n : Nat} (hd : DigT value n) (hl : low = 0) (hv : ((PySem.NumText.digitsVal value.cps.toList : Nat) : Int) = 0) : Str.ofString "" = fraction value low most symbol := by
  refine frac2 hl ?_
  rw [frT_zero hl]
  exact (strip_zero _).mpr ((val_zero _ 0 hd.dig).mp (by unfold PySem.NumText.digitsVal at hv; omega)).2
theorem frc_end {value symbol v : Str} {low most : Int} (h : trimZ v low = trimZ (fractionT value low) low) (hs : trimZ v low = v) (hm : most ≠ 0) (h2 : low ≠ 0 ∨ ¬ ∀ c ∈ (fractionT value low).cps.toList, c = 48) : symbol ++ v = fraction value low most symbol := by
  rw [← fr_main hm h2, ← h, hs]
theorem frc_some {value : Str} {low : Int} {n : Nat} (hd : DigT value n) (hl : low = 0) (hv : ((PySem.NumText.digitsVal value.cps.toList : Nat) : Int) ≠ 0) : low ≠ 0 ∨ ¬ ∀ c ∈ (fractionT value low).cps.toList, c = 48 := by
  right
  rw [frT_zero hl]
  intro ha
  have := (val_zero _ 0 hd.dig).mpr ⟨rfl, ha⟩
  exact hv (by unfold PySem.NumText.digitsVal; omega)
end Mine
end PartL2

section PartL4
open PySem
namespace Mine
theorem g_list {n : Int} {b : Nat} (h0 : 0 ≤ n) (hb : n % 4 = b) : groupsL n = (PySem.W.rangeKs 0 (1 + b)).map fun k => 1 + (n.fdiv (4 * (k + 1))).fmod 4 := by
  rw [groupsL_def, Int.fmod_eq_emod_of_nonneg n (by decide : (0:Int) ≤ 4), hb]
  have : (1 + (b : Int) - 0).toNat = 1 + b := by omega
  rw [this]
theorem fdm {n d : Int} (hd : 0 ≤ d) : (n.fdiv d).fmod 4 = n / d % 4 := by
  rw [Int.fmod_eq_emod_of_nonneg _ (by decide : (0:Int) ≤ 4), Int.fdiv_eq_ediv_of_nonneg _ hd]
theorem rep0 {n : Int} (h : 0 ≤ n) (hb : n % 4 = 0) : groupsL n = groupsL (4 * (n / 4 % 4) + 0) := by
  rw [g_list (b := 0) h hb, g_list (b := 0) (by omega) (by omega)]
  have e : PySem.W.rangeKs 0 (1 + 0) = [0] := by decide
  rw [e]
  simp only [List.map_cons, List.map_nil]
  rw [fdm (by decide), fdm (by decide)]
  congr 2
  omega
theorem rep1 {n : Int} (h : 0 ≤ n) (hb : n % 4 = 1) : groupsL n = groupsL (4 * (n / 4 % 8) + 1) := by
  rw [g_list (b := 1) h hb, g_list (b := 1) (by omega) (by omega)]
  have e : PySem.W.rangeKs 0 (1 + 1) = [0, 1] := by decide
  rw [e]
  simp only [List.map_cons, List.map_nil]
  rw [fdm (by decide), fdm (by decide), fdm (by decide), fdm (by decide)]
  have h1 : n / (4 * (0 + 1)) % 4 = (4 * (n / 4 % 8) + 1) / (4 * (0 + 1)) % 4 := by omega
  have h2 : n / (4 * (1 + 1)) % 4 = (4 * (n / 4 % 8) + 1) / (4 * (1 + 1)) % 4 := by omega
  rw [← h1, ← h2]
theorem rep2 {n : Int} (h : 0 ≤ n) (hb : n % 4 = 2) : groupsL n = groupsL (4 * (n / 4 % 24) + 2) := by
  rw [g_list (b := 2) h hb, g_list (b := 2) (by omega) (by omega)]
  have e : PySem.W.rangeKs 0 (1 + 2) = [0, 1, 2] := by decide
  rw [e]
  simp only [List.map_cons, List.map_nil]
  rw [fdm (by decide), fdm (by decide), fdm (by decide), fdm (by decide), fdm (by decide), fdm (by decide)]
  have h1 : n / (4 * (0 + 1)) % 4 = (4 * (n / 4 % 24) + 2) / (4 * (0 + 1)) % 4 := by omega
  have h2 : n / (4 * (1 + 1)) % 4 = (4 * (n / 4 % 24) + 2) / (4 * (1 + 1)) % 4 := by omega
  have h3 : n / (4 * (2 + 1)) % 4 = (4 * (n / 4 % 24) + 2) / (4 * (2 + 1)) % 4 := by omega
  rw [← h1, ← h2, ← h3]
theorem rep3 {n : Int} (h : 0 ≤ n) (hb : n % 4 = 3) : groupsL n = groupsL (4 * (n / 4 % 48) + 3) := by
  rw [g_list (b := 3) h hb, g_list (b := 3) (by omega) (by omega)]
  have e : PySem.W.rangeKs 0 (1 + 3) = [0, 1, 2, 3] := by decide
  rw [e]
  simp only [List.map_cons, List.map_nil]
  rw [fdm (by decide), fdm (by decide), fdm (by decide), fdm (by decide), fdm (by decide), fdm (by decide), fdm (by decide), fdm (by decide)]
  have h1 : n / (4 * (0 + 1)) % 4 = (4 * (n / 4 % 48) + 3) / (4 * (0 + 1)) % 4 := by omega
  have h2 : n / (4 * (1 + 1)) % 4 = (4 * (n / 4 % 48) + 3) / (4 * (1 + 1)) % 4 := by omega
  have h3 : n / (4 * (2 + 1)) % 4 = (4 * (n / 4 % 48) + 3) / (4 * (2 + 1)) % 4 := by omega
  have h4 : n / (4 * (3 + 1)) % 4 = (4 * (n / 4 % 48) + 3) / (4 * (3 + 1)) % 4 := by omega
  rw [← h1, ← h2, ← h3, ← h4]
end Mine
end PartL4

section PartR1
open PySem
set_option maxRecDepth 100000
namespace Mine
theorem plain_pat : PlainAttrs "re.Pattern" :=
  ⟨⟨"object.__getattribute__", by rw [typeLookup_type, builtinLookup_eq_fast]; kernel_rfl, by decide +kernel⟩, by rw [typeLookup_type, builtinLookup_eq_fast]; kernel_rfl⟩
theorem plain_mat : PlainAttrs "re.Match" :=
  ⟨⟨"object.__getattribute__", by rw [typeLookup_type, builtinLookup_eq_fast]; kernel_rfl, by decide +kernel⟩, by rw [typeLookup_type, builtinLookup_eq_fast]; kernel_rfl⟩
theorem slot_search : Slot "re.Pattern" "search" "re.Pattern.search" :=
  .of (owner := "re.Pattern") (n := "search") (by rw [typeLookup_type, builtinLookup_eq_fast]; kernel_rfl) (by decide +kernel) (by decide +kernel) (by decide +kernel)
    (by first | exact .inl (by decide +kernel) | exact .inr (by decide +kernel)) (by rw [isSubtype_type]; kernel_rfl)
theorem type_search : typeOf (.builtin "re.Pattern.search") = pure (.type "method_descriptor") := by show builtinType _ = _; rw [builtinType_eq_fast]; kernel_rfl
theorem entry_search : entryFor table "re.Pattern.search" = some Builtin.«re.Pattern.search» := entryFor_of_tree (by kernel_rfl)
theorem slot_groups : Slot "re.Match" "groups" "re.Match.groups" :=
  .of (owner := "re.Match") (n := "groups") (by rw [typeLookup_type, builtinLookup_eq_fast]; kernel_rfl) (by decide +kernel) (by decide +kernel) (by decide +kernel)
    (by first | exact .inl (by decide +kernel) | exact .inr (by decide +kernel)) (by rw [isSubtype_type]; kernel_rfl)
theorem type_groups : typeOf (.builtin "re.Match.groups") = pure (.type "method_descriptor") := by show builtinType _ = _; rw [builtinType_eq_fast]; kernel_rfl
theorem entry_groups : entryFor table "re.Match.groups" = some Builtin.«re.Match.groups» := entryFor_of_tree (by kernel_rfl)
theorem args_search (a b : Value) : argsOk "re.Pattern.search" ⟨[a, b], []⟩ := by
  unfold argsOk; kernel_rfl
theorem args_groups (a : Value) : argsOk "re.Match.groups" ⟨[a], []⟩ := by
  unfold argsOk; kernel_rfl
end Mine
end PartR1

section PartR2
open PySem PySem.Builtin.Re PyProof.Rows
set_option maxRecDepth 100000
namespace Mine
theorem named_search (p : Str) (t : Tok) : reNamed "re.Pattern.search" "search" ["string", "pos", "endpos"] 1 [.str p t] [] = pure [some (.str p t), none, none] := by
  rfl
theorem named_groups : reNamed "re.Match.groups" "groups" ["default"] 0 [] [] = pure [none] := by
  rfl

theorem call_slot_entry {prog : Program} {w : World} {A : Around} {E : Value → Shared → Prop} {s : Shared} {T : String} {name : Str} {id : String} {b : Builtin} {self : Value} {rest : List Value} {Q : Value → Shared → Prop}
    (slot : Slot T name id) (hT : s.TypeIs self T) (hb : entryFor table id = some b) (ha : argsOk id ⟨self :: rest, []⟩)
    (hc : wpAny (model prog w) A.in1 (b ⟨self :: rest, []⟩) (fun fin s' => ∃ v, fin = .done (.ret v) ∧ Q v s') E s) : wpAny (model prog w) A (call (.builtin id) (self :: rest)) Q E s := by
  refine wpAny_call (codeAny_call_builtin slot.plain hb (slot.check _ _ _ _ _ _ _ _ hT ha ?_))
  exact wpAny_mono hc (fun fin s' h' => by obtain ⟨v, rfl, hv⟩ := h'; exact hv) fun _ _ h' => h'

section
variable {M : Model} {A : Around} {E : Value → Shared → Prop} {s : Shared}

theorem fields_wp {a : Addr} {o : Obj} {fs : Array Value} {Q : Array Value → Shared → Prop} (ho : s.heap.get? a = some o) (hd : o.data = .fields fs) (h : Q fs s) :
    wpAny M A (fieldsOf (.ref a)) Q E s := by
  unfold fieldsOf
  refine wpAny_bind (wpAny_load ho ?_)
  rw [hd]
  exact wpAny_pure h
theorem items_wp {a : Addr} {o : Obj} {xs : Array Value} {n : Nat} {Q : Array Int → Shared → Prop} (ho : s.heap.get? a = some o) (hd : o.data = .seq xs n) (h : Q (xs.map reRawOf) s) :
    wpAny M A (reRawItems (.ref a)) Q E s := by
  unfold reRawItems seqItems?
  refine wpAny_bind (wpAny_bind (wpAny_load ho ?_))
  rw [hd]
  exact wpAny_pure (wpAny_pure h)
theorem text_wp {p : Str} {t : Tok} {Q : Array Nat × Nat → Shared → Prop} (h : Q (p.cps, 0) s) : wpAny M A (reTextOf (.str p t)) Q E s := by
  unfold reTextOf asStr?
  exact wpAny_bind (wpAny_pure (wpAny_pure h))
theorem target_wp {P C : Addr} {o oc : Obj} {fs xs : Array Value} {n g : Nat} {p : Str} {t : Tok} {Q : ReTarget → Shared → Prop} (ho : s.heap.get? P = some o) (hd : o.data = .fields fs) (h5 : fs.getD 5 .none = .ref C) (h6 : reRawNat (fs.getD 6 .none) = 0) (h2 : reRawNat (fs.getD 2 .none) = g)
    (hc : s.heap.get? C = some oc) (hx : oc.data = .seq xs n) (hl : p.length ≤ 1000)
    (h : Q { pattern := .ref P, string := .str p t, code := (xs.map reRawOf).map (·.toNat), text := p.cps, kind := 0, groups := g, pos := 0, lim := p.cps.size } s) :
    wpAny M A (reTarget "re.Pattern.search" "search" ⟨[.ref P, .str p t], []⟩) Q E s := by
  unfold reTarget
  dsimp only
  rw [named_search]
  refine wpAny_bind (wpAny_pure ?_)
  dsimp only
  refine wpAny_bind (wpAny_pure ?_)
  refine wpAny_bind (wpAny_pure ?_)
  refine wpAny_bind (fields_wp ho hd ?_)
  refine wpAny_bind (text_wp ?_)
  dsimp only
  rw [h6]
  simp only [show ((0 : Nat) == 1) = false from rfl, show ((0 : Nat) == 0) = true from rfl, Bool.and_false, Bool.false_and, Bool.false_eq_true, if_false]
  refine wpAny_bind (wpAny_pure ?_)
  rw [h5]
  refine wpAny_bind (items_wp hc hx ?_)
  refine wpAny_pure ?_
  have e1 : min (0 : Int).toNat p.cps.size = 0 := by simp
  have e2 : min (2 ^ 63 - 1 : Int).toNat p.cps.size = p.cps.size := by
    have : p.cps.size ≤ 1000 := hl
    omega
  rw [e1, e2, h2]
  exact h

def reIt : Nat → Sre.M → Sre.M
  | 0, m => m
  | n + 1, m => reIt n (m.runFor reTurnSteps)
theorem runFor_done {m : Sre.M} (h : m.outcome.isSome = true) : ∀ n, m.runFor n = m
  | 0 => rfl
  | n + 1 => by unfold Sre.M.runFor; rw [if_pos h]
theorem reIt_done {m : Sre.M} (h : m.outcome.isSome = true) : ∀ n, reIt n m = m
  | 0 => rfl
  | n + 1 => by unfold reIt; rw [runFor_done h, reIt_done h n]
theorem drive_wp {Q : Sre.M → Shared → Prop} : ∀ (k turns : Nat) (m : Sre.M), k ≤ turns → (reIt (k + 1) m).outcome.isSome = true → Q (reIt (k + 1) m) s → wpAny M A (reDrive (turns + 1) m) Q E s
  | 0, turns, m, _, ho, h => by
    unfold reDrive
    have e : reIt (0 + 1) m = m.runFor reTurnSteps := rfl
    rw [e] at ho h
    dsimp only
    rw [if_pos ho]
    exact wpAny_pure h
  | k + 1, turns, m, hk, ho, h => by
    unfold reDrive
    dsimp only
    split
    · rename_i hd
      have e : reIt (k + 1 + 1) m = m.runFor reTurnSteps := reIt_done hd (k + 1)
      rw [e] at h
      exact wpAny_pure h
    · obtain ⟨turns, rfl⟩ : ∃ t', turns = t' + 1 := ⟨turns - 1, by omega⟩
      exact wpAny_bind (wpAny_rule (drive_wp k turns _ (by omega) ho h))
theorem rules_wp {Q : PUnit → Shared → Prop} (c : Nat → Bool) (tag : Nat → String) (h : Q ⟨⟩ s) : ∀ l : List Nat, wpAny M A (forIn l PUnit.unit (fun i _ => if c i = true then (do rule (tag i); pure (ForInStep.yield PUnit.unit)) else pure (ForInStep.yield PUnit.unit))) Q E s
  | [] => wpAny_pure h
  | i :: r => by
    rw [List.forIn_cons]
    refine wpAny_bind ?_
    split
    · exact wpAny_bind (wpAny_rule (wpAny_pure (rules_wp c tag h r)))
    · exact wpAny_pure (rules_wp c tag h r)
def isMatched : Option Sre.Outcome → Bool
  | some .matched => true
  | _ => false
theorem end_wp {Q : Option Sre.M → Shared → Prop} {n : Nat} {m m' : Sre.M} (hm : reIt n m = m') (hk : n < 1000) (hk0 : 1 ≤ n) (ho : isMatched m'.outcome = true) (h : Q (some m') s) : wpAny M A (reRunToEnd m) Q E s := by
  unfold reRunToEnd
  obtain ⟨k, rfl⟩ : ∃ k, n = k + 1 := ⟨n - 1, by omega⟩
  have e : ∃ t, 2 ^ 64 = t + 1 ∧ 1000 ≤ t := ⟨2 ^ 64 - 1, by decide, by decide⟩
  obtain ⟨t, e, ht⟩ := e
  rw [e]
  refine wpAny_bind (drive_wp k t m (by omega) ?_ ?_)
  · rw [hm]
    generalize m'.outcome = o at ho
    match o, ho with
    | some _, _ => rfl
  · rw [hm]
    refine wpAny_bind ?_
    refine rules_wp _ _ ?_ _
    generalize hoo : m'.outcome = o at ho
    match o, ho with
    | some .matched, _ => exact wpAny_pure h
end
end Mine
end PartR2

section PartR3
open PySem PySem.Builtin.Re PyProof.Rows
set_option maxRecDepth 100000
namespace Mine
def reCode : Array Nat := #[14, 4, 0, 0, 4294967295, 17, 0, 23, 35, 0, 4294967295, 7, 16, 13, 12, 21, 9, 0, 67063944, 1, 0, 0, 0, 0, 0, 0, 15, 16, 14, 16, 39, 24, 6, 0, 4294967295, 20, 39, 1, 16, 39, 15, 2, 0, 18, 17, 1, 17, 2, 24, 16, 0, 4294967295, 13, 11, 9, 0, 67065864, 33, 0, 0, 0, 0, 0, 0, 1, 17, 3, 17, 4, 24, 5, 0, 4294967295, 2, 1, 17, 5, 1]
@[irreducible] def reM (t : Array Nat) : Sre.M := reIt 6 (Sre.forSearch reCode t 3 0 t.size false)
def okRe (t : Array Nat) : Bool :=
  isMatched (reM t).outcome && ((reM t).start == 0 && ((reM t).handed == t.size && ((reM t).lastmark == 5 && (reM t).marks == #[some 0, some 0, some 0, some t.size, some t.size, some t.size])))

abbrev spansOf (n : Nat) : Obj := { cls := .type "tuple", data := .seq #[rawInt 0, rawInt n, rawInt 0, rawInt 0, rawInt 0, rawInt n, rawInt n, rawInt n] }
abbrev matchOf (p : Str) (t : Tok) (P : Addr) (li : Int) (D : Addr) : Obj := { cls := .type "re.Match", data := .fields #[.str p t, .ref P, rawInt 0, rawInt p.cps.size, rawInt li, .ref D] }

theorem newMatch_wp {M : Model} {A : Around} {E : Value → Shared → Prop} {s : Shared} {P : Addr} {p : Str} {t : Tok} {m : Sre.M} {Q : Value → Shared → Prop} (h1 : m.start = 0) (h2 : m.handed = p.cps.size) (h3 : m.lastmark = 5) (h4 : m.marks = #[some 0, some 0, some 0, some p.cps.size, some p.cps.size, some p.cps.size])
    (h : Q (.ref (s.heap.objs.size + 1)) { s with heap := (s.heap.push (spansOf p.cps.size)).push (matchOf p t P m.lastindex s.heap.objs.size) }) :
    wpAny M A (reNewMatch (.ref P) (.str p t) 3 0 p.cps.size m) Q E s := by
  unfold reNewMatch
  rw [h1, h2, h3, h4]
  have e2 : ((List.range 3).any fun g => match (#[some 0, some 0, some 0, some p.cps.size, some p.cps.size, some p.cps.size] : Array (Option Nat)).getD (2 * g) none, (#[some 0, some 0, some 0, some p.cps.size, some p.cps.size, some p.cps.size] : Array (Option Nat)).getD (2 * g + 1) none with | some b, some e => ((2 * g + 1 : Nat) : Int) ≤ 5 && e < b | _, _ => false) = false := by
    simp [List.range, List.range.loop]
  dsimp only
  split
  · rename_i hc
    exact absurd (e2.symm.trans hc) Bool.false_ne_true
  refine wpAny_bind (?_ : wpAny M A (newTuple [rawInt 0, rawInt p.cps.size, rawInt 0, rawInt 0, rawInt 0, rawInt p.cps.size, rawInt p.cps.size, rawInt p.cps.size]) _ E s)
  refine wpAny_newTuple ?_ (by show 8 ≤ sizeLine; decide)
  refine wpAny_newObj_type ?_ (by show 6 ≤ sizeLine + 2; decide)
  have e3 : (s.heap.push (spansOf p.cps.size)).objs.size = s.heap.objs.size + 1 := by simp [Heap.push]
  show Q (.ref (s.heap.push (spansOf p.cps.size)).objs.size) _
  rw [e3]
  exact h

theorem answer_wp {M : Model} {A : Around} {E : Value → Shared → Prop} {s : Shared} {P : Addr} {p : Str} {t : Tok} {code : Array Nat} {m0 m : Sre.M} {Q : Fin → Shared → Prop} (hm : reIt 6 m0 = m) (ho : isMatched m.outcome = true) (h1 : m.start = 0) (h2 : m.handed = p.cps.size) (h3 : m.lastmark = 5) (h4 : m.marks = #[some 0, some 0, some 0, some p.cps.size, some p.cps.size, some p.cps.size])
    (h : Q (.done (.ret (.ref (s.heap.objs.size + 1)))) { s with heap := (s.heap.push (spansOf p.cps.size)).push (matchOf p t P m.lastindex s.heap.objs.size) }) :
    wpAny M A (reAnswer { pattern := .ref P, string := .str p t, code, text := p.cps, kind := 0, groups := 3, pos := 0, lim := p.cps.size } m0) Q E s := by
  unfold reAnswer
  refine wpAny_bind (end_wp hm (by decide) (by decide) ho ?_)
  dsimp only
  exact wpAny_bind (newMatch_wp h1 h2 h3 h4 (wpAny_pure h))
theorem reM_is (p : Str) : reIt 6 (Sre.forSearch reCode p.cps 3 0 p.cps.size false) = reM p.cps := by unfold reM; rfl

section
variable {prog : Program} {w : World} {A : Around} {E : Value → Shared → Prop} {s : Shared} {h₀ : Heap} {L : Addr} {m : Str → Option Value} {news : List (Addr × Obj)} {Q : Value → Shared → Prop} {p : Str} {t : Tok}
theorem search_N {P C : Addr} {o oc : Obj} {fs xs : Array Value} {n : Nat} (F : Fr h₀ L s.heap m) (N : News h₀ L s.heap news) (ho : s.heap.get? P = some o) (ht : o.cls = .type "re.Pattern") (hd : o.data = .fields fs) (h5 : fs.getD 5 .none = .ref C) (h6 : reRawNat (fs.getD 6 .none) = 0) (h2 : reRawNat (fs.getD 2 .none) = 3)
    (hc : s.heap.get? C = some oc) (hx : oc.data = .seq xs n) (hcode : (xs.map reRawOf).map (·.toNat) = reCode) (hl : p.length ≤ 1000) (hre : okRe p.cps = true)
    (h : ∀ D1 D2 li h', Fr h₀ L h' m → News h₀ L h' ((D2, matchOf p t P li D1) :: (D1, spansOf p.cps.size) :: news) → (∀ p ∈ news, p.1 < D1) → D1 < D2 → Q (.ref D2) { s with heap := h' }) :
    wpAny (model prog w) A (call (.builtin "re.Pattern.search") [.ref P, .str p t]) Q E s := by
  refine call_slot_entry slot_search ⟨o, ho, ht⟩ entry_search (args_search _ _) ?_
  unfold Builtin.«re.Pattern.search»
  refine wpAny_bind (target_wp ho hd h5 h6 h2 hc hx hl ?_)
  rw [hcode]
  obtain ⟨g1, g2⟩ := Bool.and_eq_true_iff.mp hre
  obtain ⟨g2, g3⟩ := Bool.and_eq_true_iff.mp g2
  obtain ⟨g3, g4⟩ := Bool.and_eq_true_iff.mp g3
  obtain ⟨g4, g5⟩ := Bool.and_eq_true_iff.mp g4
  dsimp only
  refine answer_wp (m := reM p.cps) ?a ?b ?c ?d ?e ?f ?g
  case a => with_reducible exact reM_is p
  case b => with_reducible exact g1
  case c => with_reducible exact eq_of_beq g2
  case d => with_reducible exact eq_of_beq g3
  case e => with_reducible exact eq_of_beq g4
  case f => with_reducible exact eq_of_beq g5
  refine ⟨_, rfl, ?_⟩
  have F1 : Fr h₀ L (s.heap.push (spansOf p.cps.size)) m := F.push _
  have N1 := N.push F (spansOf p.cps.size)
  have e3 : (s.heap.push (spansOf p.cps.size)).objs.size = s.heap.objs.size + 1 := by simp [Heap.push]
  have N2 := N1.push F1 (matchOf p t P (reM p.cps).lastindex s.heap.objs.size)
  rw [e3] at N2
  exact h s.heap.objs.size (s.heap.objs.size + 1) _ _ (F1.push _) N2 (fun p hp => Heap.lt_size (N p hp).1) (Nat.lt_succ_self _)
end
end Mine
end PartR3

section PartR4
open PySem PySem.Builtin.Re PyProof.Rows
set_option maxRecDepth 100000
namespace Mine
theorem getMethod_pat {M : Model} {A : Around} {E : Value → Shared → Prop} {s : Shared} {P : Addr} {o : Obj} {pl : Sem Bool} {Q : Value × List Value → Shared → Prop} (ho : s.heap.get? P = some o) (hc : o.cls = .type "re.Pattern") (hd : o.dict = none)
    (h : Q (.builtin "re.Pattern.search", [.ref P]) s) : wpAny M A (getMethod (.ref P) "search" pl) Q E s :=
  getMethod_builtin ⟨o, ho, hc⟩ plain_pat slot_search type_search (fun a e => by cases e; exact ⟨o, ho, hd⟩) h
theorem getMethod_mat {M : Model} {A : Around} {E : Value → Shared → Prop} {s : Shared} {P : Addr} {o : Obj} {pl : Sem Bool} {Q : Value × List Value → Shared → Prop} (ho : s.heap.get? P = some o) (hc : o.cls = .type "re.Match") (hd : o.dict = none)
    (h : Q (.builtin "re.Match.groups", [.ref P]) s) : wpAny M A (getMethod (.ref P) "groups" pl) Q E s :=
  getMethod_builtin ⟨o, ho, hc⟩ plain_mat slot_groups type_groups (fun a e => by cases e; exact ⟨o, ho, hd⟩) h

theorem group_wp {M : Model} {A : Around} {E : Value → Shared → Prop} {s : Shared} {x : ReFound} {p : Str} {t : Tok} {g a b : Nat} {d : Value} {Q : Value → Shared → Prop} (h1 : x.spans.getD (2 * g) (-1) = a) (h2 : x.spans.getD (2 * g + 1) (-1) = b) (h3 : x.fields.getD 0 .none = .str p t) (hl : p.length ≤ 1000)
    (h : Q (.str ⟨p.cps.extract a b⟩ s.toks) { s with toks := s.toks + 1 }) : wpAny M A (reGroupText x g d) Q E s := by
  unfold reGroupText
  dsimp only
  rw [h1, h2, h3]
  have e : (decide ((a : Int) < 0) || decide ((b : Int) < 0)) = false := by
    rw [decide_eq_false (by omega), decide_eq_false (by omega)]; rfl
  rw [e]
  simp only [Bool.false_eq_true, if_false]
  refine wpAny_bind (text_wp ?_)
  dsimp only
  unfold reSlice
  rw [if_pos (show ((0 : Nat) == 0) = true from rfl)]
  refine wpAny_mkStr ?_ ?_
  · exact h
  · show (p.cps.extract (a : Int).toNat (b : Int).toNat).size ≤ sizeLine
    have : p.cps.size ≤ 1000 := hl
    rw [Array.size_extract, sizeLine_eq]
    omega

section
variable {prog : Program} {w : World} {A : Around} {E : Value → Shared → Prop} {s : Shared} {h₀ : Heap} {L : Addr} {m : Str → Option Value} {news : List (Addr × Obj)} {Q : Value → Shared → Prop} {p : Str} {t : Tok}
theorem groups_N {P D1 D2 : Addr} {li : Int} (F : Fr h₀ L s.heap m) (N : News h₀ L s.heap news) (hm : (D2, matchOf p t P li D1) ∈ news) (ht : (D1, spansOf p.cps.size) ∈ news) (hl : p.length ≤ 1000)
    (h : ∀ D ta tb tc h' tk', Fr h₀ L h' m → News h₀ L h' ((D, ({ cls := .type "tuple", data := .seq #[.str (Str.ofString "") ta, .str p tb, .str (Str.ofString "") tc] } : Obj)) :: news) → (∀ p ∈ news, p.1 < D) → Q (.ref D) { s with heap := h', toks := tk' }) :
    wpAny (model prog w) A (call (.builtin "re.Match.groups") [.ref D2]) Q E s := by
  refine call_slot_entry slot_groups ⟨_, (N _ hm).1, rfl⟩ entry_groups (args_groups _) ?_
  unfold Builtin.«re.Match.groups» reWithDefault
  dsimp only
  rw [named_groups]
  refine wpAny_bind (wpAny_bind (wpAny_pure ?_))
  dsimp only
  unfold reFound
  refine wpAny_bind (wpAny_bind (fields_wp (N _ hm).1 rfl ?_))
  refine wpAny_bind (items_wp (a := D1) (N _ ht).1 rfl ?_)
  refine wpAny_pure (wpAny_pure ?_)
  dsimp only
  have es : Array.map reRawOf #[rawInt 0, rawInt p.cps.size, rawInt 0, rawInt 0, rawInt 0, rawInt p.cps.size, rawInt p.cps.size, rawInt p.cps.size] = #[(0 : Int), p.cps.size, 0, 0, 0, p.cps.size, p.cps.size, p.cps.size] := by simp [reRawOf, rawInt]
  rw [es]
  have e : (List.range ((#[(0 : Int), p.cps.size, 0, 0, 0, p.cps.size, p.cps.size, p.cps.size]).size / 2 - 1)) = [0, 1, 2] := by
    show List.range (8 / 2 - 1) = [0, 1, 2]
    decide
  rw [e]
  rw [List.mapM_cons, List.mapM_cons, List.mapM_cons, List.mapM_nil]
  refine wpAny_bind (wpAny_bind (group_wp (p := p) (t := t) (a := 0) (b := 0) rfl rfl rfl hl ?_))
  refine wpAny_bind (wpAny_bind (group_wp (p := p) (t := t) (a := 0) (b := p.cps.size) rfl rfl rfl hl ?_))
  refine wpAny_bind (wpAny_bind (group_wp (p := p) (t := t) (a := p.cps.size) (b := p.cps.size) rfl rfl rfl hl ?_))
  refine wpAny_bind (wpAny_pure ?_)
  refine wpAny_pure (wpAny_pure (wpAny_pure ?_))
  have e1 : (⟨p.cps.extract 0 0⟩ : Str) = Str.ofString "" := by
    have : (Str.ofString "") = ⟨#[]⟩ := rfl
    rw [this]; simp
  have e2 : (⟨p.cps.extract 0 p.cps.size⟩ : Str) = p := by cases p; simp
  have e3 : (⟨p.cps.extract p.cps.size p.cps.size⟩ : Str) = Str.ofString "" := by
    have : (Str.ofString "") = ⟨#[]⟩ := rfl
    rw [this]; simp
  rw [e1, e2, e3]
  refine wpAny_bind (wpAny_newTuple ?_ (by show 3 ≤ sizeLine; decide))
  refine wpAny_pure ⟨_, rfl, ?_⟩
  exact h s.heap.objs.size _ _ _ _ _ (F.push _) (N.push F _) (fun p hp => Heap.lt_size (N p hp).1)
end
end Mine
end PartR4

section PartR5
open PySem PySem.W PySem.Builtin.Re PyProof.Rows
set_option maxRecDepth 100000
namespace Mine
section
variable {prog : Program} {w : World} {A : Around} {E : Value → Shared → Prop} {s : Shared} {h₀ : Heap} {L : Addr} {m : Str → Option Value} {news : List (Addr × Obj)} {K : Frag} {P C : Addr}
theorem getMethod_patK {d : Data} {sl : Array (Option Value)} {pl : Sem Bool} {Q : Value × List Value → Shared → Prop} (F : Fr h₀ L s.heap m) (X : K.In h₀) (e : K.lookup P = some ⟨.type "re.Pattern", none, d, sl⟩)
    (h : Q (.builtin "re.Pattern.search", [.ref P]) s) : wpAny (model prog w) A (getMethod (.ref P) "search" pl) Q E s :=
  getMethod_pat ((X.keeps F.keep) _ _ e) rfl rfl h
theorem getMethod_matN {p : Str} {t : Tok} {li : Int} {D1 D2 : Addr} {pl : Sem Bool} {Q : Value × List Value → Shared → Prop} (N : News h₀ L s.heap news) (hm : (D2, matchOf p t P li D1) ∈ news)
    (h : Q (.builtin "re.Match.groups", [.ref D2]) s) : wpAny (model prog w) A (getMethod (.ref D2) "groups" pl) Q E s :=
  getMethod_mat (N _ hm).1 rfl rfl h
theorem search_K {Q : Value → Shared → Prop} {p : Str} {t : Tok} {fs xs : Array Value} {n : Nat} {od ocd : Option Addr} {oc : Value} {sl sl' : Array (Option Value)} (F : Fr h₀ L s.heap m) (X : K.In h₀) (N : News h₀ L s.heap news)
    (e : K.lookup P = some ⟨.type "re.Pattern", od, .fields fs, sl⟩) (h5 : fs.getD 5 .none = .ref C) (h6 : reRawNat (fs.getD 6 .none) = 0) (h2 : reRawNat (fs.getD 2 .none) = 3)
    (e' : K.lookup C = some ⟨oc, ocd, .seq xs n, sl'⟩) (hcode : (xs.map reRawOf).map (·.toNat) = reCode) (hl : p.length ≤ 1000) (hre : okRe p.cps = true)
    (h : ∀ D1 D2 li h', Fr h₀ L h' m → News h₀ L h' ((D2, matchOf p t P li D1) :: (D1, spansOf p.cps.size) :: news) → (∀ p ∈ news, p.1 < D1) → D1 < D2 → Q (.ref D2) { s with heap := h' }) :
    wpAny (model prog w) A (call (.builtin "re.Pattern.search") [.ref P, .str p t]) Q E s :=
  search_N F N ((X.keeps F.keep) _ _ e) rfl rfl h5 h6 h2 ((X.keeps F.keep) _ _ e') rfl hcode hl hre h
end
end Mine
end PartR5

section PartL3
open PySem
namespace Mine
@[irreducible] def firstV (n : Int) : Int := if 1 < ((groupsL n).length : Int) then (groupsL n).getD (Int.toNat 0) 0 else 1000
@[irreducible] def secondV (n : Int) : Int := if 2 < ((groupsL n).length : Int) then (groupsL n).getD (Int.toNat 1) 0 else firstV n
abbrev PatOk (n : Int) : Prop := (patL n).length ≤ 1000 ∧ okRe (patL n).cps = true ∧ grp (patL n) = (firstV n, secondV n) ∧ (Builtin.Str.occurrences (patL n) (Str.ofString ";") 0 (patL n).length 1).isEmpty = true ∧ (Builtin.Str.occurrences (patL n) (Str.ofString "E") 0 (patL n).length 1).isEmpty = true ∧ (Builtin.Str.occurrences (patL n) (Str.ofString "@") 0 (patL n).length 1).isEmpty = true ∧ (Builtin.Str.occurrences (patL n) (Str.ofString ".") 0 (patL n).length 1).isEmpty = true
def chk (n : Int) : Bool := decide ((patL n).length ≤ 1000) && (okRe (patL n).cps && (decide (grp (patL n) = (firstV n, secondV n)) && ((Builtin.Str.occurrences (patL n) (Str.ofString ";") 0 (patL n).length 1).isEmpty && ((Builtin.Str.occurrences (patL n) (Str.ofString "E") 0 (patL n).length 1).isEmpty && ((Builtin.Str.occurrences (patL n) (Str.ofString "@") 0 (patL n).length 1).isEmpty && (Builtin.Str.occurrences (patL n) (Str.ofString ".") 0 (patL n).length 1).isEmpty)))))
theorem chk_ok {n : Int} (h : chk n = true) : PatOk n := by
  simp only [chk, Bool.and_eq_true, decide_eq_true_eq] at h
  exact h
theorem patok_of {n r : Int} (e : groupsL n = groupsL r) (h : PatOk r) : PatOk n := by
  have e1 : patL n = patL r := by rw [patL_def, patL_def, e]
  have e2 : firstV n = firstV r := by unfold firstV; rw [e]
  have e3 : secondV n = secondV r := by unfold secondV; rw [e, e2]
  unfold PatOk at h ⊢
  rw [e1, e2, e3]
  exact h
def chk4 (b j : Nat) : Bool := (List.range 4).all fun i => chk ((4 * (4 * j + i) + b : Nat) : Int)
theorem chk_a0 : chk4 0 0 = true := by decide +kernel
theorem chk_b0 : chk4 1 0 = true := by decide +kernel
theorem chk_b1 : chk4 1 1 = true := by decide +kernel
theorem chk_c0 : chk4 2 0 = true := by decide +kernel
theorem chk_c1 : chk4 2 1 = true := by decide +kernel
theorem chk_c2 : chk4 2 2 = true := by decide +kernel
theorem chk_c3 : chk4 2 3 = true := by decide +kernel
theorem chk_c4 : chk4 2 4 = true := by decide +kernel
theorem chk_c5 : chk4 2 5 = true := by decide +kernel
theorem chk_d0 : chk4 3 0 = true := by decide +kernel
theorem chk_d1 : chk4 3 1 = true := by decide +kernel
theorem chk_d2 : chk4 3 2 = true := by decide +kernel
theorem chk_d3 : chk4 3 3 = true := by decide +kernel
theorem chk_d4 : chk4 3 4 = true := by decide +kernel
theorem chk_d5 : chk4 3 5 = true := by decide +kernel
theorem chk_d6 : chk4 3 6 = true := by decide +kernel
theorem chk_d7 : chk4 3 7 = true := by decide +kernel
theorem chk_d8 : chk4 3 8 = true := by decide +kernel
theorem chk_d9 : chk4 3 9 = true := by decide +kernel
theorem chk_d10 : chk4 3 10 = true := by decide +kernel
theorem chk_d11 : chk4 3 11 = true := by decide +kernel
theorem chk_a {j : Nat} (h : j < 1) : chk4 0 j = true := by
  match j, h with
  | 0, _ => exact chk_a0
theorem chk_b {j : Nat} (h : j < 2) : chk4 1 j = true := by
  match j, h with
  | 0, _ => exact chk_b0
  | 1, _ => exact chk_b1
theorem chk_c {j : Nat} (h : j < 6) : chk4 2 j = true := by
  match j, h with
  | 0, _ => exact chk_c0
  | 1, _ => exact chk_c1
  | 2, _ => exact chk_c2
  | 3, _ => exact chk_c3
  | 4, _ => exact chk_c4
  | 5, _ => exact chk_c5
theorem chk_d {j : Nat} (h : j < 12) : chk4 3 j = true := by
  match j, h with
  | 0, _ => exact chk_d0
  | 1, _ => exact chk_d1
  | 2, _ => exact chk_d2
  | 3, _ => exact chk_d3
  | 4, _ => exact chk_d4
  | 5, _ => exact chk_d5
  | 6, _ => exact chk_d6
  | 7, _ => exact chk_d7
  | 8, _ => exact chk_d8
  | 9, _ => exact chk_d9
  | 10, _ => exact chk_d10
  | 11, _ => exact chk_d11
theorem chk_at {b m i : Nat} (h : ∀ j, j < m → chk4 b j = true) (hi : i < 4 * m) : chk ((4 * i + b : Nat) : Int) = true := by
  have h1 := List.all_eq_true.mp (h (i / 4) (by omega)) (i % 4) (by simp; omega)
  have e : 4 * (i / 4) + i % 4 = i := by omega
  rw [e] at h1
  exact h1
theorem pat_ok {n : Int} (h : 0 ≤ n) : PatOk n := by
  have hb : n % 4 = 0 ∨ n % 4 = 1 ∨ n % 4 = 2 ∨ n % 4 = 3 := by omega
  rcases hb with hb | hb | hb | hb
  · refine patok_of (rep0 h hb) (chk_ok ?_)
    have := chk_at (b := 0) (m := 1) (i := (n / 4 % 4).toNat) (fun j hj => chk_a hj) (by omega)
    have e : ((4 * (n / 4 % 4).toNat + 0 : Nat) : Int) = 4 * (n / 4 % 4) + 0 := by omega
    rwa [e] at this
  · refine patok_of (rep1 h hb) (chk_ok ?_)
    have := chk_at (b := 1) (m := 2) (i := (n / 4 % 8).toNat) (fun j hj => chk_b hj) (by omega)
    have e : ((4 * (n / 4 % 8).toNat + 1 : Nat) : Int) = 4 * (n / 4 % 8) + 1 := by omega
    rwa [e] at this
  · refine patok_of (rep2 h hb) (chk_ok ?_)
    have := chk_at (b := 2) (m := 6) (i := (n / 4 % 24).toNat) (fun j hj => chk_c hj) (by omega)
    have e : ((4 * (n / 4 % 24).toNat + 2 : Nat) : Int) = 4 * (n / 4 % 24) + 2 := by omega
    rwa [e] at this
  · refine patok_of (rep3 h hb) (chk_ok ?_)
    have := chk_at (b := 3) (m := 12) (i := (n / 4 % 48).toNat) (fun j hj => chk_d hj) (by omega)
    have e : ((4 * (n / 4 % 48).toNat + 3 : Nat) : Int) = 4 * (n / 4 % 48) + 3 := by omega
    rwa [e] at this
theorem first_b (n : Int) : 1 ≤ firstV n ∧ firstV n ≤ 1000 := by
  unfold firstV
  split
  · rename_i h
    have hl : 0 < (groupsL n).length := by omega
    have e : (groupsL n).getD (Int.toNat 0) 0 = (groupsL n)[0] := by
      show (groupsL n).getD 0 0 = _
      rw [List.getD_eq_getElem?_getD, List.getElem?_eq_getElem hl]; rfl
    have := groups_one (List.getElem_mem hl)
    rw [e]; omega
  · omega
theorem second_b (n : Int) : 1 ≤ secondV n ∧ secondV n ≤ 1000 := by
  unfold secondV
  split
  · rename_i h
    have hl : 1 < (groupsL n).length := by omega
    have e : (groupsL n).getD (Int.toNat 1) 0 = (groupsL n)[1] := by
      show (groupsL n).getD 1 0 = _
      rw [List.getD_eq_getElem?_getD, List.getElem?_eq_getElem hl]; rfl
    have := groups_one (List.getElem_mem hl)
    rw [e]; omega
  · exact first_b n
end Mine
end PartL3

section PartL5
open PySem
namespace Mine
theorem padT_eq (value : Str) (mn : Int) : padT value mn = Txt.mul (Str.ofString "0") (mn - value.length) ++ value := by
  by_cases h : (value.length : Int) < mn
  · exact pad1 h
  · rw [pad2 h]
    apply str_eq
    rw [PySem.W.KT.app_list, mul_zero_list]
    have : (mn - (value.length : Int)).toNat = 0 := by omega
    rw [this]; simp
theorem sign_le (i : Nat) : (([Str.ofString ",", Str.ofString ".", Str.ofString " ", Str.ofString "'"] : List Str).getD i Str.empty).length ≤ 1 := by
  match i with
  | 0 => decide
  | 1 => decide
  | 2 => decide
  | 3 => decide
  | n + 4 => exact Nat.zero_le _
theorem point_le (i : Nat) : (([Str.ofString ".", Str.ofString ",", Str.ofString "/"] : List Str).getD i Str.empty).length ≤ 1 := by
  match i with
  | 0 => decide
  | 1 => decide
  | 2 => decide
  | n + 3 => exact Nat.zero_le _
end Mine
namespace Mine
theorem zeros_nat (k : Int) : (Txt.mul (Str.ofString "0") k).length = k.toNat := by rw [← toList_len, mul_zero_list, List.length_replicate]
theorem pad12 {v : Int} {d : Str} (h : d.length ≤ 9) : (Txt.mul (Str.ofString "0") (v.fmod 12 - d.length) ++ d).length ≤ 1000 := by
  rw [Str.length_append, zeros_nat]
  have := PySem.W.fmod_hi v (n := 12) (by decide)
  omega
end Mine
end PartL5

section PartL6
open PySem
namespace Mine
theorem flat_empty : ∀ ps : List Str, (Str.join (Str.ofString "") ps).cps.toList = (ps.map fun p => p.cps.toList).flatten
  | [] => rfl
  | [x] => by simp [Str.join]
  | x :: y :: r => by
    have ih := flat_empty (y :: r)
    have e : Str.join (Str.ofString "") (x :: y :: r) = x ++ Str.ofString "" ++ Str.join (Str.ofString "") (y :: r) := rfl
    have e0 : (Str.ofString "").cps.toList = [] := rfl
    rw [e, PySem.W.KT.app_list, PySem.W.KT.app_list, ih, e0]
    simp
theorem flat_sign {c : Nat} : ∀ ps : List Str, (∀ p ∈ ps, c ∉ p.cps.toList) → (Str.join ⟨#[c]⟩ ps).cps.toList.filter (· != c) = (ps.map fun p => p.cps.toList).flatten
  | [], _ => rfl
  | [x], h => by
    have hx := h x (List.mem_cons_self ..)
    have e : Str.join ⟨#[c]⟩ [x] = x := rfl
    rw [e]
    simp only [List.map_cons, List.map_nil, List.flatten_cons, List.flatten_nil, List.append_nil]
    rw [List.filter_eq_self]
    intro a ha
    exact bne_iff_ne.mpr (fun e => hx (e ▸ ha))
  | x :: y :: r, h => by
    have ih := flat_sign (y :: r) (fun p hp => h p (List.mem_cons_of_mem _ hp))
    have hx := h x (List.mem_cons_self ..)
    have e : Str.join ⟨#[c]⟩ (x :: y :: r) = x ++ ⟨#[c]⟩ ++ Str.join ⟨#[c]⟩ (y :: r) := rfl
    rw [e, PySem.W.KT.app_list, PySem.W.KT.app_list, List.filter_append, List.filter_append, ih]
    have e1 : x.cps.toList.filter (· != c) = x.cps.toList := by
      rw [List.filter_eq_self]
      intro a ha
      exact bne_iff_ne.mpr (fun e => hx (e ▸ ha))
    have e2 : (⟨#[c]⟩ : Str).cps.toList.filter (· != c) = [] := by simp
    rw [e1, e2]
    simp
theorem replace_filter (x : Str) (c : Nat) : (Txt.replace x ⟨#[c]⟩ (Str.ofString "")).cps.toList = x.cps.toList.filter (· != c) := by
  rw [StrLaws.replace_one, flat_empty, ← flat_sign (c := c) _ (StrLaws.split_free x c), StrLaws.join_split]
theorem go_filter {c : Nat} : ∀ (k : Nat) (t l : Str) (s second : Int), l.length ≤ k → (goPart t l s second ⟨#[c]⟩).cps.toList.filter (· != c) = l.cps.toList.filter (· != c) ++ t.cps.toList.filter (· != c) := by
  intro k
  induction k with
  | zero =>
    intro t l s second h
    rw [goPart, dif_neg (by omega), PySem.W.KT.app_list, List.filter_append]
  | succ k ih =>
    intro t l s second h
    by_cases hc : 1 ≤ s ∧ s < l.length
    · rw [goPart, dif_pos hc]
      have hlt := part_less hc.1 hc.2
      rw [ih _ _ _ _ (by omega), PySem.W.KT.app_list, PySem.W.KT.app_list, List.filter_append, List.filter_append, cut_to (by omega) (by omega), cut_from (by omega) (by omega)]
      have e2 : (⟨#[c]⟩ : Str).cps.toList.filter (· != c) = [] := by simp
      rw [e2, List.nil_append, ← List.append_assoc, ← List.filter_append, List.take_append_drop]
    · rw [goPart, dif_neg hc, PySem.W.KT.app_list, List.filter_append]
theorem replace_parted {P : Str} {x y : Int} {c : Nat} (h : c ∉ P.cps.toList) : Txt.replace (parted P x y ⟨#[c]⟩) ⟨#[c]⟩ (Str.ofString "") = P := by
  apply str_eq
  rw [replace_filter]
  unfold parted
  rw [go_filter _ _ _ _ _ (Nat.le_refl _)]
  have e0 : (Str.ofString "").cps.toList.filter (· != c) = [] := rfl
  rw [e0, List.append_nil, List.filter_eq_self]
  intro a ha
  exact bne_iff_ne.mpr (fun e => h (e ▸ ha))
theorem go_len : ∀ (k : Nat) (t l sg : Str) (s second : Int), l.length ≤ k → sg.length ≤ 1 → (goPart t l s second sg).length ≤ t.length + 2 * l.length := by
  intro k
  induction k with
  | zero =>
    intro t l sg s second h hs
    rw [goPart, dif_neg (by omega), Str.length_append]; omega
  | succ k ih =>
    intro t l sg s second h hs
    by_cases hc : 1 ≤ s ∧ s < l.length
    · rw [goPart, dif_pos hc]
      have hlt := part_less hc.1 hc.2
      have := ih (sg ++ Txt.slice l (some (l.length - s)) none ++ t) (Txt.slice l none (some (l.length - s))) sg second second (by omega) hs
      have a := cut_to_len (x := l) (j := l.length - s) (by omega) (by omega)
      have b := cut_from_len (x := l) (j := l.length - s) (by omega) (by omega)
      rw [Str.length_append, Str.length_append] at this
      omega
    · rw [goPart, dif_neg hc, Str.length_append]; omega
theorem parted_len {P sg : Str} {x y : Int} (hs : sg.length ≤ 1) : (parted P x y sg).length ≤ 2 * P.length := by
  have := go_len _ (Str.ofString "") P sg x y (Nat.le_refl _) hs
  have e0 : (Str.ofString "").length = 0 := rfl
  unfold parted
  omega
theorem sign_char {i : Nat} (h : i < 4) : ∃ c, (([Str.ofString ",", Str.ofString ".", Str.ofString " ", Str.ofString "'"] : List Str).getD i Str.empty) = ⟨#[c]⟩ ∧ c < 48 := by
  match i, h with
  | 0, _ => exact ⟨44, by decide, by decide⟩
  | 1, _ => exact ⟨46, by decide, by decide⟩
  | 2, _ => exact ⟨32, by decide, by decide⟩
  | 3, _ => exact ⟨39, by decide, by decide⟩
theorem point_char {i : Nat} (h : i < 3) : ∃ c, (([Str.ofString ".", Str.ofString ",", Str.ofString "/"] : List Str).getD i Str.empty) = ⟨#[c]⟩ ∧ c < 48 := by
  match i, h with
  | 0, _ => exact ⟨46, by decide, by decide⟩
  | 1, _ => exact ⟨44, by decide, by decide⟩
  | 2, _ => exact ⟨47, by decide, by decide⟩
theorem fmod_nat {v : Int} {n : Nat} (h : 0 < (n : Int)) : (v.fmod n).toNat < n := by
  have h0 := PySem.W.fmod_lo v h
  have h1 := PySem.W.fmod_hi v h
  omega
theorem padded_dig {v : Int} {d : Str} {k : Nat} (h : DigT d k) : ∀ c ∈ (Txt.mul (Str.ofString "0") v ++ d).cps.toList, 48 ≤ c ∧ c ≤ 57 := by
  intro c hc
  rw [PySem.W.KT.app_list, mul_zero_list] at hc
  rcases List.mem_append.mp hc with hc | hc
  · have := List.eq_of_mem_replicate hc
    omega
  · exact h.dig c hc
theorem replace_law {v v4 : Int} {d : Str} {k : Nat} {x y : Int} (h : DigT d k) :
    Txt.replace (parted (Txt.mul (Str.ofString "0") v ++ d) x y (([Str.ofString ",", Str.ofString ".", Str.ofString " ", Str.ofString "'"] : List Str).getD (v4.fmod 4).toNat Str.empty)) (([Str.ofString ",", Str.ofString ".", Str.ofString " ", Str.ofString "'"] : List Str).getD (v4.fmod 4).toNat Str.empty) (Str.ofString "") = Txt.mul (Str.ofString "0") v ++ d := by
  obtain ⟨c, e, hc⟩ := sign_char (fmod_nat (v := v4) (n := 4) (by decide))
  rw [show ((4 : Nat) : Int) = 4 from rfl] at e
  rw [e]
  refine replace_parted fun hm => ?_
  have := padded_dig h c hm
  omega
theorem dig4 {v : Int} {d : Str} (h : DigT d 6) : DigT (d ++ Txt.mul (Str.ofString "0") (v.fmod 4)) 20 := by
  have h1 := PySem.W.fmod_hi v (n := 4) (by decide)
  have h2 := dig_app (k := v.fmod 4) h (by omega)
  refine ⟨h2.pos, ?_, h2.dig⟩
  rw [Str.length_append, zeros_nat]
  have := h.top
  omega
end Mine
end PartL6

section PartL7
open PySem
namespace Mine
theorem at_one {x : Str} {c i : Nat} : StrLaws.At x ⟨#[c]⟩ x.length i ↔ x.cps.toList[i]? = some c := StrLaws.subAt_one x c i
theorem part_dig {d z : Str} {c k : Nat} (hd : DigT d k) (hc : c < 48) : (Txt.partition (d ++ ⟨#[c]⟩ ++ z) ⟨#[c]⟩).1 = d ∧ (Txt.partition (d ++ ⟨#[c]⟩ ++ z) ⟨#[c]⟩).2.2 = z := by
  have hx : (d ++ ⟨#[c]⟩ ++ z).cps.toList = d.cps.toList ++ c :: z.cps.toList := by
    rw [PySem.W.KT.app_list, PySem.W.KT.app_list]; simp
  generalize d ++ ⟨#[c]⟩ ++ z = x at hx
  have hat : x.cps.toList[d.cps.toList.length]? = some c := by rw [hx]; simp
  have hl := toList_len x
  rcases PyProof.Rows.partition_whole x ⟨#[c]⟩ with ⟨_, hn⟩ | ⟨i, hp, hi, hn⟩
  · exact absurd (at_one.mpr hat) (hn _)
  · have h1 := at_one.mp hi
    have hge : d.cps.toList.length ≤ i := by
      apply Nat.le_of_not_lt
      intro hlt
      rw [hx, List.getElem?_append_left hlt] at h1
      have := hd.dig c (List.mem_of_getElem? h1)
      omega
    have hle : i ≤ d.cps.toList.length := by
      apply Nat.le_of_not_lt
      intro hlt
      exact hn _ hlt (at_one.mpr hat)
    have he : i = d.cps.toList.length := by omega
    subst he
    rw [hp]
    have e1 : (⟨#[c]⟩ : Str).length = 1 := rfl
    constructor
    · apply str_eq
      show (Builtin.Str.strSub x 0 d.cps.toList.length).cps.toList = _
      rw [StrLaws.strSub_toList, hx]
      simp
    · apply str_eq
      show (Builtin.Str.strSub x (d.cps.toList.length + (⟨#[c]⟩ : Str).length) x.length).cps.toList = _
      rw [StrLaws.strSub_toList, e1, ← hl, hx]
      have e2 : List.drop (d.cps.toList.length + 1) (d.cps.toList ++ c :: z.cps.toList) = z.cps.toList := by
        have e3 : d.cps.toList ++ c :: z.cps.toList = (d.cps.toList ++ [c]) ++ z.cps.toList := by simp
        rw [e3]
        exact List.drop_left' (by simp)
      rw [e2]
      exact List.take_of_length_le (by simp; omega)
theorem bare_some {d z : Str} {c k m : Nat} (hd : DigT d k) (hz : DigT z m) (hc : c < 48) (h : (Txt.rstripChars z (Str.ofString "0") == Str.ofString "") = false) : bare (d ++ ⟨#[c]⟩ ++ z) ⟨#[c]⟩ = d ++ (⟨#[c]⟩ ++ Txt.rstripChars z (Str.ofString "0")) := by
  obtain ⟨h1, h2⟩ := part_dig (z := z) hd hc
  have hp := hz.pos
  have hne : ((Txt.rstripChars z (Str.ofString "0")).length : Int) ≠ 0 := by
    intro e
    have e0 : (Str.ofString "") = ⟨#[]⟩ := rfl
    have : Txt.rstripChars z (Str.ofString "0") = Str.ofString "" := by
      apply str_eq
      have hl := toList_len (Txt.rstripChars z (Str.ofString "0"))
      have : (Txt.rstripChars z (Str.ofString "0")).cps.toList = [] := List.eq_nil_of_length_eq_zero (by omega)
      rw [this]; rfl
    rw [this] at h
    simp at h
  have := bare3 (s := d ++ ⟨#[c]⟩ ++ z) (p := ⟨#[c]⟩) (by rw [h2]; omega) (by rw [h2]; exact hne)
  rw [h1, h2] at this
  rw [← this, Str.append_assoc]
theorem bare_none {d z : Str} {c k m : Nat} (hd : DigT d k) (hz : DigT z m) (hc : c < 48) (h : (Txt.rstripChars z (Str.ofString "0") == Str.ofString "") = true) : bare (d ++ ⟨#[c]⟩ ++ z) ⟨#[c]⟩ = d ++ Str.ofString "" := by
  obtain ⟨h1, h2⟩ := part_dig (z := z) hd hc
  have hp := hz.pos
  have he : Txt.rstripChars z (Str.ofString "0") = Str.ofString "" := eq_of_beq h
  have := bare2 (s := d ++ ⟨#[c]⟩ ++ z) (p := ⟨#[c]⟩) (by rw [h2]; omega) (by rw [h2, he]; rfl)
  rw [h1] at this
  rw [← this]
  exact (Str.append_empty d).symm
end Mine
namespace Mine
theorem point_one (v : Int) : (([Str.ofString ".", Str.ofString ",", Str.ofString "/"] : List Str).getD (v.fmod 3).toNat Str.empty).length = 1 := by
  obtain ⟨c, e, _⟩ := point_char (fmod_nat (v := v) (n := 3) (by decide))
  rw [show ((3 : Nat) : Int) = 3 from rfl] at e
  rw [e]; rfl
theorem due_len {d z : Str} {v : Int} (hd : DigT d 9) (hz : DigT z 20) : (d ++ (([Str.ofString ".", Str.ofString ",", Str.ofString "/"] : List Str).getD (v.fmod 3).toNat Str.empty) ++ z).length ≤ 1000 := by
  have := point_one v
  have h1 := hd.top
  have h2 := hz.top
  rw [Str.length_append, Str.length_append]
  omega
theorem due_some {d z : Str} {v : Int} (hd : DigT d 9) (hz : DigT z 20) (h : (Txt.rstripChars z (Str.ofString "0") == Str.ofString "") = false) :
    bare (d ++ (([Str.ofString ".", Str.ofString ",", Str.ofString "/"] : List Str).getD (v.fmod 3).toNat Str.empty) ++ z) (([Str.ofString ".", Str.ofString ",", Str.ofString "/"] : List Str).getD (v.fmod 3).toNat Str.empty) = d ++ ((([Str.ofString ".", Str.ofString ",", Str.ofString "/"] : List Str).getD (v.fmod 3).toNat Str.empty) ++ Txt.rstripChars z (Str.ofString "0")) := by
  obtain ⟨c, e, hc⟩ := point_char (fmod_nat (v := v) (n := 3) (by decide))
  rw [show ((3 : Nat) : Int) = 3 from rfl] at e
  rw [e]
  exact bare_some hd hz hc h
theorem due_none {d z : Str} {v : Int} (hd : DigT d 9) (hz : DigT z 20) (h : (Txt.rstripChars z (Str.ofString "0") == Str.ofString "") = true) :
    bare (d ++ (([Str.ofString ".", Str.ofString ",", Str.ofString "/"] : List Str).getD (v.fmod 3).toNat Str.empty) ++ z) (([Str.ofString ".", Str.ofString ",", Str.ofString "/"] : List Str).getD (v.fmod 3).toNat Str.empty) = d ++ Str.ofString "" := by
  obtain ⟨c, e, hc⟩ := point_char (fmod_nat (v := v) (n := 3) (by decide))
  rw [show ((3 : Nat) : Int) = 3 from rfl] at e
  rw [e]
  exact bare_none hd hz hc h
end Mine
namespace Mine
theorem due_some' {d z : Str} {v : Int} (hd : DigT d 9) (hz : DigT z 20) (h : (Txt.rstripChars z (Str.ofString "0") != Str.ofString "") = true) :
    bare (d ++ (([Str.ofString ".", Str.ofString ",", Str.ofString "/"] : List Str).getD (v.fmod 3).toNat Str.empty) ++ z) (([Str.ofString ".", Str.ofString ",", Str.ofString "/"] : List Str).getD (v.fmod 3).toNat Str.empty) = d ++ ((([Str.ofString ".", Str.ofString ",", Str.ofString "/"] : List Str).getD (v.fmod 3).toNat Str.empty) ++ Txt.rstripChars z (Str.ofString "0")) :=
  due_some hd hz (by unfold bne at h; simpa using h)
theorem due_none' {d z : Str} {v : Int} (hd : DigT d 9) (hz : DigT z 20) (h : (Txt.rstripChars z (Str.ofString "0") != Str.ofString "") = false) :
    bare (d ++ (([Str.ofString ".", Str.ofString ",", Str.ofString "/"] : List Str).getD (v.fmod 3).toNat Str.empty) ++ z) (([Str.ofString ".", Str.ofString ",", Str.ofString "/"] : List Str).getD (v.fmod 3).toNat Str.empty) = d ++ Str.ofString "" :=
  due_none hd hz (by unfold bne at h; simpa using h)
end Mine
end PartL7

section PartT1
open PySem
namespace Mine
def TokQ {α : Type} (n : Nat) (Q : α → Shared → Prop) (a : α) (s' : Shared) : Prop := n ≤ s'.toks → Q a s'
theorem toks_ge {α : Type} {M : Model} {A : Around} {t : Sem α} {Q : α → Shared → Prop} {E : Value → Shared → Prop} {s : Shared} (n : Nat) (h0 : n ≤ s.toks) (h : wpAny M A t (TokQ n Q) E s) : wpAny M A t Q E s :=
  wpAny_with_toks h0 (wpAny_mono h (fun _ _ hq => hq) fun _ _ he _ => he)
theorem gen_tok {n tk0 : Nat} {α : Type} {M : Model} {A : Around} {t : Sem α} {Q : α → Shared → Prop} {E : Value → Shared → Prop} {h : Heap} {g : Array GenState} {d : Drawn} {o : OsState}
    (H : ∀ tk, n ≤ tk → wpAny M A t Q E ⟨h, g, d, tk, o⟩) : n ≤ (⟨h, g, d, tk0, o⟩ : Shared).toks → wpAny M A t Q E ⟨h, g, d, tk0, o⟩ := H tk0
end Mine
end PartT1

section PartC1
open PySem PySem.W PyProof.Rows
namespace Mine
def Tag (_ : OpenLaw) : Prop := True

set_option maxRecDepth 100000 in
set_option maxHeartbeats 8000000 in
theorem parted_tells : Tag PySem.Challenge.rw_ey0012_01 → ∀ (w : World) (mean : ExcName → Option Value) (mg mb : Str → Option Value) (news : CbLed) (digits : CbStr) (t1 : CbTok) (first : Int) (t2 : CbTok) (second : Int) (t3 : CbTok) (sign : CbStr) (t4 : CbTok),
  CbClaim PySem.Challenge.rw_ey0012_01.row.prog w (hd.heap_39 w.params) hd.view_39 (looseW hd.view_39 [Str.ofString "_number_pattern_re"]) mean mg mb 141 news [] (1 ≤ first ∧ 1 ≤ second ∧ digits.length ≤ 1000 ∧ sign.length ≤ 1)
   [.str digits t1, .int first t2, .int second t3, .str sign t4] (fun t => .str (parted digits first second sign) t) := by
  k_fill
  k_with_none
  w_top off
  dsimp only [CbClaim, CbLists, CbRet]
  intros
  rename_i hret
  refine wpAny_call ?_
  k_dflt cell_enter
  k_with "exec While Compare cons nil" => k_while_given ["digits", "first", "second", "sign"] (fun digits first second sign script text left size => goPart text left size second sign = parted digits first second sign ∧ 1 ≤ size ∧ 1 ≤ second ∧ text.length + 2 * left.length ≤ 2000 ∧ sign.length ≤ 1) (fun _ _ _ _ _ _ left _ => left.length) "text" "left" "size"
  k_with "state" => exact ⟨rfl, by omega, by omega, by (have : (Str.ofString "").length = 0 := rfl; omega), by omega⟩
  k_with "state" => exact ⟨part_turn (by assumption) (by assumption) (by assumption), by assumption, by assumption, part_len (by assumption) (by assumption) (by assumption) (by assumption), by assumption⟩
  k_with "measure" => exact part_less (by assumption) (by assumption)
  k_with "tree" => exact part_stop (by assumption) (by assumption)
  k_steps
  all_goals cb_end hret
end Mine
end PartC1

section PartC2
open PySem PySem.W PyProof.Rows
namespace Mine

set_option maxRecDepth 100000 in
set_option maxHeartbeats 8000000 in
theorem fraction_tells : Tag PySem.Challenge.rw_ey0012_01 → ∀ (w : World) (mean : ExcName → Option Value) (mg mb : Str → Option Value) (news : CbLed) (digits : CbStr) (t1 : CbTok) (least : Int) (t2 : CbTok) (most : Int) (t3 : CbTok) (sign : CbStr) (t4 : CbTok),
  CbClaim PySem.Challenge.rw_ey0012_01.row.prog w (hd.heap_39 w.params) hd.view_39 (looseW hd.view_39 [Str.ofString "_number_pattern_re"]) mean mg mb 148 news [] (0 ≤ least ∧ least ≤ 100 ∧ digits.length ≤ 1000 ∧ sign.length ≤ 1)
   [.str digits t1, .int least t2, .int most t3, .str sign t4] (fun t => .str (fraction digits least most sign) t) := by
  k_fill
  k_with_none
  w_top off
  dsimp only [CbClaim, CbLists, CbRet]
  intro _ w mean mg mb news digits t1 least t2 most t3 sign t4 dp un gd cn cs a ccd cl outer A₀ base h₀ L m s Q E B F X N T hk hpre hd hu hret
  refine wpAny_call ?_
  k_dflt cell_enter
  k_steps
  all_goals (refine' cb_retS (Q := Q) hret ?e1 ?e2 ?e3; (case e2 => k_asm); (case e3 => first | k_asm | (refine' cb_drop ?cbN ?cbS; (case cbN => assumption); (case cbS => kcj_all))); (case e1 => first | with_reducible exact frac1 (by assumption) | with_reducible exact frac2 (by assumption) (by assumption) | with_reducible exact frac3 (by assumption) (by assumption) | with_reducible exact frac4 (by assumption) (by assumption)))
end Mine
end PartC2

section PartC3
open PySem PySem.W PyProof.Rows
namespace Mine
local macro_rules | `(tactic| walk_at "call builtin:str.partition") => `(tactic| (k_here; (with_reducible show wpAny _ _ (call (Value.builtin "str.partition") [Value.str _ _, Value.str _ _]) _ _ _); (refine KXpa.partition (by k_asm) (by k_asm) (one_not_empty (by assumption)) rfl rfl rfl (by size_fits) ?_); intro D' _ _ _ _ _ F' N' l1; (try k_lt l1)))

set_option maxRecDepth 100000 in
set_option maxHeartbeats 8000000 in
theorem bare_tells : Tag PySem.Challenge.rw_ey0012_01 → ∀ (w : World) (mean : ExcName → Option Value) (mg mb : Str → Option Value) (news : CbLed) (s : CbStr) (t1 : CbTok) (p : CbStr) (t2 : CbTok) ,
  CbClaim PySem.Challenge.rw_ey0012_01.row.prog w (hd.heap_39 w.params) hd.view_39 (looseW hd.view_39 [Str.ofString "_number_pattern_re"]) mean mg mb 38 news [] (s.length ≤ 1000 ∧ p.length = 1)
   [.str s t1, .str p t2] (fun t => .str (bare s p) t) := by
  k_fill
  k_with_none
  w_top off
  dsimp only [CbClaim, CbLists, CbRet]
  intro _ w mean mg mb news string t1 point t2 dp un gd cn cs a ccd cl outer A₀ base h₀ L m s Q E B F X N T hk hpre hd hu hret
  obtain ⟨hp1, hp2⟩ := hpre
  refine wpAny_call ?_
  k_dflt cell_enter
  k_steps
  all_goals (refine' cb_retS (Q := Q) hret ?e1 ?e2 ?e3; (case e2 => k_asm); (case e3 => first | k_asm | (refine' cb_drop ?cbN ?cbS; (case cbN => assumption); (case cbS => kcj_all))); (case e1 => first | with_reducible exact bare1 (by assumption) | with_reducible exact bare2 (by assumption) (by assumption) | with_reducible exact bare3 (by assumption) (by assumption)))
end Mine
end PartC3

section PartC4
open PySem PySem.W PyProof.Rows
namespace Mine

set_option maxRecDepth 100000 in
set_option maxHeartbeats 8000000 in
theorem cell_tells : Tag PySem.Challenge.rw_ey0012_01 → ∀ (w : World) (mean : ExcName → Option Value) (mg mb : Str → Option Value) (news : CbLed) (l : CbAddr) (vs : List CbVal) (ns : List Int) (i : Int) (t1 : CbTok),
  CbClaim PySem.Challenge.rw_ey0012_01.row.prog w (hd.heap_39 w.params) hd.view_39 (looseW hd.view_39 [Str.ofString "_number_pattern_re"]) mean mg mb 129 news [(l, vs, ns)] (0 ≤ i ∧ i ≤ 100)
   [.ref l, .int i t1] (fun t => .int (cellV ns i) t) := by
  k_fill
  k_with_none
  w_top off
  dsimp only [CbClaim, CbLists, CbRet]
  intro _ w mean mg mb news l vs ns i t1 dp un gd cn cs a ccd cl outer A₀ base h₀ L m s Q E B F X N T hk hl hi hln hpre hd hu hret
  obtain ⟨hp1, hp2⟩ := hpre
  refine wpAny_call ?_
  k_dflt cell_enter
  k_steps
  all_goals (refine' cb_retI (Q := Q) hret ?e1 ?e2 ?e3; (case e2 => k_asm); (case e3 => first | k_asm | (refine' cb_drop ?cbN ?cbS; (case cbN => assumption); (case cbS => kcj_all))); (case e1 => first | with_reducible exact cell1 (by assumption) | with_reducible exact cell2 (by assumption)))
end Mine
end PartC4

section PartC5
open PySem PySem.W PyProof.Rows
namespace Mine
abbrev GrpRet (h₀ : Heap) (L : Addr) (m : Str → Option Value) (news : List (Addr × Obj)) (s : Shared) (Q : Value → Shared → Prop) (a b : Int) : Prop :=
  ∀ (D : Addr) (t1 t2 : Tok) (c : Nat) (h' : Heap) (tk' : Nat), Fr h₀ L h' m → News h₀ L h' ((D, ({ cls := .type "tuple", data := .seq #[.int a t1, .int b t2] c } : Obj)) :: news) → (∀ p ∈ news, p.1 < D) → Q (.ref D) { s with heap := h', toks := tk' }
abbrev GrpClaim (prog : Program) (w : World) (K : Frag) (p : Program) (loose : List Str) (mean : ExcName → Option Value) (mg mb : Str → Option Value) (f : Addr) (news : List (Addr × Obj)) (pre : Prop) (vs : List Value) (x y : Int) : Prop :=
  ∀ (dp un : Nat) (gd : Option (List Code)) (cn : Str) (cs : Scope) (a : Addr) (ccd : Value) (cl : List (Str × Addr)) (outer : List Env) (A₀ : Around) (base h₀ : Heap) (L : Addr) (m : Str → Option Value) (s : Shared) (Q E : Value → Shared → Prop),
    Below A₀ base outer h₀ → Fr h₀ L s.heap m → K.In h₀ → News h₀ L s.heap news → Top p loose mean mg mb h₀ → cs.kind = .function →
    pre → dp + 1 < recursionLimit → un + 8 < cLine → GrpRet h₀ L m news s Q x y →
      wpAny (model prog w) (ktrTop dp un gd cn cs L a ccd cl outer) (call (.ref f) vs) Q E s

theorem grp_ret {h₀ h' : Heap} {L : Addr} {m : Str → Option Value} {news : List (Addr × Obj)} {s : Shared} {Q : Value → Shared → Prop} {a b a' b' : Int} {g : Int × Int} (hret : GrpRet h₀ L m news s Q a b) (hg : g = (a, b)) (e : g = (a', b'))
    {D : Addr} {t1 t2 : Tok} {c : Nat} {tk' : Nat} (F : Fr h₀ L h' m) (N : News h₀ L h' ((D, ({ cls := .type "tuple", data := .seq #[.int a' t1, .int b' t2] c } : Obj)) :: news)) (l : ∀ p ∈ news, p.1 < D) : Q (.ref D) { s with heap := h', toks := tk' } := by
  rw [hg] at e
  obtain ⟨rfl, rfl⟩ := Prod.mk.inj e
  exact hret D t1 t2 c h' tk' F N l

set_option maxRecDepth 100000 in
set_option maxHeartbeats 8000000 in
theorem group_tells : Tag PySem.Challenge.rw_ey0012_01 → ∀ (w : World) (mean : ExcName → Option Value) (mg mb : Str → Option Value) (news : CbLed) (p : CbStr) (t1 : CbTok),
  ∀ x y : Int, grp p = (x, y) → GrpClaim PySem.Challenge.rw_ey0012_01.row.prog w (hd.heap_39 w.params) hd.view_39 (looseW hd.view_39 [Str.ofString "_number_pattern_re"]) mean mg mb 50 news (p.length ≤ 1000)
   [.str p t1] x y := by
  k_fill
  k_with_none
  w_top off
  dsimp only [GrpClaim, GrpRet]
  intro _ w mean mg mb news p t1 x y hg dp un gd cn cs a ccd cl outer A₀ base h₀ L m s Q E B F X N T hk hpre hd hu hret
  refine wpAny_call ?_
  k_dflt cell_enter
  k_steps
  all_goals (refine' grp_ret (Q := Q) hret hg ?e1 ?e2 ?e3 ?e4; (case e2 => k_asm); (case e3 => k_asm); (case e4 => assumption); (case e1 => first | with_reducible exact grp1 (by assumption) | with_reducible exact grp2 (by assumption) (by assumption) | with_reducible exact grp3 (by assumption) (by assumption)))
end Mine
end PartC5

section PartC6
open PySem PySem.W PyProof.Rows
namespace Mine
abbrev PrecClaim (prog : Program) (w : World) (K : Frag) (p : Program) (loose : List Str) (mean : ExcName → Option Value) (mg mb : Str → Option Value) (f : Addr) (news : List (Addr × Obj)) (pre : Prop) (vs : List Value) : Prop :=
  ∀ (dp un : Nat) (gd : Option (List Code)) (cn : Str) (cs : Scope) (a : Addr) (ccd : Value) (cl : List (Str × Addr)) (outer : List Env) (A₀ : Around) (base h₀ : Heap) (L : Addr) (m : Str → Option Value) (s : Shared) (Q E : Value → Shared → Prop),
    Below A₀ base outer h₀ → Fr h₀ L s.heap m → K.In h₀ → News h₀ L s.heap news → Top p loose mean mg mb h₀ → cs.kind = .function →
    pre → dp + 1 < recursionLimit → un + 8 < cLine → (∀ x y, GrpRet h₀ L m news s Q x y) →
      wpAny (model prog w) (ktrTop dp un gd cn cs L a ccd cl outer) (call (.ref f) vs) Q E s

theorem drop_tail {h₀ h : Heap} {L : Addr} {x : Addr × Obj} {news own : List (Addr × Obj)} (N : News h₀ L h (x :: (news ++ own))) : News h₀ L h (x :: news) := fun p hp => N p (by
  rcases List.mem_cons.mp hp with rfl | hp
  · exact List.mem_cons_self ..
  · exact List.mem_cons_of_mem _ (List.mem_append_left _ hp))
theorem lt_left {D : Addr} {news own : List (Addr × Obj)} (l : ∀ p ∈ news ++ own, p.1 < D) : ∀ p ∈ news, p.1 < D := fun p hp => l p (List.mem_append_left _ hp)
theorem prec_ret {h₀ h' : Heap} {L : Addr} {m : Str → Option Value} {news : List (Addr × Obj)} {s : Shared} {Q : Value → Shared → Prop} {a' b' : Int} (hret : ∀ a b, GrpRet h₀ L m news s Q a b)
    {D : Addr} {t1 t2 : Tok} {c : Nat} {tk' : Nat} (F : Fr h₀ L h' m) (N : News h₀ L h' ((D, ({ cls := .type "tuple", data := .seq #[.int a' t1, .int b' t2] c } : Obj)) :: news)) (l : ∀ p ∈ news, p.1 < D) : Q (.ref D) { s with heap := h', toks := tk' } :=
  hret _ _ D t1 t2 c h' tk' F N l

set_option maxRecDepth 100000 in
set_option maxHeartbeats 8000000 in
theorem prec_tells : Tag PySem.Challenge.rw_ey0012_01 → ∀ (w : World) (mean : ExcName → Option Value) (mg mb : Str → Option Value) (news : CbLed) (p : CbStr) (t1 : CbTok),
  PrecClaim PySem.Challenge.rw_ey0012_01.row.prog w (hd.heap_39 w.params) hd.view_39 (looseW hd.view_39 [Str.ofString "_number_pattern_re"]) mean mg mb 64 news (p.length ≤ 1000)
   [.str p t1] := by
  k_fill
  k_with_none
  w_top off
  dsimp only [PrecClaim, GrpRet]
  intro _ w mean mg mb news p t1 dp un gd cn cs a ccd cl outer A₀ base h₀ L m s Q E B F X N T hk hpre hd hu hret
  refine wpAny_call ?_
  k_dflt cell_enter
  k_with "pyIter str" => k_state (fun pre mn mx => 0 ≤ mn ∧ mn ≤ pre.length ∧ 0 ≤ mx ∧ mx ≤ pre.length) "min" "max"
  k_steps
  all_goals (refine' prec_ret (Q := Q) hret ?e2 ?e3 ?e4; (case e2 => k_asm); (case e3 => first | k_asm | exact drop_tail (by assumption)); (case e4 => first | assumption | exact lt_left (by assumption)))
end Mine
end PartC6

section PartC7
open PySem PySem.W PyProof.Rows
namespace Mine
abbrev ThreeRet (h₀ : Heap) (L : Addr) (m : Str → Option Value) (news : List (Addr × Obj)) (s : Shared) (Q : Value → Shared → Prop) (a b c : Str) : Prop :=
  ∀ (D : Addr) (t1 t2 t3 : Tok) (k : Nat) (h' : Heap) (tk' : Nat), Fr h₀ L h' m → News h₀ L h' ((D, ({ cls := .type "tuple", data := .seq #[.str a t1, .str b t2, .str c t3] k } : Obj)) :: news) → (∀ p ∈ news, p.1 < D) → Q (.ref D) { s with heap := h', toks := tk' }
abbrev MatchClaim (prog : Program) (w : World) (K : Frag) (p : Program) (loose : List Str) (mean : ExcName → Option Value) (mg mb : Str → Option Value) (f : Addr) (news : List (Addr × Obj)) (pre : Prop) (vs : List Value) (a b c : Str) : Prop :=
  ∀ (dp un : Nat) (gd : Option (List Code)) (cn : Str) (cs : Scope) (a' : Addr) (ccd : Value) (cl : List (Str × Addr)) (outer : List Env) (A₀ : Around) (base h₀ : Heap) (L : Addr) (m : Str → Option Value) (s : Shared) (Q E : Value → Shared → Prop),
    Below A₀ base outer h₀ → Fr h₀ L s.heap m → K.In h₀ → News h₀ L s.heap news → Top p loose mean mg mb h₀ → cs.kind = .function →
    pre → dp + 1 < recursionLimit → un + 8 < cLine → ThreeRet h₀ L m news s Q a b c →
      wpAny (model prog w) (ktrTop dp un gd cn cs L a' ccd cl outer) (call (.ref f) vs) Q E s

theorem drop_two {h₀ h : Heap} {L : Addr} {x y z : Addr × Obj} {news : List (Addr × Obj)} (N : News h₀ L h (x :: y :: z :: news)) : News h₀ L h (x :: news) := fun p hp => N p (by
  rcases List.mem_cons.mp hp with rfl | hp
  · exact List.mem_cons_self ..
  · exact List.mem_cons_of_mem _ (List.mem_cons_of_mem _ (List.mem_cons_of_mem _ hp)))
theorem lt_two {D : Addr} {y z : Addr × Obj} {news : List (Addr × Obj)} (l : ∀ p ∈ y :: z :: news, p.1 < D) : ∀ p ∈ news, p.1 < D := fun p hp => l p (List.mem_cons_of_mem _ (List.mem_cons_of_mem _ hp))
theorem three_ret {h₀ h' : Heap} {L : Addr} {m : Str → Option Value} {news : List (Addr × Obj)} {s : Shared} {Q : Value → Shared → Prop} {a b c : Str} (hret : ThreeRet h₀ L m news s Q a b c)
    {D : Addr} {t1 t2 t3 : Tok} {k : Nat} {tk' : Nat} (F : Fr h₀ L h' m) (N : News h₀ L h' ((D, ({ cls := .type "tuple", data := .seq #[.str a t1, .str b t2, .str c t3] k } : Obj)) :: news)) (l : ∀ p ∈ news, p.1 < D) : Q (.ref D) { s with heap := h', toks := tk' } :=
  hret D t1 t2 t3 k h' tk' F N l
local macro_rules | `(tactic| walk_at "getMethod ref") => `(tactic| (k_here; (with_reducible show wpAny _ _ (getMethod (Value.ref 43) _ _) _ _ _); refine' getMethod_patK ?k1 ?k2 ?k3 ?_; (case k1 => k_asm); (case k2 => k_asm); (case k3 => k_is); k_whole))
local macro_rules | `(tactic| walk_at "getMethod ref") => `(tactic| (k_here; (with_reducible show wpAny _ _ (getMethod (Value.ref _) (Str.ofString "groups") _) _ _ _); refine' getMethod_matN ?k1 ?k2 ?_; (case k1 => k_asm); (case k2 => k_mem); k_whole))
local macro_rules | `(tactic| walk_at "call builtin:re.Pattern.search") => `(tactic| (k_here; refine' search_K ?k1 ?k2 ?k3 ?k4 ?k5 ?k6 ?k7 ?k8 ?k9 ?k10 ?k11 ?_; (case k1 => k_asm); (case k2 => k_asm); (case k3 => k_asm); (case k4 => k_is); (case k5 => exact rfl); (case k6 => exact rfl); (case k7 => exact rfl); (case k8 => k_is); (case k9 => decide +kernel); (case k10 => assumption); (case k11 => assumption); k_whole; intro D1' D2' li' h' F' N' l1 l2))
local macro_rules | `(tactic| walk_at "call builtin:re.Match.groups") => `(tactic| (k_here; refine' groups_N ?k1 ?k2 ?k3 ?k4 ?k5 ?_; (case k1 => k_asm); (case k2 => k_asm); (case k3 => k_mem); (case k4 => k_mem); (case k5 => assumption); k_whole; intro D' ta' tb' tc' h' tk' F' N' l1))

set_option maxRecDepth 100000 in
set_option maxHeartbeats 8000000 in
theorem match_tells : Tag PySem.Challenge.rw_ey0012_01 → ∀ (w : World) (mean : ExcName → Option Value) (mg mb : Str → Option Value) (news : CbLed) (p : CbStr) (t1 : CbTok),
  MatchClaim PySem.Challenge.rw_ey0012_01.row.prog w (hd.heap_39 w.params) hd.view_39 (looseW hd.view_39 [Str.ofString "_number_pattern_re"]) mean mg mb 57 news (p.length ≤ 1000 ∧ okRe p.cps = true)
   [.str p t1] (Str.ofString "") p (Str.ofString "") := by
  k_fill
  k_with_none
  w_top off
  dsimp only [MatchClaim, ThreeRet]
  intro _ w mean mg mb news p t1 dp un gd cn cs a ccd cl outer A₀ base h₀ L m s Q E B F X N T hk hpre hd hu hret
  obtain ⟨hp1, hp2⟩ := hpre
  refine wpAny_call ?_
  k_dflt cell_enter
  k_steps
  all_goals (refine' three_ret (Q := Q) hret ?e2 ?e3 ?e4; (case e2 => k_asm); (case e3 => exact drop_two (by assumption)); (case e4 => exact lt_two (by assumption)))
end Mine
end PartC7

section PartC8
open PySem PySem.W PyProof.Rows
namespace Mine
theorem match_use {w : World} {mean : ExcName → Option Value} {mg mb : Str → Option Value} {news : CbLed} {p : Str} {t1 : Tok} {dp un : Nat} {gd : Option (List Code)} {cn : Str} {cs : Scope} {a : Addr} {ccd : Value} {cl : List (Str × Addr)} {outer : List Env} {A₀ : Around} {base h₀ : Heap} {L : Addr} {m : Str → Option Value} {s : Shared} {Q E : Value → Shared → Prop}
    (k1 : Below A₀ base outer h₀) (k2 : Fr h₀ L s.heap m) (k3 : (hd.heap_39 w.params).In h₀) (k4 : News h₀ L s.heap news) (k5 : Top hd.view_39 (looseW hd.view_39 [Str.ofString "_number_pattern_re"]) mean mg mb h₀) (kK : cs.kind = .function) (kp : p.length ≤ 1000 ∧ okRe p.cps = true) (kd : dp + 1 < recursionLimit) (ku : un + 8 < cLine)
    (kR : ThreeRet h₀ L m news s Q (Str.ofString "") p (Str.ofString "")) : wpAny (model PySem.Challenge.rw_ey0012_01.row.prog w) (ktrTop dp un gd cn cs L a ccd cl outer) (call (.ref 57) [.str p t1]) Q E s :=
  match_tells trivial w mean mg mb news p t1  dp un gd cn cs a ccd cl outer A₀ base h₀ L m s Q E k1 k2 k3 k4 k5 kK kp kd ku kR
theorem prec_use {w : World} {mean : ExcName → Option Value} {mg mb : Str → Option Value} {news : CbLed} {p : Str} {t1 : Tok} {dp un : Nat} {gd : Option (List Code)} {cn : Str} {cs : Scope} {a : Addr} {ccd : Value} {cl : List (Str × Addr)} {outer : List Env} {A₀ : Around} {base h₀ : Heap} {L : Addr} {m : Str → Option Value} {s : Shared} {Q E : Value → Shared → Prop}
    (k1 : Below A₀ base outer h₀) (k2 : Fr h₀ L s.heap m) (k3 : (hd.heap_39 w.params).In h₀) (k4 : News h₀ L s.heap news) (k5 : Top hd.view_39 (looseW hd.view_39 [Str.ofString "_number_pattern_re"]) mean mg mb h₀) (kK : cs.kind = .function) (kp : p.length ≤ 1000) (kd : dp + 1 < recursionLimit) (ku : un + 8 < cLine)
    (kR : ∀ x y, GrpRet h₀ L m news s Q x y) : wpAny (model PySem.Challenge.rw_ey0012_01.row.prog w) (ktrTop dp un gd cn cs L a ccd cl outer) (call (.ref 64) [.str p t1]) Q E s :=
  prec_tells trivial w mean mg mb news p t1  dp un gd cn cs a ccd cl outer A₀ base h₀ L m s Q E k1 k2 k3 k4 k5 kK kp kd ku kR
theorem group_use {w : World} {mean : ExcName → Option Value} {mg mb : Str → Option Value} {news : CbLed} {p : Str} {t1 : Tok} {x : Int} {y : Int} (hg : grp p = (x, y)) {dp un : Nat} {gd : Option (List Code)} {cn : Str} {cs : Scope} {a : Addr} {ccd : Value} {cl : List (Str × Addr)} {outer : List Env} {A₀ : Around} {base h₀ : Heap} {L : Addr} {m : Str → Option Value} {s : Shared} {Q E : Value → Shared → Prop}
    (k1 : Below A₀ base outer h₀) (k2 : Fr h₀ L s.heap m) (k3 : (hd.heap_39 w.params).In h₀) (k4 : News h₀ L s.heap news) (k5 : Top hd.view_39 (looseW hd.view_39 [Str.ofString "_number_pattern_re"]) mean mg mb h₀) (kK : cs.kind = .function) (kp : p.length ≤ 1000) (kd : dp + 1 < recursionLimit) (ku : un + 8 < cLine)
    (kR : GrpRet h₀ L m news s Q x y) : wpAny (model PySem.Challenge.rw_ey0012_01.row.prog w) (ktrTop dp un gd cn cs L a ccd cl outer) (call (.ref 50) [.str p t1]) Q E s :=
  group_tells trivial w mean mg mb news p t1 x y hg dp un gd cn cs a ccd cl outer A₀ base h₀ L m s Q E k1 k2 k3 k4 k5 kK kp kd ku kR
local macro_rules | `(tactic| walk_at "call ref") => `(tactic| (k_here; (with_reducible show wpAny _ _ (call (Value.ref 57) [Value.str _ _]) _ _ _); k_dflt (refine' match_use ?k1 ?k2 ?k3 ?k4 ?k5 ?kK ?kp ?kd ?ku ?_); (case k1 => k_asm); (case k2 => k_asm); (case k3 => k_asm); (case k4 => k_asm); (case k5 => k_asm); (case kK => first | exact rfl | assumption); (case kp => exact ⟨by assumption, by assumption⟩); (case kd => ktr_room); (case ku => ktr_units); intro D' t1' t2' t3' k' h' tk' F' N' l1; (try dsimp only); (try k_fold); (try k_lt l1)))
local macro_rules | `(tactic| walk_at "call ref") => `(tactic| (k_here; (with_reducible show wpAny _ _ (call (Value.ref 64) [Value.str _ _]) _ _ _); k_dflt (refine' prec_use ?k1 ?k2 ?k3 ?k4 ?k5 ?kK ?kp ?kd ?ku ?_); (case k1 => k_asm); (case k2 => k_asm); (case k3 => k_asm); (case k4 => k_asm); (case k5 => k_asm); (case kK => first | exact rfl | assumption); (case kp => first | assumption | decide | omega); (case kd => ktr_room); (case ku => ktr_units); intro x' y' D' t1' t2' k' h' tk' F' N' l1; (try dsimp only); (try k_fold); (try k_lt l1)))
local macro_rules | `(tactic| walk_at "call ref") => `(tactic| (k_here; (with_reducible show wpAny _ _ (call (Value.ref 50) [Value.str _ _]) _ _ _); k_dflt (refine' group_use (by assumption) ?k1 ?k2 ?k3 ?k4 ?k5 ?kK ?kp ?kd ?ku ?_); (case k1 => k_asm); (case k2 => k_asm); (case k3 => k_asm); (case k4 => k_asm); (case k5 => k_asm); (case kK => first | exact rfl | assumption); (case kp => first | assumption | omega); (case kd => ktr_room); (case ku => ktr_units); intro D' t1' t2' k' h' tk' F' N' l1; (try dsimp only); (try k_fold); (try k_lt l1)))
abbrev madeDict (w : World) (G : Addr) (k1 k2 k3 k4 k5 k6 k7 k8 k9 k10 : Tok) (v1 v2 v3 v4 v6 v7 v8 v9 v10 : Value) (n : Nat) : Obj := dictOf [⟨PySem.PyData.keyHash w.params "pattern", .str "pattern" k1, v1⟩, ⟨PySem.PyData.keyHash w.params "prefix", .str "prefix" k2, v2⟩, ⟨PySem.PyData.keyHash w.params "suffix", .str "suffix" k3, v3⟩, ⟨PySem.PyData.keyHash w.params "number_pattern", .str "number_pattern" k4, v4⟩, ⟨PySem.PyData.keyHash w.params "grouping", .str "grouping" k5, Value.ref G⟩, ⟨PySem.PyData.keyHash w.params "int_prec", .str "int_prec" k6, v6⟩, ⟨PySem.PyData.keyHash w.params "frac_prec", .str "frac_prec" k7, v7⟩, ⟨PySem.PyData.keyHash w.params "exp_prec", .str "exp_prec" k8, v8⟩, ⟨PySem.PyData.keyHash w.params "exp_plus", .str "exp_plus" k9, v9⟩, ⟨PySem.PyData.keyHash w.params "scale", .str "scale" k10, v10⟩] n
abbrev MadeRet (w : World) (h₀ : Heap) (L : Addr) (m : Str → Option Value) (news : List (Addr × Obj)) (s : Shared) (Q : Value → Shared → Prop) (x y : Int) : Prop :=
  ∀ (X dx G : Addr) (t1 t2 : Tok) (c : Nat) (k1 k2 k3 k4 k5 k6 k7 k8 k9 k10 : Tok) (v1 v2 v3 v4 v6 v7 v8 v9 v10 : Value) (n : Nat) (h' : Heap) (tk' : Nat), Fr h₀ L h' m → News h₀ L h' ((X, instObj 118 dx) :: (dx, madeDict w G k1 k2 k3 k4 k5 k6 k7 k8 k9 k10 v1 v2 v3 v4 v6 v7 v8 v9 v10 n) :: (G, ({ cls := .type "tuple", data := .seq #[.int x t1, .int y t2] c } : Obj)) :: news) → Q (.ref X) { s with heap := h', toks := tk' }
theorem made_ret {w : World} {h₀ h' : Heap} {L : Addr} {m : Str → Option Value} {news big : List (Addr × Obj)} {s : Shared} {Q : Value → Shared → Prop} {x y : Int} (hret : MadeRet w h₀ L m news s Q x y)
    {X dx G : Addr} {t1 t2 : Tok} {c : Nat} {k1 k2 k3 k4 k5 k6 k7 k8 k9 k10 : Tok} {v1 v2 v3 v4 v6 v7 v8 v9 v10 : Value} {n : Nat} {tk' : Nat} (F : Fr h₀ L h' m) (N : News h₀ L h' big) (m1 : (X, instObj 118 dx) ∈ big) (m2 : (dx, madeDict w G k1 k2 k3 k4 k5 k6 k7 k8 k9 k10 v1 v2 v3 v4 v6 v7 v8 v9 v10 n) ∈ big) (m3 : (G, ({ cls := .type "tuple", data := .seq #[.int x t1, .int y t2] c } : Obj)) ∈ big) (m4 : ∀ p ∈ news, p ∈ big) : Q (.ref X) { s with heap := h', toks := tk' } :=
  hret X dx G t1 t2 c k1 k2 k3 k4 k5 k6 k7 k8 k9 k10 v1 v2 v3 v4 v6 v7 v8 v9 v10 n h' tk' F fun p hp => by
    rcases List.mem_cons.mp hp with rfl | hp
    · exact N _ m1
    rcases List.mem_cons.mp hp with rfl | hp
    · exact N _ m2
    rcases List.mem_cons.mp hp with rfl | hp
    · exact N _ m3
    · exact N _ (m4 p hp)
abbrev ParseClaim (prog : Program) (w : World) (K : Frag) (p : Program) (loose : List Str) (mean : ExcName → Option Value) (mg mb : Str → Option Value) (f : Addr) (news : List (Addr × Obj)) (pre : Prop) (vs : List Value) (x y : Int) : Prop :=
  ∀ (dp un : Nat) (gd : Option (List Code)) (cn : Str) (cs : Scope) (a : Addr) (ccd : Value) (cl : List (Str × Addr)) (outer : List Env) (A₀ : Around) (base h₀ : Heap) (L : Addr) (m : Str → Option Value) (s : Shared) (Q E : Value → Shared → Prop),
    Below A₀ base outer h₀ → Fr h₀ L s.heap m → K.In h₀ → News h₀ L s.heap news → Top p loose mean mg mb h₀ → cs.kind = .function →
    pre → dp + 20 < recursionLimit → un + 100 < cLine → MadeRet w h₀ L m news s Q x y →
      wpAny (model prog w) (ktrTop dp un gd cn cs L a ccd cl outer) (call (.ref f) vs) Q E s
local macro_rules | `(tactic| k_room) => `(tactic| first | ((try simp only [depth_under_make, depth_under_kw, depth_in1, depth_deeper, depth_caller]); decide) | ktr_room)
local macro_rules | `(tactic| k_units) => `(tactic| first | exact Nat.le_of_ble_eq_true rfl | ktr_units)
set_option maxRecDepth 100000 in
set_option maxHeartbeats 8000000 in
theorem parse_tells : Tag PySem.Challenge.rw_ey0012_01 → ∀ (w : World) (mean : ExcName → Option Value) (mg mb : Str → Option Value) (news : CbLed) (p : CbStr) (t1 : CbTok) (x y : Int),
  ParseClaim PySem.Challenge.rw_ey0012_01.row.prog w (hd.heap_39 w.params) hd.view_39 (looseW hd.view_39 [Str.ofString "_number_pattern_re"]) mean mg mb 71 news (p.length ≤ 1000 ∧ okRe p.cps = true ∧ grp p = (x, y) ∧ (Builtin.Str.occurrences p (Str.ofString ";") 0 p.length 1).isEmpty = true ∧ (Builtin.Str.occurrences p (Str.ofString "E") 0 p.length 1).isEmpty = true ∧ (Builtin.Str.occurrences p (Str.ofString "@") 0 p.length 1).isEmpty = true ∧ (Builtin.Str.occurrences p (Str.ofString ".") 0 p.length 1).isEmpty = true)
   [.str p t1] x y := by
  k_fill
  k_with_none
  w_top off
  dsimp only [ParseClaim, MadeRet]
  intro _ w mean mg mb news p t1 x y dp un gd cn cs a ccd cl outer A₀ base h₀ L m s Q E B F X N T hk hpre hd hu hret
  obtain ⟨hp1, hp2, hp3, hp4, hp5, hp6, hp7⟩ := hpre
  refine wpAny_call ?_
  k_dflt cell_enter
  k_steps
  all_goals (refine' made_ret (Q := Q) hret ?e1 ?e2 ?m1 ?m2 ?m3 ?m4; (case e1 => k_asm); (case e2 => k_asm); (case m1 => repeat' first | exact List.Mem.head _ | apply List.Mem.tail); (case m2 => repeat' first | exact List.Mem.head _ | apply List.Mem.tail); (case m3 => repeat' first | exact List.Mem.head _ | apply List.Mem.tail); (case m4 => (intro p9 hp9; repeat' first | exact hp9 | apply List.Mem.tail)))
end Mine
end PartC8

section PartC9
open PySem PySem.W PyProof.Rows
namespace Mine
abbrev ListRet (h₀ : Heap) (L : Addr) (m : Str → Option Value) (news : List (Addr × Obj)) (s : Shared) (Q : Value → Shared → Prop) (ns : List Int) : Prop :=
  ∀ (D : Addr) (ws : List Value) (h' : Heap) (tk' : Nat), Fr h₀ L h' m → News h₀ L h' ((D, LCg.lst ws) :: news) → IntsAre ws ns → ws.length = ns.length → Q (.ref D) { s with heap := h', toks := tk' }
abbrev ListClaim (prog : Program) (w : World) (K : Frag) (p : Program) (loose : List Str) (mean : ExcName → Option Value) (mg mb : Str → Option Value) (f : Addr) (news : List (Addr × Obj)) (pre : Prop) (vs : List Value) (ns : List Int) : Prop :=
  ∀ (dp un : Nat) (gd : Option (List Code)) (cn : Str) (cs : Scope) (a : Addr) (ccd : Value) (cl : List (Str × Addr)) (outer : List Env) (A₀ : Around) (base h₀ : Heap) (L : Addr) (m : Str → Option Value) (s : Shared) (Q E : Value → Shared → Prop),
    Below A₀ base outer h₀ → Fr h₀ L s.heap m → K.In h₀ → News h₀ L s.heap news → Top p loose mean mg mb h₀ → cs.kind = .function →
    pre → dp + 20 < recursionLimit → un + 100 < cLine → ListRet h₀ L m news s Q ns →
      wpAny (model prog w) (ktrTop dp un gd cn cs L a ccd cl outer) (call (.ref f) vs) Q E s
theorem drop_one {h₀ h : Heap} {L : Addr} {x y : Addr × Obj} {news : List (Addr × Obj)} (N : News h₀ L h (x :: y :: news)) : News h₀ L h (x :: news) := fun p hp => N p (by
  rcases List.mem_cons.mp hp with rfl | hp
  · exact List.mem_cons_self ..
  · exact List.mem_cons_of_mem _ (List.mem_cons_of_mem _ hp))
theorem list_ret {h₀ h' : Heap} {L : Addr} {m : Str → Option Value} {news : List (Addr × Obj)} {s : Shared} {Q : Value → Shared → Prop} {ns : List Int} (hret : ListRet h₀ L m news s Q ns)
    {D : Addr} {ws : List Value} {tk' : Nat} (F : Fr h₀ L h' m) (N : News h₀ L h' ((D, LCg.lst ws) :: news)) (i : IntsAre ws ns) (l : ws.length = ns.length) : Q (.ref D) { s with heap := h', toks := tk' } :=
  hret D ws h' tk' F N i l
local macro_rules | `(tactic| k_room) => `(tactic| first | ((try simp only [depth_under_make, depth_under_kw, depth_in1, depth_deeper, depth_caller]); decide) | ktr_room)
local macro_rules | `(tactic| k_units) => `(tactic| first | exact Nat.le_of_ble_eq_true rfl | ktr_units)

set_option maxRecDepth 100000 in
set_option maxHeartbeats 8000000 in
theorem groups_tells : Tag PySem.Challenge.rw_ey0012_01 → ∀ (w : World) (mean : ExcName → Option Value) (mg mb : Str → Option Value) (news : CbLed) (n : Int) (t1 : CbTok),
  ListClaim PySem.Challenge.rw_ey0012_01.row.prog w (hd.heap_39 w.params) hd.view_39 (looseW hd.view_39 [Str.ofString "_number_pattern_re"]) mean mg mb 134 news (0 ≤ n)
   [.int n t1] (groupsL n) := by
  k_fill
  k_with_none
  w_top off
  dsimp only [ListClaim, ListRet]
  intro _ w mean mg mb news n t1 dp un gd cn cs a ccd cl outer A₀ base h₀ L m s Q E B F X N T hk hpre hd hu hret
  refine wpAny_call ?_
  k_dflt (refine' code_defC ?k1 ?k2 ?k3 ?k4 ?k5 ?kA ?kF ?kK ?k6 ?k7 ?k8 ?k9 ?kB ?kD ?_ ?c2 ?c3 ?c4; (case kA => exact rfl); (case kF => exact rfl); (case kK => assumption); (case k1 => k_asm); (case k2 => k_asm); (case k3 => k_asm); (case k4 => k_asm); (case k5 => k_asm); (case k6 => k_is); (case k7 => k_is); (case k8 => ktr_room); (case k9 => exact BindsTo.of_eq rfl); (case kB => exact rfl); (case kD => decide +kernel); (case c2 => exact rfl); (case c3 => exact rfl); (case c4 => exact rfl); k_whole; intro g' L' h' tk' cells' FG' F' N' Y' B' X' T' l1; (try k_lt l1); k_cells Y'; (try simp only [List.cons_append, List.nil_append] at N'); (try dsimp only); (try k_lift B'); (try k_fold))
  k_steps
  all_goals (refine' list_ret (Q := Q) hret ?e2 ?e3 ?e4 ?e5; (case e2 => k_asm); (case e3 => exact drop_one (by assumption)); (case e4 => (rw [groupsL_def]; assumption)); (case e5 => (rw [groupsL_def]; assumption)))
end Mine
end PartC9

section PartC10
open PySem PySem.W PyProof.Rows
namespace Mine
local macro_rules | `(tactic| k_room) => `(tactic| first | ((try simp only [depth_under_make, depth_under_kw, depth_in1, depth_deeper, depth_caller]); decide) | ktr_room)
local macro_rules | `(tactic| k_units) => `(tactic| first | exact Nat.le_of_ble_eq_true rfl | ktr_units)
local macro_rules | `(tactic| walk_at "exec While Compare cons nil") => `(tactic| (k_here; k_dflt (k_extra "my while")))
abbrev MethClaim (prog : Program) (w : World) (K : Frag) (p : Program) (loose : List Str) (mean : ExcName → Option Value) (mg mb : Str → Option Value) (f : Addr) (X dx G : Addr) (od : Obj) (x y : Int) (g1 g2 : Tok) (c : Nat) (news : List (Addr × Obj)) (pre : Prop) (vs : List Value) (R : Tok → Value) : Prop :=
  ∀ (dp un : Nat) (gd : Option (List Code)) (cn : Str) (cs : Scope) (a : Addr) (ccd : Value) (cl : List (Str × Addr)) (outer : List Env) (A₀ : Around) (base h₀ : Heap) (L : Addr) (m : Str → Option Value) (s : Shared) (Q E : Value → Shared → Prop),
    Below A₀ base outer h₀ → Fr h₀ L s.heap m → K.In h₀ → News h₀ L s.heap news → (X, instObj 118 dx) ∈ news → (dx, od) ∈ news → (G, ({ cls := .type "tuple", data := .seq #[.int x g1, .int y g2] c } : Obj)) ∈ news → Top p loose mean mg mb h₀ → cs.kind = .function →
    pre → dp + 20 < recursionLimit → un + 100 < cLine → CbRet h₀ L m news s Q R →
      wpAny (model prog w) (ktrTop dp un gd cn cs L a ccd cl outer) (call (.ref f) vs) Q E s
theorem news_three {h₀ h : Heap} {L : Addr} {news : List (Addr × Obj)} {p q r : Addr × Obj} (N : News h₀ L h news) (m1 : p ∈ news) (m2 : q ∈ news) (m3 : r ∈ news) : News h₀ L h (p :: q :: r :: news) := fun z hz => by
  rcases List.mem_cons.mp hz with rfl | hz
  · exact N _ m1
  rcases List.mem_cons.mp hz with rfl | hz
  · exact N _ m2
  rcases List.mem_cons.mp hz with rfl | hz
  · exact N _ m3
  · exact N _ hz
theorem drop_three {h₀ h : Heap} {L : Addr} {x y z : Addr × Obj} {news : List (Addr × Obj)} (N : News h₀ L h (x :: y :: z :: news)) : News h₀ L h news := fun p hp => N p (List.mem_cons_of_mem _ (List.mem_cons_of_mem _ (List.mem_cons_of_mem _ hp)))
set_option maxRecDepth 100000 in
set_option maxHeartbeats 8000000 in
theorem fmt_tells : Tag PySem.Challenge.rw_ey0012_01 → ∀ (w : World) (mean : ExcName → Option Value) (mg mb : Str → Option Value) (news : CbLed) (X dx G : Addr) (k1 k2 k3 k4 k5 k6 k7 k8 k9 k10 : Tok) (v1 v2 v3 v4 v6 v7 v8 v9 v10 : Value) (n : Nat) (x y : Int) (g1 g2 : Tok) (c : Nat) (value : Str) (t1 : Tok) (mn : Int) (t2 : Tok) (mx : Int) (t3 : Tok) (symbol : Str) (t4 : Tok),
  MethClaim PySem.Challenge.rw_ey0012_01.row.prog w (hd.heap_39 w.params) hd.view_39 (looseW hd.view_39 [Str.ofString "_number_pattern_re"]) mean mg mb 107 X dx G (madeDict w G k1 k2 k3 k4 k5 k6 k7 k8 k9 k10 v1 v2 v3 v4 v6 v7 v8 v9 v10 n) x y g1 g2 c news (value.length ≤ 100 ∧ 0 ≤ mn ∧ mn ≤ 100 ∧ symbol.length ≤ 1 ∧ 1 ≤ x ∧ 1 ≤ y)
   [.ref X, .str value t1, .int mn t2, .int mx t3, .str symbol t4] (fun t => .str (parted (padT value mn) x y symbol) t) := by
  k_fill
  k_with_none
  w_top off
  dsimp only [MethClaim, CbRet]
  intro _ w mean mg mb news X dx G k1 k2 k3 k4 k5 k6 k7 k8 k9 k10 v1 v2 v3 v4 v6 v7 v8 v9 v10 n x y g1 g2 c value t1 mn t2 mx t3 symbol t4 dp un gd cn cs a ccd cl outer A₀ base h₀ L m s Q E B F X₀ N₀ m1 m2 m3 T hk hpre hd hu hret
  obtain ⟨hp1, hp2, hp3, hp4, hp5, hp6⟩ := hpre
  have N := news_three N₀ m1 m2 m3
  clear N₀ m1 m2 m3
  refine wpAny_call ?_
  k_dflt cell_enter
  k_with "my while" => k_while (fun (_ : List Int) value' ret gsize => goPart ret value' gsize y symbol = parted (padT value mn) x y symbol ∧ 1 ≤ gsize ∧ ret.length + 2 * value'.length ≤ 2000 ∧ symbol.length ≤ 1) (fun (_ : List Int) value' _ _ => value'.length) "value" "ret" "gsize"
  k_with "state" => with_reducible exact fmt_turn (by assumption) (by assumption) (by assumption) (by assumption) (by assumption) (by assumption)
  k_with "state" => with_reducible exact fmt_start1 (by assumption) (by assumption) (by assumption) (by assumption) (by assumption)
  k_with "state" => with_reducible exact fmt_start2 (by assumption) (by assumption) (by assumption) (by assumption)
  k_with "measure" => with_reducible exact fmt_less (by assumption) (by assumption)
  k_steps
  all_goals (refine' cb_retS (Q := Q) hret ?e1 ?e2 ?e3; (case e2 => k_asm); (case e3 => first | k_asm | exact drop_three (by assumption)); (case e1 => with_reducible exact part_stop (by assumption) (by assumption)))
end Mine
end PartC10

section PartC11
open PySem PySem.W PyProof.Rows
namespace Mine
local macro_rules | `(tactic| k_room) => `(tactic| first | ((try simp only [depth_under_make, depth_under_kw, depth_in1, depth_deeper, depth_caller]); decide) | ktr_room)
local macro_rules | `(tactic| k_units) => `(tactic| first | exact Nat.le_of_ble_eq_true rfl | ktr_units)
theorem int_dig {prog : Program} {w : World} {A : Around} {E : Value → Shared → Prop} {s : Shared} {Q : Value → Shared → Prop} {x : PySem.Str} {t : Tok} {k : Nat} (hd : DigT x k) (hk : k ≤ 640) (h : Q (.int (PySem.NumText.digitsVal x.cps.toList : Nat) s.toks) { s with toks := s.toks + 1 }) : wpAny (model prog w) A (call (.type "int") [.str x t]) Q E s :=
  KIN.call_text (PySem.intText_digits hd.dig (by intro e; have := hd.pos; rw [← toList_len, e] at this; exact absurd this (by decide)) (by have := hd.top; omega)) (by have := hd.top; omega) h
local macro_rules | `(tactic| walk_at "call type:int") => `(tactic| (k_here; (with_reducible show wpAny _ _ (call (Value.type "int") [Value.str _ _]) _ _ _); refine' int_dig ?k1 ?k2 ?_; (case k1 => first | assumption | exact dig_app (by assumption) (by omega)); (case k2 => decide); k_whole))
local macro_rules | `(tactic| walk_at "exec While BoolOp cons nil") => `(tactic| (k_here; k_dflt (k_extra "my while")))
set_option maxRecDepth 100000 in
set_option maxHeartbeats 8000000 in
theorem frc_tells : Tag PySem.Challenge.rw_ey0012_01 → ∀ (w : World) (mean : ExcName → Option Value) (mg mb : Str → Option Value) (news : CbLed) (X dx G : Addr) (od : Obj) (low most : Int) (g1 g2 : Tok) (value : Str) (t1 : Tok) (symbol : Str) (t4 : Tok),
  MethClaim PySem.Challenge.rw_ey0012_01.row.prog w (hd.heap_39 w.params) hd.view_39 (looseW hd.view_39 [Str.ofString "_number_pattern_re"]) mean mg mb 115 X dx G od low most g1 g2 0 news (DigT value 20 ∧ 0 ≤ low ∧ low ≤ 50 ∧ symbol.length ≤ 1)
   [.ref X, .str value t1, .str symbol t4, .ref G] (fun t => .str (fraction value low most symbol) t) := by
  k_fill
  k_with_none
  w_top off
  dsimp only [MethClaim, CbRet]
  intro _ w mean mg mb news X dx G od low most g1 g2 value t1 symbol t4 dp un gd cn cs a ccd cl outer A₀ base h₀ L m s Q E B F X₀ N₀ m1 m2 m3 T hk hpre hd hu hret
  obtain ⟨hp1, hp2, hp3, hp4⟩ := hpre
  have hp5 := hp1.pos
  have hp6 := hp1.top
  have N := news_three N₀ m1 m2 m3
  clear N₀ m1 m2 m3
  refine wpAny_call ?_
  k_dflt (refine' code_def ?k1 ?k2 ?k3 ?k4 ?k5 ?kA ?kF ?kK ?k6 ?k7 ?k8 ?k9 ?kB ?_ ?c2 ?c3 ?c4 ?c5; (case kA => exact rfl); (case kF => exact rfl); (case kK => assumption); (case k1 => k_asm); (case k2 => k_asm); (case k3 => k_asm); (case k4 => k_asm); (case k5 => k_asm); (case k6 => k_is); (case k7 => k_is); (case k8 => ktr_room); (case k9 => first | exact BindsTo.of_eq rfl | exact binds_K (by k_in) rfl (by k_is) rfl rfl rfl); (case c5 => decide); (case kB => exact locs rfl); (case c2 => exact rfl); (case c3 => exact rfl); (case c4 => exact rfl); k_whole; intro g' L' h' FG' F' N' B' X' T'; (try dsimp only); (try k_lift B'); (try k_fold))
  k_with "my while" => k_while (fun (_ : List Int) v => trimZ v low = trimZ (fractionT value low) low ∧ low ≤ v.length ∧ v.length ≤ 200) (fun (_ : List Int) v => v.length) "value"
  k_with "state" => with_reducible exact frc_start1 (by assumption) (by assumption)
  k_with "state" => with_reducible exact frc_start2 (by assumption) (by assumption)
  k_with "state" => with_reducible exact frc_turn (by assumption) (by assumption) (by assumption) (by assumption) (by assumption)
  k_with "measure" => with_reducible exact frc_less (by assumption) (by assumption)
  k_steps
  all_goals (refine' cb_retS (Q := Q) hret ?e1 ?e2 ?e3; (case e2 => k_asm); (case e3 => first | k_asm | exact drop_three (by assumption)); (case e1 => first
    | with_reducible exact frac1 (by assumption)
    | with_reducible exact frc_none (by assumption) (by assumption) (by assumption)
    | (exfalso; omega)
    | with_reducible exact frc_end (by assumption) (trim_stop1 (by assumption) (by assumption) (by assumption)) (by assumption) (Or.inl (by assumption))
    | with_reducible exact frc_end (by assumption) (trim_stop2 (by assumption) (by assumption) (by assumption)) (by assumption) (Or.inl (by assumption))
    | with_reducible exact frc_end (by assumption) (trim_stop1 (by assumption) (by assumption) (by assumption)) (by assumption) (frc_some (by assumption) (by assumption) (by assumption))
    | with_reducible exact frc_end (by assumption) (trim_stop2 (by assumption) (by assumption) (by assumption)) (by assumption) (frc_some (by assumption) (by assumption) (by assumption))))
end Mine
end PartC11

section PartW
open PySem PySem.W PyProof.Rows
namespace Mine
theorem cell_use {w : World} {mean : ExcName → Option Value} {mg mb : Str → Option Value} {news : CbLed} {l : Addr} {vs : List Value} {ns : List Int} {i : Int} {t1 : Tok} {dp un : Nat} {gd : Option (List Code)} {cn : Str} {cs : Scope} {a : Addr} {ccd : Value} {cl : List (Str × Addr)} {outer : List Env} {A₀ : Around} {base h₀ : Heap} {L : Addr} {m : Str → Option Value} {s : Shared} {Q E : Value → Shared → Prop}
    (k1 : Below A₀ base outer h₀) (k2 : Fr h₀ L s.heap m) (k3 : (hd.heap_39 w.params).In h₀) (k4 : News h₀ L s.heap news) (k5 : Top hd.view_39 (looseW hd.view_39 [Str.ofString "_number_pattern_re"]) mean mg mb h₀) (kK : cs.kind = .function) (hl : base.IsList l vs.toArray) (hi : IntsAre vs ns) (ht : ns.length < 2 ^ 62) (kp : 0 ≤ i ∧ i ≤ 100) (kd : dp + 1 < recursionLimit) (ku : un + 8 < cLine)
    (kR : ∀ (t : Tok) (h' : Heap) (tk' : Nat), Fr h₀ L h' m → News h₀ L h' news → Q (.int (cellV ns i) t) { s with heap := h', toks := tk' }) : wpAny (model PySem.Challenge.rw_ey0012_01.row.prog w) (ktrTop dp un gd cn cs L a ccd cl outer) (call (.ref 129) [.ref l, .int i t1]) Q E s :=
  cell_tells trivial w mean mg mb news l vs ns i t1  dp un gd cn cs a ccd cl outer A₀ base h₀ L m s Q E k1 k2 k3 k4 k5 kK hl hi ht kp kd ku kR
theorem groups_use {w : World} {mean : ExcName → Option Value} {mg mb : Str → Option Value} {news : CbLed} {n : Int} {t1 : Tok} {dp un : Nat} {gd : Option (List Code)} {cn : Str} {cs : Scope} {a : Addr} {ccd : Value} {cl : List (Str × Addr)} {outer : List Env} {A₀ : Around} {base h₀ : Heap} {L : Addr} {m : Str → Option Value} {s : Shared} {Q E : Value → Shared → Prop}
    (k1 : Below A₀ base outer h₀) (k2 : Fr h₀ L s.heap m) (k3 : (hd.heap_39 w.params).In h₀) (k4 : News h₀ L s.heap news) (k5 : Top hd.view_39 (looseW hd.view_39 [Str.ofString "_number_pattern_re"]) mean mg mb h₀) (kK : cs.kind = .function) (kp : 0 ≤ n) (kd : dp + 20 < recursionLimit) (ku : un + 100 < cLine)
    (kR : ∀ (D : Addr) (ws : List Value) (h' : Heap) (tk' : Nat), Fr h₀ L h' m → News h₀ L h' ((D, LCg.lst ws) :: news) → IntsAre ws (groupsL n) → ws.length = (groupsL n).length → (1 ≤ (groupsL n).length ∧ (groupsL n).length ≤ 4) → Q (.ref D) { s with heap := h', toks := tk' }) : wpAny (model PySem.Challenge.rw_ey0012_01.row.prog w) (ktrTop dp un gd cn cs L a ccd cl outer) (call (.ref 134) [.int n t1]) Q E s :=
  groups_tells trivial w mean mg mb news n t1  dp un gd cn cs a ccd cl outer A₀ base h₀ L m s Q E k1 k2 k3 k4 k5 kK kp kd ku (fun D ws h' tk' F N i l => kR D ws h' tk' F N i l (groups_len n))
theorem parse_use {w : World} {mean : ExcName → Option Value} {mg mb : Str → Option Value} {news : CbLed} {p : Str} {t1 : Tok} {x : Int} {y : Int} {dp un : Nat} {gd : Option (List Code)} {cn : Str} {cs : Scope} {a : Addr} {ccd : Value} {cl : List (Str × Addr)} {outer : List Env} {A₀ : Around} {base h₀ : Heap} {L : Addr} {m : Str → Option Value} {s : Shared} {Q E : Value → Shared → Prop}
    (k1 : Below A₀ base outer h₀) (k2 : Fr h₀ L s.heap m) (k3 : (hd.heap_39 w.params).In h₀) (k4 : News h₀ L s.heap news) (k5 : Top hd.view_39 (looseW hd.view_39 [Str.ofString "_number_pattern_re"]) mean mg mb h₀) (kK : cs.kind = .function) (kp : p.length ≤ 1000 ∧ okRe p.cps = true ∧ grp p = (x, y) ∧ (Builtin.Str.occurrences p (Str.ofString ";") 0 p.length 1).isEmpty = true ∧ (Builtin.Str.occurrences p (Str.ofString "E") 0 p.length 1).isEmpty = true ∧ (Builtin.Str.occurrences p (Str.ofString "@") 0 p.length 1).isEmpty = true ∧ (Builtin.Str.occurrences p (Str.ofString ".") 0 p.length 1).isEmpty = true) (kd : dp + 20 < recursionLimit) (ku : un + 100 < cLine)
    (kR : MadeRet w h₀ L m news s Q x y) : wpAny (model PySem.Challenge.rw_ey0012_01.row.prog w) (ktrTop dp un gd cn cs L a ccd cl outer) (call (.ref 71) [.str p t1]) Q E s :=
  parse_tells trivial w mean mg mb news p t1 x y  dp un gd cn cs a ccd cl outer A₀ base h₀ L m s Q E k1 k2 k3 k4 k5 kK kp kd ku kR
theorem parted_use {w : World} {mean : ExcName → Option Value} {mg mb : Str → Option Value} {news : CbLed} {digits : Str} {t1 : Tok} {first : Int} {t2 : Tok} {second : Int} {t3 : Tok} {sign : Str} {t4 : Tok} {dp un : Nat} {gd : Option (List Code)} {cn : Str} {cs : Scope} {a : Addr} {ccd : Value} {cl : List (Str × Addr)} {outer : List Env} {A₀ : Around} {base h₀ : Heap} {L : Addr} {m : Str → Option Value} {s : Shared} {Q E : Value → Shared → Prop}
    (k1 : Below A₀ base outer h₀) (k2 : Fr h₀ L s.heap m) (k3 : (hd.heap_39 w.params).In h₀) (k4 : News h₀ L s.heap news) (k5 : Top hd.view_39 (looseW hd.view_39 [Str.ofString "_number_pattern_re"]) mean mg mb h₀) (kK : cs.kind = .function) (kp : 1 ≤ first ∧ 1 ≤ second ∧ digits.length ≤ 1000 ∧ sign.length ≤ 1) (kd : dp + 1 < recursionLimit) (ku : un + 8 < cLine)
    (kR : ∀ (t : Tok) (h' : Heap) (tk' : Nat), Fr h₀ L h' m → News h₀ L h' news → Q (.str (parted digits first second sign) t) { s with heap := h', toks := tk' }) : wpAny (model PySem.Challenge.rw_ey0012_01.row.prog w) (ktrTop dp un gd cn cs L a ccd cl outer) (call (.ref 141) [.str digits t1, .int first t2, .int second t3, .str sign t4]) Q E s :=
  parted_tells trivial w mean mg mb news digits t1 first t2 second t3 sign t4  dp un gd cn cs a ccd cl outer A₀ base h₀ L m s Q E k1 k2 k3 k4 k5 kK kp kd ku kR
theorem fraction_use {w : World} {mean : ExcName → Option Value} {mg mb : Str → Option Value} {news : CbLed} {digits : Str} {t1 : Tok} {least : Int} {t2 : Tok} {most : Int} {t3 : Tok} {sign : Str} {t4 : Tok} {dp un : Nat} {gd : Option (List Code)} {cn : Str} {cs : Scope} {a : Addr} {ccd : Value} {cl : List (Str × Addr)} {outer : List Env} {A₀ : Around} {base h₀ : Heap} {L : Addr} {m : Str → Option Value} {s : Shared} {Q E : Value → Shared → Prop}
    (k1 : Below A₀ base outer h₀) (k2 : Fr h₀ L s.heap m) (k3 : (hd.heap_39 w.params).In h₀) (k4 : News h₀ L s.heap news) (k5 : Top hd.view_39 (looseW hd.view_39 [Str.ofString "_number_pattern_re"]) mean mg mb h₀) (kK : cs.kind = .function) (kp : 0 ≤ least ∧ least ≤ 100 ∧ digits.length ≤ 1000 ∧ sign.length ≤ 1) (kd : dp + 1 < recursionLimit) (ku : un + 8 < cLine)
    (kR : ∀ (t : Tok) (h' : Heap) (tk' : Nat), Fr h₀ L h' m → News h₀ L h' news → Q (.str (fraction digits least most sign) t) { s with heap := h', toks := tk' }) : wpAny (model PySem.Challenge.rw_ey0012_01.row.prog w) (ktrTop dp un gd cn cs L a ccd cl outer) (call (.ref 148) [.str digits t1, .int least t2, .int most t3, .str sign t4]) Q E s :=
  fraction_tells trivial w mean mg mb news digits t1 least t2 most t3 sign t4  dp un gd cn cs a ccd cl outer A₀ base h₀ L m s Q E k1 k2 k3 k4 k5 kK kp kd ku kR
theorem bare_use {w : World} {mean : ExcName → Option Value} {mg mb : Str → Option Value} {news : CbLed} {x : Str} {t1 : Tok} {p : Str} {t2 : Tok} {dp un : Nat} {gd : Option (List Code)} {cn : Str} {cs : Scope} {a : Addr} {ccd : Value} {cl : List (Str × Addr)} {outer : List Env} {A₀ : Around} {base h₀ : Heap} {L : Addr} {m : Str → Option Value} {s : Shared} {Q E : Value → Shared → Prop}
    (k1 : Below A₀ base outer h₀) (k2 : Fr h₀ L s.heap m) (k3 : (hd.heap_39 w.params).In h₀) (k4 : News h₀ L s.heap news) (k5 : Top hd.view_39 (looseW hd.view_39 [Str.ofString "_number_pattern_re"]) mean mg mb h₀) (kK : cs.kind = .function) (kp : x.length ≤ 1000 ∧ p.length = 1) (kd : dp + 1 < recursionLimit) (ku : un + 8 < cLine)
    (kR : ∀ (t : Tok) (h' : Heap) (tk' : Nat), Fr h₀ L h' m → News h₀ L h' news → Q (.str (bare x p) t) { s with heap := h', toks := tk' }) : wpAny (model PySem.Challenge.rw_ey0012_01.row.prog w) (ktrTop dp un gd cn cs L a ccd cl outer) (call (.ref 38) [.str x t1, .str p t2]) Q E s :=
  bare_tells trivial w mean mg mb news x t1 p t2  dp un gd cn cs a ccd cl outer A₀ base h₀ L m s Q E k1 k2 k3 k4 k5 kK kp kd ku kR

theorem join_pat {prog : Program} {w : World} {A : Around} {E : Value → Shared → Prop} {s : Shared} {t : Tok} {Q : Value → Shared → Prop} {D : Addr} {ys : List Value} {n : Int} (hl : s.heap.IsList D ys.toArray) (hc : CarriedAll ys ((groupsL n).reverse.map fun a => PyData.str (Txt.mul (Str.ofString "#") a)))
    (h : ∀ t' k, Q (.str (patL n) t') { s with toks := k }) : wpAny (model prog w) A (call (.builtin "str.join") [.str (Str.ofString ",") t, .ref D]) Q E s := by
  refine KT.join_B 4 hl hc (fun a ha => hash_len (groups_rev ha).1 (groups_rev ha).2) ?_ (by decide) ?_
  · have := (groups_len n).2
    rw [List.length_reverse]; omega
  · intro t' k
    rw [← patL_def]
    exact h t' k

theorem fmt_use {w : World} {mean : ExcName → Option Value} {mg mb : Str → Option Value} {news : CbLed} {X dx G : Addr} {k1 k2 k3 k4 k5 k6 k7 k8 k9 k10 : Tok} {v1 v2 v3 v4 v6 v7 v8 v9 v10 : Value} {n : Nat} {x y : Int} {g1 g2 : Tok} {c : Nat} {value : Str} {t1 : Tok} {mn : Int} {t2 : Tok} {mx : Int} {t3 : Tok} {symbol : Str} {t4 : Tok} {dp un : Nat} {gd : Option (List Code)} {cn : Str} {cs : Scope} {a : Addr} {ccd : Value} {cl : List (Str × Addr)} {outer : List Env} {A₀ : Around} {base h₀ : Heap} {L : Addr} {m : Str → Option Value} {s : Shared} {Q E : Value → Shared → Prop} (q1 : Below A₀ base outer h₀) (q2 : Fr h₀ L s.heap m) (q3 : (hd.heap_39 w.params).In h₀) (q4 : News h₀ L s.heap news) (m1 : (X, instObj 118 dx) ∈ news) (m2 : (dx, madeDict w G k1 k2 k3 k4 k5 k6 k7 k8 k9 k10 v1 v2 v3 v4 v6 v7 v8 v9 v10 n) ∈ news) (m3 : (G, ({ cls := .type "tuple", data := .seq #[.int x g1, .int y g2] c } : Obj)) ∈ news) (q5 : Top hd.view_39 (looseW hd.view_39 [Str.ofString "_number_pattern_re"]) mean mg mb h₀) (kK : cs.kind = .function) (kp : value.length ≤ 100 ∧ 0 ≤ mn ∧ mn ≤ 100 ∧ symbol.length ≤ 1 ∧ 1 ≤ x ∧ 1 ≤ y) (kd : dp + 20 < recursionLimit) (ku : un + 100 < cLine)
   (kR : ∀ (t : Tok) (h' : Heap) (tk' : Nat), Fr h₀ L h' m → News h₀ L h' news → Q (.str (parted (Txt.mul (Str.ofString "0") (mn - value.length) ++ value) x y symbol) t) { s with heap := h', toks := tk' }) : wpAny (model PySem.Challenge.rw_ey0012_01.row.prog w) (ktrTop dp un gd cn cs L a ccd cl outer) (call (.ref 107) [.ref X, .str value t1, .int mn t2, .int mx t3, .str symbol t4]) Q E s :=
  fmt_tells trivial w mean mg mb news X dx G k1 k2 k3 k4 k5 k6 k7 k8 k9 k10 v1 v2 v3 v4 v6 v7 v8 v9 v10 n x y g1 g2 c value t1 mn t2 mx t3 symbol t4 dp un gd cn cs a ccd cl outer A₀ base h₀ L m s Q E q1 q2 q3 q4 m1 m2 m3 q5 kK kp kd ku (by rw [padT_eq]; exact kR)
theorem frc_use {w : World} {mean : ExcName → Option Value} {mg mb : Str → Option Value} {news : CbLed} {X dx G : Addr} {od : Obj} {low most : Int} {g1 g2 : Tok} {value : Str} {t1 : Tok} {symbol : Str} {t4 : Tok} {dp un : Nat} {gd : Option (List Code)} {cn : Str} {cs : Scope} {a : Addr} {ccd : Value} {cl : List (Str × Addr)} {outer : List Env} {A₀ : Around} {base h₀ : Heap} {L : Addr} {m : Str → Option Value} {s : Shared} {Q E : Value → Shared → Prop} (q1 : Below A₀ base outer h₀) (q2 : Fr h₀ L s.heap m) (q3 : (hd.heap_39 w.params).In h₀) (q4 : News h₀ L s.heap news) (m1 : (X, instObj 118 dx) ∈ news) (m2 : (dx, od) ∈ news) (m3 : (G, ({ cls := .type "tuple", data := .seq #[.int low g1, .int most g2] } : Obj)) ∈ news) (q5 : Top hd.view_39 (looseW hd.view_39 [Str.ofString "_number_pattern_re"]) mean mg mb h₀) (kK : cs.kind = .function) (kp : DigT value 20 ∧ 0 ≤ low ∧ low ≤ 50 ∧ symbol.length ≤ 1) (kd : dp + 20 < recursionLimit) (ku : un + 100 < cLine)
   (kR : ∀ (t : Tok) (h' : Heap) (tk' : Nat), Fr h₀ L h' m → News h₀ L h' news → Q (.str (fraction value low most symbol) t) { s with heap := h', toks := tk' }) : wpAny (model PySem.Challenge.rw_ey0012_01.row.prog w) (ktrTop dp un gd cn cs L a ccd cl outer) (call (.ref 115) [.ref X, .str value t1, .str symbol t4, .ref G]) Q E s :=
  frc_tells trivial w mean mg mb news X dx G od low most g1 g2 value t1 symbol t4 dp un gd cn cs a ccd cl outer A₀ base h₀ L m s Q E q1 q2 q3 q4 m1 m2 m3 q5 kK kp kd ku kR

structure SignTok (t n : Nat) : Prop where
  lo : 1 ≤ t
  hi : t + 1 ≤ n
theorem SignTok.mono {t n k : Nat} (h : SignTok t n) (hk : n ≤ k) : SignTok t k := ⟨h.lo, Nat.le_trans h.hi hk⟩
def TokS {α : Type} (t : Nat) (Q : α → Shared → Prop) (a : α) (s' : Shared) : Prop := SignTok t s'.toks → Q a s'
theorem toks_sign {α : Type} {M : Model} {A : Around} {tr : Sem α} {Q : α → Shared → Prop} {E : Value → Shared → Prop} {s : Shared} {t : Nat} (h0 : SignTok t s.toks) (h : wpAny M A tr (TokS t Q) E s) : wpAny M A tr Q E s :=
  toks_ge (t + 1) h0.hi (wpAny_mono h (fun _ _ hq hn => hq ⟨h0.lo, hn⟩) fun _ _ h => h)
theorem gen_sign {t X : Nat} {α : Type} {M : Model} {A : Around} {tr : Sem α} {Q : α → Shared → Prop} {E : Value → Shared → Prop} {h : Heap} {g : Array GenState} {d : Drawn} {o : OsState}
    (H : ∀ tk, SignTok t tk → wpAny M A tr Q E ⟨h, g, d, tk, o⟩) : SignTok t X → wpAny M A tr Q E ⟨h, g, d, X, o⟩ := H X
theorem no_regen {t : Nat} {α : Type} {M : Model} {A : Around} {tr : Sem α} {Q : α → Shared → Prop} {E : Value → Shared → Prop} {s : Shared} (_h : SignTok t s.toks) (H : wpAny M A tr Q E s) : wpAny M A tr Q E s := H
theorem regen_sign {t n X : Nat} {α : Type} {M : Model} {A : Around} {tr : Sem α} {Q : α → Shared → Prop} {E : Value → Shared → Prop} {h : Heap} {g : Array GenState} {d : Drawn} {o : OsState}
    (hS : SignTok t n) (hle : n ≤ X) (H : ∀ tk, SignTok t tk → wpAny M A tr Q E ⟨h, g, d, tk, o⟩) : wpAny M A tr Q E ⟨h, g, d, X, o⟩ := H X (hS.mono hle)
theorem gen_ge {n X : Nat} {α : Type} {M : Model} {A : Around} {tr : Sem α} {Q : α → Shared → Prop} {E : Value → Shared → Prop} {h : Heap} {g : Array GenState} {d : Drawn} {o : OsState}
    (H : ∀ tk, n ≤ tk → wpAny M A tr Q E ⟨h, g, d, tk, o⟩) : n ≤ X → wpAny M A tr Q E ⟨h, g, d, X, o⟩ := H X
theorem sign_item {A : Around} {E : Value → Shared → Prop} {s : Shared} {h₀ : Heap} {L : Addr} {news : List (Addr × Obj)} {value slice : PySem.Expr} {l : Addr} {a b c d k : Nat} {v : Int} {u : Tok} {Q : Value → Shared → Prop} {prog : Program} {w : World}
    (N : News h₀ L s.heap news) (hm : (l, W.listOf #[.str (Str.ofString ",") a, .str (Str.ofString ".") b, .str (Str.ofString " ") c, .str (Str.ofString "'") d] k) ∈ news)
    (ha : SignTok a s.toks) (hb : SignTok b s.toks) (hc : SignTok c s.toks) (hd : SignTok d s.toks)
    (h : ∀ t, SignTok t s.toks → Q (.str (([Str.ofString ",", Str.ofString ".", Str.ofString " ", Str.ofString "'"] : List Str).getD (v.fmod 4).toNat Str.empty) t) s)
    (hs : subscripted slice false (.ref l) (.int (v.fmod 4) u) = operate [.ref l, .int (v.fmod 4) u] (getItem (.ref l) (.int (v.fmod 4) u)) := by with_unfolding_all rfl) :
    wpAny (model prog w) A (subscriptTail value slice (.ref l) (.int (v.fmod 4) u)) Q E s := by
  have hl : s.heap.IsList l #[.str (Str.ofString ",") a, .str (Str.ofString ".") b, .str (Str.ofString " ") c, .str (Str.ofString "'") d] := News.isList N hm
  have h0 := fmod_lo v (n := 4) (by decide)
  have h1 := fmod_hi v (n := 4) (by decide)
  generalize v.fmod 4 = i at *
  have hi : i = 0 ∨ i = 1 ∨ i = 2 ∨ i = 3 := by omega
  rcases hi with rfl | rfl | rfl | rfl
  · exact tail_any hl.typeIs slot_list_getitem.lookup (wpAny_getItem_list hl (by decide) (by decide) rfl (h a ha)) hs
  · exact tail_any hl.typeIs slot_list_getitem.lookup (wpAny_getItem_list hl (by decide) (by decide) rfl (h b hb)) hs
  · exact tail_any hl.typeIs slot_list_getitem.lookup (wpAny_getItem_list hl (by decide) (by decide) rfl (h c hc)) hs
  · exact tail_any hl.typeIs slot_list_getitem.lookup (wpAny_getItem_list hl (by decide) (by decide) rfl (h d hd)) hs
theorem call_replace {prog : Program} {w : World} {A : Around} {E : Value → Shared → Prop} {s : Shared} {t u z : Tok} {Q : Value → Shared → Prop} {v v4 : Int} {d : Str} {x y : Int} (hS : SignTok u z) (hd : DigT d 9) (hv : v ≤ 100)
    (h : ∀ t' k, Q (.str (Txt.mul (Str.ofString "0") v ++ d) t') { s with toks := k }) :
    wpAny (model prog w) A (call (.builtin "str.replace") [.str (parted (Txt.mul (Str.ofString "0") v ++ d) x y (([Str.ofString ",", Str.ofString ".", Str.ofString " ", Str.ofString "'"] : List Str).getD (v4.fmod 4).toNat Str.empty)) t, .str (([Str.ofString ",", Str.ofString ".", Str.ofString " ", Str.ofString "'"] : List Str).getD (v4.fmod 4).toNat Str.empty) u, .str (Str.ofString "") z]) Q E s := by
  have h1 := hS.lo
  have h2 := hS.hi
  have e0 : (Str.ofString "").length = 0 := rfl
  refine SC.replaceW (show @Ne Nat u 0 by omega) (show @Ne Nat z 0 by omega) (show @Ne Nat u z by omega) ?_ ?_ (by rw [e0]; decide) fun t' k => ?_
  · obtain ⟨c, e, _⟩ := sign_char (fmod_nat (v := v4) (n := 4) (by decide))
    rw [show ((4 : Nat) : Int) = 4 from rfl] at e
    rw [e]
    have e1 : (Str.ofString "") = ⟨#[]⟩ := rfl
    rw [e1]
    cases hh : ((⟨#[c]⟩ : Str) == ⟨#[]⟩)
    · rfl
    · have := congrArg Str.length (eq_of_beq hh)
      simp [Str.length] at this
  · have := parted_len (P := Txt.mul (Str.ofString "0") v ++ d) (x := x) (y := y) (sign_le (v4.fmod 4).toNat)
    rw [Str.length_append, zeros_nat] at this
    have := hd.top
    omega
  · rw [replace_law hd]
    exact h t' k
theorem add_tail {prog : Program} {w : World} {A : Around} {E : Value → Shared → Prop} {s : Shared} {t u : Tok} {Q : Value → Shared → Prop} {v : Int} {d : Str} (hd : DigT d 6)
    (h : ∀ z t' k, DigT z 20 → Q (.str z t') { s with toks := k }) : wpAny (model prog w) A (binaryOp .Add (.str d t) (.str (Txt.mul (Str.ofString "0") (v.fmod 4)) u)) Q E s := by
  have h1 := fmod_hi v (n := 4) (by decide)
  refine KXadd.add (K := 6) (L := 4) hd.top (by rw [zeros_nat]; omega) (by decide) fun t' k _ => h _ t' k (dig4 hd)
theorem cmp_due {prog : Program} {w : World} {A : Around} {E : Value → Shared → Prop} {s : Shared} {t u : Tok} {Q : Value → Shared → Prop} {x y : Str} (e : x = y) (h : Q (.bool true) s) : wpAny (model prog w) A (compareOp .Eq (.str x t) (.str y u)) Q E s := by
  subst e
  refine eq_str ?_
  rw [beq_self_eq_true]
  exact h
def CutEnd (h₀ : Heap) (L : Addr) (m : Str → Option Value) (news : List (Addr × Obj)) (s : Shared) (x : Int) (v : Value) (s' : Shared) : Prop := ∃ t h' tk', v = .int x t ∧ s' = { s with heap := h', toks := tk' } ∧ Fr h₀ L h' m ∧ News h₀ L h' news
theorem cut_end {h₀ h' : Heap} {L : Addr} {m : Str → Option Value} {news : List (Addr × Obj)} {s : Shared} {x y : Int} {t : Tok} {tk' : Nat} (e : y = x) (F : Fr h₀ L h' m) (N : News h₀ L h' news) : CutEnd h₀ L m news s x (.int y t) { s with heap := h', toks := tk' } := by
  subst e
  exact ⟨t, h', tk', rfl, rfl, F, N⟩
theorem cut_int {M : Model} {A : Around} {E Q : Value → Shared → Prop} {s : Shared} {h₀ : Heap} {L : Addr} {m : Str → Option Value} {news : List (Addr × Obj)} {tr : Sem Value} {x : Int} (h1 : wpAny M A tr (CutEnd h₀ L m news s x) E s)
    (h2 : ∀ t h' tk', Fr h₀ L h' m → News h₀ L h' news → Q (.int x t) { s with heap := h', toks := tk' }) : wpAny M A tr Q E s := by
  refine wpAny_mono h1 (fun v s' h => ?_) fun _ _ h => h
  obtain ⟨t, h', tk', rfl, rfl, F, N⟩ := h
  exact h2 t h' tk' F N
theorem cut_first {M : Model} {A : Around} {E Q : Value → Shared → Prop} {s : Shared} {h₀ : Heap} {L : Addr} {m : Str → Option Value} {news : List (Addr × Obj)} {tr : Sem Value} {n : Int} (_hg : 1 ≤ (groupsL n).length ∧ (groupsL n).length ≤ 4) (_F : Fr h₀ L s.heap m) (_N : News h₀ L s.heap news) (h1 : wpAny M A tr (CutEnd h₀ L m news s (firstV n)) E s)
    (h2 : ∀ t h' tk', Fr h₀ L h' m → News h₀ L h' news → Q (.int (firstV n) t) { s with heap := h', toks := tk' }) : wpAny M A tr Q E s := cut_int h1 h2
theorem cut_second {M : Model} {A : Around} {E Q : Value → Shared → Prop} {s : Shared} {h₀ : Heap} {L : Addr} {m : Str → Option Value} {news : List (Addr × Obj)} {tr : Sem Value} {n : Int} (_hg : 1 ≤ (groupsL n).length ∧ (groupsL n).length ≤ 4) (_F : Fr h₀ L s.heap m) (_N : News h₀ L s.heap news) (h1 : wpAny M A tr (CutEnd h₀ L m news s (secondV n)) E s)
    (h2 : ∀ t h' tk', Fr h₀ L h' m → News h₀ L h' news → Q (.int (secondV n) t) { s with heap := h', toks := tk' }) : wpAny M A tr Q E s := cut_int h1 h2
theorem first1 {n : Int} (h : 1 < ((groupsL n).length : Int)) : (groupsL n).getD (Int.toNat 0) 0 = firstV n := by unfold firstV; rw [if_pos h]
theorem first2 {n : Int} (h : ¬ 1 < ((groupsL n).length : Int)) : 1000 = firstV n := by unfold firstV; rw [if_neg h]
theorem second1 {n : Int} (h : 2 < ((groupsL n).length : Int)) : (groupsL n).getD (Int.toNat 1) 0 = secondV n := by unfold secondV; rw [if_pos h]
theorem second2 {n : Int} (h : ¬ 2 < ((groupsL n).length : Int)) : firstV n = secondV n := by unfold secondV; rw [if_neg h]
theorem partedS_use {w : World} {mean : ExcName → Option Value} {mg mb : Str → Option Value} {news : CbLed} {digits : Str} {t1 : Tok} {first : Int} {t2 : Tok} {second : Int} {t3 : Tok} {sign : Str} {t4 : Tok} {dp un : Nat} {gd : Option (List Code)} {cn : Str} {cs : Scope} {a : Addr} {ccd : Value} {cl : List (Str × Addr)} {outer : List Env} {A₀ : Around} {base h₀ : Heap} {L : Addr} {m : Str → Option Value} {s : Shared} {Q E : Value → Shared → Prop} {tt : Nat} (hS : SignTok tt s.toks)
    (k1 : Below A₀ base outer h₀) (k2 : Fr h₀ L s.heap m) (k3 : (hd.heap_39 w.params).In h₀) (k4 : News h₀ L s.heap news) (k5 : Top hd.view_39 (looseW hd.view_39 [Str.ofString "_number_pattern_re"]) mean mg mb h₀) (kK : cs.kind = .function) (kp : 1 ≤ first ∧ 1 ≤ second ∧ digits.length ≤ 1000 ∧ sign.length ≤ 1) (kd : dp + 1 < recursionLimit) (ku : un + 8 < cLine)
    (kR : ∀ (t : Tok) (h' : Heap) (tk' : Nat), SignTok tt tk' → Fr h₀ L h' m → News h₀ L h' news → Q (.str (parted digits first second sign) t) { s with heap := h', toks := tk' }) : wpAny (model PySem.Challenge.rw_ey0012_01.row.prog w) (ktrTop dp un gd cn cs L a ccd cl outer) (call (.ref 141) [.str digits t1, .int first t2, .int second t3, .str sign t4]) Q E s :=
  toks_sign hS (parted_use k1 k2 k3 k4 k5 kK kp kd ku fun t h' tk' F N hs => kR t h' tk' hs F N)

theorem str_nine {prog : Program} {w : World} {A : Around} {E : Value → Shared → Prop} {s : Shared} {t : Tok} {Q : Value → Shared → Prop} {v : Int}
    (h : ∀ d t' k, DigT d 9 → Q (.str d t') { s with toks := k }) : wpAny (model prog w) A (call (.type "str") [.int (v.fmod (10 ^ Int.toNat 9)) t]) Q E s := by
  have e : (10 : Int) ^ Int.toNat 9 = 1000000000 := by decide
  rw [e]
  have h0 := fmod_lo v (n := 1000000000) (by decide)
  have h1 := fmod_hi v (n := 1000000000) (by decide)
  refine P.str_of_int (shown (N := 2 ^ 1920) (by omega) (by omega) (Int.le_refl _)) ?_
  exact h _ _ _ (digT_of h0 (by decide) (by omega))
theorem str_six {prog : Program} {w : World} {A : Around} {E : Value → Shared → Prop} {s : Shared} {t : Tok} {Q : Value → Shared → Prop} {v : Int}
    (h : ∀ d t' k, DigT d 6 → Q (.str d t') { s with toks := k }) : wpAny (model prog w) A (call (.type "str") [.int (v.fmod (10 ^ Int.toNat 6)) t]) Q E s := by
  have e : (10 : Int) ^ Int.toNat 6 = 1000000 := by decide
  rw [e]
  have h0 := fmod_lo v (n := 1000000) (by decide)
  have h1 := fmod_hi v (n := 1000000) (by decide)
  refine P.str_of_int (shown (N := 2 ^ 1920) (by omega) (by omega) (Int.le_refl _)) ?_
  exact h _ _ _ (digT_of h0 (by decide) (by omega))
end Mine
end PartW

section PartZ
open PySem PySem.W PyProof.Rows Mine
local macro_rules | `(tactic| walk_at "call ref") => `(tactic| (k_here; (with_reducible show wpAny _ _ (call (Value.ref 107) _) _ _ _); k_dflt (refine' fmt_use ?k1 ?k2 ?k3 ?k4 ?m1 ?m2 ?m3 ?k5 ?kK ?kp ?kd ?ku ?_); (case k1 => k_asm); (case k2 => k_asm); (case k3 => k_asm); (case k4 => k_asm); (case m1 => k_dflt (repeat' first | exact List.Mem.head _ | apply List.Mem.tail)); (case m2 => k_dflt (repeat' first | exact List.Mem.head _ | apply List.Mem.tail)); (case m3 => k_dflt (repeat' first | exact List.Mem.head _ | apply List.Mem.tail)); (case k5 => k_asm); (case kK => first | exact rfl | assumption); (case kp => k_dflt (refine ⟨?_, ?_, ?_, ?_, ?_, ?_⟩ <;> (first | assumption | omega | exact sign_le _ | exact (first_b _).1 | exact (second_b _).1 | exact fmod_lo _ (by decide) | (refine Int.le_trans (Int.le_of_lt (fmod_hi _ (by decide))) (by decide))))); (case kd => k_dflt ktr_room); (case ku => k_dflt ktr_units); intro t' h' tk' F' N'; (try dsimp only); (try k_fold)))
local macro_rules | `(tactic| walk_at "call ref") => `(tactic| (k_here; (with_reducible show wpAny _ _ (call (Value.ref 115) _) _ _ _); k_dflt (refine' frc_use ?k1 ?k2 ?k3 ?k4 ?m1 ?m2 ?m3 ?k5 ?kK ?kp ?kd ?ku ?_); (case k1 => k_asm); (case k2 => k_asm); (case k3 => k_asm); (case k4 => k_asm); (case m1 => k_dflt (repeat' first | exact List.Mem.head _ | apply List.Mem.tail)); (case m2 => k_dflt (repeat' first | exact List.Mem.head _ | apply List.Mem.tail)); (case m3 => k_dflt (repeat' first | exact List.Mem.head _ | apply List.Mem.tail)); (case k5 => k_asm); (case kK => first | exact rfl | assumption); (case kp => k_dflt (refine ⟨?_, ?_, ?_, ?_⟩ <;> (first | assumption | omega | exact point_le _ | exact fmod_lo _ (by decide) | (refine Int.le_trans (Int.le_of_lt (fmod_hi _ (by decide))) (by decide))))); (case kd => k_dflt ktr_room); (case ku => k_dflt ktr_units); intro t' h' tk' F' N'; (try dsimp only); (try k_fold)))
local macro_rules | `(tactic| walk_at "binaryOp Add str str") => `(tactic| (k_here; (with_reducible show wpAny _ _ (binaryOp _ (Value.str _ _) (Value.str (Txt.mul _ _) _)) _ _ _); k_dflt (refine add_tail (by assumption) ?_); intro z' t' k' hdig'; (have hdp' := hdig'.pos); (have hdt' := hdig'.top)))
local macro_rules | `(tactic| walk_at "compareOp Eq str str") => `(tactic| (k_here; (with_reducible show wpAny _ _ (compareOp _ (Value.str (bare _ _) _) (Value.str _ _)) _ _ _); refine' cmp_due ?e ?_; (case e => first | with_reducible exact due_some' (by assumption) (by assumption) (by assumption) | with_reducible exact due_none' (by assumption) (by assumption) (by assumption) | with_reducible exact due_some (by assumption) (by assumption) (by assumption) | with_reducible exact due_none (by assumption) (by assumption) (by assumption)); k_whole))
local macro_rules | `(tactic| walk_at "eval BinOp Call Mod Constant") => `(tactic| (k_here; goal_lacks Mine.TokQ; (with_reducible show wpAny _ _ (eval (PySem.Expr.BinOp (PySem.Expr.Call _ [_, PySem.Expr.Constant (PySem.Const.int 3) _ _] _ _) _ (PySem.Expr.Constant (PySem.Const.int 4) _ _) _) _) _ _ _); (try dsimp only); refine toks_ge _ (Nat.le_refl _) ?_))
local macro_rules | `(tactic| walk_at "TokQ") => `(tactic| (unfold TokQ; (try dsimp only); refine gen_ge ?_; intro tk' hTk'))
local macro_rules | `(tactic| walk_at "subscriptTail List cons BinOp ref int") => `(tactic| (k_here; (with_reducible show wpAny _ _ (subscriptTail _ _ (Value.ref _) (Value.int (Int.fmod _ 4) _)) _ _ _); k_dflt (refine' sign_item ?k1 ?k2 ?k3 ?k4 ?k5 ?k6 ?_; (case k1 => k_asm); (case k2 => k_mem); (case k3 => (dsimp only; refine ⟨by omega, by omega⟩)); (case k4 => (dsimp only; refine ⟨by omega, by omega⟩)); (case k5 => (dsimp only; refine ⟨by omega, by omega⟩)); (case k6 => (dsimp only; refine ⟨by omega, by omega⟩)); k_whole); intro t' hS'; (try dsimp only at hS')))
local macro_rules | `(tactic| walk_at "TokS") => `(tactic| (unfold TokS; (try dsimp only); refine gen_sign ?_; intro tk' hS'))
local macro_rules | `(tactic| walk_at "execs cons") => `(tactic| (k_here; (with_reducible rename SignTok _ _ => hS9); (fail_if_success (k_dflt (refine no_regen (by assumption) ?_))); (try dsimp only); refine regen_sign hS9 (by omega) ?_; clear hS9; intro tk' hS'))
local macro_rules | `(tactic| walk_at "exec Assign") => `(tactic| (k_here; goal_lacks Mine.TokS; (with_reducible rename SignTok _ _ => hS9); k_dflt (refine toks_sign (by assumption) ?_)))
local macro_rules | `(tactic| walk_at "call builtin:str.replace") => `(tactic| (k_here; k_dflt (refine' call_replace ?k1 ?k2 ?k3 ?_; (case k1 => assumption); (case k2 => assumption); (case k3 => exact Int.le_trans (Int.sub_le_self _ (Int.natCast_nonneg _)) (Int.le_trans (Int.le_of_lt (fmod_hi _ (by decide))) (by decide))); k_whole); intro t' k'))
local macro_rules | `(tactic| walk_at "eval IfExp") => `(tactic| (k_here; goal_lacks Mine.CutEnd; (with_reducible show wpAny _ _ (eval (PySem.Expr.IfExp _ _ (PySem.Expr.Constant (PySem.Const.int 1000) _ _) _) _) _ _ _); refine' cut_first ?k1 ?k2 ?k3 ?_ ?_; (case k1 => assumption); (case k2 => k_asm); (case k3 => k_asm); (rotate_left; (intro t' h' tk' F' N'; (try dsimp only)); rotate_left)))
local macro_rules | `(tactic| walk_at "eval IfExp") => `(tactic| (k_here; goal_lacks Mine.CutEnd; (with_reducible show wpAny _ _ (eval (PySem.Expr.IfExp _ _ (PySem.Expr.Name (PySem.Str.ofString "first") _) _) _) _ _ _); refine' cut_second ?k1 ?k2 ?k3 ?_ ?_; (case k1 => assumption); (case k2 => k_asm); (case k3 => k_asm); (rotate_left; (intro t' h' tk' F' N'; (try dsimp only)); rotate_left)))
local macro_rules | `(tactic| walk_at "CutEnd") => `(tactic| (refine' cut_end ?e ?F ?N; (case F => k_asm); (case N => k_asm); (case e => first | with_reducible exact first1 (by omega) | with_reducible exact first2 (by omega) | with_reducible exact second1 (by omega) | with_reducible exact second2 (by omega))))
local macro_rules | `(tactic| walk_at "call ref") => `(tactic| (k_here; (with_reducible show wpAny _ _ (call (Value.ref 129) [Value.ref _, Value.int _ _]) _ _ _); k_dflt (refine' cell_use ?k1 ?k2 ?k3 ?k4 ?k5 ?kK ?kl ?ki ?kt ?kp ?kd ?ku ?_); (case k1 => k_asm); (case k2 => k_asm); (case k3 => k_asm); (case k4 => k_asm); (case k5 => k_asm); (case kK => first | exact rfl | assumption); (case kl => k_asm); (case ki => l_ints); (case kt => l_fit); (case kp => k_dflt (first | decide | (refine And.intro ?_ ?_ <;> omega))); (case kd => k_dflt ktr_room); (case ku => k_dflt ktr_units); intro t' h' tk' F' N'; (try dsimp only); (try k_fold)))
local macro_rules | `(tactic| walk_at "call ref") => `(tactic| (k_here; (with_reducible show wpAny _ _ (call (Value.ref 134) [Value.int _ _]) _ _ _); k_dflt (refine' groups_use ?k1 ?k2 ?k3 ?k4 ?k5 ?kK ?kp ?kd ?ku ?_); (case k1 => k_asm); (case k2 => k_asm); (case k3 => k_asm); (case k4 => k_asm); (case k5 => k_asm); (case kK => first | exact rfl | assumption); (case kp => k_dflt (exact cell_nn _ _ (by decide))); (case kd => k_dflt ktr_room); (case ku => k_dflt ktr_units); intro D' ws' h' tk' F' N' hI' hL' hLen'; (try dsimp only); (try k_fold)))
local macro_rules | `(tactic| walk_at "call ref") => `(tactic| (k_here; (with_reducible show wpAny _ _ (call (Value.ref 71) [Value.str _ _]) _ _ _); k_dflt (refine' parse_use ?k1 ?k2 ?k3 ?k4 ?k5 ?kK ?kp ?kd ?ku ?_); (case k1 => k_asm); (case k2 => k_asm); (case k3 => k_asm); (case k4 => k_asm); (case k5 => k_asm); (case kK => first | exact rfl | assumption); (case kp => k_dflt (exact pat_ok (cell_nn _ _ (by decide)))); (case kd => k_dflt ktr_room); (case ku => k_dflt ktr_units); intro X' d' G' t1' t2' c' k1' k2' k3' k4' k5' k6' k7' k8' k9' k10' v1' v2' v3' v4' v6' v7' v8' v9' v10' n' h' tk' F' N'; (try dsimp only); (try k_fold)))
local macro_rules | `(tactic| walk_at "call ref") => `(tactic| (k_here; (with_reducible show wpAny _ _ (call (Value.ref 141) [Value.str _ _, Value.int _ _, Value.int _ _, Value.str _ _]) _ _ _); k_dflt (refine' partedS_use (by assumption) ?k1 ?k2 ?k3 ?k4 ?k5 ?kK ?kp ?kd ?ku ?_); (case k1 => k_asm); (case k2 => k_asm); (case k3 => k_asm); (case k4 => k_asm); (case k5 => k_asm); (case kK => first | exact rfl | assumption); (case kp => k_dflt ((refine ⟨?_, ?_, ?_, ?_⟩ <;> (first | assumption | exact pad12 (by assumption) | omega | exact sign_le _ | exact (first_b _).1 | exact (second_b _).1)))); (case kd => k_dflt ktr_room); (case ku => k_dflt ktr_units); intro t' h' tk' hS' F' N'; (try dsimp only); (try k_fold)))
local macro_rules | `(tactic| walk_at "call ref") => `(tactic| (k_here; (with_reducible show wpAny _ _ (call (Value.ref 148) [Value.str _ _, Value.int _ _, Value.int _ _, Value.str _ _]) _ _ _); k_dflt (refine' fraction_use ?k1 ?k2 ?k3 ?k4 ?k5 ?kK ?kp ?kd ?ku ?_); (case k1 => k_asm); (case k2 => k_asm); (case k3 => k_asm); (case k4 => k_asm); (case k5 => k_asm); (case kK => first | exact rfl | assumption); (case kp => k_dflt ((refine ⟨?_, ?_, ?_, ?_⟩ <;> (first | assumption | omega | exact point_le _ | exact fmod_lo _ (by decide) | (refine Int.le_trans (Int.le_of_lt (fmod_hi _ (by decide))) (by decide)))))); (case kd => k_dflt ktr_room); (case ku => k_dflt ktr_units); intro t' h' tk' F' N'; (try dsimp only); (try k_fold)))
local macro_rules | `(tactic| walk_at "call ref") => `(tactic| (k_here; (with_reducible show wpAny _ _ (call (Value.ref 38) [Value.str _ _, Value.str _ _]) _ _ _); k_dflt (refine' bare_use ?k1 ?k2 ?k3 ?k4 ?k5 ?kK ?kp ?kd ?ku ?_); (case k1 => k_asm); (case k2 => k_asm); (case k3 => k_asm); (case k4 => k_asm); (case k5 => k_asm); (case kK => first | exact rfl | assumption); (case kp => k_dflt ((refine ⟨?_, ?_⟩ <;> (first | exact due_len (by assumption) (by assumption) | exact point_one _)))); (case kd => k_dflt ktr_room); (case ku => k_dflt ktr_units); intro t' h' tk' F' N'; (try dsimp only); (try k_fold)))
local macro_rules | `(tactic| walk_at "call type:str") => `(tactic| (k_here; (first | (with_reducible refine str_nine ?_) | (with_reducible refine str_six ?_)); k_whole; intro d' t' k' hdig'; (have hdp' := hdig'.pos); (have hdt' := hdig'.top)))
local macro_rules | `(tactic| walk_at "CompSrc") => `(tactic| (k_here; k_dflt (refine LCg.CompSrc.ledger (by rfl) (by k_asm) (by k_asm) (by k_mem) (by kcf_size) ?_; intro g'; (refine' kct_list (fun k => Txt.mul (Str.ofString "#") k) (by assumption) (fun k' t' I' oI' C' oC' D' m' ys' h' tk' E' hk' hC' hx' F' N' off' ne' => ?_) ?_); (all_goals (try (simp only [LCg.Off3, and_true] at off'))); (all_goals (try ((show KPfMark → _); intro hMark'))); (all_goals (try (have hkk' := groups_rev hk'))); kcf_last)))
local macro_rules | `(tactic| walk_at "call builtin:str.join") => `(tactic| (k_here; (with_reducible show wpAny _ _ (call (Value.builtin "str.join") [Value.str (Str.ofString ",") _, Value.ref _]) _ _ _); refine' join_pat ?k1 ?k2 ?_; (case k1 => first | assumption | is_list | exact News.isList (by k_asm) (by k_mem)); (case k2 => assumption); k_whole; intro _ _))
set_option maxRecDepth 100000 in
set_option maxHeartbeats 8000000 in
theorem PySem.Challenge.cw_ey0012_01_holds : PySem.Challenge.rw_ey0012_01.Holds := by
  refine hd ?_
  k_with_none
  k_with "table" => skip
  w_strict k_go
end PartZ
