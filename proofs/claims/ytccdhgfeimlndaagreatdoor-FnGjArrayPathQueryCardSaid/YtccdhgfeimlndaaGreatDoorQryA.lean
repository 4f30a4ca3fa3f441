/- Small functions under FnGjArrayPathQuery: trim where neither end is a blank, gjWord, gjOp, gjSign, gjBehind. -/
import Derived.Test.YtccdhgfeimlndaaGreatDoorObjA
import Derived.Deep.QuietTactic
import Derived.BigQuiet
namespace Go.Proofs.YtccdhgfeimlndaaGreatDoor
open Go.RowKit

set_option maxHeartbeats 400000 in
theorem trim_plain (s : ByteArray) (w : World) (hs : s.size ≤ maxLen) (h0 : 0 < s.size) (ha : 32 < s[0].toNat) (hb : 32 < s[s.size - 1].toNat) :
    Calls Tryz.prog 22 #[.string s] w fun e w' => e = .returned (.string s) ∧ w = w' := by
  unfold maxLen at hs
  have ga : decide ((s[0].toNat : Int) ≤ 32) = false := by simp; omega
  have gb : decide ((s[s.size - 1].toNat : Int) ≤ 32) = false := by simp; omega
  go_enter Tryz.func22, Tryz.ntmps22
  go_wp2_with fail
  go_step3
  go_wp2_with fail
  go_step3
  go_wp2_with fail
  go_step3
  go_wp2_with fail
  rw [Exit.noGoto_ret]
  go_ret
  exact ⟨rfl, rfl⟩

theorem isEmpty_of {s : ByteArray} (e : s.size = 0) : s.toList.isEmpty = true := by
  rw [ByteArray.toList_eq, List.isEmpty_iff]; exact List.eq_nil_of_length_eq_zero e
theorem isEmpty_not {s : ByteArray} (e : s.size ≠ 0) : s.toList.isEmpty = false := by
  rw [ByteArray.toList_eq]
  cases h : s.data.toList with
  | nil => exact absurd (show s.size = 0 by show s.data.toList.length = 0; rw [h]; rfl) e
  | cons a l => rfl
def WordB (c : Nat) : Prop := 97 ≤ c ∧ c ≤ 122 ∨ 65 ≤ c ∧ c ≤ 90 ∨ 48 ≤ c ∧ c ≤ 57 ∨ c = 95
def WordTo (s : ByteArray) (k : Nat) : Prop := ∀ j (h : j < s.size), j < k → WordB s[j].toNat
theorem wordTo_succ {s : ByteArray} {k : Nat} (hlt : k < s.size) (hn : WordTo s k) (a : WordB s[k].toNat) : WordTo s (k + 1) := by
  intro j h hj
  by_cases e : j = k
  · subst e; exact a
  · exact hn j h (by omega)
def WordSays (s : ByteArray) (w : World) (e : Ending) (w' : World) : Prop := ∃ b, (b = true → WordTo s s.size ∧ 0 < s.size) ∧ e = .returned (.bool b) ∧ w = w'
set_option maxHeartbeats 400000 in
theorem gjWord (s : ByteArray) (w : World) (hs : s.size ≤ maxLen) : Calls Tryz.prog 5 #[.string s] w (WordSays s w) := by
  unfold maxLen at hs
  go_enter Tryz.func5, Tryz.ntmps5
  go_wp2
  go_loop [3] (fun i => ∃ k : Nat, k ≤ s.size ∧ i = .int .i64 k ∧ Hid (WordTo s k)) (fun i => s.size - (intOf i).toNat)
  case atStart => exact ⟨0, by omega, rfl, fun j h hj => by omega⟩
  case round =>
    obtain ⟨k, hk, rfl, hn⟩ := hrel
    by_cases hlt : k < s.size
    · go_wp2
      all_goals first
        | (go_ret; exact ⟨false, by simp, rfl, rfl⟩)
        | (have hw : WordB s[k].toNat := by (unfold WordB; simp at *; omega)
           refine ⟨⟨k + 1, by omega, by go_num, Lib.hid (wordTo_succ hlt hn.out hw)⟩, ?_⟩
           simp [intOf]; omega)
    · go_wp2
      go_ret
      obtain rfl : k = s.size := by omega
      refine ⟨_, fun h => ⟨hn.out, ?_⟩, rfl, rfl⟩
      by_cases e : s.size = 0
      · rw [isEmpty_of e] at h
        simp at h
      · omega

def opN (x : Int) : Nat := ((wrap64 (x.tmod 6 + 6)).tmod 6).toNat
def opS : Nat → ByteArray
  | 0 => ⟨#[61, 61]⟩
  | 1 => ⟨#[33, 61]⟩
  | 2 => ⟨#[60]⟩
  | 3 => ⟨#[62, 61]⟩
  | 4 => ⟨#[62]⟩
  | _ => ⟨#[60, 61]⟩
/-- What the comparison of a query is told: '=' for '=='. -/
def signS : Nat → ByteArray
  | 0 => ⟨#[61]⟩
  | 1 => ⟨#[33, 61]⟩
  | 2 => ⟨#[60]⟩
  | 3 => ⟨#[62, 61]⟩
  | 4 => ⟨#[62]⟩
  | _ => ⟨#[60, 61]⟩
theorem opN_bounds (x : Int) : 0 ≤ (wrap64 (x.tmod 6 + 6)).tmod 6 ∧ (wrap64 (x.tmod 6 + 6)).tmod 6 < 6 := by
  have h1 := Int.lt_tmod_of_pos x (show (0 : Int) < 6 by omega)
  have h2 := Int.tmod_lt_of_pos x (show (0 : Int) < 6 by omega)
  generalize x.tmod 6 = y at *
  have e : wrap64 (y + 6) = y + 6 := by unfold wrap64; omega
  rw [e, Int.tmod_eq_emod_of_nonneg (by omega)]
  omega
theorem op_list (k : Int) (h0 : 0 ≤ k) (h1 : k < 6) (h : k.toNat < 6) : [Value.string ⟨#[61, 61]⟩, Value.string ⟨#[33, 61]⟩, Value.string ⟨#[60]⟩, Value.string ⟨#[62, 61]⟩, Value.string ⟨#[62]⟩, Value.string ⟨#[60, 61]⟩][k.toNat]'h = .string (opS k.toNat) := by
  have : k = 0 ∨ k = 1 ∨ k = 2 ∨ k = 3 ∨ k = 4 ∨ k = 5 := by omega
  rcases this with rfl | rfl | rfl | rfl | rfl | rfl <;> rfl
def OpGives (x : Int) (w : World) (e : Ending) (w' : World) : Prop := e = .returned (.string (opS (opN x))) ∧ Below w.heap.size w w'
set_option maxHeartbeats 400000 in
theorem gjOp (x : Int) (w : World) :
    Calls Tryz.prog 6 #[.int .i64 x] w (OpGives x w) := by
  have hk := opN_bounds x
  go_enter Tryz.func6, Tryz.ntmps6
  go_wp2_with fail
  go_ret
  refine ⟨?_, (Below.refl _ _).alloc (Nat.le_refl _) _⟩
  unfold opN
  rw [← op_list _ hk.1 hk.2 (by omega)]
  rfl
def SignGives (x : Int) (w : World) (e : Ending) (w' : World) : Prop := e = .returned (.string (signS (opN x))) ∧ Below w.heap.size w w'
theorem opN_lt (x : Int) : opN x < 6 := by have := opN_bounds x; unfold opN; omega
theorem sign_zero : ∀ k, k < 6 → ((opS k).toList == [61, 61]) = true → (⟨#[61]⟩ : ByteArray) = signS k := by
  intro k hk h
  match k, hk with
  | 0, _ => rfl
  | 1, _ => simp [opS, ByteArray.toList_eq] at h
  | 2, _ => simp [opS, ByteArray.toList_eq] at h
  | 3, _ => simp [opS, ByteArray.toList_eq] at h
  | 4, _ => simp [opS, ByteArray.toList_eq] at h
  | 5, _ => simp [opS, ByteArray.toList_eq] at h
theorem sign_other : ∀ k, k < 6 → ((opS k).toList == [61, 61]) = false → opS k = signS k := by
  intro k hk h
  match k, hk with
  | 0, _ => simp [opS, ByteArray.toList_eq] at h
  | 1, _ => rfl
  | 2, _ => rfl
  | 3, _ => rfl
  | 4, _ => rfl
  | 5, _ => rfl
set_option maxHeartbeats 400000 in
theorem gjSign (x : Int) (w : World) :
    Calls Tryz.prog 9 #[.int .i64 x] w (SignGives x w) := by
  go_enter Tryz.func9, Tryz.ntmps9
  go_wp2_with fail
  refine (gjOp x _).mono ?_
  rintro e w' ⟨rfl, hb⟩
  go_wp2_with fail
  · rename_i h
    go_ret
    exact ⟨congrArg (fun b => Ending.returned (Value.string b)) (sign_other _ (opN_lt x) (by simpa using h)), hb⟩
  · rename_i h
    go_ret
    exact ⟨congrArg (fun b => Ending.returned (Value.string b)) (sign_zero _ (opN_lt x) (by simpa using h)), hb⟩

def sepS (pipe : Bool) : ByteArray := if pipe then ⟨#[124]⟩ else ⟨#[46]⟩
def behind (c rest : ByteArray) (pipe : Bool) : ByteArray := if rest.size = 0 then c else c ++ sepS pipe ++ rest
def BehindGives (c rest : ByteArray) (pipe : Bool) (w : World) (e : Ending) (w' : World) : Prop := e = .returned (.string (behind c rest pipe)) ∧ w = w'
set_option maxHeartbeats 400000 in
theorem gjBehind (c rest : ByteArray) (pipe : Bool) (w : World) (hc : c.size ≤ 1000000) (hr : rest.size ≤ 1000000) :
    Calls Tryz.prog 8 #[.string c, .string rest, .bool pipe] w (BehindGives c rest pipe w) := by
  by_cases h0 : rest.size = 0
  · have g := isEmpty_of h0
    go_enter Tryz.func8, Tryz.ntmps8
    go_wp2_with fail
    go_ret
    exact ⟨by unfold behind; rw [if_pos h0]; rfl, rfl⟩
  · have g := isEmpty_not h0
    cases pipe
    all_goals
      go_enter Tryz.func8, Tryz.ntmps8
      go_wp2_with fail
      go_ret
      exact ⟨by unfold behind; rw [if_neg h0]; rfl, rfl⟩
end Go.Proofs.YtccdhgfeimlndaaGreatDoor
