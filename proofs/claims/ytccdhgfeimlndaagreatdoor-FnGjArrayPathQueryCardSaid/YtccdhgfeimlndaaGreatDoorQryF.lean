/- The walk of the law FnGjArrayPathQuery: for every input it returns true, and nothing that was there before has changed. -/
import Derived.Test.YtccdhgfeimlndaaGreatDoorQryE
import Derived.Deep.RegionHeld3
namespace Go.Proofs.YtccdhgfeimlndaaGreatDoor
open Go.RowKit

theorem nomark_succ {s : ByteArray} {k : Nat} (hlt : k < s.size) (hn : NoMark s k) (a : ((s[k].toNat : Int) == 34) = false) (b : ((s[k].toNat : Int) == 92) = false) : NoMark s (k + 1) := by
  intro j h hj
  by_cases e : j = k
  · subst e; exact ⟨a, b⟩
  · exact hn j h (by omega)
theorem behind_size (c rest : ByteArray) (pipe : Bool) : (behind c rest pipe).size ≤ c.size + 1 + rest.size := by
  unfold behind
  split
  · omega
  · rw [ByteArray.size_append, ByteArray.size_append, sepS_size]; omega
theorem qall_size (name value : ByteArray) (k : Nat) (all : Bool) (h : name.size + value.size ≤ 4096) : (if all then qbase name (opS k) value ++ ⟨#[35]⟩ else qbase name (opS k) value).size ≤ 5000 := by
  have o := opS_size k
  have z := qbase_size name (opS k) value
  cases all
  · show (qbase name (opS k) value).size ≤ 5000; omega
  · show (qbase name (opS k) value ++ ⟨#[35]⟩).size ≤ 5000
    rw [ByteArray.size_append]
    have : (⟨#[35]⟩ : ByteArray).size = 1 := rfl
    omega
def DoorLaw (name value rest : ByteArray) (k : Nat) (all pipe : Bool) (w : World) (en : Ending) (w' : World) : Prop :=
  ∃ part path pp piped more, RestOk rest path pp piped more pipe ∧
    en = .returned (.agg (doorCells part path pp name (signS k) value piped more all)) ∧ Below w.heap.size w w'
theorem gjArr_text {s name value rest : ByteArray} {k : Nat} {all pipe : Bool} (w : World) (k6 : k < 6) (hn : WordTo name name.size) (h0 : 0 < name.size) (hv : NoMark value value.size) (hm : s.size ≤ 1000000) (hs : s = qbase name (opS k) value ++ qtail rest all pipe) :
    Calls Tryz.prog 7 #[.string s] w (DoorLaw name value rest k all pipe w) := by
  refine (gjArr s w _ _ _ k _ all (qtext_of k6 hn h0 hv hm hs) (atail_of hs)).mono ?_
  rintro en w' ⟨part, path, pp, piped, more, hend, rfl, hb⟩
  refine ⟨part, path, pp, piped, more, rest_of hs hend, ?_, hb⟩
  rw [q_name hs, q_value hs]
set_option maxRecDepth 100000 in
set_option maxHeartbeats 2000000 in
theorem lawQry (name value rest : ByteArray) (op : Int) (all pipe : Bool) (w : World) (hs1 : name.size ≤ maxLen) (hs2 : value.size ≤ maxLen) (hs3 : rest.size ≤ maxLen) :
    Calls Tryz.prog 3 #[.string name, .string value, .string rest, .int .i64 op, .bool all, .bool pipe] w (True2 w) := by
  have HS1 := Lib.hid hs1
  have HS3 := Lib.hid hs3
  unfold maxLen at hs1 hs2 hs3
  by_cases hl : name.size ≤ 2147483647 ∧ value.size ≤ 2147483647 ∧ rest.size ≤ 2147483647
  · obtain ⟨l1, l2, l3⟩ := hl
    go_enter Tryz.func3, Tryz.ntmps3
    go_wp2_with fail
    go_loop [13] (fun i => ∃ k : Nat, k ≤ value.size ∧ i = .int .i64 k ∧ Hid (NoMark value k)) (fun i => value.size - (intOf i).toNat)
    case atStart => exact ⟨0, by omega, rfl, fun j h hj => by omega⟩
    case round =>
      obtain ⟨k, hk, rfl, hn⟩ := hrel
      by_cases hlt : k < value.size
      · by_cases h34 : ((value[k].toNat : Int) == 34) = true
        · go_wp2_with fail
          go_ret
          exact ⟨rfl, Below.refl _ _⟩
        · have h34' : ((value[k].toNat : Int) == 34) = false := by simpa using h34
          clear h34
          by_cases h92 : ((value[k].toNat : Int) == 92) = true
          · go_wp2_with fail
            go_ret
            exact ⟨rfl, Below.refl _ _⟩
          · have h92' : ((value[k].toNat : Int) == 92) = false := by simpa using h92
            clear h92
            have hn' : Hid (NoMark value (k + 1)) := Lib.hid (nomark_succ hlt hn.out h34' h92')
            go_wp2_with fail
            refine ⟨⟨k + 1, by omega, by go_num, hn'⟩, ?_⟩
            simp [intOf]; omega
      · obtain rfl : k = value.size := by omega
        go_wp2_with fail
        refine (gjWord name _ HS1.out).mono ?_
        rintro en w' ⟨b, hb, rfl, rfl⟩
        have HB := Lib.hid hb
        clear hb
        cases b
        · go_wp2_with fail
          go_ret
          exact ⟨rfl, Below.refl _ _⟩
        · obtain ⟨hw, hw0⟩ := HB.out rfl
          have HW := Lib.hid hw
          clear hw HB
          by_cases hr0 : rest.size = 0
          · have g := isEmpty_of hr0
            have HR := Lib.hid hr0
            clear hr0
            by_cases hL : name.size + value.size + rest.size ≤ 4096
            · go_wp2_with fail
              have ho := opS_size (opN op)
              refine (gjOp op _).mono ?_
              rintro en w1 ⟨rfl, hb1⟩
              cases all
              · go_wp2_with fail
                have q1 := qall_size name value (opN op) false (by omega)
                have Q1 := Lib.hid q1
                clear q1
                refine (gjBehind _ rest pipe _ (Nat.le_trans Q1.out (by omega)) (by omega)).mono ?_
                rintro en w2 ⟨rfl, rfl⟩
                go_wp2_with fail
                refine (gjArr_text (name := name) (value := value) (rest := rest) (pipe := pipe) (all := false) (k := opN op) _ (opN_lt op) HW.out hw0 hn.out ?_ ?_).mono ?_
                · exact Nat.le_trans (behind_size _ _ _) (by have := Q1.out; simp only [if_false, Bool.false_eq_true] at this; omega)
                · exact behind_text name (opS (opN op)) value rest false pipe
                rintro en w2 ⟨part, path, pp, piped, more, hr, rfl, hb2⟩
                have HRR := Lib.hid hr
                clear hr
                unfold doorCells
                go_wp2_with fail
                have hbw : Below w.heap.size w w2 := (hb1.trans (hb2.mono hb1.size))
                have hbz := hb2.size
                have hbs : ∀ o, Below w.heap.size w (w2.alloc o).drew := fun o => ((hbw.alloc (Nat.le_trans hb1.size hb2.size) o).drew)
                go_region_held3 (fun W => W.cell? ⟨w2.heap.size, 0, none⟩ = some (.string part) ∧ W.cell? ⟨w2.heap.size, 1, none⟩ = some (.string path) ∧ W.cell? ⟨w2.heap.size, 2, none⟩ = some (.string pp) ∧ W.cell? ⟨w2.heap.size, 3, none⟩ = some (.string ⟨#[]⟩) ∧ W.cell? ⟨w2.heap.size, 4, none⟩ = some (.string name) ∧ W.cell? ⟨w2.heap.size, 5, none⟩ = some (.string (signS (opN op))) ∧ W.cell? ⟨w2.heap.size, 6, none⟩ = some (.string value) ∧ W.cell? ⟨w2.heap.size, 7, none⟩ = some (.bool piped) ∧ W.cell? ⟨w2.heap.size, 8, none⟩ = some (.bool more) ∧ W.cell? ⟨w2.heap.size, 9, none⟩ = some (.bool false) ∧ W.cell? ⟨w2.heap.size, 10, none⟩ = some (.bool true) ∧ W.cell? ⟨w2.heap.size, 11, none⟩ = some (.bool true) ∧ W.cell? ⟨w2.heap.size, 12, none⟩ = some (.bool false) ∧ Below w.heap.size w W)
                  (first | go_keep | (go_split_ands; exact ⟨cell_later hbc (by assumption), cell_later hbc (by assumption), cell_later hbc (by assumption), cell_later hbc (by assumption), cell_later hbc (by assumption), cell_later hbc (by assumption), cell_later hbc (by assumption), cell_later hbc (by assumption), cell_later hbc (by assumption), cell_later hbc (by assumption), cell_later hbc (by assumption), cell_later hbc (by assumption), cell_later hbc (by assumption), Below.trans (by assumption) (hbc.mono (Below.size (by assumption)))⟩))
                  (first | (go_at_call 9; refine (gjSign op _).mono ?_; rintro e w' ⟨rfl, hbc⟩) | (go_at_call 10; refine (gjRest part path pp name (signS (opN op)) value rest piped more false pipe _ HRR.out).mono ?_; rintro e w' ⟨rfl, hbc⟩))
                go_wp2_with fail
                go_split_ands
                go_ret
                exact ⟨rfl, by assumption⟩
              · go_wp2_with fail
                have q1 := qall_size name value (opN op) true (by omega)
                have Q1 := Lib.hid q1
                clear q1
                refine (gjBehind _ rest pipe _ (Nat.le_trans Q1.out (by omega)) (by omega)).mono ?_
                rintro en w2 ⟨rfl, rfl⟩
                go_wp2_with fail
                refine (gjArr_text (name := name) (value := value) (rest := rest) (pipe := pipe) (all := true) (k := opN op) _ (opN_lt op) HW.out hw0 hn.out ?_ ?_).mono ?_
                · exact Nat.le_trans (behind_size _ _ _) (by have := Q1.out; simp only [if_true] at this; omega)
                · exact behind_text name (opS (opN op)) value rest true pipe
                rintro en w2 ⟨part, path, pp, piped, more, hr, rfl, hb2⟩
                have HRR := Lib.hid hr
                clear hr
                unfold doorCells
                go_wp2_with fail
                have hbw : Below w.heap.size w w2 := (hb1.trans (hb2.mono hb1.size))
                have hbz := hb2.size
                have hbs : ∀ o, Below w.heap.size w (w2.alloc o).drew := fun o => ((hbw.alloc (Nat.le_trans hb1.size hb2.size) o).drew)
                go_region_held3 (fun W => W.cell? ⟨w2.heap.size, 0, none⟩ = some (.string part) ∧ W.cell? ⟨w2.heap.size, 1, none⟩ = some (.string path) ∧ W.cell? ⟨w2.heap.size, 2, none⟩ = some (.string pp) ∧ W.cell? ⟨w2.heap.size, 3, none⟩ = some (.string ⟨#[]⟩) ∧ W.cell? ⟨w2.heap.size, 4, none⟩ = some (.string name) ∧ W.cell? ⟨w2.heap.size, 5, none⟩ = some (.string (signS (opN op))) ∧ W.cell? ⟨w2.heap.size, 6, none⟩ = some (.string value) ∧ W.cell? ⟨w2.heap.size, 7, none⟩ = some (.bool piped) ∧ W.cell? ⟨w2.heap.size, 8, none⟩ = some (.bool more) ∧ W.cell? ⟨w2.heap.size, 9, none⟩ = some (.bool false) ∧ W.cell? ⟨w2.heap.size, 10, none⟩ = some (.bool true) ∧ W.cell? ⟨w2.heap.size, 11, none⟩ = some (.bool true) ∧ W.cell? ⟨w2.heap.size, 12, none⟩ = some (.bool true) ∧ Below w.heap.size w W)
                  (first | go_keep | (go_split_ands; exact ⟨cell_later hbc (by assumption), cell_later hbc (by assumption), cell_later hbc (by assumption), cell_later hbc (by assumption), cell_later hbc (by assumption), cell_later hbc (by assumption), cell_later hbc (by assumption), cell_later hbc (by assumption), cell_later hbc (by assumption), cell_later hbc (by assumption), cell_later hbc (by assumption), cell_later hbc (by assumption), cell_later hbc (by assumption), Below.trans (by assumption) (hbc.mono (Below.size (by assumption)))⟩))
                  (first | (go_at_call 9; refine (gjSign op _).mono ?_; rintro e w' ⟨rfl, hbc⟩) | (go_at_call 10; refine (gjRest part path pp name (signS (opN op)) value rest piped more true pipe _ HRR.out).mono ?_; rintro e w' ⟨rfl, hbc⟩))
                go_wp2_with fail
                go_split_ands
                go_ret
                exact ⟨rfl, by assumption⟩
            · go_wp2_with fail
              go_ret
              exact ⟨rfl, Below.refl _ _⟩
          · have g := isEmpty_not hr0
            have HR := Lib.hid hr0
            clear hr0
            go_wp2_with fail
            refine (gjWord rest _ HS3.out).mono ?_
            rintro en w' ⟨b, hb, rfl, rfl⟩
            clear hb
            cases b
            · go_wp2_with fail
              go_ret
              exact ⟨rfl, Below.refl _ _⟩
            · by_cases hL : name.size + value.size + rest.size ≤ 4096
              · go_wp2_with fail
                have ho := opS_size (opN op)
                refine (gjOp op _).mono ?_
                rintro en w1 ⟨rfl, hb1⟩
                cases all
                · go_wp2_with fail
                  have q1 := qall_size name value (opN op) false (by omega)
                  have Q1 := Lib.hid q1
                  clear q1
                  refine (gjBehind _ rest pipe _ (Nat.le_trans Q1.out (by omega)) (by omega)).mono ?_
                  rintro en w2 ⟨rfl, rfl⟩
                  go_wp2_with fail
                  refine (gjArr_text (name := name) (value := value) (rest := rest) (pipe := pipe) (all := false) (k := opN op) _ (opN_lt op) HW.out hw0 hn.out ?_ ?_).mono ?_
                  · exact Nat.le_trans (behind_size _ _ _) (by have := Q1.out; simp only [if_false, Bool.false_eq_true] at this; omega)
                  · exact behind_text name (opS (opN op)) value rest false pipe
                  rintro en w2 ⟨part, path, pp, piped, more, hr, rfl, hb2⟩
                  have HRR := Lib.hid hr
                  clear hr
                  unfold doorCells
                  go_wp2_with fail
                  have hbw : Below w.heap.size w w2 := (hb1.trans (hb2.mono hb1.size))
                  have hbz := hb2.size
                  have hbs : ∀ o, Below w.heap.size w (w2.alloc o).drew := fun o => ((hbw.alloc (Nat.le_trans hb1.size hb2.size) o).drew)
                  go_region_held3 (fun W => W.cell? ⟨w2.heap.size, 0, none⟩ = some (.string part) ∧ W.cell? ⟨w2.heap.size, 1, none⟩ = some (.string path) ∧ W.cell? ⟨w2.heap.size, 2, none⟩ = some (.string pp) ∧ W.cell? ⟨w2.heap.size, 3, none⟩ = some (.string ⟨#[]⟩) ∧ W.cell? ⟨w2.heap.size, 4, none⟩ = some (.string name) ∧ W.cell? ⟨w2.heap.size, 5, none⟩ = some (.string (signS (opN op))) ∧ W.cell? ⟨w2.heap.size, 6, none⟩ = some (.string value) ∧ W.cell? ⟨w2.heap.size, 7, none⟩ = some (.bool piped) ∧ W.cell? ⟨w2.heap.size, 8, none⟩ = some (.bool more) ∧ W.cell? ⟨w2.heap.size, 9, none⟩ = some (.bool false) ∧ W.cell? ⟨w2.heap.size, 10, none⟩ = some (.bool true) ∧ W.cell? ⟨w2.heap.size, 11, none⟩ = some (.bool true) ∧ W.cell? ⟨w2.heap.size, 12, none⟩ = some (.bool false) ∧ Below w.heap.size w W)
                    (first | go_keep | (go_split_ands; exact ⟨cell_later hbc (by assumption), cell_later hbc (by assumption), cell_later hbc (by assumption), cell_later hbc (by assumption), cell_later hbc (by assumption), cell_later hbc (by assumption), cell_later hbc (by assumption), cell_later hbc (by assumption), cell_later hbc (by assumption), cell_later hbc (by assumption), cell_later hbc (by assumption), cell_later hbc (by assumption), cell_later hbc (by assumption), Below.trans (by assumption) (hbc.mono (Below.size (by assumption)))⟩))
                    (first | (go_at_call 9; refine (gjSign op _).mono ?_; rintro e w' ⟨rfl, hbc⟩) | (go_at_call 10; refine (gjRest part path pp name (signS (opN op)) value rest piped more false pipe _ HRR.out).mono ?_; rintro e w' ⟨rfl, hbc⟩))
                  go_wp2_with fail
                  go_split_ands
                  go_ret
                  exact ⟨rfl, by assumption⟩
                · go_wp2_with fail
                  have q1 := qall_size name value (opN op) true (by omega)
                  have Q1 := Lib.hid q1
                  clear q1
                  refine (gjBehind _ rest pipe _ (Nat.le_trans Q1.out (by omega)) (by omega)).mono ?_
                  rintro en w2 ⟨rfl, rfl⟩
                  go_wp2_with fail
                  refine (gjArr_text (name := name) (value := value) (rest := rest) (pipe := pipe) (all := true) (k := opN op) _ (opN_lt op) HW.out hw0 hn.out ?_ ?_).mono ?_
                  · exact Nat.le_trans (behind_size _ _ _) (by have := Q1.out; simp only [if_true] at this; omega)
                  · exact behind_text name (opS (opN op)) value rest true pipe
                  rintro en w2 ⟨part, path, pp, piped, more, hr, rfl, hb2⟩
                  have HRR := Lib.hid hr
                  clear hr
                  unfold doorCells
                  go_wp2_with fail
                  have hbw : Below w.heap.size w w2 := (hb1.trans (hb2.mono hb1.size))
                  have hbz := hb2.size
                  have hbs : ∀ o, Below w.heap.size w (w2.alloc o).drew := fun o => ((hbw.alloc (Nat.le_trans hb1.size hb2.size) o).drew)
                  go_region_held3 (fun W => W.cell? ⟨w2.heap.size, 0, none⟩ = some (.string part) ∧ W.cell? ⟨w2.heap.size, 1, none⟩ = some (.string path) ∧ W.cell? ⟨w2.heap.size, 2, none⟩ = some (.string pp) ∧ W.cell? ⟨w2.heap.size, 3, none⟩ = some (.string ⟨#[]⟩) ∧ W.cell? ⟨w2.heap.size, 4, none⟩ = some (.string name) ∧ W.cell? ⟨w2.heap.size, 5, none⟩ = some (.string (signS (opN op))) ∧ W.cell? ⟨w2.heap.size, 6, none⟩ = some (.string value) ∧ W.cell? ⟨w2.heap.size, 7, none⟩ = some (.bool piped) ∧ W.cell? ⟨w2.heap.size, 8, none⟩ = some (.bool more) ∧ W.cell? ⟨w2.heap.size, 9, none⟩ = some (.bool false) ∧ W.cell? ⟨w2.heap.size, 10, none⟩ = some (.bool true) ∧ W.cell? ⟨w2.heap.size, 11, none⟩ = some (.bool true) ∧ W.cell? ⟨w2.heap.size, 12, none⟩ = some (.bool true) ∧ Below w.heap.size w W)
                    (first | go_keep | (go_split_ands; exact ⟨cell_later hbc (by assumption), cell_later hbc (by assumption), cell_later hbc (by assumption), cell_later hbc (by assumption), cell_later hbc (by assumption), cell_later hbc (by assumption), cell_later hbc (by assumption), cell_later hbc (by assumption), cell_later hbc (by assumption), cell_later hbc (by assumption), cell_later hbc (by assumption), cell_later hbc (by assumption), cell_later hbc (by assumption), Below.trans (by assumption) (hbc.mono (Below.size (by assumption)))⟩))
                    (first | (go_at_call 9; refine (gjSign op _).mono ?_; rintro e w' ⟨rfl, hbc⟩) | (go_at_call 10; refine (gjRest part path pp name (signS (opN op)) value rest piped more true pipe _ HRR.out).mono ?_; rintro e w' ⟨rfl, hbc⟩))
                  go_wp2_with fail
                  go_split_ands
                  go_ret
                  exact ⟨rfl, by assumption⟩
              · go_wp2_with fail
                go_ret
                exact ⟨rfl, Below.refl _ _⟩
  · have hl' : 2147483647 < name.size ∨ 2147483647 < value.size ∨ 2147483647 < rest.size := by omega
    clear hl
    by_cases l1 : name.size ≤ 2147483647
    · by_cases l2 : value.size ≤ 2147483647
      · have l3 : 2147483647 < rest.size := by omega
        clear hl'
        go_enter Tryz.func3, Tryz.ntmps3
        go_wp2_with fail
        go_ret
        exact ⟨rfl, Below.refl _ _⟩
      · clear hl'
        go_enter Tryz.func3, Tryz.ntmps3
        go_wp2_with fail
        go_ret
        exact ⟨rfl, Below.refl _ _⟩
    · clear hl'
      go_enter Tryz.func3, Tryz.ntmps3
      go_wp2_with fail
      go_ret
      exact ⟨rfl, Below.refl _ _⟩
end Go.Proofs.YtccdhgfeimlndaaGreatDoor
