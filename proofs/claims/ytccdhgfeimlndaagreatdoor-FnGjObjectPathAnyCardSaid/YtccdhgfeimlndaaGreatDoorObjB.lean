/- The walk of the law FnGjObjectPathAny: for every path it returns true, and nothing that was there before has changed. -/
import Derived.Test.YtccdhgfeimlndaaGreatDoorObjA
import Derived.Deep.QuietTactic
import Derived.BigQuiet
namespace Go.Proofs.YtccdhgfeimlndaaGreatDoor
open Go.RowKit

def ObjTuple (s : ByteArray) (w : World) (e : Ending) (w' : World) : Prop :=
  ∃ part path pipe piped wild more, ObjSays s part path pipe piped more ∧
    e = .returned (.tuple #[.string part, .string path, .string pipe, .bool piped, .bool wild, .bool more]) ∧ Below w.heap.size w w'
set_option maxHeartbeats 400000 in
theorem doorObj (s : ByteArray) (w : World) (hs : s.size ≤ maxLen) (hb : ∀ k (h : k < s.size), ((s[k].toNat : Int) == 92) = false) :
    Calls Tryz.prog 15 #[.string s] w (ObjTuple s w) := by
  have HB := Lib.hid hb
  clear hb
  go_enter Tryz.func15, Tryz.ntmps15
  go_wp2_with fail
  refine (objPath _ _ hs HB.out).mono ?_
  rintro e w' ⟨part, path, pipe, piped, wild, more, hsay, rfl, hb⟩
  have HS := Lib.hid hsay
  clear hsay
  go_wp2_with fail
  go_quiet (fail)
  go_wp2_with fail
  refine bodyPost_ret (v := .tuple #[.string part, .string path, .string pipe, .bool piped, .bool wild, .bool more]) (by simp [results, Tryz.results15, go_sem]) rfl ⟨_, _, _, _, _, _, HS.out, rfl, ?_⟩
  exact below_drewN (hb.trans ((Below.refl _ _).alloc hb.size _)) _

set_option maxHeartbeats 400000 in
theorem gjObj (s : ByteArray) (w : World) (hs : s.size ≤ maxLen) (hb : ∀ k (h : k < s.size), ((s[k].toNat : Int) == 92) = false) :
    Calls Tryz.prog 12 #[.string s] w (ObjTuple s w) := by
  have HB := Lib.hid hb
  clear hb
  go_enter Tryz.func12, Tryz.ntmps12
  go_wp2_with fail
  refine (doorObj _ _ hs HB.out).mono ?_
  rintro e w' ⟨part, path, pipe, piped, wild, more, hsay, rfl, hb⟩
  have HS := Lib.hid hsay
  clear hsay
  go_wp2_with fail
  exact bodyPost_ret (v := .tuple #[.string part, .string path, .string pipe, .bool piped, .bool wild, .bool more]) (by simp [results, Tryz.results12, go_sem]) rfl ⟨_, _, _, _, _, _, HS.out, rfl, hb⟩

def NoBack (s : ByteArray) (k : Nat) : Prop := ∀ j (h : j < s.size), j < k → ((s[j].toNat : Int) == 92) = false
theorem noback_succ {s : ByteArray} {k : Nat} (hlt : k < s.size) (hn : NoBack s k) (a : ((s[k].toNat : Int) == 92) = false) : NoBack s (k + 1) := by
  intro j h hj
  by_cases e : j = k
  · subst e; exact a
  · exact hn j h (by omega)
def Escs (s : ByteArray) (w : World) (e : Ending) (w' : World) : Prop := ∃ b, (b = false → NoBack s s.size) ∧ e = .returned (.bool b) ∧ w = w'
set_option maxHeartbeats 400000 in
theorem escaped (s : ByteArray) (w : World) (hs : s.size ≤ maxLen) : Calls Tryz.prog 14 #[.string s] w (Escs s w) := by
  unfold maxLen at hs
  go_enter Tryz.func14, Tryz.ntmps14
  go_wp2
  go_loop [3] (fun i => ∃ k : Nat, k ≤ s.size ∧ i = .int .i64 k ∧ Hid (NoBack s k)) (fun i => s.size - (intOf i).toNat)
  case atStart => exact ⟨0, by omega, rfl, fun j h hj => by omega⟩
  case round =>
    obtain ⟨k, hk, rfl, hn⟩ := hrel
    by_cases hlt : k < s.size
    · by_cases h92 : ((s[k].toNat : Int) == 92) = true
      · go_wp2
        go_ret
        exact ⟨true, by simp, rfl, rfl⟩
      · have h92' : ((s[k].toNat : Int) == 92) = false := by simpa using h92
        clear h92
        have hn' : Hid (NoBack s (k + 1)) := Lib.hid (noback_succ hlt hn.out h92')
        go_wp2
        go_round
        case rel => exact ⟨k + 1, by omega, by go_num, hn'⟩
        case measure => simp [intOf]; omega
    · go_wp2
      go_ret
      obtain rfl : k = s.size := by omega
      exact ⟨false, fun _ => hn.out, rfl, rfl⟩

def BackOk (s : ByteArray) (w : World) (e : Ending) (w' : World) : Prop := ∃ b, (b = true → NoBack s s.size) ∧ e = .returned (.bool b) ∧ w = w'
set_option maxHeartbeats 400000 in
theorem gjNoBack (s : ByteArray) (w : World) (hs : s.size ≤ maxLen) : Calls Tryz.prog 11 #[.string s] w (BackOk s w) := by
  unfold maxLen at hs
  by_cases hl : s.size ≤ 4096
  · go_enter Tryz.func11, Tryz.ntmps11
    go_wp2_with fail
    refine (escaped _ _ (by unfold maxLen; omega)).mono ?_
    rintro e w' ⟨b, hb, rfl, rfl⟩
    have HB := Lib.hid hb
    clear hb
    go_wp2_with fail
    go_ret
    exact ⟨_, fun h => HB.out (by simpa using h), rfl, rfl⟩
  · go_enter Tryz.func11, Tryz.ntmps11
    go_wp2_with fail
    go_ret
    exact ⟨false, by simp, rfl, rfl⟩

theorem says_at {s : ByteArray} {k : Nat} (hk : k ≤ s.size) (hn : NoSep s k) (he : k = s.size ∨ ∃ h : k < s.size, ((s[k].toNat : Int) == 124) = true ∨ ((s[k].toNat : Int) == 46) = true)
    {part path pipe : ByteArray} {piped more : Bool} (h : ObjSays s part path pipe piped more) :
    part = s.extract 0 k ∧
    ((k = s.size ∧ piped = false ∧ more = false) ∨
     (∃ h : k < s.size, ((s[k].toNat : Int) == 124) = true ∧ piped = true ∧ more = false ∧ pipe = s.extract (k + 1) s.size) ∨
     (∃ h : k < s.size, ((s[k].toNat : Int) == 46) = true ∧ piped = true ∧ more = false ∧ pipe = s.extract (k + 1) s.size) ∨
     (∃ h : k < s.size, ((s[k].toNat : Int) == 46) = true ∧ piped = false ∧ more = true ∧ path = s.extract (k + 1) s.size)) := by
  obtain ⟨j, hj, hnj, hp, hc⟩ := h
  have hej : j = s.size ∨ ∃ h : j < s.size, ((s[j].toNat : Int) == 124) = true ∨ ((s[j].toNat : Int) == 46) = true := by
    rcases hc with ⟨a, _⟩ | ⟨a, b, _⟩ | ⟨a, b, _⟩ | ⟨a, b, _⟩
    · exact Or.inl a
    · exact Or.inr ⟨a, Or.inl b⟩
    · exact Or.inr ⟨a, Or.inr b⟩
    · exact Or.inr ⟨a, Or.inr b⟩
  have key : ∀ a b : Nat, a ≤ s.size → b ≤ s.size → NoSep s b → (a = s.size ∨ ∃ h : a < s.size, ((s[a].toNat : Int) == 124) = true ∨ ((s[a].toNat : Int) == 46) = true) → b ≤ a := by
    intro a b ha hb hnb hea
    rcases hea with e | ⟨h, e⟩
    · omega
    · by_cases hab : a < b
      · obtain ⟨x, y⟩ := hnb a h hab
        rw [x, y] at e
        simp at e
      · omega
  have e : j = k := Nat.le_antisymm (key k j hk hj hnj he) (key j k hj hk hn hej)
  subst e
  exact ⟨hp, hc⟩


theorem eq_false_of {x : Int} (h : (x == 46) = true) : (x == 124) = false := by
  simp at h ⊢; omega
def True1 (w : World) (e : Ending) (w' : World) : Prop := e = .returned (.bool true) ∧ Below w.heap.size w w'
set_option maxRecDepth 100000 in
set_option maxHeartbeats 1000000 in
theorem lawObj (s : ByteArray) (w : World) (hs : s.size ≤ maxLen) : Calls Tryz.prog 4 #[.string s] w (True1 w) := by
  have hs2 : s.size ≤ maxLen := hs
  have HS := Lib.hid hs2
  clear hs2
  unfold maxLen at hs
  by_cases hl : s.size ≤ 2147483647
  · go_enter Tryz.func4, Tryz.ntmps4
    go_wp2_with fail
    refine (gjNoBack _ _ HS.out).mono ?_
    rintro e w' ⟨b, hb, rfl, rfl⟩
    have HB := Lib.hid hb
    clear hb
    cases b
    · go_wp2_with fail
      go_ret
      exact ⟨rfl, Below.refl _ _⟩
    · have HN := Lib.hid (HB.out rfl)
      clear HB
      go_wp2_with fail
      go_loop [3] (fun i => ∃ k : Nat, k ≤ s.size ∧ i = .int .i64 k ∧ Hid (NoSep s k)) (fun i => s.size - (intOf i).toNat)
      case atStart => exact ⟨0, by omega, rfl, fun j h hj => by omega⟩
      case round =>
        obtain ⟨k, hk, rfl, hn⟩ := hrel
        by_cases hlt : k < s.size
        · by_cases h46 : ((s[k].toNat : Int) == 46) = true
          · have g1 : ((s[k].toNat : Int) != 46) = false := by rw [bne, h46]; rfl
            have g3 : ((s[k].toNat : Int) == 124) = false := eq_false_of h46
            go_wp2_with fail
            refine (gjObj _ _ HS.out (fun j h => HN.out j h (by omega))).mono ?_
            rintro e w' ⟨part, path, pipe, piped, wild, more, hsay, rfl, hb⟩
            obtain ⟨rfl, hc⟩ := says_at hk hn.out (Or.inr ⟨hlt, Or.inr h46⟩) hsay
            clear hsay
            rcases hc with ⟨c, rfl, rfl⟩ | ⟨c, d, rfl, rfl, rfl⟩ | ⟨c, d, rfl, rfl, rfl⟩ | ⟨c, d, rfl, rfl, rfl⟩
            all_goals first
              | (exfalso; omega)
              | (exfalso; simp at *; omega)
              | (go_wp2_with fail
                 go_ret
                 exact ⟨rfl, hb⟩)
          · have h46' : ((s[k].toNat : Int) == 46) = false := by simpa using h46
            clear h46
            by_cases h124 : ((s[k].toNat : Int) == 124) = true
            · have g1 : ((s[k].toNat : Int) != 46) = true := by rw [bne, h46']; rfl
              have g2 : ((s[k].toNat : Int) != 124) = false := by rw [bne, h124]; rfl
              go_wp2_with fail
              refine (gjObj _ _ HS.out (fun j h => HN.out j h (by omega))).mono ?_
              rintro e w' ⟨part, path, pipe, piped, wild, more, hsay, rfl, hb⟩
              obtain ⟨rfl, hc⟩ := says_at hk hn.out (Or.inr ⟨hlt, Or.inl h124⟩) hsay
              clear hsay
              rcases hc with ⟨c, rfl, rfl⟩ | ⟨c, d, rfl, rfl, rfl⟩ | ⟨c, d, rfl, rfl, rfl⟩ | ⟨c, d, rfl, rfl, rfl⟩
              all_goals first
                | (exfalso; omega)
                | (exfalso; simp at *; omega)
                | (go_wp2_with fail
                   go_ret
                   exact ⟨rfl, hb⟩)
            · have h124' : ((s[k].toNat : Int) == 124) = false := by simpa using h124
              clear h124
              have hn' : Hid (NoSep s (k + 1)) := Lib.hid (nosep_succ hlt hn.out h124' h46')
              have g1 : ((s[k].toNat : Int) != 46) = true := by rw [bne, h46']; rfl
              have g2 : ((s[k].toNat : Int) != 124) = true := by rw [bne, h124']; rfl
              go_wp2_with fail
              go_round
              case rel => exact ⟨k + 1, by omega, by go_num, hn'⟩
              case measure => simp [intOf]; omega
        · have hks : k = s.size := by omega
          subst hks
          go_wp2_with fail
          refine (gjObj _ _ HS.out (fun j h => HN.out j h (by omega))).mono ?_
          rintro e w' ⟨part, path, pipe, piped, wild, more, hsay, rfl, hb⟩
          obtain ⟨rfl, hc⟩ := says_at hk hn.out (Or.inl rfl) hsay
          clear hsay
          rcases hc with ⟨c, rfl, rfl⟩ | ⟨c, d, rfl, rfl, rfl⟩ | ⟨c, d, rfl, rfl, rfl⟩ | ⟨c, d, rfl, rfl, rfl⟩
          all_goals first
            | (exfalso; omega)
            | (exfalso; simp at *; omega)
            | (go_wp2_with fail
               go_ret
               exact ⟨rfl, hb⟩)
  · go_enter Tryz.func4, Tryz.ntmps4
    go_wp2_with fail
    go_ret
    exact ⟨rfl, Below.refl _ _⟩
end Go.Proofs.YtccdhgfeimlndaaGreatDoor
