/- parseObjectPath (and what it calls): for every path without backslashes, what the Go code returns. -/
import Derived.Test.YtccdhgfeimlndaaGreatDoorProg
import Derived.WalkKit
import Derived.WalkSpells
import Derived.WalkLawsBesides
import Derived.Lib.Hide
namespace Go.Proofs.YtccdhgfeimlndaaGreatDoor
open Go.RowKit

def SomeFunc (v : Value) : Prop := v = .nilFunc ∨ ∃ f, v = .func (.func f) #[] #[]
def GotMod (w : World) (e : Ending) (w' : World) : Prop := ∃ v, SomeFunc v ∧ e = .returned v ∧ w = w'
set_option maxHeartbeats 400000 in
theorem getMod (s : ByteArray) (w : World) :
    Calls Tryz.prog 21 #[.string s] w (GotMod w) := by
  go_enter Tryz.func21, Tryz.ntmps21
  go_wp2
  all_goals go_ret
  all_goals refine ⟨_, ?_, rfl, rfl⟩
  all_goals first | exact Or.inl rfl | exact Or.inr ⟨_, rfl⟩

def SomeBool (w : World) (e : Ending) (w' : World) : Prop := ∃ b, e = .returned (.bool b) ∧ w = w'


theorem run_equalIn_nilFunc {P : Program} {ps rs : Array TypeId} {vd : Bool} (w : World) (d : Nat) (t : TypeId) (h : P.underlying t = some (.func ps rs vd)) :
    (Op.equalIn (d + 1) t .nilFunc .nilFunc).run P w = .ok true w := by simp [Op.equalIn, run_underlying h]
theorem run_equalIn_func {P : Program} {ps rs : Array TypeId} {vd : Bool} (w : World) (d : Nat) (t : TypeId) (h : P.underlying t = some (.func ps rs vd)) (f : Fn) (a b : Array Value) :
    (Op.equalIn (d + 1) t (.func f a b) .nilFunc).run P w = .ok false w := by simp [Op.equalIn, run_underlying h]
theorem run_neq_nilFunc {P : Program} {ps rs : Array TypeId} {vd : Bool} (w : World) (t : TypeId) (h : P.underlying t = some (.func ps rs vd)) :
    (binOp .neq t .nilFunc .nilFunc).run P w = .ok (.bool false) w := by
  simp only [binOp]
  simp [Op.equal, Op.maxDepth, run_equalIn_nilFunc w 9999 t h]
theorem run_neq_func {P : Program} {ps rs : Array TypeId} {vd : Bool} (w : World) (t : TypeId) (h : P.underlying t = some (.func ps rs vd)) (f : Fn) (a b : Array Value) :
    (binOp .neq t (.func f a b) .nilFunc).run P w = .ok (.bool true) w := by
  simp only [binOp]
  simp [Op.equal, Op.maxDepth, run_equalIn_func w 9999 t h]

set_option maxHeartbeats 400000 in
theorem dotPiper (s : ByteArray) (w : World) (h1 : 0 < s.size) (hs : s.size ≤ maxLen) :
    Calls Tryz.prog 18 #[.string s] w (SomeBool w) := by
  unfold maxLen at hs
  by_cases h64 : ((s[0].toNat : Int) == 64) = true
  · have q1 := fun (w : World) => run_neq_nilFunc (P := Tryz.prog) w 46 Tryz.underlying46
    have q2 := fun (w : World) => run_neq_func (P := Tryz.prog) w 46 Tryz.underlying46
    go_enter Tryz.func18, Tryz.ntmps18
    go_wp2
    go_loop [4] (fun i => ∃ k : Nat, 1 ≤ k ∧ k ≤ s.size ∧ i = .int .i64 k) (fun i => s.size - (intOf i).toNat)
    case atStart => exact ⟨1, by omega, by omega, rfl⟩
    case round =>
      obtain ⟨k, hk1, hk, rfl⟩ := hrel
      by_cases hlt : k < s.size
      · go_wp2_with (go_at_call 21; refine (getMod _ _).mono ?_; rintro e w' ⟨v, hv, rfl, rfl⟩; rcases hv with rfl | ⟨f, rfl⟩)
        all_goals first
          | (go_ret; exact ⟨_, rfl, rfl⟩)
          | (go_round
             case rel => exact ⟨k + 1, by omega, by omega, by go_num⟩
             case measure => simp [intOf]; omega)
      · go_wp2_with (go_at_call 21; refine (getMod _ _).mono ?_; rintro e w' ⟨v, hv, rfl, rfl⟩; rcases hv with rfl | ⟨f, rfl⟩)
        all_goals go_ret
        all_goals exact ⟨_, rfl, rfl⟩
  · have h64' : ((s[0].toNat : Int) == 64) = false := by simpa using h64
    clear h64
    go_enter Tryz.func18, Tryz.ntmps18
    go_wp2
    all_goals go_ret
    all_goals exact ⟨_, rfl, rfl⟩


def NoSep (s : ByteArray) (k : Nat) : Prop := ∀ j (h : j < s.size), j < k → ((s[j].toNat : Int) == 124) = false ∧ ((s[j].toNat : Int) == 46) = false
theorem nosep_succ {s : ByteArray} {k : Nat} (hlt : k < s.size) (hn : NoSep s k) (a : ((s[k].toNat : Int) == 124) = false) (b : ((s[k].toNat : Int) == 46) = false) : NoSep s (k + 1) := by
  intro j h hj
  by_cases e : j = k
  · subst e; exact ⟨a, b⟩
  · exact hn j h (by omega)
def ObjSays (s : ByteArray) (part path pipe : ByteArray) (piped more : Bool) : Prop :=
  ∃ k, k ≤ s.size ∧ NoSep s k ∧ part = s.extract 0 k ∧
    ((k = s.size ∧ piped = false ∧ more = false) ∨
     (∃ h : k < s.size, ((s[k].toNat : Int) == 124) = true ∧ piped = true ∧ more = false ∧ pipe = s.extract (k + 1) s.size) ∨
     (∃ h : k < s.size, ((s[k].toNat : Int) == 46) = true ∧ piped = true ∧ more = false ∧ pipe = s.extract (k + 1) s.size) ∨
     (∃ h : k < s.size, ((s[k].toNat : Int) == 46) = true ∧ piped = false ∧ more = true ∧ path = s.extract (k + 1) s.size))
def ObjGot (s : ByteArray) (w : World) (e : Ending) (w' : World) : Prop :=
  ∃ part path pipe piped wild more, ObjSays s part path pipe piped more ∧
    e = .returned (.agg #[.string part, .string path, .string pipe, .bool piped, .bool wild, .bool more]) ∧ Below w.heap.size w w'
def ObjWorld (w : World) (wd : Bool) : World := w.alloc (.cells #[.string ⟨#[]⟩, .string ⟨#[]⟩, .string ⟨#[]⟩, .bool false, .bool wd, .bool false] 40)
set_option maxRecDepth 100000 in
set_option maxHeartbeats 400000 in
theorem objPath (s : ByteArray) (w : World) (hs : s.size ≤ maxLen) (hb : ∀ k (h : k < s.size), ((s[k].toNat : Int) == 92) = false) :
    Calls Tryz.prog 17 #[.string s] w (ObjGot s w) := by
  unfold maxLen at hs
  have HB := Lib.hid hb
  clear hb
  go_enter Tryz.func17, Tryz.ntmps17
  go_wp2
  go_loopw [3] (fun i wr => ∃ (k : Nat) (wd : Bool), k ≤ s.size ∧ i = .int .i64 k ∧ Hid (NoSep s k) ∧ wr = w.alloc (.cells #[.string ⟨#[]⟩, .string ⟨#[]⟩, .string ⟨#[]⟩, .bool false, .bool wd, .bool false] 40)) (fun i _ => s.size - (intOf i).toNat)
  case atStart => exact ⟨0, false, by omega, rfl, fun j h hj => by omega, rfl⟩
  case round =>
    obtain ⟨k, wd, hk, rfl, hn, rfl⟩ := hrel
    by_cases hlt : k < s.size
    · by_cases h124 : ((s[k].toNat : Int) == 124) = true
      · go_wp2_with fail
        refine bodyPost_ret (v := .agg #[.string (s.extract 0 k), .string ⟨#[]⟩, .string (s.extract (k + 1) s.size), .bool true, .bool wd, .bool false]) (by simp [results, Tryz.results17, go_sem]) rfl ⟨_, _, _, _, _, _, ⟨k, hk, hn.out, rfl, Or.inr (Or.inl ⟨hlt, h124, rfl, rfl, rfl⟩)⟩, rfl, ?_⟩
        exact (Below.refl _ _).alloc (Nat.le_refl _) _
      · have h124' : ((s[k].toNat : Int) == 124) = false := by simpa using h124
        clear h124
        by_cases h46 : ((s[k].toNat : Int) == 46) = true
        · by_cases hl : k < s.size - 1
          · go_wp2_with fail
            refine (dotPiper _ _ (by rw [ByteArray.size_extract]; omega) (by unfold maxLen; rw [ByteArray.size_extract]; omega)).mono ?_
            rintro e w' ⟨b, rfl, rfl⟩
            cases b
            · go_wp2_with fail
              refine bodyPost_ret (v := .agg #[.string (s.extract 0 k), .string (s.extract (k + 1) s.size), .string ⟨#[]⟩, .bool false, .bool wd, .bool true]) (by simp [results, Tryz.results17, go_sem]) rfl ⟨_, _, _, _, _, _, ⟨k, hk, hn.out, rfl, Or.inr (Or.inr (Or.inr ⟨hlt, h46, rfl, rfl, rfl⟩))⟩, rfl, ?_⟩
              exact (Below.refl _ _).alloc (Nat.le_refl _) _
            · go_wp2_with fail
              refine bodyPost_ret (v := .agg #[.string (s.extract 0 k), .string ⟨#[]⟩, .string (s.extract (k + 1) s.size), .bool true, .bool wd, .bool false]) (by simp [results, Tryz.results17, go_sem]) rfl ⟨_, _, _, _, _, _, ⟨k, hk, hn.out, rfl, Or.inr (Or.inr (Or.inl ⟨hlt, h46, rfl, rfl, rfl⟩))⟩, rfl, ?_⟩
              exact (Below.refl _ _).alloc (Nat.le_refl _) _
          · go_wp2_with fail
            refine bodyPost_ret (v := .agg #[.string (s.extract 0 k), .string (s.extract (k + 1) s.size), .string ⟨#[]⟩, .bool false, .bool wd, .bool true]) (by simp [results, Tryz.results17, go_sem]) rfl ⟨_, _, _, _, _, _, ⟨k, hk, hn.out, rfl, Or.inr (Or.inr (Or.inr ⟨hlt, h46, rfl, rfl, rfl⟩))⟩, rfl, ?_⟩
            exact (Below.refl _ _).alloc (Nat.le_refl _) _
        · have h46' : ((s[k].toNat : Int) == 46) = false := by simpa using h46
          clear h46
          have h92 := HB.out k hlt
          have hn' : Hid (NoSep s (k + 1)) := Lib.hid (nosep_succ hlt hn.out h124' h46')
          go_wp2_with fail
          all_goals
            refine ⟨⟨k + 1, _, by omega, by go_num, hn', rfl⟩, ?_⟩
            simp [intOf]; omega
    · go_wp2
      obtain rfl : k = s.size := by omega
      refine bodyPost_ret (v := .agg #[.string s, .string ⟨#[]⟩, .string ⟨#[]⟩, .bool false, .bool wd, .bool false]) (by simp [results, Tryz.results17, go_sem]) rfl ⟨_, _, _, _, _, _, ⟨s.size, hk, hn.out, (by simp), Or.inl ⟨rfl, rfl, rfl⟩⟩, rfl, ?_⟩
      exact (Below.refl _ _).alloc (Nat.le_refl _) _
end Go.Proofs.YtccdhgfeimlndaaGreatDoor
