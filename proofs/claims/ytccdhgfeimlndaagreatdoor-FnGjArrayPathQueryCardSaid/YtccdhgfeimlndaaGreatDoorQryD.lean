/- DoorArrayPath, GjArrayPath and gjArrayRest: what the Go code returns over a path that begins with a query. -/
import Derived.Test.YtccdhgfeimlndaaGreatDoorQryC
namespace Go.Proofs.YtccdhgfeimlndaaGreatDoor
open Go.RowKit

def doorCells (part path pipe qpath op value : ByteArray) (piped more all : Bool) : Array Value :=
  #[.string part, .string path, .string pipe, .string ⟨#[]⟩, .string qpath, .string op, .string value, .bool piped, .bool more, .bool false, .bool true, .bool true, .bool all]
def DoorGives0 (s : ByteArray) (a q e k p : Nat) (all : Bool) (w : World) (en : Ending) (w' : World) : Prop :=
  ∃ part path pipe piped more A B, ArrEnd s p path pipe piped more ∧
    en = .returned (.agg (doorCells part path pipe (s.extract 2 a) (signS k) (s.extract (q + 1) e) piped more all)) ∧
    ((w.alloc (.cells (doorCells part path pipe (s.extract 2 a) (signS k) (s.extract (q + 1) e) piped more all) 33)).alloc A).alloc B = w'
def DoorGives (s : ByteArray) (a q e k p : Nat) (all : Bool) (w : World) (en : Ending) (w' : World) : Prop :=
  ∃ part path pipe piped more, ArrEnd s p path pipe piped more ∧
    en = .returned (.agg (doorCells part path pipe (s.extract 2 a) (signS k) (s.extract (q + 1) e) piped more all)) ∧ Below w.heap.size w w'
set_option maxRecDepth 100000 in
set_option maxHeartbeats 1000000 in
theorem doorArr (s : ByteArray) (w : World) (a q e k p : Nat) (all : Bool) (H : QText s a q e k) (HA : ATail s e p all) : Calls Tryz.prog 13 #[.string s] w (DoorGives0 s a q e k p all w) := by
  have HH := Lib.hid H
  have HB := Lib.hid HA
  clear H HA
  go_enter Tryz.func13, Tryz.ntmps13
  go_wp2_with fail
  refine (arrPath s _ a q e k p all HH.out HB.out).mono ?_
  rintro en w' ⟨part, path, pipe, piped, more, hend, rfl, rfl⟩
  have HE := Lib.hid hend
  clear hend
  unfold arrCells
  go_wp2_with fail
  refine bodyPost_ret (v := .agg (doorCells part path pipe (s.extract 2 a) (signS k) (s.extract (q + 1) e) piped more all)) (by simp [results, Tryz.results13, go_sem, doorCells]) rfl ⟨_, _, _, _, _, _, _, HE.out, rfl, rfl⟩

set_option maxRecDepth 100000 in
set_option maxHeartbeats 1000000 in
theorem gjArr (s : ByteArray) (w : World) (a q e k p : Nat) (all : Bool) (H : QText s a q e k) (HA : ATail s e p all) : Calls Tryz.prog 7 #[.string s] w (DoorGives s a q e k p all w) := by
  have HH := Lib.hid H
  have HB := Lib.hid HA
  clear H HA
  go_enter Tryz.func7, Tryz.ntmps7
  go_wp2_with fail
  refine (doorArr s _ a q e k p all HH.out HB.out).mono ?_
  rintro en w' ⟨part, path, pipe, piped, more, A, B, hend, rfl, rfl⟩
  have HE := Lib.hid hend
  clear hend
  unfold doorCells
  go_wp2_with fail
  refine bodyPost_ret (v := .agg (doorCells part path pipe (s.extract 2 a) (signS k) (s.extract (q + 1) e) piped more all)) (by simp [results, Tryz.results7, go_sem, doorCells]) rfl ⟨_, _, _, _, _, HE.out, rfl, ?_⟩
  exact ((((Below.refl _ _).alloc (Nat.le_refl _) _).alloc (by simp) _).alloc (by simp; omega) _).alloc (by simp; omega) _

def RestOk (rest path pipe : ByteArray) (piped more pip : Bool) : Prop :=
  (rest.size = 0 ∧ piped = false ∧ more = false) ∨ (rest.size ≠ 0 ∧ pip = true ∧ piped = true ∧ more = false ∧ pipe = rest) ∨ (rest.size ≠ 0 ∧ pip = false ∧ piped = false ∧ more = true ∧ path = rest)
def True2 (w : World) (e : Ending) (w' : World) : Prop := e = .returned (.bool true) ∧ Below w.heap.size w w'
set_option maxRecDepth 100000 in
set_option maxHeartbeats 1000000 in
theorem gjRest (part path pipe qpath op value rest : ByteArray) (piped more all pip : Bool) (w : World) (h : RestOk rest path pipe piped more pip) :
    Calls Tryz.prog 10 #[.agg (doorCells part path pipe qpath op value piped more all), .string rest, .bool pip] w (True2 w) := by
  unfold doorCells
  rcases h with ⟨h0, rfl, rfl⟩ | ⟨h0, rfl, rfl, rfl, rfl⟩ | ⟨h0, rfl, rfl, rfl, rfl⟩
  · have g := isEmpty_of h0
    go_enter Tryz.func10, Tryz.ntmps10
    go_wp2_with fail
    go_ret
    exact ⟨rfl, (Below.refl _ _).alloc (Nat.le_refl _) _⟩
  · have g := isEmpty_not h0
    go_enter Tryz.func10, Tryz.ntmps10
    go_wp2_with fail
    go_ret
    exact ⟨rfl, (Below.refl _ _).alloc (Nat.le_refl _) _⟩
  · have g := isEmpty_not h0
    go_enter Tryz.func10, Tryz.ntmps10
    go_wp2_with fail
    go_ret
    exact ⟨rfl, (Below.refl _ _).alloc (Nat.le_refl _) _⟩
end Go.Proofs.YtccdhgfeimlndaaGreatDoor
