/- parseArrayPath over a path that begins with a query: what the Go code returns. -/
import Derived.Test.YtccdhgfeimlndaaGreatDoorQryB
namespace Go.Proofs.YtccdhgfeimlndaaGreatDoor
open Go.RowKit

theorem at_eq' {s : ByteArray} {i j : Nat} {hi : i < s.size} {hj : j < s.size} {c : Int} (e : i = j) (h : (s[i].toNat : Int) = c) : (s[j].toNat : Int) = c := by subst e; exact h
def QGivesT (s T : ByteArray) (a e k : Nat) (w : World) (en : Ending) (w' : World) : Prop :=
  en = .returned (.tuple #[.string (s.extract 2 a), .string (signS k), .string T, .string (s.extract (e + 2) s.size), .int .i64 ((e + 2 : Nat) : Int), .bool false, .bool true]) ∧ w = w'
theorem parseQ_as (t s T : ByteArray) (w : World) (a q e k : Nat) (H : QText t a q e k) (h : s = t) (hT : T = t.extract q (e + 1)) : Calls Tryz.prog 19 #[.string s] w (QGivesT t T a e k w) := by
  subst h; subst hT; exact parseQ _ w a q e k H
def arrCells (part path pipe : ByteArray) (piped more arrch on all : Bool) (qpath op value : ByteArray) : Array Value :=
  #[.string part, .string path, .string pipe, .bool piped, .bool more, .bool false, .bool arrch, .string ⟨#[]⟩, .bool on, .bool all, .string qpath, .string op, .string value]
/-- The first component of a path in an array, where the path begins with a query: p is behind the query (and its '#'). -/
structure ATail (s : ByteArray) (e p : Nat) (all : Bool) : Prop where
  pe : p = e + 2 + (if all then 1 else 0)
  ps : p ≤ s.size
  hash : ∀ h : all = true, (s[e + 2]'(by rw [h] at pe; simp at pe; omega)).toNat = 35
  sep : ∀ h : p < s.size, s[p].toNat = 124 ∨ s[p].toNat = 46
theorem ATail.not_hash {s : ByteArray} {e p : Nat} (H : ATail s e p false) (h : e + 2 < s.size) : (((s[e + 2]).toNat : Int) == 35) = false := by
  have e1 := H.pe
  simp at e1
  subst e1
  have := H.sep h
  rw [beq_eq_false_iff_ne]; omega
theorem ATail.is_hash {s : ByteArray} {e p : Nat} (H : ATail s e p true) : ∃ h : e + 2 < s.size, ((s[e + 2]).toNat : Int) = 35 := by
  have e1 := H.pe; have e2 := H.ps
  simp at e1
  exact ⟨by omega, by have := H.hash rfl; omega⟩
theorem QText.t0 {s T : ByteArray} {a q e k : Nat} (H : QText s a q e k) (hT : T = s.extract q (e + 1)) {h : 0 < T.size} : (T[0].toNat : Int) = 34 := by
  subst hT
  rw [ByteArray.getElem_extract]
  exact H.quote
theorem QText.t1 {s T : ByteArray} {a q e k : Nat} (H : QText s a q e k) (hT : T = s.extract q (e + 1)) {h : T.size - 1 < T.size} : (T[T.size - 1].toNat : Int) = 34 := by
  have h3 := H.qe; have h4 := H.es
  subst hT
  have z : (s.extract q (e + 1)).size = e + 1 - q := by rw [ByteArray.size_extract]; omega
  have y : q + ((s.extract q (e + 1)).size - 1) = e := by omega
  rw [ByteArray.getElem_extract]
  have := H.quote2
  exact at_eq' y.symm this
theorem QText.inner {s T : ByteArray} {a q e k : Nat} (H : QText s a q e k) (hT : T = s.extract q (e + 1)) : T.extract 1 (T.size - 1) = s.extract (q + 1) e := by
  have h3 := H.qe; have h4 := H.es
  subst hT
  rw [ByteArray.extract_extract, ByteArray.size_extract]
  congr 1; omega
theorem QText.text {s : ByteArray} {a q e k : Nat} (H : QText s a q e k) : ∃ T : ByteArray, Hid (T = s.extract q (e + 1)) ∧ T.size ≤ 1000000 ∧ Hid (T.extract 1 (T.size - 1) = s.extract (q + 1) e) ∧
    ∃ h : 2 ≤ T.size, ((T[0]'(by omega)).toNat : Int) = 34 ∧ ((T[T.size - 1]'(by omega)).toNat : Int) = 34 := by
  have h3 := H.qe; have h4 := H.es; have h5 := H.sm
  have z : (s.extract q (e + 1)).size = e + 1 - q := by rw [ByteArray.size_extract]; omega
  exact ⟨_, Lib.hid rfl, by omega, Lib.hid (H.inner rfl), by omega, H.t0 rfl, H.t1 rfl⟩
def ArrEnd (s : ByteArray) (p : Nat) (path pipe : ByteArray) (piped more : Bool) : Prop :=
  (p = s.size ∧ piped = false ∧ more = false) ∨
  (∃ h : p < s.size, s[p].toNat = 124 ∧ piped = true ∧ more = false ∧ pipe = s.extract (p + 1) s.size) ∨
  (∃ h : p < s.size, s[p].toNat = 46 ∧ piped = false ∧ more = true ∧ path = s.extract (p + 1) s.size)
def ArrGives (s : ByteArray) (a q e k p : Nat) (all : Bool) (w : World) (en : Ending) (w' : World) : Prop :=
  ∃ part path pipe piped more, ArrEnd s p path pipe piped more ∧
    en = .returned (.agg (arrCells part path pipe piped more true true all (s.extract 2 a) (signS k) (s.extract (q + 1) e))) ∧
    w.alloc (.cells (arrCells part path pipe piped more true true all (s.extract 2 a) (signS k) (s.extract (q + 1) e)) 37) = w'
set_option maxRecDepth 100000 in
set_option maxHeartbeats 1000000 in
theorem arrPath (s : ByteArray) (w : World) (a q e k p : Nat) (all : Bool) (H : QText s a q e k) (HA : ATail s e p all) : Calls Tryz.prog 16 #[.string s] w (ArrGives s a q e k p all w) := by
  have h1 := H.a2; have h3 := H.qe; have h4 := H.es; have h5 := H.sm
  obtain ⟨haq, haq2⟩ := H.bounds
  have g0 : (s[0].toNat : Int) = 35 := by rw [H.b0]; rfl
  have g1 : (s[1].toNat : Int) = 40 := by rw [H.b1]; rfl
  have HH := Lib.hid H
  have HB := Lib.hid HA
  clear H HA
  go_enter Tryz.func16, Tryz.ntmps16
  go_wp2_with fail
  go_loopw [3] (fun i wr => ∃ x : Nat, i = .int .i64 (x : Int) ∧ ((x = 0 ∧ wr = w.alloc (.cells (arrCells ⟨#[]⟩ ⟨#[]⟩ ⟨#[]⟩ false false false false false ⟨#[]⟩ ⟨#[]⟩ ⟨#[]⟩) 37)) ∨
      ((x = e + 2 ∨ (x = e + 3 ∧ all = true)) ∧ wr = w.alloc (.cells (arrCells ⟨#[]⟩ ⟨#[]⟩ ⟨#[]⟩ false false true true all (s.extract 2 a) (signS k) (s.extract (q + 1) e)) 37)))) (fun i _ => s.size - (intOf i).toNat)
  case atStart => exact ⟨0, rfl, Or.inl ⟨rfl, rfl⟩⟩
  case round =>
    obtain ⟨x, rfl, hx⟩ := hrel
    rcases hx with ⟨rfl, rfl⟩ | ⟨hx, rfl⟩
    · unfold arrCells
      obtain ⟨T, HT, htm, HO, ht2, t0, t1⟩ := HH.out.text
      cases all
      · by_cases hpe : e + 2 < s.size
        · have hne := HB.out.not_hash hpe
          go_wp2_with fail
          refine (parseQ_as s _ T _ a q e k HH.out rfl HT.out).mono ?_
          rintro en w' ⟨rfl, rfl⟩
          go_wp2_with fail
          rw [HO.out]
          refine ⟨⟨e + 2, by go_num, Or.inr ⟨Or.inl rfl, rfl⟩⟩, ?_⟩
          simp [intOf]; omega
        · go_wp2_with fail
          refine (parseQ_as s _ T _ a q e k HH.out rfl HT.out).mono ?_
          rintro en w' ⟨rfl, rfl⟩
          go_wp2_with fail
          rw [HO.out]
          refine ⟨⟨e + 2, by go_num, Or.inr ⟨Or.inl rfl, rfl⟩⟩, ?_⟩
          simp [intOf]; omega
      · obtain ⟨hpe, hne⟩ := HB.out.is_hash
        go_wp2_with fail
        refine (parseQ_as s _ T _ a q e k HH.out rfl HT.out).mono ?_
        rintro en w' ⟨rfl, rfl⟩
        go_wp2_with fail
        rw [HO.out]
        refine ⟨⟨e + 2, by go_num, Or.inr ⟨Or.inl rfl, rfl⟩⟩, ?_⟩
        simp [intOf]; omega
    · have hxp : (all = true ∧ x = e + 2) ∨ x = p := by
        have e1 := HB.out.pe
        rcases hx with hx | ⟨hx, ha⟩
        · cases all
          · right; simp at e1; omega
          · exact Or.inl ⟨rfl, hx⟩
        · right; rw [ha] at e1; simp at e1; omega
      have hps := HB.out.ps
      rcases hxp with ⟨rfl, rfl⟩ | rfl
      · obtain ⟨hpe, hne⟩ := HB.out.is_hash
        unfold arrCells
        clear hx
        go_wp2_with fail
        refine ⟨⟨e + 3, by go_num, Or.inr ⟨Or.inr ⟨rfl, trivial⟩, trivial⟩⟩, ?_⟩
        simp [intOf]; omega
      · have hx0 : 0 < x := by omega
        clear hx
        by_cases hlt : x < s.size
        · rcases HB.out.sep hlt with hc | hc
          · have hv : (s[x].toNat : Int) = 124 := by omega
            have Hc := Lib.hid hc
            clear hc
            unfold arrCells
            go_wp2_with fail
            refine bodyPost_ret (v := .agg (arrCells (s.extract 0 x) ⟨#[]⟩ (s.extract (x + 1) s.size) true false true true all (s.extract 2 a) (signS k) (s.extract (q + 1) e))) (by simp [results, Tryz.results16, go_sem, arrCells]) rfl ⟨_, _, _, _, _, Or.inr (Or.inl ⟨hlt, Hc.out, rfl, rfl, rfl⟩), rfl, ?_⟩
            rfl
          · have hv : (s[x].toNat : Int) = 46 := by omega
            have Hc := Lib.hid hc
            clear hc
            unfold arrCells
            go_wp2_with fail
            refine bodyPost_ret (v := .agg (arrCells (s.extract 0 x) (s.extract (x + 1) s.size) ⟨#[]⟩ false true true true all (s.extract 2 a) (signS k) (s.extract (q + 1) e))) (by simp [results, Tryz.results16, go_sem, arrCells]) rfl ⟨_, _, _, _, _, Or.inr (Or.inr ⟨hlt, Hc.out, rfl, rfl, rfl⟩), rfl, ?_⟩
            rfl
        · obtain rfl : x = s.size := by omega
          unfold arrCells
          go_wp2_with fail
          refine bodyPost_ret (v := .agg (arrCells s ⟨#[]⟩ ⟨#[]⟩ false false true true all (s.extract 2 a) (signS k) (s.extract (q + 1) e))) (by simp [results, Tryz.results16, go_sem, arrCells]) rfl ⟨_, _, _, _, _, Or.inl ⟨rfl, rfl, rfl⟩, rfl, ?_⟩
          rfl
end Go.Proofs.YtccdhgfeimlndaaGreatDoor
