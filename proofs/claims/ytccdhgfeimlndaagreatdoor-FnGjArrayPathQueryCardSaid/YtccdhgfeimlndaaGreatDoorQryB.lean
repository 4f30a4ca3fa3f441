/- parseQuery over a text '#(name op "value")': what the Go code returns. -/
import Derived.Test.YtccdhgfeimlndaaGreatDoorQryA
namespace Go.Proofs.YtccdhgfeimlndaaGreatDoor
open Go.RowKit

/-- A text of a query: '#(', a name, an operator, a value in quotation marks, ')'. a: behind the name; q: the first quotation mark; e: the second one. -/
structure QText (s : ByteArray) (a q e k : Nat) : Prop where
  k6 : k < 6
  a2 : 2 < a
  aq : q = a + (opS k).size
  qe : q < e
  es : e + 1 < s.size
  sm : s.size ≤ 1000000
  b0 : (s[0]'(by omega)).toNat = 35
  b1 : (s[1]'(by omega)).toNat = 40
  name : ∀ j (h : j < s.size), 2 ≤ j → j < a → WordB s[j].toNat
  op : ∀ j (h : j < (opS k).size) (h' : a + j < s.size), s[a + j] = (opS k)[j]
  bq : (s[q]'(by omega)).toNat = 34
  val : ∀ j (h : j < s.size), q < j → j < e → s[j].toNat ≠ 34 ∧ s[j].toNat ≠ 92
  be : (s[e]'(by omega)).toNat = 34
  bc : (s[e + 1]'(by omega)).toNat = 41

def Plain (c : Int) : Prop := (c == 33) = false ∧ (c == 61) = false ∧ (c == 60) = false ∧ (c == 62) = false ∧ (c == 37) = false ∧ (c == 92) = false ∧ (c == 91) = false ∧ (c == 40) = false ∧ (c == 93) = false ∧ (c == 41) = false ∧ (c == 34) = false
theorem word_plain {c : Nat} (h : WordB c) : Plain (c : Int) := by
  unfold WordB at h
  refine ⟨?_, ?_, ?_, ?_, ?_, ?_, ?_, ?_, ?_, ?_, ?_⟩ <;> (rw [beq_eq_false_iff_ne]; omega)
theorem opS_size (k : Nat) : 0 < (opS k).size ∧ (opS k).size ≤ 2 := by
  match k with
  | 0 => decide
  | 1 => decide
  | 2 => decide
  | 3 => decide
  | 4 => decide
  | n + 5 => exact ⟨by show 0 < 2; omega, Nat.le_refl _⟩
/-- The operator's first byte is one of '!', '=', '<', '>'. -/
theorem op_first {k : Nat} (h : k < 6) (h0 : 0 < (opS k).size) : (opS k)[0].toNat = 33 ∨ (opS k)[0].toNat = 61 ∨ (opS k)[0].toNat = 60 ∨ (opS k)[0].toNat = 62 := by
  match k, h with
  | 0, _ => right; left; rfl
  | 1, _ => left; rfl
  | 2, _ => right; right; left; rfl
  | 3, _ => right; right; right; rfl
  | 4, _ => right; right; right; rfl
  | 5, _ => right; right; left; rfl
theorem op_second {k : Nat} (h : k < 6) (h1 : 1 < (opS k).size) : (opS k)[1].toNat = 61 := by
  match k, h, h1 with
  | 0, _, _ => rfl
  | 1, _, _ => rfl
  | 2, _, h1 => exact absurd h1 (by decide)
  | 3, _, _ => rfl
  | 4, _, h1 => exact absurd h1 (by decide)
  | 5, _, _ => rfl
theorem QText.bounds {s : ByteArray} {a q e k : Nat} (H : QText s a q e k) : a < q ∧ q ≤ a + 2 := by
  have h2 := H.aq; have o := opS_size k
  omega
theorem QText.first {s : ByteArray} {a q e k : Nat} (H : QText s a q e k) : (s[a]'(by have := H.bounds; have := H.qe; have := H.es; omega)).toNat = (33 : Int) ∨ (s[a]'(by have := H.bounds; have := H.qe; have := H.es; omega)).toNat = (61 : Int) ∨ (s[a]'(by have := H.bounds; have := H.qe; have := H.es; omega)).toNat = (60 : Int) ∨ (s[a]'(by have := H.bounds; have := H.qe; have := H.es; omega)).toNat = (62 : Int) := by
  have b := H.bounds; have h3 := H.qe; have h4 := H.es
  have o := (opS_size k).1
  have e0 := H.op 0 o (by omega)
  simp only [Nat.add_zero] at e0
  rw [e0]
  have := op_first H.k6 o
  omega
theorem QText.second {s : ByteArray} {a q e k : Nat} (H : QText s a q e k) (x : Nat) (h1 : a < x) (h2 : x < q) : (s[x]'(by have := H.bounds; have := H.qe; have := H.es; omega)).toNat = (61 : Int) := by
  have b := H.bounds; have h3 := H.qe; have h4 := H.es; have hq := H.aq
  have o := (opS_size k).1
  obtain rfl : x = a + 1 := by omega
  have e0 := H.op 1 (by omega) (by omega)
  rw [e0]
  have := op_second H.k6 (by omega)
  omega
theorem QText.quote {s : ByteArray} {a q e k : Nat} (H : QText s a q e k) : (s[q]'(by have := H.qe; have := H.es; omega)).toNat = (34 : Int) := by
  have := H.bq
  omega
theorem QText.close {s : ByteArray} {a q e k : Nat} (H : QText s a q e k) : (s[e + 1]'(by have := H.es; omega)).toNat = (41 : Int) := by
  have := H.bc
  omega
theorem QText.quote2 {s : ByteArray} {a q e k : Nat} (H : QText s a q e k) : (s[e]'(by have := H.es; omega)).toNat = (34 : Int) := by
  have := H.be
  omega
theorem QText.value {s : ByteArray} {a q e k : Nat} (H : QText s a q e k) (y : Nat) (h1 : q < y) (h2 : y < e) : (((s[y]'(by have := H.es; omega)).toNat : Int) == 92) = false ∧ (((s[y]'(by have := H.es; omega)).toNat : Int) == 34) = false := by
  have h := H.val y (by have := H.es; omega) h1 h2
  exact ⟨by rw [beq_eq_false_iff_ne]; omega, by rw [beq_eq_false_iff_ne]; omega⟩
def QGives (s : ByteArray) (a q e k : Nat) (w : World) (en : Ending) (w' : World) : Prop :=
  en = .returned (.tuple #[.string (s.extract 2 a), .string (signS k), .string (s.extract q (e + 1)), .string (s.extract (e + 2) s.size), .int .i64 ((e + 2 : Nat) : Int), .bool false, .bool true]) ∧ w = w'

theorem at_eq {s : ByteArray} {i j : Nat} {hi : i < s.size} {hj : j < s.size} (e : i = j) (h : 32 < s[i].toNat) : 32 < s[j].toNat := by subst e; exact h
/-- What trim leaves as it is. -/
structure Trimmed (t : ByteArray) : Prop where
  le : t.size ≤ maxLen
  pos : 0 < t.size
  first : 32 < t[0].toNat
  last : 32 < (t[t.size - 1]'(by omega)).toNat
theorem trim_as (t s : ByteArray) (w : World) (h : Trimmed t) (e : t = s) : Calls Tryz.prog 22 #[.string s] w fun e w' => e = .returned (.string t) ∧ w = w' := by
  subst e
  exact trim_plain t w h.le h.pos h.first h.last
theorem trimmed_extract {s : ByteArray} {i j : Nat} (hij : i < j) (hj : j ≤ s.size) (hs : s.size ≤ maxLen) (h1 : 32 < s[i].toNat) (h2 : 32 < s[j - 1].toNat) : Trimmed (s.extract i j) := by
  have e : (s.extract i j).size = j - i := by rw [ByteArray.size_extract]; omega
  refine ⟨by omega, by omega, ?_, ?_⟩
  · rw [ByteArray.getElem_extract]; simpa using h1
  · rw [ByteArray.getElem_extract]
    have : i + ((s.extract i j).size - 1) = j - 1 := by omega
    exact at_eq this.symm h2
theorem word_32 {c : Nat} (h : WordB c) : 32 < c := by unfold WordB at h; omega
theorem QText.le {s : ByteArray} {a q e k : Nat} (H : QText s a q e k) : s.size ≤ maxLen := by have := H.sm; unfold maxLen; omega
theorem QText.trim_name {s : ByteArray} {a q e k : Nat} (H : QText s a q e k) : Trimmed (s.extract 2 a) := by
  have b := H.bounds; have h3 := H.qe; have h4 := H.es; have h2 := H.a2
  exact trimmed_extract h2 (by omega) H.le (word_32 (H.name 2 (by omega) (by omega) h2)) (word_32 (H.name (a - 1) (by omega) (by omega) (by omega)))
theorem QText.trim_value {s : ByteArray} {a q e k : Nat} (H : QText s a q e k) : Trimmed (s.extract a (e + 1)) := by
  have b := H.bounds; have h3 := H.qe; have h4 := H.es
  refine trimmed_extract (by omega) (by omega) H.le ?_ ?_
  · have := H.first; omega
  · have := H.quote2; simp only [Nat.add_sub_cancel]; omega
theorem QText.trim_text {s : ByteArray} {a q e k : Nat} (H : QText s a q e k) : Trimmed (s.extract q (e + 1)) := by
  have b := H.bounds; have h3 := H.qe; have h4 := H.es
  refine trimmed_extract (by omega) (by omega) H.le ?_ ?_
  · have := H.quote; omega
  · have := H.quote2; simp only [Nat.add_sub_cancel]; omega
def opB0 : Nat → Int
  | 0 => 61
  | 1 => 33
  | 2 => 60
  | 3 => 62
  | 4 => 62
  | _ => 60
def opB1 : Nat → Int
  | 0 => 61
  | 1 => 61
  | 2 => 34
  | 3 => 61
  | 4 => 34
  | _ => 61
theorem opB0_eq {k : Nat} (k6 : k < 6) (h : 0 < (opS k).size) : ((opS k)[0].toNat : Int) = opB0 k := by
  match k, k6 with
  | 0, _ => rfl
  | 1, _ => rfl
  | 2, _ => rfl
  | 3, _ => rfl
  | 4, _ => rfl
  | 5, _ => rfl
theorem opB1_eq {k : Nat} (k6 : k < 6) (h1 : 1 < (opS k).size) : ((opS k)[1].toNat : Int) = opB1 k := by
  match k, k6, h1 with
  | 0, _, _ => rfl
  | 1, _, _ => rfl
  | 2, _, h1 => exact absurd h1 (by decide)
  | 3, _, _ => rfl
  | 4, _, h1 => exact absurd h1 (by decide)
  | 5, _, _ => rfl
theorem opB1_one {k : Nat} (k6 : k < 6) (h1 : ¬ 1 < (opS k).size) : 34 = opB1 k := by
  match k, k6, h1 with
  | 0, _, h1 => exact absurd (by decide) h1
  | 1, _, h1 => exact absurd (by decide) h1
  | 2, _, _ => rfl
  | 3, _, h1 => exact absurd (by decide) h1
  | 4, _, _ => rfl
  | 5, _, h1 => exact absurd (by decide) h1
theorem one_byte {V : ByteArray} {i : Nat} (h : i < V.size) (x : UInt8) (e : V[i] = x) : V.extract i (i + 1) = ⟨#[x]⟩ := by
  have z : (V.extract i (i + 1)).size = 1 := by rw [ByteArray.size_extract]; omega
  refine ByteArray.ext_getElem (z.trans rfl) fun j hj hj' => ?_
  obtain rfl : j = 0 := by omega
  rw [ByteArray.getElem_extract]; exact e
theorem two_bytes {V : ByteArray} {i : Nat} (h : i + 1 < V.size) (x y : UInt8) (e : V[i] = x) (f : V[i + 1] = y) : V.extract i (i + 2) = ⟨#[x, y]⟩ := by
  have z : (V.extract i (i + 2)).size = 2 := by rw [ByteArray.size_extract]; omega
  refine ByteArray.ext_getElem (z.trans rfl) fun j hj hj' => ?_
  have : j = 0 ∨ j = 1 := by omega
  rcases this with rfl | rfl
  · rw [ByteArray.getElem_extract]; exact e
  · rw [ByteArray.getElem_extract]; exact f
theorem byte_of {b : UInt8} {n : Nat} (h : (b.toNat : Int) = (n : Int)) : b = UInt8.ofNat n := by
  have : b.toNat = n := by omega
  rw [← this]; simp
theorem QText.v0 {s V : ByteArray} {a q e k : Nat} (H : QText s a q e k) (hV : V = s.extract a (e + 1)) {h : 0 < V.size} : (V[0].toNat : Int) = opB0 k := by
  have b := H.bounds; have h3 := H.qe; have h4 := H.es; have o := opS_size k; have k6 := H.k6
  subst hV
  rw [ByteArray.getElem_extract]
  have e0 := H.op 0 o.1 (by omega)
  exact (congrArg (fun b : UInt8 => (b.toNat : Int)) e0).trans (opB0_eq k6 o.1)
theorem QText.v1 {s V : ByteArray} {a q e k : Nat} (H : QText s a q e k) (hV : V = s.extract a (e + 1)) {h : 1 < V.size} : (V[1].toNat : Int) = opB1 k := by
  have b := H.bounds; have h3 := H.qe; have h4 := H.es; have o := opS_size k; have k6 := H.k6; have hq := H.aq
  subst hV
  rw [ByteArray.getElem_extract]
  by_cases h1 : 1 < (opS k).size
  · exact (congrArg (fun b : UInt8 => (b.toNat : Int)) (H.op 1 h1 (by omega))).trans (opB1_eq k6 h1)
  · have hqa : q = a + 1 := by omega
    subst hqa
    rw [H.quote]
    exact opB1_one k6 h1
theorem tail1 {s : ByteArray} {a q e o : Nat} (h : q < e) (h4 : e + 1 < s.size) (hq : q = a + o) : s.extract q (e + 1) = (s.extract a (e + 1)).extract o (s.extract a (e + 1)).size := by
  subst hq
  rw [ByteArray.extract_extract, ByteArray.size_extract]
  congr 1; omega
theorem tail0 {s : ByteArray} {a q e : Nat} (h : q < e) (h4 : e + 1 < s.size) (hq : q = a + 2) : s.extract q (e + 1) = ((s.extract a (e + 1)).extract 1 (s.extract a (e + 1)).size).extract 1 ((s.extract a (e + 1)).size - 1) := by
  subst hq
  rw [ByteArray.extract_extract, ByteArray.extract_extract, ByteArray.size_extract]
  congr 1; omega
def QAt (a q e : Nat) (i : Nat) (j : Value) : Prop := (2 ≤ i ∧ i ≤ a ∧ j = .int .i64 0) ∨ (a < i ∧ i ≤ q ∧ j = .int .i64 (a : Int)) ∨ (i = e + 1 ∧ j = .int .i64 (a : Int))
set_option maxRecDepth 100000 in
set_option maxHeartbeats 1000000 in
theorem parseQ (s : ByteArray) (w : World) (a q e k : Nat) (H : QText s a q e k) : Calls Tryz.prog 19 #[.string s] w (QGives s a q e k w) := by
  have h1 := H.a2; have h3 := H.qe; have h4 := H.es; have h5 := H.sm
  obtain ⟨haq, haq2⟩ := H.bounds
  have g0 : ((s[0].toNat : Int) != 35) = false := by rw [H.b0]; rfl
  have g1 : ((s[1].toNat : Int) != 40) = false := by rw [H.b1]; rfl
  have HH := Lib.hid H
  clear H
  go_enter Tryz.func19, Tryz.ntmps19
  go_wp2_with fail
  go_loop [6, 7, 9, 10] (fun i ve j d => ∃ x : Nat, i = .int .i64 (x : Int) ∧ ve = .bool false ∧ d = .int .i64 1 ∧ QAt a q e x j) (fun i _ _ _ => s.size - (intOf i).toNat)
  case atStart => exact ⟨2, rfl, rfl, rfl, Or.inl ⟨by omega, by omega, rfl⟩⟩
  case round =>
    obtain ⟨x, rfl, rfl, rfl, hx⟩ := hrel
    rcases hx with ⟨x1, x2, rfl⟩ | ⟨x1, x2, rfl⟩ | ⟨rfl, rfl⟩
    · by_cases hxa : x < a
      · -- within the name
        have hxs : x < s.size := by omega
        have hp := word_plain (HH.out.name x hxs x1 hxa)
        unfold Plain at hp
        go_wp2_with fail
        refine ⟨⟨x + 1, by go_num, rfl, rfl, Or.inl ⟨by omega, by omega, rfl⟩⟩, ?_⟩
        simp [intOf]; omega
      · -- the operator's first byte
        obtain rfl : x = a := by omega
        have hf := HH.out.first
        rcases hf with hf | hf | hf | hf
        all_goals
          go_wp2_with fail
          refine ⟨⟨x + 1, by go_num, rfl, rfl, Or.inr (Or.inl ⟨by omega, by omega, rfl⟩)⟩, ?_⟩
          simp [intOf]; omega
    · by_cases hxq : x < q
      · -- the operator's second byte
        have hxs : x < s.size := by omega
        have hf := HH.out.second x x1 hxq
        go_wp2_with fail
        refine ⟨⟨x + 1, by go_num, rfl, rfl, Or.inr (Or.inl ⟨by omega, by omega, rfl⟩)⟩, ?_⟩
        simp [intOf]; omega
      · -- the first quotation mark
        obtain rfl : x = q := by omega
        have hf := HH.out.quote
        go_wp2_with fail
        go_loop [6, 7] (fun i ve => ∃ y : Nat, x < y ∧ y ≤ e ∧ i = .int .i64 (y : Int) ∧ ve = .bool false) (fun i _ => s.size - (intOf i).toNat)
        case atStart => exact ⟨x + 1, by omega, by omega, by go_num, rfl⟩
        case round =>
          obtain ⟨y, y1, y2, rfl, rfl⟩ := hrel
          by_cases hye : y < e
          · have hv := HH.out.value y y1 hye
            obtain ⟨v1, v2⟩ := hv
            go_wp2_with fail
            refine ⟨⟨y + 1, by omega, by omega, by go_num, rfl⟩, ?_⟩
            simp [intOf]; omega
          · obtain rfl : y = e := by omega
            have hv := HH.out.quote2
            go_wp2_with fail
            refine ⟨⟨y + 1, by go_num, rfl, rfl, Or.inr (Or.inr ⟨rfl, rfl⟩)⟩, ?_⟩
            simp [intOf]; omega
    · have hf := HH.out.close
      obtain ⟨V, hV⟩ : ∃ V, V = s.extract a (e + 1) := ⟨_, rfl⟩
      obtain ⟨T, hT⟩ : ∃ T, T = s.extract q (e + 1) := ⟨_, rfl⟩
      have HV := Lib.hid hV
      have HT := Lib.hid hT
      have hvs : V.size = e + 1 - a := by rw [hV, ByteArray.size_extract]; omega
      have hv3 : 3 ≤ V.size := by omega
      have hvm : V.size ≤ 1000000 := by omega
      have HS := Lib.hid hvs
      clear hV hT hvs
      go_wp2_with fail
      refine (trim_as (s.extract 2 a) _ _ HH.out.trim_name rfl).mono ?_
      rintro en w' ⟨rfl, rfl⟩
      go_wp2_with fail
      refine (trim_as V _ _ (HV.out ▸ HH.out.trim_value) HV.out).mono ?_
      rintro en w' ⟨rfl, rfl⟩
      have k6 := HH.out.k6
      match k, HH, k6 with
      | 0, HH, _ =>
        have v0 : (V[0].toNat : Int) = 61 := HH.out.v0 HV.out
        have v1 : (V[1].toNat : Int) = 61 := HH.out.v1 HV.out
        have HO := Lib.hid (show ((V.extract 1 V.size).extract 0 1) = signS 0 from by rw [ByteArray.extract_extract, Nat.min_eq_left (by omega)]; exact one_byte (by omega) 61 (byte_of (n := 61) v1))
        go_wp2_with fail
        refine (trim_as T _ _ (HT.out ▸ HH.out.trim_text) ?_).mono ?_
        · rw [HT.out, HV.out]; exact tail0 (by omega) (by omega) HH.out.aq
        rintro en w' ⟨rfl, rfl⟩
        go_wp2_with fail
        refine bodyPost_ret (v := .tuple #[.string (s.extract 2 a), .string ((V.extract 1 V.size).extract 0 1), .string T, .string (s.extract (e + 1 + 1) s.size), .int .i64 ((e : Int) + 1 + 1), .bool false, .bool true]) (by simp [results, Tryz.results19, go_sem]) rfl ⟨?_, rfl⟩
        rw [HO.out, HT.out]
        rfl
      | 1, HH, _ =>
        have v0 : (V[0].toNat : Int) = 33 := HH.out.v0 HV.out
        have v1 : (V[1].toNat : Int) = 61 := HH.out.v1 HV.out
        have HO := Lib.hid (show (V.extract 0 2) = signS 1 from two_bytes (by omega) 33 61 (byte_of (n := 33) v0) (byte_of (n := 61) v1))
        go_wp2_with fail
        refine (trim_as T _ _ (HT.out ▸ HH.out.trim_text) ?_).mono ?_
        · rw [HT.out, HV.out]; exact tail1 (by omega) (by omega) HH.out.aq
        rintro en w' ⟨rfl, rfl⟩
        go_wp2_with fail
        refine bodyPost_ret (v := .tuple #[.string (s.extract 2 a), .string (V.extract 0 2), .string T, .string (s.extract (e + 1 + 1) s.size), .int .i64 ((e : Int) + 1 + 1), .bool false, .bool true]) (by simp [results, Tryz.results19, go_sem]) rfl ⟨?_, rfl⟩
        rw [HO.out, HT.out]
        rfl
      | 2, HH, _ =>
        have v0 : (V[0].toNat : Int) = 60 := HH.out.v0 HV.out
        have v1 : (V[1].toNat : Int) = 34 := HH.out.v1 HV.out
        have HO := Lib.hid (show (V.extract 0 1) = signS 2 from one_byte (by omega) 60 (byte_of (n := 60) v0))
        go_wp2_with fail
        refine (trim_as T _ _ (HT.out ▸ HH.out.trim_text) ?_).mono ?_
        · rw [HT.out, HV.out]; exact tail1 (by omega) (by omega) HH.out.aq
        rintro en w' ⟨rfl, rfl⟩
        go_wp2_with fail
        refine bodyPost_ret (v := .tuple #[.string (s.extract 2 a), .string (V.extract 0 1), .string T, .string (s.extract (e + 1 + 1) s.size), .int .i64 ((e : Int) + 1 + 1), .bool false, .bool true]) (by simp [results, Tryz.results19, go_sem]) rfl ⟨?_, rfl⟩
        rw [HO.out, HT.out]
        rfl
      | 3, HH, _ =>
        have v0 : (V[0].toNat : Int) = 62 := HH.out.v0 HV.out
        have v1 : (V[1].toNat : Int) = 61 := HH.out.v1 HV.out
        have HO := Lib.hid (show (V.extract 0 2) = signS 3 from two_bytes (by omega) 62 61 (byte_of (n := 62) v0) (byte_of (n := 61) v1))
        go_wp2_with fail
        refine (trim_as T _ _ (HT.out ▸ HH.out.trim_text) ?_).mono ?_
        · rw [HT.out, HV.out]; exact tail1 (by omega) (by omega) HH.out.aq
        rintro en w' ⟨rfl, rfl⟩
        go_wp2_with fail
        refine bodyPost_ret (v := .tuple #[.string (s.extract 2 a), .string (V.extract 0 2), .string T, .string (s.extract (e + 1 + 1) s.size), .int .i64 ((e : Int) + 1 + 1), .bool false, .bool true]) (by simp [results, Tryz.results19, go_sem]) rfl ⟨?_, rfl⟩
        rw [HO.out, HT.out]
        rfl
      | 4, HH, _ =>
        have v0 : (V[0].toNat : Int) = 62 := HH.out.v0 HV.out
        have v1 : (V[1].toNat : Int) = 34 := HH.out.v1 HV.out
        have HO := Lib.hid (show (V.extract 0 1) = signS 4 from one_byte (by omega) 62 (byte_of (n := 62) v0))
        go_wp2_with fail
        refine (trim_as T _ _ (HT.out ▸ HH.out.trim_text) ?_).mono ?_
        · rw [HT.out, HV.out]; exact tail1 (by omega) (by omega) HH.out.aq
        rintro en w' ⟨rfl, rfl⟩
        go_wp2_with fail
        refine bodyPost_ret (v := .tuple #[.string (s.extract 2 a), .string (V.extract 0 1), .string T, .string (s.extract (e + 1 + 1) s.size), .int .i64 ((e : Int) + 1 + 1), .bool false, .bool true]) (by simp [results, Tryz.results19, go_sem]) rfl ⟨?_, rfl⟩
        rw [HO.out, HT.out]
        rfl
      | 5, HH, _ =>
        have v0 : (V[0].toNat : Int) = 60 := HH.out.v0 HV.out
        have v1 : (V[1].toNat : Int) = 61 := HH.out.v1 HV.out
        have HO := Lib.hid (show (V.extract 0 2) = signS 5 from two_bytes (by omega) 60 61 (byte_of (n := 60) v0) (byte_of (n := 61) v1))
        go_wp2_with fail
        refine (trim_as T _ _ (HT.out ▸ HH.out.trim_text) ?_).mono ?_
        · rw [HT.out, HV.out]; exact tail1 (by omega) (by omega) HH.out.aq
        rintro en w' ⟨rfl, rfl⟩
        go_wp2_with fail
        refine bodyPost_ret (v := .tuple #[.string (s.extract 2 a), .string (V.extract 0 2), .string T, .string (s.extract (e + 1 + 1) s.size), .int .i64 ((e : Int) + 1 + 1), .bool false, .bool true]) (by simp [results, Tryz.results19, go_sem]) rfl ⟨?_, rfl⟩
        rw [HO.out, HT.out]
        rfl
end Go.Proofs.YtccdhgfeimlndaaGreatDoor
