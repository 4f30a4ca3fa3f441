/- Plain: the text of the query that the law writes, where its parts lie, and what is behind it. -/
import Derived.Test.YtccdhgfeimlndaaGreatDoorQryD
namespace Go.Proofs.YtccdhgfeimlndaaGreatDoor
open Go.RowKit

/- PLAIN: the text that the law writes, and where its parts lie. -/
theorem app_mid {s x m y : ByteArray} (hs : s = x ++ m ++ y) (j : Nat) (h : j < m.size) (h' : x.size + j < s.size) : s[x.size + j] = m[j] := by
  subst hs
  rw [ByteArray.getElem_append_left (by rw [ByteArray.size_append]; omega), ByteArray.getElem_append_right (by omega)]
  congr 1; omega
theorem app_ext {s x m y : ByteArray} (hs : s = x ++ m ++ y) : s.extract x.size (x.size + m.size) = m := by
  have z : s.size = x.size + m.size + y.size := by rw [hs, ByteArray.size_append, ByteArray.size_append]
  refine ByteArray.ext_getElem (by rw [ByteArray.size_extract]; omega) fun j hj hj' => ?_
  rw [ByteArray.getElem_extract]
  exact app_mid hs j hj' (by omega)
def qbase (name op value : ByteArray) : ByteArray := ⟨#[35, 40]⟩ ++ name ++ op ++ ⟨#[34]⟩ ++ value ++ ⟨#[34, 41]⟩
def NoMark (s : ByteArray) (k : Nat) : Prop := ∀ j (h : j < s.size), j < k → ((s[j].toNat : Int) == 34) = false ∧ ((s[j].toNat : Int) == 92) = false
theorem qtext_of {name value s tl : ByteArray} {k : Nat} (k6 : k < 6) (hn : WordTo name name.size) (h0 : 0 < name.size) (hv : NoMark value value.size) (hm : s.size ≤ 1000000) (hs : s = qbase name (opS k) value ++ tl) :
    QText s (2 + name.size) (2 + name.size + (opS k).size) (2 + name.size + (opS k).size + 1 + value.size) k := by
  have z1 : (⟨#[35, 40]⟩ : ByteArray).size = 2 := rfl
  have z2 : (⟨#[34]⟩ : ByteArray).size = 1 := rfl
  have z3 : (⟨#[34, 41]⟩ : ByteArray).size = 2 := rfl
  have z : s.size = 2 + name.size + (opS k).size + 1 + value.size + 2 + tl.size := by rw [hs]; simp only [qbase, ByteArray.size_append, z1, z2, z3]
  have s1 : s = ByteArray.empty ++ ⟨#[35, 40]⟩ ++ (name ++ opS k ++ ⟨#[34]⟩ ++ value ++ ⟨#[34, 41]⟩ ++ tl) := by rw [hs]; simp only [qbase, ByteArray.append_assoc, ByteArray.empty_append]
  have s2 : s = ⟨#[35, 40]⟩ ++ name ++ (opS k ++ ⟨#[34]⟩ ++ value ++ ⟨#[34, 41]⟩ ++ tl) := by rw [hs]; simp only [qbase, ByteArray.append_assoc]
  have s3 : s = (⟨#[35, 40]⟩ ++ name) ++ opS k ++ (⟨#[34]⟩ ++ value ++ ⟨#[34, 41]⟩ ++ tl) := by rw [hs]; simp only [qbase, ByteArray.append_assoc]
  have s4 : s = (⟨#[35, 40]⟩ ++ name ++ opS k) ++ ⟨#[34]⟩ ++ (value ++ ⟨#[34, 41]⟩ ++ tl) := by rw [hs]; simp only [qbase, ByteArray.append_assoc]
  have s5 : s = (⟨#[35, 40]⟩ ++ name ++ opS k ++ ⟨#[34]⟩) ++ value ++ (⟨#[34, 41]⟩ ++ tl) := by rw [hs]; simp only [qbase, ByteArray.append_assoc]
  have s6 : s = (⟨#[35, 40]⟩ ++ name ++ opS k ++ ⟨#[34]⟩ ++ value) ++ ⟨#[34, 41]⟩ ++ tl := by rw [hs]; simp only [qbase, ByteArray.append_assoc]
  have y3 : (⟨#[35, 40]⟩ ++ name : ByteArray).size = 2 + name.size := by simp only [ByteArray.size_append, z1]
  have y4 : (⟨#[35, 40]⟩ ++ name ++ opS k : ByteArray).size = 2 + name.size + (opS k).size := by simp only [ByteArray.size_append, z1]
  have y5 : (⟨#[35, 40]⟩ ++ name ++ opS k ++ ⟨#[34]⟩ : ByteArray).size = 2 + name.size + (opS k).size + 1 := by simp only [ByteArray.size_append, z1, z2]
  have y6 : (⟨#[35, 40]⟩ ++ name ++ opS k ++ ⟨#[34]⟩ ++ value : ByteArray).size = 2 + name.size + (opS k).size + 1 + value.size := by simp only [ByteArray.size_append, z1, z2]
  have at_ : ∀ (x m y : ByteArray) (c : Nat), s = x ++ m ++ y → x.size = c → ∀ j i (h : j < m.size) (hi : i < s.size), c + j = i → s[i] = m[j] := by
    intro x m y c hs' hx j i h hi e
    subst hx; subst e
    exact app_mid hs' j h hi
  refine ⟨k6, by omega, rfl, by omega, by omega, hm, ?_, ?_, ?_, ?_, ?_, ?_, ?_, ?_⟩
  · rw [at_ _ _ _ 0 s1 rfl 0 0 (by rw [z1]; omega) (by omega) rfl]; rfl
  · rw [at_ _ _ _ 0 s1 rfl 1 1 (by rw [z1]; omega) (by omega) rfl]; rfl
  · intro j h h2 h3
    rw [at_ _ _ _ 2 s2 z1 (j - 2) j (by omega) h (by omega)]
    exact hn (j - 2) (by omega) (by omega)
  · intro j h h'
    exact at_ _ _ _ (2 + name.size) s3 y3 j _ h h' rfl
  · rw [at_ _ _ _ _ s4 y4 0 (2 + name.size + (opS k).size) (by rw [z2]; omega) (by omega) rfl]; rfl
  · intro j h h2 h3
    rw [at_ _ _ _ _ s5 y5 (j - (2 + name.size + (opS k).size + 1)) j (by omega) h (by omega)]
    have := hv (j - (2 + name.size + (opS k).size + 1)) (by omega) (by omega)
    rw [beq_eq_false_iff_ne, beq_eq_false_iff_ne] at this
    omega
  · rw [at_ _ _ _ _ s6 y6 0 (2 + name.size + (opS k).size + 1 + value.size) (by rw [z3]; omega) (by omega) rfl]; rfl
  · rw [at_ _ _ _ _ s6 y6 1 _ (by rw [z3]; omega) (by omega) rfl]; rfl

theorem qbase_size (name op value : ByteArray) : (qbase name op value).size = 2 + name.size + op.size + 1 + value.size + 2 := by
  have z1 : (⟨#[35, 40]⟩ : ByteArray).size = 2 := rfl
  have z2 : (⟨#[34]⟩ : ByteArray).size = 1 := rfl
  have z3 : (⟨#[34, 41]⟩ : ByteArray).size = 2 := rfl
  simp only [qbase, ByteArray.size_append, z1, z2, z3]
def hashS (all : Bool) : ByteArray := if all then ⟨#[35]⟩ else .empty
def qtail (rest : ByteArray) (all pipe : Bool) : ByteArray := hashS all ++ (if rest.size = 0 then .empty else sepS pipe ++ rest)
theorem hashS_size (all : Bool) : (hashS all).size = if all then 1 else 0 := by cases all <;> rfl
theorem sepS_size (pipe : Bool) : (sepS pipe).size = 1 := by cases pipe <;> rfl
theorem q_name {name op value s tl : ByteArray} (hs : s = qbase name op value ++ tl) : s.extract 2 (2 + name.size) = name :=
  app_ext (x := ⟨#[35, 40]⟩) (m := name) (y := op ++ ⟨#[34]⟩ ++ value ++ ⟨#[34, 41]⟩ ++ tl) (by rw [hs]; simp only [qbase, ByteArray.append_assoc])
theorem q_value {name op value s tl : ByteArray} (hs : s = qbase name op value ++ tl) : s.extract (2 + name.size + op.size + 1) (2 + name.size + op.size + 1 + value.size) = value := by
  have z1 : (⟨#[35, 40]⟩ : ByteArray).size = 2 := rfl
  have z2 : (⟨#[34]⟩ : ByteArray).size = 1 := rfl
  have y5 : (⟨#[35, 40]⟩ ++ name ++ op ++ ⟨#[34]⟩ : ByteArray).size = 2 + name.size + op.size + 1 := by simp only [ByteArray.size_append, z1, z2]
  have := app_ext (x := ⟨#[35, 40]⟩ ++ name ++ op ++ ⟨#[34]⟩) (m := value) (y := ⟨#[34, 41]⟩ ++ tl) (s := s) (by rw [hs]; simp only [qbase, ByteArray.append_assoc])
  rwa [y5] at this
theorem atail_of {name op value s rest : ByteArray} {all pipe : Bool} (hs : s = qbase name op value ++ qtail rest all pipe) :
    ATail s (2 + name.size + op.size + 1 + value.size) ((qbase name op value).size + (hashS all).size) all := by
  have zb := qbase_size name op value
  have zh := hashS_size all
  have zs := sepS_size pipe
  have z : s.size = (qbase name op value).size + (hashS all).size + (if rest.size = 0 then ByteArray.empty else sepS pipe ++ rest).size := by rw [hs, qtail, ByteArray.size_append, ByteArray.size_append]; omega
  refine ⟨by omega, by omega, ?_, ?_⟩
  · intro h
    have key : ∀ hh : 2 + name.size + op.size + 1 + value.size + 2 < s.size, s[2 + name.size + op.size + 1 + value.size + 2].toNat = 35 := by
      intro hh
      cases all
      · exact absurd h (by decide)
      · have := app_mid (s := s) (x := qbase name op value) (m := hashS true) (y := if rest.size = 0 then .empty else sepS pipe ++ rest) (by rw [hs, qtail, ByteArray.append_assoc]) 0 (by simp [zh]) (by simp [zh] at z; omega)
        have e : (qbase name op value).size + 0 = 2 + name.size + op.size + 1 + value.size + 2 := by omega
        simp only [e] at this
        rw [this]; rfl
    exact key _
  · intro h
    by_cases h0 : rest.size = 0
    · rw [if_pos h0] at z
      have : ByteArray.empty.size = 0 := rfl
      omega
    · have hs2 : s = (qbase name op value ++ hashS all) ++ sepS pipe ++ rest := by rw [hs, qtail, if_neg h0]; simp only [ByteArray.append_assoc]
      have := app_mid (s := s) hs2 0 (by omega) (by rw [ByteArray.size_append]; omega)
      simp only [ByteArray.size_append, Nat.add_zero] at this
      rw [this]
      cases pipe
      · right; rfl
      · left; rfl
theorem rest_of {name op value s rest : ByteArray} {all pipe : Bool} (hs : s = qbase name op value ++ qtail rest all pipe) {path pp : ByteArray} {piped more : Bool}
    (h : ArrEnd s ((qbase name op value).size + (hashS all).size) path pp piped more) : RestOk rest path pp piped more pipe := by
  have zs := sepS_size pipe
  have z : s.size = (qbase name op value).size + (hashS all).size + (if rest.size = 0 then ByteArray.empty else sepS pipe ++ rest).size := by rw [hs, qtail, ByteArray.size_append, ByteArray.size_append]; omega
  by_cases h0 : rest.size = 0
  · rw [if_pos h0] at z
    have : ByteArray.empty.size = 0 := rfl
    rcases h with ⟨a, b, c⟩ | ⟨a, _⟩ | ⟨a, _⟩
    · exact Or.inl ⟨h0, b, c⟩
    · omega
    · omega
  · rw [if_neg h0, ByteArray.size_append] at z
    have hs2 : s = (qbase name op value ++ hashS all) ++ sepS pipe ++ rest := by rw [hs, qtail, if_neg h0]; simp only [ByteArray.append_assoc]
    have hb := app_mid (s := s) hs2 0 (by omega) (by rw [ByteArray.size_append]; omega)
    simp only [ByteArray.size_append, Nat.add_zero] at hb
    have hx : s.extract ((qbase name op value).size + (hashS all).size + 1) s.size = rest := by
      have := app_ext (s := s) (x := qbase name op value ++ hashS all ++ sepS pipe) (m := rest) (y := .empty) (by rw [hs2, ByteArray.append_empty])
      simp only [ByteArray.size_append, zs] at this
      rw [← this]; congr 1; omega
    rcases h with ⟨a, _⟩ | ⟨a, b, c, d, e⟩ | ⟨a, b, c, d, e⟩
    · omega
    · rw [hb] at b
      cases pipe
      · exact absurd b (show ¬ ((46 : Nat) = 124) by decide)
      · exact Or.inr (Or.inl ⟨h0, rfl, c, d, e.trans hx⟩)
    · rw [hb] at b
      cases pipe
      · exact Or.inr (Or.inr ⟨h0, rfl, c, d, e.trans hx⟩)
      · exact absurd b (show ¬ ((124 : Nat) = 46) by decide)
theorem behind_text (name op value rest : ByteArray) (all pipe : Bool) : behind (if all then qbase name op value ++ ⟨#[35]⟩ else qbase name op value) rest pipe = qbase name op value ++ qtail rest all pipe := by
  unfold behind qtail hashS
  cases all <;> by_cases h0 : rest.size = 0 <;> simp [h0, ByteArray.append_assoc]
end Go.Proofs.YtccdhgfeimlndaaGreatDoor
