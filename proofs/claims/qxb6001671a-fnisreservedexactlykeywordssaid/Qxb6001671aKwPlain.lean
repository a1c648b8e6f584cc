/-
  THE PLAIN LAW OF FnIsReservedExactlyKeywords: no Go in sight: upper case, lower case, the flip, the eighteen keywords as lists of bytes.
-/
import Derived.KernelRfl
namespace Go.Proofs.Qxb6001671a.kw

def upN (n : Nat) : Nat := if 97 ≤ n ∧ n ≤ 122 then n - 32 else n
def lowN (n : Nat) : Nat := if 65 ≤ n ∧ n ≤ 90 then n + 32 else n
def flipN (n : Nat) : Nat := if 97 ≤ n ∧ n ≤ 122 then n - 32 else if 65 ≤ n ∧ n ≤ 90 then n + 32 else n
def upB (c : UInt8) : UInt8 := UInt8.ofNat (upN c.toNat)
def flipB (c : UInt8) : UInt8 := UInt8.ofNat (flipN c.toNat)
def upL (l : List UInt8) : List UInt8 := l.map upB
def lowL (l : List UInt8) : List Nat := l.map fun c => lowN c.toNat
def flipL (l : List UInt8) : List UInt8 := l.map flipB

theorem byte_lt (c : UInt8) : c.toNat < 256 := c.toNat_lt
theorem upB_toNat (c : UInt8) : (upB c).toNat = upN c.toNat := by
  have := byte_lt c
  rw [upB, UInt8.toNat_ofNat']
  unfold upN
  split <;> omega
theorem flipB_toNat (c : UInt8) : (flipB c).toNat = flipN c.toNat := by
  have := byte_lt c
  rw [flipB, UInt8.toNat_ofNat']
  unfold flipN
  split
  · omega
  · split <;> omega

def kws : List (List UInt8) := [[65, 78, 68], [66, 69, 84, 87, 69, 69, 78], [67, 82, 69, 65, 84, 69], [68, 69, 70, 65, 85, 76, 84], [70, 82, 79, 77], [73, 78], [73, 78, 83, 69, 82, 84], [73, 78, 84, 79], [73, 83], [75, 69, 89], [78, 79, 84],
  [78, 85, 76, 76], [79, 82], [80, 82, 73, 77, 65, 82, 89], [83, 69, 76, 69, 67, 84], [84, 65, 66, 76, 69], [86, 65, 76, 85, 69, 83], [87, 72, 69, 82, 69]]
/-- Is a text one of the keywords, to the byte? -/
def isKw (l : List UInt8) : Bool := kws.any fun k => l == k
/-- Of the first k keywords: is one of them the text, the case of letters put aside? -/
def wantTo (l : List UInt8) (k : Nat) : Bool := (kws.take k).any fun q => lowL l == lowL q
def kwAt (k : Nat) : List UInt8 := kws.getD k []

theorem want_step (l : List UInt8) (k : Nat) (h : k < 18) : wantTo l (k + 1) = (wantTo l k || (lowL l == lowL (kwAt k))) := by
  have hk : k < kws.length := h
  unfold wantTo
  rw [List.take_succ_eq_append_getElem hk, List.any_append]
  have e : kwAt k = kws[k] := by simp [kwAt, hk]
  rw [e]
  simp

theorem up_low (c k : UInt8) (h : 65 ≤ k.toNat ∧ k.toNat ≤ 90) : upB c = k ↔ lowN c.toNat = lowN k.toNat := by
  have := byte_lt c
  rw [← UInt8.toNat_inj, upB_toNat]
  unfold upN lowN
  rw [if_pos h]
  split <;> split <;> omega
theorem upL_low : ∀ (l k : List UInt8), (∀ c ∈ k, 65 ≤ c.toNat ∧ c.toNat ≤ 90) → (upL l = k ↔ lowL l = lowL k)
  | [], [], _ => by simp [upL, lowL]
  | [], _ :: _, _ => by simp [upL, lowL]
  | _ :: _, [], _ => by simp [upL, lowL]
  | c :: l, k :: ks, h => by
    have ih := upL_low l ks (fun x hx => h x (List.mem_cons_of_mem _ hx))
    have h1 := up_low c k (h k List.mem_cons_self)
    simp only [upL, lowL, List.map_cons, List.cons.injEq] at ih ⊢
    rw [h1, ih]
theorem kws_upper : ∀ k ∈ kws, ∀ c ∈ k, 65 ≤ c.toNat ∧ c.toNat ≤ 90 := by decide
theorem kws_short : ∀ k ∈ kws, k.length ≤ 7 := by decide

theorem isKw_want (l : List UInt8) : isKw (upL l) = wantTo l 18 := by
  have e : kws.take 18 = kws := rfl
  unfold isKw wantTo
  rw [e]
  rw [Bool.eq_iff_iff]
  simp only [List.any_eq_true, beq_iff_eq]
  constructor
  · rintro ⟨k, hk, h⟩
    exact ⟨k, hk, (upL_low l k (kws_upper k hk)).1 h⟩
  · rintro ⟨k, hk, h⟩
    exact ⟨k, hk, (upL_low l k (kws_upper k hk)).2 h⟩
theorem want_long (l : List UInt8) (h : 16 < l.length) : wantTo l 18 = false := by
  rw [← Bool.not_eq_true]
  intro hw
  simp only [wantTo, List.any_eq_true, beq_iff_eq] at hw
  obtain ⟨k, hk, e⟩ := hw
  have h1 := kws_short k (List.mem_of_mem_take hk)
  have h2 := congrArg List.length e
  simp only [lowL, List.length_map] at h2
  omega
theorem up_flip (c : UInt8) : upB (flipB c) = upB c := by
  have := byte_lt c
  rw [← UInt8.toNat_inj, upB_toNat, upB_toNat, flipB_toNat]
  unfold upN flipN
  split <;> split <;> (try split) <;> omega
theorem upL_flip (l : List UInt8) : upL (flipL l) = upL l := by
  simp only [upL, flipL, List.map_map]
  exact List.map_congr_left fun c _ => up_flip c
/-- What isReserved answers. -/
def reserved (l : List UInt8) : Bool := if 16 < l.length then false else isKw (upL l)
theorem reserved_want (l : List UInt8) : reserved l = wantTo l 18 := by
  unfold reserved
  split
  · exact (want_long l (by assumption)).symm
  · exact isKw_want l
theorem reserved_flip (l : List UInt8) : reserved (flipL l) = reserved l := by
  have e : (flipL l).length = l.length := by simp [flipL]
  unfold reserved
  rw [e, upL_flip]
end Go.Proofs.Qxb6001671a.kw
