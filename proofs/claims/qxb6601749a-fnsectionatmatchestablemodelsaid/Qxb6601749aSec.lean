import Derived.Test.Qxb6601749aSame
import Derived.Deep.AppendLies
import Derived.Laws.BitsAllLaws
namespace Go.Proofs.Qxb6601749a
open Go.RowKit

/-! ### The plain mathematics of sectionAt -/
def seg (B : Nat → Int) (o n : Nat) : List Int := (List.range n).map fun i => B (o + i)
def pkt (B : Nat → Int) (A : Nat) : Nat → Int := fun i => B (A + i)
def payAt (B : Nat → Int) (pid : Int) (j : Nat) : Option Nat := pay (pkt B (188 * j)) pid
def offs (B : Nat → Int) (pid : Int) (j : Nat) : Nat := (payAt B pid j).getD 188
/-- The data gathered from the first packet and the m behind it. -/
def dat (B : Nat → Int) (pid : Int) (d0 : Nat) : Nat → List Int
  | 0 => seg B d0 (188 - d0)
  | m + 1 => dat B pid d0 m ++ seg B (188 * (m + 1) + offs B pid (m + 1)) (188 - offs B pid (m + 1))
def pks (B : Nat → Int) (pid : Int) : Nat → List Int
  | 0 => seg B 0 188
  | m + 1 => pks B pid m ++ (if (payAt B pid (m + 1)).isSome then seg B (188 * (m + 1)) 188 else [])
def secNI (B : Nat → Int) (d0 : Nat) : Int := 3 + bits .or .i64 (B (d0 + 1) % 16 * 256) (B (d0 + 2))
def secN (B : Nat → Int) (d0 : Nat) : Nat := (secNI B d0).toNat

structure Hd (B : Nat → Int) (pid : Int) (a x d0 : Nat) : Prop where
  hp : pay B pid = some a
  hs : stt B = true
  hx : B a = x
  fit : 1 + x + 3 ≤ 188 - a
  hd : d0 = a + (1 + x)

structure Found (B : Nat → Int) (pid : Int) (L d0 m : Nat) : Prop where
  room : 188 * (m + 1) ≤ L
  short : ∀ j, j < m → (dat B pid d0 j).length < secN B d0
  calm : ∀ j, 1 ≤ j → j ≤ m → (payAt B pid j).isSome = true → stt (pkt B (188 * j)) = false
  enough : secN B d0 ≤ (dat B pid d0 m).length
  least : 12 ≤ secN B d0
  cur : (bits .and .u8 ((dat B pid d0 m).getD 5 0) 1 == 0) = false

theorem length_seg (B : Nat → Int) (o n : Nat) : (seg B o n).length = n := by simp [seg]
theorem getD_seg (B : Nat → Int) (o n i : Nat) (h : i < n) : (seg B o n).getD i 0 = B (o + i) := by simp [seg, h, List.getD]
theorem seg_mem {B : Nat → Int} (hB : ∀ i, 0 ≤ B i ∧ B i ≤ 255) {o n : Nat} : ∀ z ∈ seg B o n, 0 ≤ z ∧ z ≤ 255 := by
  intro z hz; simp [seg] at hz; obtain ⟨i, _, rfl⟩ := hz; exact hB _

theorem dat_mem {B : Nat → Int} (hB : ∀ i, 0 ≤ B i ∧ B i ≤ 255) (pid : Int) (d0 m : Nat) : ∀ z ∈ dat B pid d0 m, 0 ≤ z ∧ z ≤ 255 := by
  induction m with
  | zero => exact seg_mem hB
  | succ m ih =>
    intro z hz; simp only [dat, List.mem_append] at hz
    rcases hz with hz | hz
    · exact ih z hz
    · exact seg_mem hB z hz
theorem pks_mem {B : Nat → Int} (hB : ∀ i, 0 ≤ B i ∧ B i ≤ 255) (pid : Int) (m : Nat) : ∀ z ∈ pks B pid m, 0 ≤ z ∧ z ≤ 255 := by
  induction m with
  | zero => exact seg_mem hB
  | succ m ih =>
    intro z hz; simp only [pks, List.mem_append] at hz
    rcases hz with hz | hz
    · exact ih z hz
    · split at hz
      · exact seg_mem hB z hz
      · cases hz
theorem dat_len (B : Nat → Int) (pid : Int) (d0 m : Nat) : (dat B pid d0 m).length ≤ 188 * (m + 1) := by
  induction m with
  | zero => simp [dat, length_seg]
  | succ m ih => simp only [dat, List.length_append, length_seg]; omega
theorem pks_len (B : Nat → Int) (pid : Int) (m : Nat) : (pks B pid m).length ≤ 188 * (m + 1) := by
  induction m with
  | zero => simp [pks, length_seg]
  | succ m ih => simp only [pks, List.length_append]; split <;> simp [length_seg] <;> omega
theorem dat_mono (B : Nat → Int) (pid : Int) (d0 : Nat) {m m' : Nat} (h : m ≤ m') : (dat B pid d0 m).length ≤ (dat B pid d0 m').length := by
  induction h with
  | refl => exact Nat.le_refl _
  | step _ ih => simp only [dat, List.length_append]; omega
theorem offs_none {B : Nat → Int} {pid : Int} {j : Nat} (h : payAt B pid j = none) : offs B pid j = 188 := by simp [offs, h]
theorem offs_some {B : Nat → Int} {pid : Int} {j a : Nat} (h : payAt B pid j = some a) : offs B pid j = a := by simp [offs, h]
theorem dat_none {B : Nat → Int} {pid : Int} {d0 m : Nat} (h : payAt B pid (m + 1) = none) : dat B pid d0 (m + 1) = dat B pid d0 m := by
  simp [dat, offs_none h, seg]
theorem pks_none {B : Nat → Int} {pid : Int} {m : Nat} (h : payAt B pid (m + 1) = none) : pks B pid (m + 1) = pks B pid m := by simp [pks, h]
theorem dat_some {B : Nat → Int} {pid : Int} {d0 m a : Nat} (h : payAt B pid (m + 1) = some a) : dat B pid d0 (m + 1) = dat B pid d0 m ++ seg B (188 * (m + 1) + a) (188 - a) := by
  simp [dat, offs_some h]
theorem pks_some {B : Nat → Int} {pid : Int} {m a : Nat} (h : payAt B pid (m + 1) = some a) : pks B pid (m + 1) = pks B pid m ++ seg B (188 * (m + 1)) 188 := by simp [pks, h]
/-- The first three bytes of the data never turn. -/
theorem dat_head (B : Nat → Int) (pid : Int) (d0 m i : Nat) (hi : i < 188 - d0) : (dat B pid d0 m).getD i 0 = B (d0 + i) := by
  induction m with
  | zero => exact getD_seg _ _ _ _ hi
  | succ m ih =>
    have := dat_mono B pid d0 (Nat.zero_le m)
    simp only [dat, length_seg] at this
    rw [← ih]
    simp only [dat, List.getD_eq_getElem?_getD]
    rw [List.getElem?_append_left (by omega)]

theorem ofInt_i64 (a : Nat) (ha : a < 9223372036854775808) : (BitVec.ofInt 64 (a : Int)).toNat = a := by
  rw [BitVec.ofInt_natCast, BitVec.toNat_ofNat]; exact Nat.mod_eq_of_lt (by omega)
theorem i64_or_nat (a b : Nat) (ha : a < 65536) (hb : b < 65536) : bits .or .i64 (a : Int) (b : Int) = ((a ||| b : Nat) : Int) := by
  have hx : a ||| b < 2 ^ 16 := Nat.or_lt_two_pow (by omega) (by omega)
  show IntKind.i64.wrap ((BitVec.ofInt 64 (a : Int) ||| BitVec.ofInt 64 (b : Int)).toNat : Int) = _
  rw [BitVec.toNat_or, ofInt_i64 a (by omega), ofInt_i64 b (by omega), IntKind.wrap_i64]
  omega
theorem secNI_range {B : Nat → Int} (hB : ∀ i, 0 ≤ B i ∧ B i ≤ 255) (d0 : Nat) : 3 ≤ secNI B d0 ∧ secNI B d0 ≤ 4098 := by
  have h1 := hB (d0 + 1)
  have h2 := hB (d0 + 2)
  unfold secNI
  obtain ⟨u, hu⟩ : ∃ u : Nat, B (d0 + 1) % 16 * 256 = (u : Int) := ⟨(B (d0 + 1) % 16 * 256).toNat, by omega⟩
  obtain ⟨v, hv⟩ : ∃ v : Nat, B (d0 + 2) = (v : Int) := ⟨(B (d0 + 2)).toNat, by omega⟩
  rw [hu, hv, i64_or_nat u v (by omega) (by omega)]
  have : u ||| v < 2 ^ 12 := Nat.or_lt_two_pow (by omega) (by omega)
  omega
theorem secN_eq {B : Nat → Int} (hB : ∀ i, 0 ≤ B i ∧ B i ≤ 255) (d0 : Nat) : ((secN B d0 : Nat) : Int) = secNI B d0 := by
  have := secNI_range hB d0
  unfold secN; omega

/-- There is at most one place where a section ends. -/
theorem Found.uniq {B : Nat → Int} {pid : Int} {L d0 m m' : Nat} (h : Found B pid L d0 m) (h' : Found B pid L d0 m') : m = m' := by
  rcases Nat.lt_trichotomy m m' with hl | hl | hl
  · have := h'.short m hl; have := h.enough; omega
  · exact hl
  · have := h.short m' hl; have := h'.enough; omega
theorem Hd.uniq {B : Nat → Int} {pid : Int} {a x d a' x' d' : Nat} (h : Hd B pid a x d) (h' : Hd B pid a' x' d') : a = a' ∧ x = x' ∧ d = d' := by
  have h1 : a = a' := by have := h.hp; rw [h'.hp] at this; cases this; rfl
  subst h1
  have h2 : x = x' := by have := h.hx; rw [h'.hx] at this; omega
  subst h2
  exact ⟨rfl, rfl, by rw [h.hd, h'.hd]⟩

def vals (D : List Int) : List Value := D.map (Value.int .u8)
theorem length_vals (D : List Int) : (vals D).length = D.length := by simp [vals]
theorem vals_append (D E : List Int) : vals D ++ vals E = vals (D ++ E) := by simp [vals]
theorem vals_one (D : List Int) : ∀ u ∈ vals D, u.oneCell' = true := by
  intro u hu; simp [vals] at hu; obtain ⟨_, _, rfl⟩ := hu; rfl

theorem add_none (b o j : Nat) : (⟨b, o, none⟩ : Addr).add j = ⟨b, o + j, none⟩ := by unfold Addr.add; split <;> simp_all

theorem news_seg {w : World} {b off n : Nat} {B : Nat → Int} (h : At w b off n B) (o k : Nat) (hk : o + k ≤ n) : ∀ j u, (vals (seg B o k))[j]? = some u → w.cell? ((⟨b, off + o, none⟩ : Addr).add j) = some u := by
  intro j u hu
  simp only [vals, seg, List.getElem?_map] at hu
  by_cases hj : j < k
  · simp [hj] at hu
    subst hu
    rw [add_none, Nat.add_assoc]
    exact (h (o + j) (by omega)).1
  · rw [List.getElem?_eq_none (by simp; omega)] at hu
    simp at hu

/-- What is owned, read as bytes. -/
theorem own_at {w : World} {base g n cap : Nat} {D : List Int} (h : w.ownsRow base 5 1 (.slice (some ⟨g, 0, none⟩) n cap) n (vals D)) (hD : ∀ z ∈ D, 0 ≤ z ∧ z ≤ 255) : At w g 0 n (fun i => D.getD i 0) := by
  intro i hi
  have hl : D.length = n := by have := h.1; simpa [vals] using this
  have hc := h.cellAt i (by omega)
  have hi' : i < D.length := by omega
  refine ⟨?_, ?_⟩
  · rw [Nat.zero_add, hc]; simp [vals, hi', List.getD]
  · have : D.getD i 0 = D[i] := by simp [List.getD, hi']
    show 0 ≤ D.getD i 0 ∧ D.getD i 0 ≤ 255
    rw [this]; exact hD _ (List.getElem_mem hi')
end Go.Proofs.Qxb6601749a
