import Derived.Test.Qxb6602056aMvr
namespace Go.Proofs.Qxb6602056a
open Go.RowKit
set_option linter.unusedSimpArgs false

theorem St.sg {w : World} {base g : Nat} {bl : Int} {T : List Int} {n p : Nat} {vr vb va : Value} {R : List Int} (h : St w base g bl T n p vr vb va R) : Sg w base g p ((p + (n - T.length) : Nat) : Int) bl vr vb va R (NB T p) (NU T (T.length - p)) := ⟨h.buf, h.r, h.b, h.a, h.bg, h.gr, h.gb, h.ga, h.rb, h.ba⟩
theorem St.of {w : World} {base g : Nat} {bl : Int} {T : List Int} {n p : Nat} {vr vb va : Value} {R : List Int} (h : Sg w base g p ((p + (n - T.length) : Nat) : Int) bl vr vb va R (NB T p) (NU T (T.length - p))) (h1 : n = R.length) (h2 : p ≤ T.length) (h3 : T.length ≤ n) (h4 : txt R p (p + (n - T.length)) = T) : St w base g bl T n p vr vb va R := ⟨h1, h2, h3, h.buf, h.r, h4, h.b, h.a, h.bg, h.gr, h.gb, h.ga, h.rb, h.ba⟩
theorem Sg.fr {S : Nat → Prop} {w w' : World} {base g : Nat} {gs ge bl : Int} {vr vb va : Value} {R B A : List Int} (h : Sg w base g gs ge bl vr vb va R B A) (hf : Fr S w w') (hS : ∀ k, Mine g vr vb va k → ¬ S k) : Sg w' base g gs ge bl vr vb va R B A :=
  ⟨(hf.block g h.buf.lt (hS g (.inl rfl))).trans h.buf, h.r.of_block fun b hb => hf.block b (h.r.base_le b hb) (hS b (.inr (.inl hb))), h.b.of_block fun b hb => hf.block b (h.b.base_le b hb) (hS b (.inr (.inr (.inl hb)))), h.a.of_block fun b hb => hf.block b (h.a.base_le b hb) (hS b (.inr (.inr (.inr hb)))), h.bg, h.gr, h.gb, h.ga, h.rb, h.ba⟩
theorem St.fr {S : Nat → Prop} {w w' : World} {base g : Nat} {bl : Int} {T : List Int} {n p : Nat} {vr vb va : Value} {R : List Int} (h : St w base g bl T n p vr vb va R) (hf : Fr S w w') (hS : ∀ k, Mine g vr vb va k → ¬ S k) : St w' base g bl T n p vr vb va R :=
  St.of (h.sg.fr hf hS) h.len h.ple h.tle h.t

theorem Own.none_or {k : IntKind} {e : TypeId} {w : World} {base : Nat} {v : Value} {D : List Int} (h : Own k e w base v D) (hD : 0 < D.length) : ∃ g c, v = .slice (some ⟨g, 0, none⟩) D.length c := by
  rcases h.2 with ⟨_, h1⟩ | ⟨g, c, _, hv, _⟩
  · omega
  · exact ⟨g, c, hv⟩

theorem move26 (S : Nat → Prop) (base g : Nat) (bl : Int) (T : List Int) (n p q : Nat) (vr vb va : Value) (R : List Int) (w : World) (h : St w base g bl T n p vr vb va R) (hS : ∀ k, Mine g vr vb va k → S k) (hq : q ≤ T.length) (hn : n ≤ 1000000) :
    Calls Try.prog 26 #[.pointer (some ⟨g, 0, none⟩), .int .i64 (q : Int)] w fun e w' => e = .returned (.tuple #[]) ∧ ∃ vb' va' R', St w' base g bl T n q vr vb' va' R' ∧ Fr S w w' ∧ ∀ k, Mine g vr vb' va' k → S k ∨ w.heap.size ≤ k := by
  have hl := h.len
  have hp := h.ple
  have ht := h.tle
  have e1 : ∀ x, n - (x + (n - T.length) - x) = T.length := by intro x; omega
  rcases Nat.lt_trichotomy q p with hlt | heq | hgt
  · obtain ⟨rb, c, rfl⟩ := h.r.none_or (by omega)
    obtain ⟨p1, c1, rfl, _⟩ := h.b.slice
    obtain ⟨p2, c2, rfl, _⟩ := h.a.slice
    obtain ⟨k, rfl⟩ : ∃ k, p = q + k := ⟨p - q, by omega⟩
    rw [← hl] at h ⊢
    have hb := NB_le T (q + k)
    have ha := NU_le T (T.length - (q + k))
    refine (move26l S base g bl rb n c q (q + k) (q + k + (n - T.length)) p1 _ c1 p2 _ c2 R (NB T (q + k)) (NU T (T.length - (q + k))) w w (Sd.of h.sg hS) hlt (by omega) (by omega) hn (by omega) (by omega) (NB_sorted _ _) (fun z hz => by have := NB_mem T (q + k) z hz; omega)).mono ?_
    rintro e w' ⟨rfl, vb', va', hd⟩
    rw [NB_count, e1, show q + k + (n - T.length) - (q + k - q) = q + (n - T.length) by omega, show q + k - q = k by omega] at hd
    have b1 : (NB T (q + k)).take (NB T q).length = NB T q := by rw [NB_add]; simp
    have b2 : (NB T (q + k)).drop (NB T q).length = NX T q k := by rw [NB_add]; simp
    have b3 : NU T (T.length - (q + k)) ++ (NX T q k).reverse.map (fun z => (T.length : Int) - z) = NU T (T.length - q) := by
      rw [← MX_eq T q k (by omega), ← NU_add, show T.length - (q + k) + k = T.length - q by omega]
    rw [b1, b2, b3] at hd
    have b4 := txt_left R (q + k) (q + k + (n - T.length)) q (by omega) (by omega) (by omega)
    rw [h.t, show q + k + (n - T.length) - (q + k - q) = q + (n - T.length) by omega, show q + k - q = k by omega] at b4
    refine ⟨rfl, vb', va', _, St.of hd.sg ?_ hq ht b4, hd.fr, hd.mine⟩
    simp only [List.length_append, List.length_take, List.length_drop]; omega
  · subst heq
    refine (move26z base g bl T n q vr vb va R w h).mono ?_
    rintro e w' ⟨rfl, j, rfl⟩
    exact ⟨rfl, vb, va, R, St.of (h.sg.drewN j) h.len h.ple h.tle h.t, (Fr.refl _ _).drewN j, fun k hk => .inl (hS k hk)⟩
  · obtain ⟨rb, c, rfl⟩ := h.r.none_or (by omega)
    obtain ⟨p1, c1, rfl, _⟩ := h.b.slice
    obtain ⟨p2, c2, rfl, _⟩ := h.a.slice
    obtain ⟨k, rfl⟩ : ∃ k, q = p + k := ⟨q - p, by omega⟩
    rw [← hl] at h ⊢
    have hb := NB_le T p
    have ha := NU_le T (T.length - p)
    refine (move26r S base g bl rb n c (p + k) p (p + (n - T.length)) p1 _ c1 p2 _ c2 R (NB T p) (NU T (T.length - p)) w w (Sd.of h.sg hS) hgt (by omega) (by omega) hn (by omega) (by omega) (NU_sorted _ _) (fun z hz => by have := NU_mem T (T.length - p) z hz; omega)).mono ?_
    rintro e w' ⟨rfl, vb', va', hd⟩
    have a0 : T.length - p = T.length - (p + k) + k := by omega
    rw [e1, a0, NU_count, show p + k - p = k by omega, show p + (n - T.length) + k = p + k + (n - T.length) by omega] at hd
    have b1 : (NU T (T.length - (p + k) + k)).take (NU T (T.length - (p + k))).length = NU T (T.length - (p + k)) := by rw [NU_add]; simp
    have b2 : (NU T (T.length - (p + k) + k)).drop (NU T (T.length - (p + k))).length = MX T (T.length - (p + k)) k := by rw [NU_add]; simp
    have b3 : NB T p ++ (MX T (T.length - (p + k)) k).reverse.map (fun z => (T.length : Int) - z) = NB T (p + k) := by
      rw [← NX_eq T p k (by omega), ← NB_add]
    rw [b1, b2, b3] at hd
    have b4 := txt_right R p (p + (n - T.length)) (p + k) (by omega) (by omega) (by omega)
    rw [h.t, show p + k - p = k by omega, show p + (n - T.length) + k = p + k + (n - T.length) by omega] at b4
    refine ⟨rfl, vb', va', _, St.of hd.sg ?_ hq ht b4, hd.fr, hd.mine⟩
    simp only [List.length_append, List.length_take, List.length_drop]; omega

set_option maxRecDepth 20000 in
set_option maxHeartbeats 400000 in
theorem move15 (S : Nat → Prop) (base g : Nat) (bl : Int) (T : List Int) (n p q : Nat) (vr vb va : Value) (R : List Int) (w : World) (h : St w base g bl T n p vr vb va R) (hS : ∀ k, Mine g vr vb va k → S k) (hq : q ≤ T.length) (hn : n ≤ 1000000) :
    Calls Try.prog 15 #[.pointer (some ⟨g, 0, none⟩), .int .i64 (q : Int)] w fun e w' => e = .returned (.tuple #[]) ∧ ∃ vb' va' R', St w' base g bl T n q vr vb' va' R' ∧ Fr S w w' ∧ ∀ k, Mine g vr vb' va' k → S k ∨ w.heap.size ≤ k := by
  have HK : Hid (Calls Try.prog 26 #[.pointer (some ⟨g, 0, none⟩), .int .i64 (q : Int)] w fun e w' => e = .returned (.tuple #[]) ∧ ∃ vb' va' R', St w' base g bl T n q vr vb' va' R' ∧ Fr S w w' ∧ ∀ k, Mine g vr vb' va' k → S k ∨ w.heap.size ≤ k) := move26 S base g bl T n p q vr vb va R w h hS hq hn
  clear h hS hq hn
  go_enter Try.func15, Try.ntmps15
  go_wp2_with fail
  refine HK.out.mono ?_
  rintro e w1 ⟨rfl, h1⟩
  have H1 : Hid (∃ vb' va' R', St w1 base g bl T n q vr vb' va' R' ∧ Fr S w w1 ∧ ∀ k, Mine g vr vb' va' k → S k ∨ w.heap.size ≤ k) := h1
  clear HK h1
  go_wp2
  go_end0
  exact ⟨rfl, H1.out⟩
end Go.Proofs.Qxb6602056a
