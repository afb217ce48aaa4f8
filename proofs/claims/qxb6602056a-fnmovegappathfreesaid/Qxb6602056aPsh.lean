import Derived.Test.Qxb6602056aMov
namespace Go.Proofs.Qxb6602056a
open Go.RowKit
set_option linter.unusedSimpArgs false

/-- The appended row lies where it lay, or in the new block. -/
theorem push_where (w : World) (k : IntKind) (t ty e : TypeId) (i0 : TypeInfo) (bytes : Nat) (ht : Try.prog.underlying t = some (.slice e)) (hi : Try.prog.info? e = some i0) (hz0 : i0.zero = some (.int k 0)) (hz1 : i0.size = 1) (hz2 : i0.bytes = bytes) (hby : bytes ≤ 8)
    (base : Nat) (v : Value) (D : List Int) (z : Int) (hown : Own k e w base v D) (b : Nat) (hc : w.cell? ⟨b, 0, none⟩ = some (.int k z)) (hlen : D.length ≤ 1000000000)
    (v' : Value) (w' : World) (hr : (Builtin.append_ #[t, t] ty #[v, .slice (some ⟨b, 0, none⟩) 1 1]).run Try.prog w = .ok v' w') : v'.ownBlock = v.ownBlock ∨ v'.ownBlock = some w.heap.size := by
  have hnews : ∀ j u, [Value.int k z][j]? = some u → w.cell? ((⟨b, 0, none⟩ : Addr).add j) = some u := by
    intro j u hu
    match j, hu with
    | 0, hu => simp at hu; subst hu; rw [add_none]; exact hc
  have hone : ∀ u ∈ [Value.int k z], u.oneCell' = true := by intro u hu; simp at hu; subst hu; rfl
  have hb8 : (D.length + 1) * bytes ≤ 140737488355328 := calc (D.length + 1) * bytes ≤ (D.length + 1) * 8 := Nat.mul_le_mul_left _ hby
      _ ≤ _ := by omega
  rcases hown.2 with ⟨rfl, hD⟩ | ⟨g, cap, cur, rfl, hbg, hg, hnc, hcm, hcs, htake⟩
  · have h := run_append_nil (P := Try.prog) w t ty e i0 (.int k 0) ht hi hz0 ⟨b, 0, none⟩ 1 1 [.int k z] (by simp [hz1]) hnews (by omega) (by omega) (by rw [hz2]; omega)
    rw [h] at hr
    injection hr with h1 h2
    subst h1
    exact .inr rfl
  · by_cases hroom : D.length + 1 ≤ cap
    · have h := run_append_room (P := Try.prog) w t ty e i0 ht hi g D.length cap cur hg ⟨b, 0, none⟩ 1 1 [.int k z] (by simp [hz1]) hnews hone hroom (by rw [hz1, hcs]; simp; omega)
      rw [h] at hr
      injection hr with h1 h2
      subst h1
      exact .inl rfl
    · have h := run_append_grow (P := Try.prog) w t ty e i0 (.int k 0) ht hi hz0 ⟨g, 0, none⟩ D.length cap (D.map (Value.int k)) (by rw [hz1]; simp) (World.ownsRow.cells hown (g := g) rfl) ⟨b, 0, none⟩ 1 1 [.int k z] (by simp [hz1]) hnews (by omega) (by omega) (growslice_fits (by omega) (by rw [hz2]; exact hb8))
      rw [h] at hr
      injection hr with h1 h2
      subst h1
      exact .inr rfl

/-- 'append(out, z)' in a region that draws. -/
theorem step_push {ops : Array Oper} {o : Oper} {a : Act} {w : World} {K : Act → World → Prop} {Q : Exit → Act → World → Prop} {E : Prop} (hgd : o.guard = none) (s x : Operand) (t : TypeId)
    (ho : o.op = .call { callee := .builtin .append, args := #[s, x], argTypes := #[t, t] })
    (k : IntKind) (e : TypeId) (bytes : Nat) (ht : Try.prog.underlying t = some (.slice e)) (hinfo : (Try.prog.info? e).map (fun i => (i.zero, i.size, i.bytes)) = some (some (.int k 0), 1, bytes)) (hby : bytes ≤ 8)
    (base : Nat) (v : Value) (D : List Int) (z : Int) (hs : a.eval s = v) (hown : Own k e w base v D) (b : Nat) (hx : a.eval x = .slice (some ⟨b, 0, none⟩) 1 1) (hc : w.cell? ⟨b, 0, none⟩ = some (.int k z))
    (hlen : D.length ≤ 1000000000) (hbase : base ≤ w.heap.size)
    (h : ∀ v' w', Hid (Own k e w' base v' (D ++ [z])) → w.grownBy w' v.ownBlock → Hid (v'.ownBlock = v.ownBlock ∨ v'.ownBlock = some w.heap.size) → K (a.put o.dst v') w') :
    if Region.wanted o (yielded ops a.tmps) = true then Oper.wp Try.prog o a w K Q else E := by
  have hw : Region.wanted o (yielded ops a.tmps) = true := by simp [Region.wanted, hgd]
  rw [if_pos hw]
  obtain ⟨i0, hi, hz0, hz1, hz2⟩ := info_parts hinfo
  obtain ⟨v', w', hr, h2, h3, h4⟩ := run_append_own (P := Try.prog) w base t o.type e i0 (.int k 0) 1 bytes ht hi hz0 hz1 hz2 rfl (by decide) v D.length (D.map (Value.int k)) hown ⟨b, 0, none⟩ 1 1 [.int k z] rfl
    (by
      intro j u hu
      match j, hu with
      | 0, hu => simp at hu; subst hu; rw [add_none]; exact hc)
    (by intro u hu; simp at hu; subst hu; rfl) (by unfold maxLen; omega)
    (calc (D.length + 1) * bytes ≤ (D.length + 1) * 8 := Nat.mul_le_mul_left _ hby
      _ ≤ _ := by omega) hbase
  have hwh := push_where w k t o.type e i0 bytes ht hi hz0 hz1 hz2 hby base v D z hown b hc hlen v' w' hr
  unfold Oper.wp execOp
  simp only [ho, resolve, invoke, builtin, Sem.run_bind, Sem.run_pure, Result.andThen_ok, List.map_toArray, List.map_cons, List.map_nil, hs, hx, hr]
  refine h v' w' ?_ h3 hwh
  have : D.length + 1 = (D ++ [z]).length := by simp
  show Own _ _ _ _ _ _
  unfold Own
  rw [← this, List.map_append]
  exact h2
end Go.Proofs.Qxb6602056a
