/- append of bytes that are read onto a printer's buffer. Plain. -/
import Derived.Test.YtidcbknnjpecbaaPrn
import Derived.RegionTactic
namespace Go.Proofs.Ytidcbknnjpecbaa.Pru
open Go.RowKit Mem Args Prn
section
variable {P : Program} (w : World)
theorem run_append_ints_at (t ty e : TypeId) (i : TypeInfo) (ht : P.underlying t = some (.slice e)) (hi : P.info? e = some i) (hz : i.zero = some (.int .u8 0))
    (hsize : i.size = 1) (hby : i.bytes = 1) (v : Value) (zs : List Int) (hown : Buf w e v zs) (a : Addr) (m c : Nat) (ys : List Int) (hm : ys.length = m) (hcell : ∀ j, j < m → w.cell? (a.add j) = some (.int .u8 (ys.getD j 0)))
    (hb : zs.length + m ≤ 1000000000) :
    ∃ v' w', (Builtin.append_ #[t, t] ty #[v, .slice (some a) m c]).run P w = .ok v' w' ∧ Buf w' e v' (zs ++ ys) ∧ w.grownBy w' v.ownBlock ∧ (v'.ownBlock = v.ownBlock ∨ v'.ownBlock = some w.heap.size) := by
  have hl : (iv .u8 ys).length = m * 1 := by rw [iv_length]; omega
  have hnews : ∀ j u, (iv .u8 ys)[j]? = some u → w.cell? (a.add j) = some u := by
    intro j u hu
    have hj : j < ys.length := by have := (List.getElem?_eq_some_iff.1 hu).1; rwa [iv_length] at this
    rw [hcell j (by omega), ← iv_at .u8 ys j hj]; exact hu
  have h1 : ∀ u ∈ iv .u8 ys, u.oneCell' = true := by
    intro u hu
    simp only [iv, List.mem_map] at hu
    obtain ⟨z, _, rfl⟩ := hu
    rfl
  obtain ⟨v', w', hr, k1, k2, k3⟩ := run_append_own (P := P) w 0 t ty e i (.int .u8 0) 1 1 ht hi hz hsize hby rfl (by decide) v zs.length (iv .u8 zs) hown a m c (iv .u8 ys) hl hnews h1 (by unfold maxLen; omega) (by omega) (Nat.zero_le _)
  refine ⟨v', w', hr, ?_, k2, ?_⟩
  · unfold Buf
    rw [List.length_append, hm, show iv .u8 (zs ++ ys) = iv .u8 zs ++ iv .u8 ys by simp [iv]]
    exact k1
  · have hxl : (iv .u8 zs).length = zs.length := iv_length _ _
    have hl' : (iv .u8 ys).length = m * i.size := by rw [hsize]; exact hl
    rcases hown.2 with ⟨rfl, h0⟩ | ⟨g, cap, cur, rfl, hbg, hg, hnc, hcm, hcs, htake⟩
    · by_cases hm0 : m = 0
      · rw [k3.2 ⟨rfl, hm0⟩]; exact .inl rfl
      · have hr' := run_append_nil (P := P) w t ty e i (.int .u8 0) ht hi hz a m c (iv .u8 ys) hl' hnews (by omega) (by omega) (by rw [hby]; omega)
        rw [hr] at hr'
        injection hr' with hv hw
        rw [hv]; exact .inr rfl
    · by_cases hroom : zs.length + m ≤ cap
      · have hr' := run_append_room (P := P) w t ty e i ht hi g zs.length cap cur hg a m c (iv .u8 ys) hl' hnews h1 hroom (by rw [iv_length, hsize, hcs]; omega)
        rw [hr] at hr'
        injection hr' with hv hw
        rw [hv]; exact .inl rfl
      · have holds : ∀ j u, (iv .u8 zs)[j]? = some u → w.cell? ((⟨g, 0, none⟩ : Addr).add j) = some u := hown.cells (g := g) rfl
        have hr' := run_append_grow (P := P) w t ty e i (.int .u8 0) ht hi hz ⟨g, 0, none⟩ zs.length cap (iv .u8 zs) (by rw [hsize, iv_length]; omega) holds a m c (iv .u8 ys) hl' hnews (by omega) (by omega) (by rw [hby]; exact growslice_fits (by omega) (by omega))
        rw [hr] at hr'
        injection hr' with hv hw
        rw [hv]; exact .inr rfl
theorem wpList_append_buf {ops : Array Oper} {rest : List Oper} {o : Oper} {a : Act} {Q : Exit → Act → World → Prop} (hgd : o.guard = none) (sl x : Operand) (t : TypeId)
    (ho : o.op = .call { callee := .builtin .append, args := #[sl, x], argTypes := #[t, t] })
    (e : TypeId) (i : TypeInfo) (ht : P.underlying t = some (.slice e)) (hi : P.info? e = some i) (hz : i.zero = some (.int .u8 0))
    (hsize : i.size = 1) (hby : i.bytes = 1) (v : Value) (zs : List Int) (hs : a.eval sl = v) (hown : Buf w e v zs) (ad : Addr) (m c : Nat) (ys : List Int) (hx : a.eval x = .slice (some ad) m c) (hm : ys.length = m)
    (hcell : ∀ j, j < m → w.cell? (ad.add j) = some (.int .u8 (ys.getD j 0))) (hb : zs.length + m ≤ 1000000000)
    (h : ∀ A' n' c' w', Buf w' e (.slice A' n' c') (zs ++ ys) → w.grownBy w' v.ownBlock → (Value.ownBlock (.slice A' n' c') = v.ownBlock ∨ Value.ownBlock (.slice A' n' c') = some w.heap.size) → wpList P ops Q rest (a.put o.dst (.slice A' n' c')) w') : wpList P ops Q (o :: rest) a w := by
  refine wpList_plain hgd fun K hK => ?_
  obtain ⟨v', w', hr, h2, h3, h4⟩ := run_append_ints_at (P := P) w t o.type e i ht hi hz hsize hby v zs hown ad m c ys hm hcell hb
  obtain ⟨A', c', rfl⟩ := h2.form
  unfold Oper.wp execOp
  simp only [ho, resolve, invoke, builtin, Sem.run_bind, Sem.run_pure, Result.andThen_ok, List.map_toArray, List.map_cons, List.map_nil, hs, hx, hr]
  exact hK _ _ (h _ _ _ w' h2 h3 h4)
end
/-- An append inside a drawing region, by its run. -/
theorem step_append_run {P : Program} {ops : Array Oper} {o : Oper} {a : Act} {w : World} {K : Act → World → Prop} {Q : Exit → Act → World → Prop} {E : Prop}
    (hg : o.guard = none) (s x : Operand) (t u : TypeId) (hop : o.op = Op.call { callee := Callee.builtin Builtin.append, args := #[s, x], argTypes := #[t, u] })
    (vs vx v : Value) (W : World) (hs : a.eval s = vs) (hx : a.eval x = vx) (hrun : (Builtin.append_ #[t, u] o.type #[vs, vx]).run P w = .ok v W) (hK : K (a.put o.dst v) W) :
    if Region.wanted o (yielded ops a.tmps) = true then Oper.wp P o a w K Q else E := by
  have hw : Region.wanted o (yielded ops a.tmps) = true := by simp [Region.wanted, hg]
  rw [if_pos hw]
  unfold Oper.wp
  simp [execOp, hop, resolve, invoke, builtin, hs, hx, hrun, Result.andThen]
  exact hK
/-- A block of the call's own, written in part. -/
theorem grown_row {w w' : World} {g : Nat} {t : TypeId} {xs : List Value} (h : w.grownBy w' (some g)) {g' : Nat} (hr : Row w g' t xs) (hne : g' ≠ g) : Row w' g' t xs := (h.block g' hr.lt (by intro e; injection e with e; exact hne e)).trans hr
theorem _root_.Go.Proofs.Ytidcbknnjpecbaa.Prn.Pr.alloc {w : World} {p o : Nat} {t E : TypeId} {cs : List Value} {v : Value} {zs : List Int} (h : Pr w p t o E cs v zs) (x : Obj) : Pr (w.alloc x) p t o E cs v zs :=
  ⟨h.row.alloc x, h.at_, h.buf.below ((Below.refl _ _).alloc (Nat.le_refl _) _) (Nat.le_refl _)⟩
theorem _root_.Go.Proofs.Ytidcbknnjpecbaa.Prn.Pr.drew {w : World} {p o : Nat} {t E : TypeId} {cs : List Value} {v : Value} {zs : List Int} (h : Pr w p t o E cs v zs) : Pr w.drew p t o E cs v zs := ⟨h.row, h.at_, h.buf⟩
theorem buf_other {w w' : World} {E : TypeId} {v : Value} {zs : List Int} {b : Nat} (h : Buf w E v zs) (hg : w.grownBy w' (some b)) (hv : v.ownBlock ≠ some b) : Buf w' E v zs := by
  refine ⟨h.1, ?_⟩
  rcases h.2 with h0 | ⟨g, cap, cur, rfl, a, hh, c⟩
  · exact .inl h0
  · exact .inr ⟨g, cap, cur, rfl, a, (hg.block g (Array.getElem?_eq_some_iff.1 hh).1 (fun e => hv (by simpa [Value.ownBlock] using e))).trans hh, c⟩
theorem _root_.Go.Proofs.Ytidcbknnjpecbaa.Prn.Pr.other {w w' : World} {p o b : Nat} {t E : TypeId} {cs : List Value} {v : Value} {zs : List Int} (h : Pr w p t o E cs v zs) (hg : w.grownBy w' (some b)) (hb : p ≠ b) (hv : v.ownBlock ≠ some b) : Pr w' p t o E cs v zs :=
  ⟨grown_row hg h.row hb, h.at_, buf_other h.buf hg hv⟩
theorem _root_.Go.Proofs.Ytidcbknnjpecbaa.Prn.Step.more {p b : Nat} {w w' w'' : World} {v v' : Value} (h : Step p w v w' v') (hg : w'.grownBy w'' (some b)) (hb : w.heap.size ≤ b) : Step p w v w'' v' :=
  ⟨hg.os.trans h.os, hg.tape.trans h.tape, hg.output.trans h.output, Nat.le_trans h.size hg.size, fun j hj hp hv => (hg.block j (Nat.lt_of_lt_of_le hj h.size) (by intro e; injection e with e; omega)).trans (h.block j hj hp hv), h.at_⟩
end Go.Proofs.Ytidcbknnjpecbaa.Pru
