import Derived.Test.Qxb6000868aHasPre
import Derived.Test.Qxb6000868aUnPlain
import Derived.Laws.CopyOwn
import Derived.Deep.RegionLaw
import Derived.Deep.AppendLies
namespace Go.Proofs.Qxb6000868a.Un
open Go.RowKit

/-! ### append over a row that is known whole: there is room: the cells behind what is written stay as they were -/
theorem run_append_over {P : Program} (w : World) (t ty e : TypeId) (i : TypeInfo) (ht : P.underlying t = some (.slice e)) (hi : P.info? e = some i) (hsize : i.size = 1)
    (g n cap : Nat) (cur : List Value) (hg : w.heap[g]? = some (.cells cur.toArray e (0, 0))) (ad : Addr) (m c : Nat) (news : List Value) (hl : news.length = m) (hnews : ∀ j u, news[j]? = some u → w.cell? (ad.add j) = some u) (h1 : ∀ u ∈ news, u.oneCell' = true)
    (hroom : n + m ≤ cap) (hfit : n + m ≤ cur.length) :
    ∃ w', (Builtin.append_ #[t, t] ty #[.slice (some ⟨g, 0, none⟩) n cap, .slice (some ad) m c]).run P w = .ok (.slice (some ⟨g, 0, none⟩) (n + m) cap) w' ∧
      Hid (w'.heap[g]? = some (.cells (splice cur n news).toArray e (0, 0))) ∧ w.grownBy w' (some g) := by
  have hr := run_append_room (P := P) w t ty e i ht hi g n cap cur.toArray hg ad m c news (by rw [hsize, hl]; omega) hnews h1 hroom (by simp [hsize]; omega)
  refine ⟨_, hr, ?_, rfl, rfl, rfl, by simp [World.setRow], fun k _ hk => setRow_other w g k _ (fun e => hk (by rw [e]))⟩
  have e1 : cur.toArray.toList.take (n * i.size) ++ news ++ cur.toArray.toList.drop (n * i.size + news.length) = splice cur n news := by
    simp [splice, hsize]
  rw [e1]
  exact setRow_heap w g _ _ e _ hg

theorem wpList_append_over {P : Program} (w : World) {ops : Array Oper} {rest : List Oper} {o : Oper} {a : Act} {Q : Exit → Act → World → Prop} (hgd : o.guard = none) (s x : Operand) (t : TypeId)
    (ho : o.op = .call { callee := .builtin .append, args := #[s, x], argTypes := #[t, t] }) (e : TypeId) (i : TypeInfo) (ht : P.underlying t = some (.slice e)) (hi : P.info? e = some i) (hsize : i.size = 1)
    (g n cap : Nat) (cur : List Value) (hs : a.eval s = .slice (some ⟨g, 0, none⟩) n cap) (hg : w.heap[g]? = some (.cells cur.toArray e (0, 0)))
    (ad : Addr) (m c : Nat) (news : List Value) (hx : a.eval x = .slice (some ad) m c) (hl : news.length = m) (hnews : ∀ j u, news[j]? = some u → w.cell? (ad.add j) = some u) (h1 : ∀ u ∈ news, u.oneCell' = true)
    (hroom : n + m ≤ cap) (hfit : n + m ≤ cur.length)
    (h : ∀ w', Hid (w'.heap[g]? = some (.cells (splice cur n news).toArray e (0, 0))) → w.grownBy w' (some g) → wpList P ops Q rest (a.put o.dst (.slice (some ⟨g, 0, none⟩) (n + m) cap)) w') : wpList P ops Q (o :: rest) a w := by
  refine wpList_plain hgd fun K hK => ?_
  obtain ⟨w', hrun, r1, r2⟩ := run_append_over (P := P) w t o.type e i ht hi hsize g n cap cur hg ad m c news hl hnews h1 hroom hfit
  unfold Oper.wp
  simp [execOp, ho, resolve, invoke, builtin, hs, hx, hrun, Result.andThen]
  exact hK _ _ (h w' r1 r2)

theorem step_append_over {P : Program} (w : World) {ops : Array Oper} {o : Oper} {a : Act} {K : Act → World → Prop} {Q : Exit → Act → World → Prop} {E : Prop} (hgd : o.guard = none) (s x : Operand) (t : TypeId)
    (ho : o.op = .call { callee := .builtin .append, args := #[s, x], argTypes := #[t, t] }) (e : TypeId) (i : TypeInfo) (ht : P.underlying t = some (.slice e)) (hi : P.info? e = some i) (hsize : i.size = 1)
    (g n cap : Nat) (cur : List Value) (hs : a.eval s = .slice (some ⟨g, 0, none⟩) n cap) (hg : w.heap[g]? = some (.cells cur.toArray e (0, 0)))
    (ad : Addr) (m c : Nat) (news : List Value) (hx : a.eval x = .slice (some ad) m c) (hl : news.length = m) (hnews : ∀ j u, news[j]? = some u → w.cell? (ad.add j) = some u) (h1 : ∀ u ∈ news, u.oneCell' = true)
    (hroom : n + m ≤ cap) (hfit : n + m ≤ cur.length)
    (h : ∀ w', Hid (w'.heap[g]? = some (.cells (splice cur n news).toArray e (0, 0))) → w.grownBy w' (some g) → K (a.put o.dst (.slice (some ⟨g, 0, none⟩) (n + m) cap)) w') :
    if Region.wanted o (yielded ops a.tmps) = true then Oper.wp P o a w K Q else E := by
  have hw : Region.wanted o (yielded ops a.tmps) = true := by simp [Region.wanted, hgd]
  rw [if_pos hw]
  obtain ⟨w', hrun, r1, r2⟩ := run_append_over (P := P) w t o.type e i ht hi hsize g n cap cur hg ad m c news hl hnews h1 hroom hfit
  unfold Oper.wp
  simp [execOp, ho, resolve, invoke, builtin, hs, hx, hrun, Result.andThen]
  exact h w' r1 r2

/-! ### The state of the loop -/
/-- After k bytes of the text l have been read and j bytes been written over the row's head: the row's cells are 'cur'; its head holds 'done'; from k on it still holds the text; what is left of the text gives 'rest'; 'done' and 'rest' make the whole answer R. -/
def St (g cap len : Nat) (l R : List Int) (w : World) (k j : Nat) (wr : World) (cur : List Value) (done rest : List Int) : Prop :=
  j ≤ k ∧ k ≤ len ∧ done.length = j ∧ cur.length = cap ∧ wr.heap[g]? = some (.cells cur.toArray 5 (0, 0)) ∧ (∀ p, p < j → cur[p]? = some (.int .u8 (done.getD p 0))) ∧
    (∀ p, k ≤ p → p < len → cur[p]? = some (.int .u8 (l.getD p 0))) ∧ UnTo (l.drop k) rest ∧ done ++ rest = R ∧ w.grownBy wr (some g)

theorem grown_trans {a b c : World} {row : Option Nat} (h : a.grownBy b row) (k : b.grownBy c row) : a.grownBy c row :=
  ⟨k.os.trans h.os, k.tape.trans h.tape, k.output.trans h.output, Nat.le_trans h.size k.size, fun i hi hne => (k.block i (Nat.lt_of_lt_of_le hi h.size) hne).trans (h.block i hi hne)⟩
theorem grown_alloc {a b : World} {row : Option Nat} (h : a.grownBy b row) (o : Obj) : a.grownBy (b.alloc o) row := grown_trans h (World.grownBy_alloc b o row)
theorem grown_drew {a b : World} {row : Option Nat} (h : a.grownBy b row) : a.grownBy b.drew row := ⟨h.os, h.tape, h.output, h.size, h.block⟩

theorem cell_of_row {W : World} {g p : Nat} {cur : List Value} (hg : W.heap[g]? = some (.cells cur.toArray 5 (0, 0))) : W.cell? ⟨g, p, none⟩ = cur[p]? := by
  simp [World.cell?, hg]

theorem getElem?_splice {α : Type} (L cs : List α) (n p : Nat) (h : n + cs.length ≤ L.length) :
    (splice L n cs)[p]? = if p < n then L[p]? else if p < n + cs.length then cs[p - n]? else L[p]? := by
  unfold splice
  by_cases h1 : p < n
  · rw [if_pos h1, List.getElem?_append_left (by rw [List.length_take]; omega), List.getElem?_take, if_pos h1]
  · have hl : (L.take n).length = n := by rw [List.length_take]; omega
    rw [if_neg h1, List.getElem?_append_right (by omega), hl]
    by_cases h2 : p < n + cs.length
    · rw [if_pos h2, List.getElem?_append_left (by omega)]
    · rw [if_neg h2, List.getElem?_append_right (by omega), List.getElem?_drop]
      congr 1; omega

/-- One step: m = ns.length bytes are written, the reader goes on to k'. -/
theorem st_step {g cap len k j k' : Nat} {l R : List Int} {w wr W w' : World} {cur : List Value} {done rest rest' ns : List Int}
    (h : St g cap len l R w k j wr cur done rest) (hlc : len ≤ cap) (hns : j + ns.length ≤ k') (hk : k' ≤ len) (hkk : k ≤ k') (hr : rest = ns ++ rest') (hu : UnTo (l.drop k') rest')
    (hW : w.grownBy W (some g)) (hg' : Hid (w'.heap[g]? = some (.cells (splice cur j (ns.map (Value.int .u8))).toArray 5 (0, 0)))) (hgrow : W.grownBy w' (some g)) :
    St g cap len l R w k' (j + ns.length) w' (splice cur j (ns.map (Value.int .u8))) (done ++ ns) rest' := by
  obtain ⟨s1, s2, s3, s4, s5, s6, s7, s8, s9, s10⟩ := h
  have hfit : j + (ns.map (Value.int .u8)).length ≤ cur.length := by simp; omega
  refine ⟨hns, hk, by simp [s3], (length_splice _ _ _ hfit).trans s4, hg'.out, ?_, ?_, hu, ?_, ?_⟩
  · intro p hp
    rw [getElem?_splice _ _ _ _ hfit]
    by_cases h1 : p < j
    · rw [if_pos h1, s6 p h1, List.getD_eq_getElem?_getD, List.getD_eq_getElem?_getD, List.getElem?_append_left (by omega)]
    · rw [if_neg h1, if_pos (by simpa using hp), List.getD_eq_getElem?_getD, List.getElem?_append_right (by omega), s3, List.getElem?_map, List.getElem?_eq_getElem (show p - j < ns.length by omega)]
      simp
  · intro p hp1 hp2
    rw [getElem?_splice _ _ _ _ hfit, if_neg (by omega), if_neg (by simp; omega)]
    exact s7 p (by omega) hp2
  · rw [List.append_assoc, ← hr]; exact s9
  · exact grown_trans hW hgrow

/-- HasPrefix at what is left of the text. -/
theorem hasPre_at (g k len cap b₂ c₂ : Nat) (l q : List Int) (cur : List Value) (W : World) (fr : Nat × Nat) (hl : l.length = len) (hk : k ≤ len) (hlc : len ≤ cap) (hq : q.length = 6) (bl : Byt l) (bq : Byt q)
    (hg : W.heap[g]? = some (.cells cur.toArray 5 (0, 0))) (hcur : ∀ p, k ≤ p → p < len → cur[p]? = some (.int .u8 (l.getD p 0))) (h2 : W.heap[b₂]? = some (.cells (q.map (Value.int .u8)).toArray 5 fr)) :
    Calls Try.prog 33 #[.slice (some ⟨g, k, none⟩) (len - k) (cap - k), .slice (some ⟨b₂, 0, none⟩) 6 c₂] W fun e w' => e = .returned (.bool (decide ((l.drop k).take 6 = q))) ∧ W = w' := by
  by_cases h : len - k < 6
  · rw [decide_eq_false (by
      intro h'
      have := congrArg List.length h'
      rw [List.length_take, List.length_drop] at this
      omega)]
    exact hasPre_short _ _ _ _ _ _ W h
  · refine hasPre_long g k b₂ 0 (len - k) (cap - k) 6 c₂ (l.drop k) q W (by omega) (by omega) (by rw [List.length_drop]; omega) hq (fun c hc => bl c (List.mem_of_mem_drop hc)) bq ?_ ?_
    · intro i hi
      rw [cell_of_row hg, hcur (k + i) (by omega) (by omega)]
      simp [List.getElem?_drop]
    · intro i hi
      have : i < q.length := by omega
      simp [World.cell?, h2, List.getElem?_eq_getElem this]

end Go.Proofs.Qxb6000868a.Un
