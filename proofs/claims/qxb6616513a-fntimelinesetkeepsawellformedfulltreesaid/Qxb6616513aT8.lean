import Derived.Test.Qxb6616513aT7
namespace Go.Proofs.Qxb6616513a
open Go.RowKit

/-- Behind the kids' own slices.Insert, and the store of what it hands back. -/
theorem Mid2.ins {h : Nat} {F0 : List Nat} {w W w9 w10 wf : World} {b j : Nat} {v v' : Value} {ks : List (Int × HT h)} {pb : Nat} {x : Int} {y : Nat} {o : Obj} (M : Mid2 h F0 w W b v ks pb x y) {s : HT h} {f : Int}
    (hs : At W h s) (hnd : (foot (h + 1) (b, v, ks) ++ foot h s).Nodup) (hmem : ∀ z ∈ foot h s, z ∈ F0 ∨ w.heap.size ≤ z) (hps : pb ∉ foot h s) (h9 : w9 = W.alloc o)
    (hI : InsPost w9 84 v ks.length j (encK h ks) [.int .i64 f, .pointer (some ⟨blk h s, 0, none⟩)] (.returned v') w10) (hS : SameH (w10.setCell ⟨b, 1, none⟩ v') wf) :
    Mid2 h F0 w wf b v' (Go.Proofs.Qxb6616513a.ins j (f, s) ks) pb x y := by
  obtain ⟨v'', hv, hrow, hg, hm⟩ := hI
  obtain rfl : v' = v'' := by simpa using hv
  obtain ⟨⟨ty, hb⟩, hr, hkk⟩ := M.at'
  change W.heap[b]? = some (.cells #[.slice none 0 0, v] ty (0, 0)) at hb
  change W.ownsRow 0 84 2 v ks.length (encK h ks) at hr
  change ∀ k ∈ ks, At W h k.2 at hkk
  have hbl : b < W.heap.size := (Array.getElem?_eq_some_iff.1 hb).1
  have hpl : pb < W.heap.size := (Array.getElem?_eq_some_iff.1 M.pbc).1
  have hs9 : w9.heap.size = W.heap.size + 1 := by rw [h9]; simp
  have o9 : ∀ k, k < W.heap.size → w9.heap[k]? = W.heap[k]? := fun k hk => by rw [h9]; exact Below.heap_alloc W _ k hk
  obtain ⟨n1, n2, n3⟩ := List.nodup_append.1 hnd
  rw [foot_succ] at n1
  have hne : v.ownBlock ≠ some b := fun e => (List.nodup_cons.1 n1).1 (by simp [e])
  have hbk : b ∉ kidsFoot h ks := fun hm => (List.nodup_cons.1 n1).1 (List.mem_append_right _ hm)
  have hvk : ∀ g, v.ownBlock = some g → g ∉ kidsFoot h ks := fun g hg hm => (List.nodup_append.1 (List.nodup_cons.1 n1).2).2.2 g (by simp [hg]) g hm rfl
  have hbs : b ∉ foot h s := fun hm => n3 b (by simp [foot_succ]) b hm rfl
  have hvs : ∀ g, v.ownBlock = some g → g ∉ foot h s := fun g hg hm => n3 g (by simp [foot_succ, hg]) g hm rfl
  -- an old block that is neither the row's nor the node's
  have same : ∀ k, k < W.heap.size → k ≠ b → v.ownBlock ≠ some k → wf.heap[k]? = W.heap[k]? := fun k hk h1 h2 => by
    rw [hS.heap, Below.heap_setCell w10 _ _ k h1]
    exact (hg.block k (by omega) (fun e => h2 e.symm)).trans (o9 k hk)
  have hb10 : w10.heap[b]? = some (.cells #[.slice none 0 0, v] ty (0, 0)) := (hg.block b (by omega) (fun e => hne e.symm)).trans ((o9 b hbl).trans hb)
  have hv' : v'.ownBlock ≠ some b := by
    rcases hm with h' | ⟨g, hge, h'⟩
    · rw [h']; exact hne
    · rw [h']; intro e; have := Option.some.inj e; omega
  have hv'in : ∀ z ∈ v'.ownBlock.toList, z ∈ v.ownBlock.toList ∨ W.heap.size ≤ z := fun z hz => by
    rcases hm with h' | ⟨g, hge, h'⟩
    · left; rw [← h']; exact hz
    · right
      rw [h'] at hz
      simp at hz
      omega
  have hpn := M.pbn
  rw [foot_succ] at hpn
  have hsl := At.lt h s hs
  have hkl : ∀ z ∈ kidsFoot h ks, z < W.heap.size := fun z hz => by
    obtain ⟨q, hq, hz'⟩ := mem_kidsFoot.1 hz
    exact At.lt h q.2 (hkk q hq) z hz'
  have hfoot : (foot (h + 1) (b, v', Go.Proofs.Qxb6616513a.ins j (f, s) ks)) = [b] ++ (v'.ownBlock.toList ++ (kidsFoot h (ks.take j) ++ foot h s ++ kidsFoot h (ks.drop j))) := by
    rw [foot_succ, Go.Proofs.Qxb6616513a.ins, kidsFoot_append, kidsFoot_append]
    simp [kidsFoot]
  have hsplit : kidsFoot h ks = kidsFoot h (ks.take j) ++ kidsFoot h (ks.drop j) := by rw [← kidsFoot_append, List.take_append_drop]
  have hC : ∀ z ∈ kidsFoot h (ks.take j) ++ foot h s ++ kidsFoot h (ks.drop j), z ∈ kidsFoot h ks ∨ z ∈ foot h s := fun z hz => by
    rw [hsplit]
    simp only [List.mem_append] at hz ⊢
    rcases hz with (h' | h') | h'
    · exact Or.inl (Or.inl h')
    · exact Or.inr h'
    · exact Or.inl (Or.inr h')
  have hnd' : ([b] ++ (v.ownBlock.toList ++ (kidsFoot h (ks.take j) ++ foot h s ++ kidsFoot h (ks.drop j)))).Nodup := by
    refine (List.Perm.nodup_iff ?_).1 hnd
    rw [foot_succ, hsplit]
    simp only [List.cons_append, List.append_assoc]
    refine List.Perm.cons _ (List.Perm.append_left _ (List.Perm.append_left _ List.perm_append_comm))
  refine ⟨?_, ⟨⟨ty, by rw [hS.heap]; exact cells_set1 hb10⟩, ?_, ?_⟩, ?_, ?_, (same pb hpl (fun e => hpn (by rw [e]; simp)) (fun e => hpn (by simp [e]))).trans M.pbc, ?_, M.fresh, M.pb0⟩
  · refine hS.keeps ?_
    have k1 : Keeps F0 w w9 := M.keeps.trans (by rw [h9]; exact alloc_keeps W _ []) (by simp)
    have k2 : Keeps F0 w w10 := k1.trans (grown_keeps hg v.ownBlock.toList (fun k hk => by simp [hk])) (fun z hz => M.mem z (by simp [foot_succ, hz]))
    exact k2.trans (setCell_keeps w10 _ _ [b] (by simp)) (fun z hz => by simp at hz; subst hz; exact M.mem z (by simp [foot_succ]))
  · show wf.ownsRow 0 84 2 v' (Go.Proofs.Qxb6616513a.ins j (f, s) ks).length (encK h (Go.Proofs.Qxb6616513a.ins j (f, s) ks))
    rw [ins_length]
    unfold encK
    rw [pairs_ins]
    unfold encK at hrow
    exact hS.row (ownsRow_same hrow fun k hk => Below.heap_setCell w10 _ _ k (fun e => hv' (by rw [hk, e])))
  · intro q hq
    change q ∈ Go.Proofs.Qxb6616513a.ins j (f, s) ks at hq
    rw [Go.Proofs.Qxb6616513a.ins] at hq
    simp only [List.mem_append, List.mem_singleton] at hq
    have old : ∀ q ∈ ks, At wf h q.2 := fun q hq => At.same h q.2 (hkk q hq) fun z hz => by
      have hz' := mem_kidsFoot.2 ⟨q, hq, hz⟩
      exact same z (hkl z hz') (fun e => hbk (e ▸ hz')) (fun e => hvk z e hz')
    rcases hq with (h' | rfl) | h'
    · exact old q (List.mem_of_mem_take h')
    · exact At.same h s hs fun z hz => same z (hsl z hz) (fun e => hbs (e ▸ hz)) (fun e => hvs z e hz)
    · exact old q (List.mem_of_mem_drop h')
  · rw [hfoot]
    refine nodup_swap (N := W.heap.size) hnd' (by cases v'.ownBlock <;> simp) hv'in (fun z hz => ?_)
    rcases List.mem_append.1 hz with h' | h'
    · simp at h'; omega
    · rcases hC z h' with h'' | h''
      · exact hkl z h''
      · exact hsl z h''
  · intro z hz
    rw [hfoot] at hz
    rcases List.mem_append.1 hz with h' | h'
    · simp at h'; subst h'; exact M.mem z (by simp [foot_succ])
    · rcases List.mem_append.1 h' with h'' | h''
      · rcases hv'in z h'' with h3 | h3
        · exact M.mem z (by rw [foot_succ]; exact List.mem_cons_of_mem _ (List.mem_append_left _ h3))
        · exact Or.inr (Nat.le_trans M.keeps.size h3)
      · rcases hC z h'' with h3 | h3
        · exact M.mem z (by rw [foot_succ]; exact List.mem_cons_of_mem _ (List.mem_append_right _ h3))
        · exact hmem z h3
  · intro hp
    rw [hfoot] at hp
    rcases List.mem_append.1 hp with h' | h'
    · simp at h'; exact hpn (by rw [h']; simp)
    · rcases List.mem_append.1 h' with h'' | h''
      · rcases hv'in pb h'' with h3 | h3
        · exact hpn (List.mem_cons_of_mem _ (List.mem_append_left _ h3))
        · omega
      · rcases hC pb h'' with h3 | h3
        · exact hpn (List.mem_cons_of_mem _ (List.mem_append_right _ h3))
        · exact hps h3

/-- 'clear' of elements of whatever number of cells, in a row. -/
theorem run_clear_rowS {P : Program} (w : World) (t ty e : TypeId) (i : TypeInfo) (z : Value) (g o n c : Nat) (cur : Array Value) (tt : TypeId) (ht : P.underlying t = some (.slice e)) (hi : P.info? e = some i) (hz : i.zero = some z) (hn : 0 < n)
    (hg : w.heap[g]? = some (.cells cur tt (0, 0))) (hfit : o + n * z.cells.size ≤ cur.size) (h1 : ∀ u ∈ (Builtin.zeroCells z.cells n).toList, u.oneCell' = true) :
    (Builtin.clear_ #[t] ty #[.slice (some ⟨g, o, none⟩) n c]).run P w = .ok (.tuple #[]) (w.setRow g (cur.toList.take o ++ (Builtin.zeroCells z.cells n).toList ++ cur.toList.drop (o + n * z.cells.size)).toArray) := by
  have hl : (Builtin.zeroCells z.cells n).toList.length = n * z.cells.size := by rw [Array.length_toList, size_zeroCells]
  have hst := run_storeCells_at P g o tt (Builtin.zeroCells z.cells n).toList 0 cur w hg (by rw [hl]; simpa using hfit) h1
  simp only [Nat.add_zero, hl] at hst
  obtain ⟨m, rfl⟩ : ∃ m, n = m + 1 := ⟨n - 1, by omega⟩
  simp [Builtin.clear_, run_underlying ht, zeroValue, typeInfo, hi, hz, hst]

theorem wp_clear_runI {P : Program} (w : World) {o : Oper} {a : Act} {K : Act → World → Prop} {Q : Exit → Act → World → Prop} (d : Operand) (t : TypeId)
    (ho : o.op = .call { callee := .builtin .clear, args := #[d], argTypes := #[t] }) (v : Value) (hd : a.eval d = v) {v' : Value} {w' : World}
    (hr : (Builtin.clear_ #[t] o.type #[v]).run P w = .ok v' w') (h : K (a.put o.dst v') w') : o.wp P a w K Q := by
  unfold Oper.wp execOp
  simp only [ho, resolve, invoke, builtin, Sem.run_bind, Sem.run_pure, Result.andThen_ok, List.map_toArray, List.map_cons, List.map_nil, hd, hr]
  exact h
theorem wpList_clear_runI {P : Program} (w : World) {ops : Array Oper} {rest : List Oper} {o : Oper} {a : Act} {Q : Exit → Act → World → Prop} (hgd : o.guard = none) (d : Operand) (t : TypeId)
    (ho : o.op = .call { callee := .builtin .clear, args := #[d], argTypes := #[t] }) (v : Value) (hd : a.eval d = v) {v' : Value} {w' : World}
    (hr : (Builtin.clear_ #[t] o.type #[v]).run P w = .ok v' w') (h : wpList P ops Q rest (a.put o.dst v') w') : wpList P ops Q (o :: rest) a w :=
  wpList_plain hgd fun _ hK => wp_clear_runI w d t ho v hd hr (hK _ _ h)

/-- A node parted in two. -/
theorem Mid2.split {h : Nat} {F0 : List Nat} {w W w9 wf : World} {b g cap : Nat} {v1 : Value} {ks : List (Int × HT h)} {pb : Nat} {x : Int} {y : Nat} {zs : List Value} (M : Mid2 h F0 w W b (.slice (some ⟨g, 0, none⟩) ks.length cap) ks pb x y) {m : Nat} (hm : m < ks.length)
    (hr1 : w9.ownsRow W.heap.size 84 2 v1 (ks.length - m) (encK h (ks.drop m))) (hB : Below W.heap.size W w9) {cur : Array Value} (hcur : w9.heap[g]? = some (.cells cur 84 (0, 0))) (hzs : zs.length = (ks.length - m) * 2)
    (hS : SameH (((w9.alloc (.cells #[.slice none 0 0, v1] 58)).setRow g (cur.toList.take (m * 2) ++ zs ++ cur.toList.drop (m * 2 + (ks.length - m) * 2)).toArray).setCell ⟨b, 1, none⟩ (.slice (some ⟨g, 0, none⟩) m cap)) wf) :
    At wf (h + 1) (b, .slice (some ⟨g, 0, none⟩) m cap, ks.take m) ∧ At wf (h + 1) (w9.heap.size, v1, ks.drop m) ∧ Keeps F0 w wf ∧ (foot (h + 1) (b, .slice (some ⟨g, 0, none⟩) m cap, ks.take m) ++ foot (h + 1) (w9.heap.size, v1, ks.drop m)).Nodup ∧
      ∀ z ∈ foot (h + 1) (b, .slice (some ⟨g, 0, none⟩) m cap, ks.take m) ++ foot (h + 1) (w9.heap.size, v1, ks.drop m), z ∈ F0 ∨ w.heap.size ≤ z := by
  obtain ⟨⟨ty, hb⟩, hr, hkk⟩ := M.at'
  change W.heap[b]? = some (.cells #[.slice none 0 0, .slice (some ⟨g, 0, none⟩) ks.length cap] ty (0, 0)) at hb
  change W.ownsRow 0 84 2 (.slice (some ⟨g, 0, none⟩) ks.length cap) ks.length (encK h ks) at hr
  change ∀ k ∈ ks, At W h k.2 at hkk
  have hbl : b < W.heap.size := (Array.getElem?_eq_some_iff.1 hb).1
  have hgl : g < W.heap.size := (hr.lt g rfl).2
  have hWs := M.keeps.size
  have h9 := hB.size
  obtain ⟨r, c1, rfl, hc1, hr0⟩ := row_slice hr1 (by omega)
  have hrl : r < w9.heap.size := (hr1.lt r rfl).2
  have nd := M.nd
  rw [foot_succ] at nd
  have hbg : b ≠ g := fun e => (List.nodup_cons.1 nd).1 (by simp [Value.ownBlock, e])
  have hbk : b ∉ kidsFoot h ks := fun hm => (List.nodup_cons.1 nd).1 (List.mem_append_right _ hm)
  have hgk : g ∉ kidsFoot h ks := fun hm => (List.nodup_append.1 (List.nodup_cons.1 nd).2).2.2 g (by simp [Value.ownBlock]) g hm rfl
  have hkn : (kidsFoot h ks).Nodup := (List.nodup_append.1 (List.nodup_cons.1 nd).2).2.1
  have hkl : ∀ z ∈ kidsFoot h ks, z < W.heap.size := fun z hz => by
    obtain ⟨q, hq, hz'⟩ := mem_kidsFoot.1 hz
    exact At.lt h q.2 (hkk q hq) z hz'
  have hsplit : kidsFoot h ks = kidsFoot h (ks.take m) ++ kidsFoot h (ks.drop m) := by rw [← kidsFoot_append, List.take_append_drop]
  -- the row
  obtain ⟨hcs, htake, hcm, hncap⟩ : cur.size = cap * 2 ∧ cur.toList.take (ks.length * 2) = encK h ks ∧ cap ≤ maxLen ∧ ks.length ≤ cap := by
    rcases hr.2 with ⟨h', _⟩ | ⟨g', cap', cur', h', _, hg, hnc, hcm, hcs, htake⟩
    · cases h'
    · simp only [Value.slice.injEq, Option.some.injEq, Addr.mk.injEq, and_true, true_and] at h'
      obtain ⟨rfl, rfl⟩ := h'
      have := (hB.block g hgl).trans hg
      rw [hcur] at this
      simp only [Option.some.injEq, Obj.cells.injEq, and_true] at this
      subst this
      exact ⟨hcs, htake, hcm, hnc⟩
  obtain ⟨row, hrow⟩ : ∃ row, row = (cur.toList.take (m * 2) ++ zs ++ cur.toList.drop (m * 2 + (ks.length - m) * 2)).toArray := ⟨_, rfl⟩
  rw [← hrow] at hS
  have hrs : row.size = cap * 2 := by rw [hrow]; simp; omega
  have hrt : row.toList.take (m * 2) = encK h (ks.take m) := by
    rw [hrow]
    unfold encK
    unfold encK at htake
    rw [← pairs_take, ← htake, List.take_take]
    simp only [List.append_assoc]
    rw [List.take_append_of_le_length (by simp; omega), List.take_take]
    congr 1
    simp only [Nat.min_def]; split <;> split <;> omega
  -- the worlds
  obtain ⟨W2, hW2⟩ : ∃ W2, W2 = w9.alloc (.cells #[.slice none 0 0, .slice (some ⟨r, 0, none⟩) (ks.length - m) c1] 58) := ⟨_, rfl⟩
  rw [← hW2] at hS
  have s2 : W2.heap.size = w9.heap.size + 1 := by rw [hW2]; simp
  have o2 : ∀ k, k < w9.heap.size → W2.heap[k]? = w9.heap[k]? := fun k hk => by rw [hW2]; exact Below.heap_alloc w9 _ k hk
  have same : ∀ k, k < W.heap.size → k ≠ b → k ≠ g → wf.heap[k]? = W.heap[k]? := fun k hk h1 h2 => by
    rw [hS.heap, Below.heap_setCell _ _ _ k h1, setRow_other _ g k _ h2]
    exact (o2 k (by omega)).trans (hB.block k hk)
  have hbW : (W2.setRow g row).heap[b]? = some (.cells #[.slice none 0 0, .slice (some ⟨g, 0, none⟩) ks.length cap] ty (0, 0)) := by
    rw [setRow_other _ g b _ hbg]
    exact (o2 b (by omega)).trans ((hB.block b hbl).trans hb)
  have hbf : wf.heap[b]? = some (.cells #[.slice none 0 0, .slice (some ⟨g, 0, none⟩) m cap] ty (0, 0)) := by
    rw [hS.heap]; exact cells_set1 hbW
  have hgf : wf.heap[g]? = some (.cells row 84 (0, 0)) := by
    rw [hS.heap, Below.heap_setCell _ _ _ g (Ne.symm hbg)]
    exact setRow_heap W2 g cur row _ _ ((o2 g (by omega)).trans hcur)
  have hsf : wf.heap[w9.heap.size]? = some (.cells #[.slice none 0 0, .slice (some ⟨r, 0, none⟩) (ks.length - m) c1] 58 (0, 0)) := by
    rw [hS.heap, Below.heap_setCell _ _ _ _ (by show w9.heap.size ≠ b; omega), setRow_other _ g _ _ (by omega), hW2]
    exact heap_alloc_new w9 _
  have hrf : wf.heap[r]? = w9.heap[r]? := by
    rw [hS.heap, Below.heap_setCell _ _ _ r (by show r ≠ b; omega), setRow_other _ g r _ (by omega)]
    exact o2 r hrl
  have old : ∀ q ∈ ks, At wf h q.2 := fun q hq => At.same h q.2 (hkk q hq) fun z hz => by
    have hz' := mem_kidsFoot.2 ⟨q, hq, hz⟩
    exact same z (hkl z hz') (fun e => hbk (e ▸ hz')) (fun e => hgk (e ▸ hz'))
  refine ⟨⟨⟨ty, hbf⟩, ?_, fun q hq => old q (List.mem_of_mem_take hq)⟩, ⟨⟨58, hsf⟩, ?_, fun q hq => old q (List.mem_of_mem_drop hq)⟩, ?_, ?_, ?_⟩
  · show wf.ownsRow 0 84 2 (.slice (some ⟨g, 0, none⟩) m cap) (ks.take m).length (encK h (ks.take m))
    have hl : (ks.take m).length = m := by rw [List.length_take]; omega
    refine ⟨by unfold encK; rw [pairs_length], .inr ⟨g, cap, row, by rw [hl], Nat.zero_le _, hgf, by omega, hcm, hrs, by rw [hl]; exact hrt⟩⟩
  · show wf.ownsRow 0 84 2 (.slice (some ⟨r, 0, none⟩) (ks.length - m) c1) (ks.drop m).length (encK h (ks.drop m))
    rw [List.length_drop]
    refine ownsRow_same (w := w9) ⟨hr1.1, ?_⟩ fun k hk => ?_
    · rcases hr1.2 with h' | ⟨g', cap', cur', h', _, rest⟩
      · exact Or.inl h'
      · exact Or.inr ⟨g', cap', cur', h', Nat.zero_le _, rest⟩
    · have : r = k := Option.some.inj hk
      rw [← this]; exact hrf
  · refine hS.keeps ?_
    have k1 : Keeps F0 w W2 := (M.keeps.trans (Below.keeps hB []) (by simp)).trans (by rw [hW2]; exact alloc_keeps w9 _ []) (by simp)
    have k2 : Keeps F0 w (W2.setRow g row) := k1.trans (F' := [g]) ⟨rfl, rfl, rfl, by simp [World.setRow], fun k _ hn => setRow_other W2 g k _ (by simpa using hn)⟩ (fun z hz => by simp at hz; subst hz; exact M.mem z (by simp [foot_succ, Value.ownBlock]))
    exact k2.trans (setCell_keeps _ _ _ [b] (by simp)) (fun z hz => by simp at hz; subst hz; exact M.mem z (by simp [foot_succ]))
  · rw [foot_succ, foot_succ]
    rw [hsplit] at hkn
    obtain ⟨k1, k2, k3⟩ := List.nodup_append.1 hkn
    have t1 : ∀ z ∈ kidsFoot h (ks.take m), z ∈ kidsFoot h ks := fun z hz => by rw [hsplit]; exact List.mem_append_left _ hz
    have t2 : ∀ z ∈ kidsFoot h (ks.drop m), z ∈ kidsFoot h ks := fun z hz => by rw [hsplit]; exact List.mem_append_right _ hz
    simp only [Value.ownBlock, Option.toList_some, List.singleton_append]
    refine List.nodup_append.2 ⟨?_, ?_, ?_⟩
    · refine List.nodup_cons.2 ⟨?_, List.nodup_cons.2 ⟨fun hm => hgk (t1 g hm), k1⟩⟩
      simp only [List.mem_cons, not_or]
      exact ⟨hbg, fun hm => hbk (t1 b hm)⟩
    · refine List.nodup_cons.2 ⟨?_, List.nodup_cons.2 ⟨fun hm => by have := hkl r (t2 r hm); omega, k2⟩⟩
      simp only [List.mem_cons, not_or]
      exact ⟨by omega, fun hm => by have := hkl _ (t2 _ hm); omega⟩
    · intro z hz z' hz' e
      subst e
      simp only [List.mem_cons] at hz hz'
      rcases hz with rfl | rfl | hz
      · rcases hz' with h' | h' | h'
        · omega
        · omega
        · exact hbk (t2 z h')
      · rcases hz' with h' | h' | h'
        · omega
        · omega
        · exact hgk (t2 z h')
      · have hzl := hkl z (t1 z hz)
        rcases hz' with h' | h' | h'
        · omega
        · omega
        · exact k3 z hz z h' rfl
  · intro z hz
    simp only [foot_succ, Value.ownBlock, Option.toList_some, List.mem_append, List.mem_cons, List.not_mem_nil, or_false] at hz
    have hin : ∀ z ∈ kidsFoot h ks, z ∈ F0 ∨ w.heap.size ≤ z := fun z hz => M.mem z (by rw [foot_succ]; exact List.mem_cons_of_mem _ (List.mem_append_right _ hz))
    rcases hz with (rfl | rfl | hz) | (rfl | rfl | hz)
    · exact M.mem z (by simp [foot_succ])
    · exact M.mem z (by simp [foot_succ, Value.ownBlock])
    · exact hin z (by rw [hsplit]; exact List.mem_append_left _ hz)
    · right; omega
    · right; omega
    · exact hin z (by rw [hsplit]; exact List.mem_append_right _ hz)

end Go.Proofs.Qxb6616513a
