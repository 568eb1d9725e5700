/-
  The walks of impl.NumberAgain and of all that it calls, where no option is set: a number is put behind another text as it stands, for texts of at most 1000 bytes.
-/
import Derived.Test.YtankdghamcbcbaaGreatDoorCnr
import Derived.Lib.AtoiErrMem
namespace Go.Proofs.YtankdghamcbcbaaGreatDoor.Own
open Go.RowKit Go.Proofs.YtankdghamcbcbaaGreatDoorW.PrintWords Go.Proofs.YtankdghamcbcbaaGreatDoorW.PrintLast Go.Proofs.YtankdghamcbcbaaGreatDoorW.PrintMore JN
theorem expo_le {xs : List Int} {q r : Nat} (h : expo (xs.drop q) = some r) (hq : q ≤ xs.length) : q + r ≤ xs.length := by
  rcases expo_at h with ⟨_, rfl⟩ | ⟨_, _, s, _, hz, rfl⟩
  · omega
  · have h1 := (digs_some hz).1
    have := digs_bound xs (q + 1 + s) (by omega)
    omega
theorem frac_le {xs : List Int} {q r : Nat} (h : frac (xs.drop q) = some r) (hq : q ≤ xs.length) : q + r ≤ xs.length := by
  rcases frac_at h with ⟨_, h⟩ | ⟨h1, _, hz, r', h', rfl⟩
  · exact expo_le h hq
  · have := digs_bound xs (q + 1) (by omega)
    have := expo_le h' (by omega)
    omega
theorem whole_le {xs : List Int} {q r : Nat} (h : whole (xs.drop q) = some r) : q + r ≤ xs.length := by
  obtain ⟨h1, h⟩ := whole_at h
  rcases h with ⟨_, r', h', rfl⟩ | ⟨_, _, r', h', rfl⟩
  · have := frac_le h' (by omega)
    omega
  · have := digs_bound xs (q + 1) (by omega)
    have := frac_le h' (by omega)
    omega
theorem num_le {xs : List Int} {r : Nat} (h : num xs = some r) : r ≤ xs.length := by
  obtain ⟨_, p, r', _, h', rfl⟩ := num_at h
  have := whole_le h'
  omega
set_option maxHeartbeats 800000 in
theorem cn_ok (ad : Addr) (n c m : Nat) (xs : List Int) (w : World) (hx : xs.length = n) (hm : n ≤ 140737488351232)
    (hc : ∀ i : Nat, i < n → w.cell? (ad.add i) = some (.int .u8 (rd xs i))) (hnum : num xs = some m) :
    Calls Tryz.prog 9 #[.slice (some ad) n c] w fun e w' => e = .returned (.tuple #[.int .i64 m, .nilIface]) ∧ w = w' := by
  have C := Lib.hid (cnr_ok ad n c m xs w hx hm hc hnum)
  clear hx hc hnum
  go_enter Tryz.func9, Tryz.ntmps9
  go_wp2_with (go_at_call 15; refine C.out.mono ?_; rintro e w' ⟨st, rfl, rfl⟩)
  go_ret2
  exact ⟨rfl, rfl⟩
theorem get0 (p : Int) (w : World) : Calls Tryz.prog 10 #[.agg #[.int .u64 p, .int .u64 0], .int .u64 192] w fun e w' => e = .returned (.bool false) ∧ Below w.heap.size w w' := by
  have e : bits BinOp.and IntKind.u64 0 192 = 0 := by kernel_rfl
  go_enter Tryz.func10, Tryz.ntmps10
  go_wp2
  go_ret
  refine ⟨?_, (Below.refl _ _).alloc (Nat.le_refl _) _⟩
  rfl
theorem u8info : (Tryz.prog.info? 5).map (fun i => (i.zero, i.size, i.bytes)) = some (some (.int .u8 0), 1, 1) := by kernel_rfl
theorem below_setCells {B b : Nat} {a : World} (hb : B ≤ b) : ∀ (vs : List Value) (o : Nat) {w : World}, Below B a w → Below B a (w.setCells b o vs)
  | [], _, _, h => h
  | _ :: r, _, _, h => below_setCells hb r _ (h.setCell hb _)
set_option maxHeartbeats 1600000 in
set_option maxRecDepth 100000 in
theorem reform_kept (b nd capd : Nat) (ys : List Int) (ad : Addr) (n c m g : Nat) (p : Int) (xs : List Int) (w : World) (B : Nat)
    (hy : ys.length = nd) (hyc : ∀ j : Nat, j < nd → w.cell? ⟨b, j, none⟩ = some (.int .u8 (rd ys j)))
    (hsp : ∀ j, nd ≤ j → j < capd → (w.cell? ⟨b, j, none⟩).isSome = true ∧ w.frozen? ⟨b, j, none⟩ = false)
    (hx : xs.length = n) (hcap : n ≤ c) (hm : n ≤ 1000) (hnd : nd ≤ 1000)
    (hc : ∀ i : Nat, i < n → w.cell? (ad.add i) = some (.int .u8 (rd xs i))) (hnum : num xs = some m)
    (hg0 : w.cell? ⟨g, 0, none⟩ = some (.int .u64 p)) (hg1 : w.cell? ⟨g, 1, none⟩ = some (.int .u64 0))
    (hB : B ≤ b) (hBw : B ≤ w.heap.size) :
    Calls Tryz.prog 7 #[.slice (some ⟨b, 0, none⟩) nd capd, .slice (some ad) n c, .pointer (some ⟨g, 0, none⟩)] w
      fun e w' => ∃ A c', e = .returned (.tuple #[.slice A (nd + m) c', .int .i64 m, .nilIface]) ∧ ReadsInt w' .u8 A (nd + m) (ys ++ xs.take m) ∧ Below B w w' := by
  have hmn : m ≤ n := by have := num_le hnum; omega
  have C := Lib.hid (cn_ok ad n c m xs w hx (by omega) hc hnum)
  have HY := Lib.hid (And.intro hy hyc)
  have HS := Lib.hid hsp
  have HC := Lib.hid (And.intro hx hc)
  clear hy hyc hsp hx hc hnum
  go_enter Tryz.func7, Tryz.ntmps7
  go_wp2_with (first | (go_at_call 9; refine C.out.mono ?_; rintro e w' ⟨rfl, rfl⟩))
  refine (get0 _ _).mono ?_
  rintro e w1 ⟨rfl, hb⟩
  obtain ⟨i0, hi0, hz0, hz1, hz2⟩ := info_parts u8info
  have hmc : m ≤ c := by omega
  have hl1 : (nums .u8 ys).length = nd * 1 := by rw [nums_length, HY.out.1]; omega
  have hl2 : (nums .u8 (xs.take m)).length = m * 1 := by rw [nums_length, List.length_take, HC.out.1]; omega
  have ho1 : ∀ (j : Nat) (u : Value), (nums .u8 ys)[j]? = some u → w1.cell? ⟨b, 0 + j, none⟩ = some u := by
    intro j u hu
    have hj : j < nd := by rw [← HY.out.1]; have := (List.getElem?_eq_some_iff.1 hu).1; simpa [nums] using this
    have := pw_cell_below hb (HY.out.2 j hj)
    rw [Nat.zero_add, this, ← hu]
    simp [nums, rd, HY.out.1, hj]
  have ho2 : ∀ (j : Nat) (u : Value), (nums .u8 (xs.take m))[j]? = some u → w1.cell? (ad.add j) = some u := by
    intro j u hu
    have hj : j < m := by have := (List.getElem?_eq_some_iff.1 hu).1; rw [hl2] at this; omega
    have := pw_cell_below hb (HC.out.2 j (by omega))
    have hjx : j < xs.length := by rw [HC.out.1]; omega
    rw [this, ← hu]
    simp [nums, rd, hj, hjx]
  have ho3 : ∀ u ∈ nums .u8 (xs.take m), u.oneCell' = true := by
    intro u hu
    simp only [nums, List.mem_map] at hu
    obtain ⟨x, _, rfl⟩ := hu
    rfl
  have ho4 : nd + m ≤ capd → ∀ j, j < (nums .u8 (xs.take m)).length → (w1.cell? ⟨b, 0 + nd * 1 + j, none⟩).isSome = true ∧ w1.frozen? ⟨b, 0 + nd * 1 + j, none⟩ = false := by
    intro hr j hj
    rw [hl2] at hj
    obtain ⟨h1, h2⟩ := HS.out (nd + j) (by omega) (by omega)
    have e : 0 + nd * 1 + j = nd + j := by omega
    rw [e]
    obtain ⟨v, hv⟩ := Option.isSome_iff_exists.1 h1
    have hlt := World.block_lt_of_cell? w _ hv
    exact ⟨by rw [pw_cell_below hb hv]; rfl, by rw [hb.frozen (p := ⟨b, nd + j, none⟩) hlt]; exact h2⟩
  have OO := Lib.hid (And.intro hl1 (And.intro hl2 (And.intro ho1 (And.intro ho2 (And.intro ho3 ho4)))))
  clear hl1 hl2 ho1 ho2 ho3 ho4
  go_wp2_with (at_builtin; refine wpList_append_arg _ rfl _ _ 30 rfl 5 i0 (.int .u8 0) 1 1 Tryz.underlying30 hi0 hz0 hz1 hz2 rfl (by decide) b 0 nd capd (nums .u8 ys) rfl OO.out.1 OO.out.2.2.1 ad m c (nums .u8 (xs.take m)) rfl OO.out.2.1 OO.out.2.2.2.1 OO.out.2.2.2.2.1 OO.out.2.2.2.2.2 (by simp only [maxLen]; omega) (by omega) ?room ?grow)
  case room =>
    intro hr
    go_wp2_with fail
    go_ret3
    obtain ⟨hl1, hl2, ho1, ho2, ho3, ho4⟩ := OO.out
    refine ⟨_, _, rfl, ⟨by rw [List.length_append, List.length_take, HY.out.1, HC.out.1]; omega, by omega, fun _ => ⟨_, rfl, fun j hj => ?_⟩⟩, below_setCells hB _ _ (hb.mono hBw)⟩
    rw [add_plain]
    rcases Nat.lt_or_ge j nd with h | h
    · rw [World.cell?_setCells_out _ _ _ _ _ (fun _ _ => .inl (by simp; omega))]
      have h1 := pw_cell_below hb (HY.out.2 j h)
      rw [h1]
      have hjl : j < ys.length := by rw [HY.out.1]; exact h
      simp [rd, List.getD, List.getElem?_append, hjl]
    · have h2 := World.cell?_setCells_in b (nums .u8 (xs.take m)) (0 + nd * 1) w1 (fun k hk => (ho4 hr k hk).1) (j - nd) (by rw [hl2]; omega)
      rw [show 0 + nd * 1 + (j - nd) = j from by omega, show 0 + nd * 1 = nd from by omega] at h2
      rw [h2]
      have hyl := HY.out.1
      have hjx : j - nd < xs.length := by rw [HC.out.1]; omega
      have hjm : j - nd < m := by omega
      have hn : ¬ j < nd := by omega
      simp [nums, List.getD, List.getElem?_append, hn, hyl, hjx, hjm]
  case grow =>
    intro hr v' w2 hown hgr
    go_wp2_with fail
    go_ret3
    rw [← nums_append] at hown
    obtain ⟨A, c', rfl, hrd⟩ := own_reads hown
    exact ⟨A, c', rfl, hrd, (hb.mono hBw).grown hgr (by have := hb.size; omega) (fun k hk => by cases hk)⟩
theorem flag0 (a : Addr) (x : Int) (w : World) : Calls Tryz.prog 14 #[.pointer (some a), .int .i64 0, .int .u64 x] w fun e w' => e = .returned (.tuple #[]) ∧ w = w' := by
  go_enter Tryz.func14, Tryz.ntmps14
  go_wp2
  go_end0
  exact ⟨rfl, rfl⟩
def NoOptions : Value := .agg #[.int .i64 0, .int .i64 0, .int .i64 0, .int .i64 0, .int .i64 0, .int .i64 0, .int .i64 0, .int .i64 0, .int .i64 0, .int .i64 0, .int .i64 0, .bool false, .string ⟨#[]⟩, .bool false, .string ⟨#[]⟩]
theorem flags0 (w : World) : Calls Tryz.prog 8 #[.agg #[.int .i64 0, .int .i64 0, .int .i64 0, .int .i64 0, .int .i64 0, .int .i64 0, .int .i64 0, .int .i64 0, .int .i64 0, .int .i64 0, .int .i64 0, .bool false, .string ⟨#[]⟩, .bool false, .string ⟨#[]⟩]] w
    fun e w' => ∃ g, e = .returned (.pointer (some ⟨g, 0, none⟩)) ∧ w'.cell? ⟨g, 0, none⟩ = some (.int .u64 0) ∧ w'.cell? ⟨g, 1, none⟩ = some (.int .u64 0) ∧ Below w.heap.size w w' := by
  go_enter Tryz.func8, Tryz.ntmps8
  go_wp2_with (go_at_call 14; refine (flag0 _ _ _).mono ?_; rintro e w' ⟨rfl, rfl⟩)
  go_ret
  obtain ⟨O1, hO1⟩ : ∃ O1, O1 = Obj.cells #[Value.int IntKind.i64 0, Value.int IntKind.i64 0, Value.int IntKind.i64 0, Value.int IntKind.i64 0, Value.int IntKind.i64 0, Value.int IntKind.i64 0, Value.int IntKind.i64 0, Value.int IntKind.i64 0, Value.int IntKind.i64 0, Value.int IntKind.i64 0, Value.int IntKind.i64 0, Value.bool false, Value.string { data := #[] }, Value.bool false, Value.string { data := #[] }] 27 := ⟨_, rfl⟩
  rw [← hO1]
  have hb := ((Below.refl w.heap.size w).alloc (Nat.le_refl _) O1).alloc (by simp) (Obj.cells #[Value.int IntKind.u64 0, Value.int IntKind.u64 0] 48)
  have e := heap_alloc_new (w.alloc O1) (Obj.cells #[Value.int IntKind.u64 0, Value.int IntKind.u64 0] 48)
  rw [show (w.alloc O1).heap.size = w.heap.size + 1 from by simp] at e
  exact ⟨_, rfl, (blk_cell e 0).trans rfl, (blk_cell e 1).trans rfl, hb⟩
theorem str_back (a b : ByteArray) : strOfNums (bytesOf a ++ (bytesOf b).take b.size) = a ++ b := by
  rw [List.take_of_length_le (by rw [bytesOf_length]; exact Nat.le_refl _)]
  unfold strOfNums bytesOf
  rw [← List.map_append]
  apply ByteArray.ext
  apply Array.toList_inj.1
  simp [Function.comp_def]
theorem conv_size (W : World) (e : TypeId) (s : ByteArray) : (Lib.bytesCells W e s).size = grownCap W s.size 0 e := by
  have := grownCap_ge W s.size 0 e
  have h2 : s.data.size = s.size := rfl
  simp [Lib.bytesCells, h2]
  omega
theorem conv_spare (W : World) (e : TypeId) (s : ByteArray) (j : Nat) (hj : j < grownCap W s.size 0 e) :
    ((Lib.bytesWorld W e s).cell? ⟨W.heap.size, j, none⟩).isSome = true ∧ (Lib.bytesWorld W e s).frozen? ⟨W.heap.size, j, none⟩ = false := by
  have h := Lib.bytesWorld_at_new W e s
  have hz := conv_size W e s
  constructor
  · have : (Lib.bytesWorld W e s).cell? ⟨W.heap.size, j, none⟩ = (Lib.bytesCells W e s)[j]? := by simp [World.cell?, h]
    rw [this, Array.getElem?_eq_getElem (by omega)]
    rfl
  · simp [World.frozen?, h]
    omega
theorem conv_cell (W : World) (e : TypeId) (s : ByteArray) (j : Nat) (hj : j < s.size) : (Lib.bytesWorld W e s).cell? ⟨W.heap.size, j, none⟩ = some (.int .u8 (rd (bytesOf s) j)) := by
  rw [Lib.bytesWorld_cell W e s j hj]
  have h2 : s.data[j]? = some s.data[j] := Array.getElem?_eq_getElem hj
  simp [rd, bytesOf, List.getD, h2]
set_option maxHeartbeats 1600000 in
set_option maxRecDepth 100000 in
theorem again_kept (dst text : ByteArray) (w : World) (h1 : dst.size ≤ 1000) (h2 : text.size ≤ 1000) (hnum : num (bytesOf text) = some text.size) :
    Calls Tryz.prog 6 #[.string dst, .string text, .agg #[.int .i64 0, .int .i64 0, .int .i64 0, .int .i64 0, .int .i64 0, .int .i64 0, .int .i64 0, .int .i64 0, .int .i64 0, .int .i64 0, .int .i64 0, .bool false, .string ⟨#[]⟩, .bool false, .string ⟨#[]⟩]] w
      fun e w' => e = .returned (.tuple #[.string (dst ++ text), .int .i64 text.size, .bool true]) ∧ Below w.heap.size w w' := by
  have HN := Lib.hid hnum
  clear hnum
  have e0 := heap_alloc_new w (Obj.cells #[Value.int IntKind.i64 0, Value.int IntKind.i64 0, Value.int IntKind.i64 0, Value.int IntKind.i64 0, Value.int IntKind.i64 0, Value.int IntKind.i64 0, Value.int IntKind.i64 0, Value.int IntKind.i64 0, Value.int IntKind.i64 0, Value.int IntKind.i64 0, Value.int IntKind.i64 0, Value.bool false, Value.string { data := #[] }, Value.bool false, Value.string { data := #[] }] 27)
  have k1 := print_bytes (P := Tryz.prog) 9 30 5 Tryz.underlying9 Tryz.underlying30 Tryz.underlying5 dst (w.alloc (Obj.cells #[Value.int IntKind.i64 0, Value.int IntKind.i64 0, Value.int IntKind.i64 0, Value.int IntKind.i64 0, Value.int IntKind.i64 0, Value.int IntKind.i64 0, Value.int IntKind.i64 0, Value.int IntKind.i64 0, Value.int IntKind.i64 0, Value.int IntKind.i64 0, Value.int IntKind.i64 0, Value.bool false, Value.string { data := #[] }, Value.bool false, Value.string { data := #[] }] 27))
  have E0 := Lib.hid e0
  clear e0
  go_enter Tryz.func6, Tryz.ntmps6
  go_wp2_with fail
  clear k1
  have e0 := E0.out
  have hs0 : (w.alloc (Obj.cells #[Value.int IntKind.i64 0, Value.int IntKind.i64 0, Value.int IntKind.i64 0, Value.int IntKind.i64 0, Value.int IntKind.i64 0, Value.int IntKind.i64 0, Value.int IntKind.i64 0, Value.int IntKind.i64 0, Value.int IntKind.i64 0, Value.int IntKind.i64 0, Value.int IntKind.i64 0, Value.bool false, Value.string { data := #[] }, Value.bool false, Value.string { data := #[] }] 27)).heap.size = w.heap.size + 1 := by simp
  have hb0 := (Below.refl w.heap.size w).alloc (Nat.le_refl _) (Obj.cells #[Value.int IntKind.i64 0, Value.int IntKind.i64 0, Value.int IntKind.i64 0, Value.int IntKind.i64 0, Value.int IntKind.i64 0, Value.int IntKind.i64 0, Value.int IntKind.i64 0, Value.int IntKind.i64 0, Value.int IntKind.i64 0, Value.int IntKind.i64 0, Value.int IntKind.i64 0, Value.bool false, Value.string { data := #[] }, Value.bool false, Value.string { data := #[] }] 27)
  have hb1 := Lib.bytesWorld_below (w.alloc (Obj.cells #[Value.int IntKind.i64 0, Value.int IntKind.i64 0, Value.int IntKind.i64 0, Value.int IntKind.i64 0, Value.int IntKind.i64 0, Value.int IntKind.i64 0, Value.int IntKind.i64 0, Value.int IntKind.i64 0, Value.int IntKind.i64 0, Value.int IntKind.i64 0, Value.int IntKind.i64 0, Value.bool false, Value.string { data := #[] }, Value.bool false, Value.string { data := #[] }] 27)) 5 dst
  obtain ⟨W0, hW0⟩ : ∃ W0, W0 = w.alloc (Obj.cells #[Value.int IntKind.i64 0, Value.int IntKind.i64 0, Value.int IntKind.i64 0, Value.int IntKind.i64 0, Value.int IntKind.i64 0, Value.int IntKind.i64 0, Value.int IntKind.i64 0, Value.int IntKind.i64 0, Value.int IntKind.i64 0, Value.int IntKind.i64 0, Value.int IntKind.i64 0, Value.bool false, Value.string { data := #[] }, Value.bool false, Value.string { data := #[] }] 27) := ⟨_, rfl⟩
  rw [← hW0] at e0 hs0 hb0 hb1 ⊢
  have dc : ∀ j : Nat, j < dst.size → (Lib.bytesWorld W0 5 dst).cell? ⟨w.heap.size + 1, j, none⟩ = some (.int .u8 (rd (bytesOf dst) j)) := fun j hj => by rw [← hs0]; exact conv_cell W0 5 dst j hj
  have ds : ∀ j, dst.size ≤ j → j < grownCap W0 dst.size 0 5 → ((Lib.bytesWorld W0 5 dst).cell? ⟨w.heap.size + 1, j, none⟩).isSome = true ∧ (Lib.bytesWorld W0 5 dst).frozen? ⟨w.heap.size + 1, j, none⟩ = false := fun j _ hj => by rw [← hs0]; exact conv_spare W0 5 dst j hj
  have hs1 := Lib.bytesWorld_size W0 5 dst
  obtain ⟨capd, hcapd⟩ : ∃ capd, capd = grownCap W0 dst.size 0 5 := ⟨_, rfl⟩
  obtain ⟨W1, hW1⟩ : ∃ W1, W1 = Lib.bytesWorld W0 5 dst := ⟨_, rfl⟩
  rw [← hW1] at hs1 dc ds hb1 ⊢
  rw [← hcapd] at ds ⊢
  have hs1' : W1.heap.size = w.heap.size + 2 := by omega
  have k2 := print_bytes (P := Tryz.prog) 9 30 5 Tryz.underlying9 Tryz.underlying30 Tryz.underlying5 text W1
  have D := Lib.hid (And.intro dc ds)
  have HS := Lib.hid (And.intro hs0 (And.intro hs1' (And.intro hb0 (And.intro hb1 e0))))
  clear dc ds hs0 hs1 hs1' hb0 hb1 e0 hW1 hcapd hW0
  rw [k2]
  clear k2
  obtain ⟨hs0, hs1, hb0, hb1, e0⟩ := HS.out
  have tc : ∀ j : Nat, j < text.size → (Lib.bytesWorld W1 5 text).cell? ⟨W1.heap.size, j, none⟩ = some (.int .u8 (rd (bytesOf text) j)) := fun j hj => conv_cell W1 5 text j hj
  have hb2 := Lib.bytesWorld_below W1 5 text
  have hs2 := Lib.bytesWorld_size W1 5 text
  have hcap := grownCap_ge W1 text.size 0 5
  obtain ⟨capt, hcapt⟩ : ∃ capt, capt = grownCap W1 text.size 0 5 := ⟨_, rfl⟩
  obtain ⟨W2, hW2⟩ : ∃ W2, W2 = Lib.bytesWorld W1 5 text := ⟨_, rfl⟩
  rw [← hW2] at tc hb2 hs2 ⊢
  rw [← hcapt] at hcap ⊢
  have c0 : W2.cell? ⟨w.heap.size, 0, none⟩ = some (Value.int IntKind.i64 0) := pw_cell_below hb2 (pw_cell_below hb1 ((blk_cell e0 0).trans rfl))
  have c1 : W2.cell? ⟨w.heap.size, 1, none⟩ = some (Value.int IntKind.i64 0) := pw_cell_below hb2 (pw_cell_below hb1 ((blk_cell e0 1).trans rfl))
  have c2 : W2.cell? ⟨w.heap.size, 2, none⟩ = some (Value.int IntKind.i64 0) := pw_cell_below hb2 (pw_cell_below hb1 ((blk_cell e0 2).trans rfl))
  have c3 : W2.cell? ⟨w.heap.size, 3, none⟩ = some (Value.int IntKind.i64 0) := pw_cell_below hb2 (pw_cell_below hb1 ((blk_cell e0 3).trans rfl))
  have c4 : W2.cell? ⟨w.heap.size, 4, none⟩ = some (Value.int IntKind.i64 0) := pw_cell_below hb2 (pw_cell_below hb1 ((blk_cell e0 4).trans rfl))
  have c5 : W2.cell? ⟨w.heap.size, 5, none⟩ = some (Value.int IntKind.i64 0) := pw_cell_below hb2 (pw_cell_below hb1 ((blk_cell e0 5).trans rfl))
  have c6 : W2.cell? ⟨w.heap.size, 6, none⟩ = some (Value.int IntKind.i64 0) := pw_cell_below hb2 (pw_cell_below hb1 ((blk_cell e0 6).trans rfl))
  have c7 : W2.cell? ⟨w.heap.size, 7, none⟩ = some (Value.int IntKind.i64 0) := pw_cell_below hb2 (pw_cell_below hb1 ((blk_cell e0 7).trans rfl))
  have c8 : W2.cell? ⟨w.heap.size, 8, none⟩ = some (Value.int IntKind.i64 0) := pw_cell_below hb2 (pw_cell_below hb1 ((blk_cell e0 8).trans rfl))
  have c9 : W2.cell? ⟨w.heap.size, 9, none⟩ = some (Value.int IntKind.i64 0) := pw_cell_below hb2 (pw_cell_below hb1 ((blk_cell e0 9).trans rfl))
  have c10 : W2.cell? ⟨w.heap.size, 10, none⟩ = some (Value.int IntKind.i64 0) := pw_cell_below hb2 (pw_cell_below hb1 ((blk_cell e0 10).trans rfl))
  have c11 : W2.cell? ⟨w.heap.size, 11, none⟩ = some (Value.bool false) := pw_cell_below hb2 (pw_cell_below hb1 ((blk_cell e0 11).trans rfl))
  have c12 : W2.cell? ⟨w.heap.size, 12, none⟩ = some (Value.string { data := #[] }) := pw_cell_below hb2 (pw_cell_below hb1 ((blk_cell e0 12).trans rfl))
  have c13 : W2.cell? ⟨w.heap.size, 13, none⟩ = some (Value.bool false) := pw_cell_below hb2 (pw_cell_below hb1 ((blk_cell e0 13).trans rfl))
  have c14 : W2.cell? ⟨w.heap.size, 14, none⟩ = some (Value.string { data := #[] }) := pw_cell_below hb2 (pw_cell_below hb1 ((blk_cell e0 14).trans rfl))
  have T := Lib.hid (And.intro tc (And.intro hb2 (And.intro hs2 hcap)))
  clear tc hb2 hs2 hcap hs0 hs1 hb0 hb1 e0 hW2 hcapt
  go_wp2_with fail
  refine (flags0 _).mono ?_
  rintro e W3 ⟨g, rfl, hg0, hg1, hb3⟩
  have F := Lib.hid (And.intro hg0 (And.intro hg1 hb3))
  clear hg0 hg1 hb3
  go_wp2_with fail
  have hR := reform_kept (w.heap.size + 1) dst.size capd (bytesOf dst) ⟨W1.heap.size, 0, none⟩ text.size capt text.size g 0 (bytesOf text) W3 w.heap.size (bytesOf_length dst)
    (fun j hj => pw_cell_below F.out.2.2 (pw_cell_below T.out.2.1 (D.out.1 j hj)))
    (fun j h1 h2 => by
      obtain ⟨h3, h4⟩ := D.out.2 j h1 h2
      obtain ⟨v, hv⟩ := Option.isSome_iff_exists.1 h3
      have hlt := World.block_lt_of_cell? W1 _ hv
      have e1 := pw_cell_below T.out.2.1 hv
      have hlt2 := World.block_lt_of_cell? W2 _ e1
      exact ⟨by rw [pw_cell_below F.out.2.2 e1]; rfl, by rw [F.out.2.2.frozen (p := ⟨w.heap.size + 1, j, none⟩) hlt2, T.out.2.1.frozen (p := ⟨w.heap.size + 1, j, none⟩) hlt]; exact h4⟩)
    (bytesOf_length text) T.out.2.2.2 h2 h1 (fun i hi => by rw [add_plain]; exact pw_cell_below F.out.2.2 (T.out.1 i hi)) HN.out F.out.1 F.out.2.1 (by omega)
    (by have := HS.out.2.1; have := T.out.2.2.1; have := F.out.2.2.size; omega)
  have R := Lib.hid hR
  clear hR
  refine R.out.mono ?_
  rintro e W4 ⟨A, c', rfl, hrd, hb4⟩
  clear c0 c1 c2 c3 c4 c5 c6 c7 c8 c9 c10 c11 c12 c13 c14
  go_wp2_with fail
  have hst : ∀ k, (convert 30 9 (.slice A (dst.size + text.size) c')).run Tryz.prog (W4.drewN k) = .ok (.string (dst ++ text)) (W4.drewN k) := fun k => by
    have h := string_of_reads (P := Tryz.prog) (src := 30) (dst := 9) (e := 5) (c := c') Tryz.underlying30 Tryz.underlying5 Tryz.underlying9 (w := W4.drewN k) hrd
    rw [str_back] at h
    exact h
  have hst0 := hst 0
  have HB := Lib.hid hb4
  clear hb4 hrd
  go_quiet (fail)
  go_wp2_with fail
  go_ret3
  refine ⟨rfl, ?_⟩
  obtain ⟨hs0, hs1, hb0, hb1, _⟩ := HS.out
  obtain ⟨_, hb2, hs2, _⟩ := T.out
  have hb3 := F.out.2.2
  have h4 := HB.out
  exact pw_below_drewN (((((hb0.trans (hb1.mono (by omega))).trans (hb2.mono (by omega))).trans (hb3.mono (by omega)))).trans h4) _
def Truth (w : World) (e : Ending) (w' : World) : Prop := e = .returned (.bool true) ∧ Below w.heap.size w w'
end Go.Proofs.YtankdghamcbcbaaGreatDoor.Own
