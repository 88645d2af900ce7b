/- The tables that FnNumberNone's row lists, as the way of a number reads them. -/
import Derived.Test.YtpjfmfaijcbopaaGreatDoorTn
import Derived.Test.YtpjfmfaijcbopaaGreatDoorRows
import Derived.PinnedBridge
import Derived.Lib.LaidU8
namespace Go.Proofs.YtpjfmfaijcbopaaGreatDoor
open Go.RowKit Go.Proofs Go.Lib

theorem open_var {P : Program} {W : World} {name : String} {g : Nat} {t : TypeId} {d : DataW Unit} (hn : P.globalNamed name = some g) (hy : (P.globals[g]?).map (·.type) = some t) (h : VarReads P W name d) :
    ∃ (cs : List Value) (fuel : Nat) (p : List MemPlace), (∀ i, W.cell? ⟨g, i, none⟩ = cs[i]?) ∧ DataW.trod (fun _ => ()) P W 0 (fun _ => true) false fuel t cs = some (d, p) := by
  obtain ⟨g', t', cs, fuel, p, hg, hty, hvar, hd⟩ := h
  obtain rfl := Option.some.inj (hn.symm.trans hg)
  obtain rfl := Option.some.inj (hy.symm.trans hty)
  exact ⟨cs.toList, fuel, p, fun i => by rw [Array.getElem?_toList]; exact World.var?_cell hg hvar i, hd⟩
theorem block_lt {W : World} {b i : Nat} {v : Value} (h : W.cell? ⟨b, i, none⟩ = some v) : b < W.heap.size := by
  rcases Nat.lt_or_ge b W.heap.size with h1 | h1
  · exact h1
  · exfalso
    have h2 : W.heap[b]? = none := Array.getElem?_eq_none h1
    simp [World.cell?, h2] at h
theorem take1 {cs : List Value} {i : Nat} {v : Value} (h : (cs.drop i).take 1 = [v]) : cs[i]? = some v := by
  have := congrArg (·[0]?) h
  simpa [List.getElem?_take, List.getElem?_drop] using this

section
variable {P : Program} {W : World} {fuel : Nat} {t : TypeId} {cs : List Value} {x : DataW Unit × List MemPlace}
theorem trod_float' {k : FloatKind} (ht : P.underlying t = some (.float k)) (h : DataW.trod (fun _ => ()) P W 0 (fun _ => true) false fuel t cs = some x) : ∃ b, cs = [.float k b] := by
  cases fuel with
  | zero => simp [DataW.trod] at h
  | succ n =>
    unfold DataW.trod at h
    rw [ht] at h
    split at h <;> simp_all
theorem trod_iface' {ms : Array (String × TypeId)} (ht : P.underlying t = some (.interface ms)) (h : DataW.trod (fun _ => ()) P W 0 (fun _ => true) false fuel t cs = some x) : ∃ v, cs = [v] ∧ (v = .nilIface ∨ ∃ te pe, v = .iface te pe) := by
  cases fuel with
  | zero => simp [DataW.trod] at h
  | succ n =>
    unfold DataW.trod at h
    rw [ht] at h
    split at h <;> simp_all
theorem trod_array' {n : Nat} {e : TypeId} (ht : P.underlying t = some (.array n e)) (h : DataW.trod (fun _ => ()) P W 0 (fun _ => true) false fuel t cs = some x) :
    ∃ m, ∀ i, i < n → ∃ y, DataW.trod (fun _ => ()) P W 0 (fun _ => true) false m e ((cs.drop (i * P.cellsOf e)).take (P.cellsOf e)) = some y := by
  cases fuel with
  | zero => simp [DataW.trod] at h
  | succ m =>
    simp only [DataW.trod, ht] at h
    split at h
    · obtain ⟨xs, hm, hx⟩ := Option.map_eq_some_iff.1 h
      refine ⟨m, fun i hi => ?_⟩
      obtain ⟨b, hb, hf⟩ := Lib.mapM_at hm i i (by simp [hi])
      exact ⟨b, hf⟩
    · cases h
end
/-- A slice without spare: its head, and its elements, one by one. -/
theorem open_slice {P : Program} {W : World} {name : String} {g : Nat} {t e : TypeId} {ds : List (DataW Unit)} (hn : P.globalNamed name = some g) (hy : (P.globals[g]?).map (·.type) = some t)
    (ht : P.underlying t = some (.slice e)) (h : VarReads P W name (.slice ds [])) (h0 : 0 < ds.length) (hc : 0 < P.cellsOf e) :
    ∃ R o m, W.cell? ⟨g, 0, none⟩ = some (.slice (some ⟨R, o, none⟩) ds.length ds.length) ∧
      ∀ i d, ds[i]? = some d → ∃ ce q, ce.length = P.cellsOf e ∧ (∀ j, j < P.cellsOf e → W.cell? ⟨R, o + i * P.cellsOf e + j, none⟩ = ce[j]?) ∧ DataW.trod (fun _ => ()) P W 0 (fun _ => true) false m e ce = some (d, q) := by
  obtain ⟨cs, fuel, p, hcell, hd⟩ := open_var hn hy h
  rcases DataW.trod_slice ht hd with ⟨_, hx⟩ | ⟨a, len, cap, el, rs, m, rfl, hcs, hx, _, hlc, _, hel, helem, hsp, _⟩
  · cases hx
  have e0 := congrArg Prod.fst hx
  simp only [DataW.slice.injEq] at e0
  obtain ⟨eE, eR⟩ := e0
  have hlen : len = ds.length := by
    have := congrArg List.length eE
    simp at this
    omega
  have hrs : rs = [] := by
    have := congrArg List.length eR
    simp at this
    exact List.length_eq_zero_iff.1 this.symm
  have hcap : cap = len := by
    have := (hsp rfl).1
    rw [hrs] at this
    simp at this
    omega
  have key : ∀ i d, ds[i]? = some d → ∃ ce q, W.cells? 0 (a.add (i * P.cellsOf e)) (P.cellsOf e) = some ce ∧ DataW.trod (fun _ => ()) P W 0 (fun _ => true) false m e ce = some (d, q) := by
    intro i d hi
    have hil : i < ds.length := (List.getElem?_eq_some_iff.1 hi).1
    have h1 := helem i (by omega)
    obtain ⟨y, hy'⟩ : ∃ y, el[i]? = some y := ⟨el[i]'(by omega), List.getElem?_eq_getElem (by omega)⟩
    rw [hy'] at h1
    obtain ⟨ce, hce, hte⟩ := Option.bind_eq_some_iff.1 h1
    have h2 : y.1 = d := by
      have := congrArg (·[i]?) eE
      simp [hy', hi] at this
      exact this.symm
    exact ⟨ce, y.2, hce, by rw [hte, ← h2]⟩
  obtain ⟨R, o, sR⟩ := a
  obtain rfl : sR = none := by
    obtain ⟨ce, q, hce, _⟩ := key 0 (ds[0]) (List.getElem?_eq_getElem h0)
    obtain ⟨_, hl, hcc⟩ := World.cells?_some hce
    have h2 := hcc 0 hc
    rw [List.getElem?_eq_getElem (by omega)] at h2
    have e1 : ((⟨R, o, sR⟩ : Addr).add (0 * P.cellsOf e)).add 0 = ⟨R, o, sR⟩ := by simp [Addr.add]
    rw [e1] at h2
    exact cell_spot h2
  refine ⟨R, o, m, ?_, fun i d hi => ?_⟩
  · rw [hcell 0, hcs, hcap, hlen]
    rfl
  · obtain ⟨ce, q, hce, hte⟩ := key i d hi
    obtain ⟨_, hl, hcc⟩ := World.cells?_some hce
    refine ⟨ce, q, hl, fun j hj => ?_, hte⟩
    have := hcc j hj
    rw [Addr.add_lit, Addr.add_lit] at this
    exact this

/-- internal/strconv.optimize. -/
theorem opt_of {W : World} (h : VarReads Tryz.prog W "internal/strconv.optimize" (.lit (.bool true))) : W.cell? ⟨4, 0, none⟩ = some (.bool true) := by
  obtain ⟨cs, fuel, p, hcell, hd⟩ := open_var (g := 4) (t := 4) (by kernel_rfl) (by kernel_rfl) h
  obtain ⟨b, rfl, hx⟩ := DataW.trod_bool Tryz.underlying4 hd
  simp at hx
  obtain ⟨rfl, -⟩ := hx
  exact hcell 0
theorem field_int {P : Program} {W : World} {fuel : Nat} {t ft : TypeId} {fs : Array Field} {cs : List Value} {ds : List (DataW Unit)} {p : List MemPlace} {k : IntKind} (ht : P.underlying t = some (.struct fs))
    (h : DataW.trod (fun _ => ()) P W 0 (fun _ => true) false fuel t cs = some (.agg ds, p)) (i off : Nat) {f : Field} (hf : fs[i]? = some f) (ho : f.offset = off) (hft : f.type = ft) (hk : P.underlying ft = some (.int k)) (hc : P.cellsOf ft = 1) :
    ∃ z, cs[off]? = some (.int k z) ∧ ds[i]? = some (.lit (.int k z)) ∧ (Lit.int k z).wf = true := by
  obtain ⟨xs, n, rfl, hx, _, hl, hall⟩ := DataW.trod_struct ht h
  have h1 := hall i f hf
  subst ho hft
  rw [hc] at h1
  have hi : i < fs.size := (Array.getElem?_eq_some_iff.1 hf).1
  obtain ⟨y, hy⟩ : ∃ y, xs[i]? = some y := ⟨xs[i]'(by omega), List.getElem?_eq_getElem (by omega)⟩
  rw [hy] at h1
  obtain ⟨z, hz, hb, hw⟩ := DataW.trod_int hk h1
  have e := congrArg Prod.fst hx
  simp only [DataW.agg.injEq] at e
  refine ⟨z, take1 hz, ?_, hw⟩
  rw [e, List.getElem?_map, hy, hb]
  rfl
theorem field_str {P : Program} {W : World} {fuel : Nat} {t ft : TypeId} {fs : Array Field} {cs : List Value} {ds : List (DataW Unit)} {p : List MemPlace} (ht : P.underlying t = some (.struct fs))
    (h : DataW.trod (fun _ => ()) P W 0 (fun _ => true) false fuel t cs = some (.agg ds, p)) (i off : Nat) {f : Field} (hf : fs[i]? = some f) (ho : f.offset = off) (hft : f.type = ft) (hk : P.underlying ft = some .string) (hc : P.cellsOf ft = 1) :
    ∃ s : ByteArray, cs[off]? = some (.string s) ∧ ds[i]? = some (.lit (.string s.data.toList)) := by
  obtain ⟨xs, n, rfl, hx, _, hl, hall⟩ := DataW.trod_struct ht h
  have h1 := hall i f hf
  subst ho hft
  rw [hc] at h1
  have hi : i < fs.size := (Array.getElem?_eq_some_iff.1 hf).1
  obtain ⟨y, hy⟩ : ∃ y, xs[i]? = some y := ⟨xs[i]'(by omega), List.getElem?_eq_getElem (by omega)⟩
  rw [hy] at h1
  obtain ⟨s, hz, hb, hw⟩ := DataW.trod_string hk h1
  have e := congrArg Prod.fst hx
  simp only [DataW.agg.injEq] at e
  refine ⟨s, take1 hz, ?_⟩
  rw [e, List.getElem?_map, hy, hb]
  rfl
theorem lit_inj {k : IntKind} {a b : Int} (h : (some (DataW.lit (.int k a)) : Option (DataW Unit)) = some (.lit (.int k b))) : a = b := by
  simpa using h
/-- internal/strconv.float64info. -/
theorem info_of {W : World} (h : VarReads Tryz.prog W "internal/strconv.float64info" (.agg [.lit (.int .u64 52), .lit (.int .u64 11), .lit (.int .i64 (-1023))])) :
    W.cell? ⟨7, 0, none⟩ = some (.int .u64 52) ∧ W.cell? ⟨7, 1, none⟩ = some (.int .u64 11) ∧ W.cell? ⟨7, 2, none⟩ = some (.int .i64 (-1023)) := by
  obtain ⟨cs, fuel, p, hcell, hd⟩ := open_var (g := 7) (t := 232) (by kernel_rfl) (by kernel_rfl) h
  obtain ⟨z0, h0, d0, -⟩ := field_int Tryz.underlying232 hd 0 0 rfl rfl rfl Tryz.underlying139 (by kernel_rfl)
  obtain ⟨z1, h1, d1, -⟩ := field_int Tryz.underlying232 hd 1 1 rfl rfl rfl Tryz.underlying139 (by kernel_rfl)
  obtain ⟨z2, h2, d2, -⟩ := field_int Tryz.underlying232 hd 2 2 rfl rfl rfl Tryz.underlying3 (by kernel_rfl)
  obtain rfl := lit_inj d0
  obtain rfl := lit_inj d1
  obtain rfl := lit_inj d2
  exact ⟨(hcell 0).trans h0, (hcell 1).trans h1, (hcell 2).trans h2⟩
/-- internal/strconv.pow10Tab. -/
theorem pow_of {W : World} {d : DataW Unit} (h : VarReads Tryz.prog W "internal/strconv.pow10Tab" d) : PowTab W := by
  obtain ⟨cs, fuel, p, hcell, hd⟩ := open_var (g := 12) (t := 277) (by kernel_rfl) (by kernel_rfl) h
  obtain ⟨m, harr⟩ := trod_array' Tryz.underlying277 hd
  have hc2 : Tryz.prog.cellsOf 276 = 2 := by kernel_rfl
  have hc1 : Tryz.prog.cellsOf 36 = 1 := by kernel_rfl
  have hu36 := Tryz.underlying36
  have hu276 := Tryz.underlying276
  have key : ∀ k, k < 1392 → ∃ v : Nat, v < 18446744073709551616 ∧ W.cell? ⟨12, k, none⟩ = some (.int .u64 v) := fun k hk => by
    obtain ⟨y, hy⟩ := harr (k / 2) (by omega)
    rw [hc2] at hy
    obtain ⟨xs, n, rfl, hx, -, -, -⟩ := DataW.trod_struct hu276 hy
    rw [hx] at hy
    have hsz : ∃ z : Int, ((cs.drop (k / 2 * 2)).take 2)[k % 2]? = some (.int .u64 z) ∧ (Lit.int .u64 z).wf = true := by
      rcases Nat.mod_two_eq_zero_or_one k with h0 | h0
      · rw [h0]
        obtain ⟨z, hz, -, hw⟩ := field_int hu276 hy 0 0 rfl rfl rfl hu36 hc1
        exact ⟨z, hz, hw⟩
      · rw [h0]
        obtain ⟨z, hz, -, hw⟩ := field_int hu276 hy 1 1 rfl rfl rfl hu36 hc1
        exact ⟨z, hz, hw⟩
    obtain ⟨z, hz, hw⟩ := hsz
    have hz2 : cs[k]? = some (.int .u64 z) := by
      rw [List.getElem?_take, if_pos (by omega), List.getElem?_drop, show k / 2 * 2 + k % 2 = k by omega] at hz
      exact hz
    have hb : 0 ≤ z ∧ z < 18446744073709551616 := by
      simp [Lit.wf] at hw
      have e1 : IntKind.u64.min = 0 := by decide
      have e2 : IntKind.u64.max = 18446744073709551615 := by decide
      omega
    exact ⟨z.toNat, by omega, by rw [hcell k, hz2, show ((z.toNat : Nat) : Int) = z by omega]⟩
  obtain ⟨v, -, h0⟩ := key 0 (by omega)
  exact ⟨block_lt h0, key⟩
/-- internal/strconv.powtab. -/
theorem tab10_of {W : World} (h : VarReads Tryz.prog W "internal/strconv.powtab" (.slice [.lit (.int .i64 1), .lit (.int .i64 3), .lit (.int .i64 6), .lit (.int .i64 9), .lit (.int .i64 13), .lit (.int .i64 16), .lit (.int .i64 19), .lit (.int .i64 23), .lit (.int .i64 26)] [])) :
    ∃ b10, (∃ o, W.cell? ⟨10, 0, none⟩ = some (.slice (some ⟨b10, o, none⟩) 9 9) ∧ ∀ k, k < 9 → W.cell? ⟨b10, o + k, none⟩ = some (.int .i64 (([1, 3, 6, 9, 13, 16, 19, 23, 26] : List Int).getD k 0))) ∧ b10 < W.heap.size := by
  have hc : Tryz.prog.cellsOf 3 = 1 := by kernel_rfl
  obtain ⟨R, o, m, h1, h2⟩ := open_slice (g := 10) (t := 272) (by kernel_rfl) (by kernel_rfl) Tryz.underlying272 h (by decide) (by rw [hc]; omega)
  have key : ∀ k, k < 9 → W.cell? ⟨R, o + k, none⟩ = some (.int .i64 (([1, 3, 6, 9, 13, 16, 19, 23, 26] : List Int).getD k 0)) := fun k hk => by
    have hd : ([.lit (.int .i64 1), .lit (.int .i64 3), .lit (.int .i64 6), .lit (.int .i64 9), .lit (.int .i64 13), .lit (.int .i64 16), .lit (.int .i64 19), .lit (.int .i64 23), .lit (.int .i64 26)] : List (DataW Unit))[k]? = some (.lit (.int .i64 (([1, 3, 6, 9, 13, 16, 19, 23, 26] : List Int).getD k 0))) := by
      have : k = 0 ∨ k = 1 ∨ k = 2 ∨ k = 3 ∨ k = 4 ∨ k = 5 ∨ k = 6 ∨ k = 7 ∨ k = 8 := by omega
      rcases this with rfl | rfl | rfl | rfl | rfl | rfl | rfl | rfl | rfl <;> rfl
    obtain ⟨ce, q, hl, hcc, ht⟩ := h2 k _ hd
    obtain ⟨z, rfl, hx, -⟩ := DataW.trod_int Tryz.underlying3 ht
    have hz : (([1, 3, 6, 9, 13, 16, 19, 23, 26] : List Int).getD k 0) = z := by simpa using congrArg Prod.fst hx
    have := hcc 0 (by rw [hc]; omega)
    rw [hc, Nat.mul_one, Nat.add_zero] at this
    rw [this, hz]
    rfl
  exact ⟨R, ⟨o, h1, key⟩, block_lt (key 0 (by omega))⟩
/-- internal/strconv.float64pow10. -/
theorem tab11_of {W : World} {ds : List (DataW Unit)} (hl : ds.length = 23) (h : VarReads Tryz.prog W "internal/strconv.float64pow10" (.slice ds [])) :
    ∃ b11, (∃ o, W.cell? ⟨11, 0, none⟩ = some (.slice (some ⟨b11, o, none⟩) 23 23) ∧ ∀ k, k < 23 → ∃ f, W.cell? ⟨b11, o + k, none⟩ = some (.float .f64 f)) ∧ b11 < W.heap.size := by
  have hc : Tryz.prog.cellsOf 37 = 1 := by kernel_rfl
  obtain ⟨R, o, m, h1, h2⟩ := open_slice (g := 11) (t := 273) (by kernel_rfl) (by kernel_rfl) Tryz.underlying273 h (by omega) (by rw [hc]; omega)
  have key : ∀ k, k < 23 → ∃ f, W.cell? ⟨R, o + k, none⟩ = some (.float .f64 f) := fun k hk => by
    obtain ⟨ce, q, _, hcc, ht⟩ := h2 k _ (List.getElem?_eq_getElem (by omega))
    obtain ⟨f, rfl⟩ := trod_float' Tryz.underlying37 ht
    have := hcc 0 (by rw [hc]; omega)
    rw [hc, Nat.mul_one, Nat.add_zero] at this
    exact ⟨f, this⟩
  rw [hl] at h1
  obtain ⟨f, h3⟩ := key 0 (by omega)
  exact ⟨R, ⟨o, h1, key⟩, block_lt h3⟩

/-- Is a row of leftcheats right? -/
def cheatOk (k : Nat) (x : Nat × List UInt8) : Bool :=
  decide (1 ≤ x.1) && decide (x.1 ≤ 20) && ((x.2.map UInt8.toNat).all fun b => decide (48 ≤ b) && decide (b ≤ 57)) && ((List.range x.2.length).all fun j => decide (0 < dval ((x.2.map UInt8.toNat).drop j))) &&
  decide (2 ^ k ≤ 10 ^ x.1) && decide (10 ^ (x.1 - 1) ≤ 2 ^ k) && (dval (x.2.map UInt8.toNat) * 2 ^ k == 10 ^ (x.2.length + x.1 - 1)) && decide (x.2.length ≤ 1000)
theorem cheatOk_all : ((List.range 61).all fun k => k == 0 || cheatOk k (Pinned.cheatRows.getD k (0, []))) = true := by decide +kernel
theorem cheatRows_len : Pinned.cheatRows.length = 61 := by decide +kernel
theorem cheatOk.out {k : Nat} {x : Nat × List UInt8} (h : cheatOk k x = true) : Cheat k x.1 (x.2.map UInt8.toNat) ∧ x.2.length ≤ 1000 := by
  unfold cheatOk at h
  simp only [Bool.and_eq_true, decide_eq_true_eq, beq_iff_eq, List.all_eq_true, List.mem_range] at h
  obtain ⟨⟨⟨⟨⟨⟨⟨h1, h2⟩, h3⟩, h4⟩, h5⟩, h6⟩, h7⟩, h8⟩ := h
  exact ⟨⟨h1, h2, fun b hb => h3 b hb, fun j hj => h4 j (by simpa using hj), h5, h6, by rw [List.length_map]; exact h7⟩, h8⟩
/-- internal/strconv.leftcheats. -/
theorem cheat_of {W : World} (h : VarReads Tryz.prog W "internal/strconv.leftcheats" Pinned.leftcheats) : ∃ bl, CheatTab W bl ∧ bl < W.heap.size ∧ 13 < W.heap.size := by
  have hc : Tryz.prog.cellsOf 282 = 2 := by kernel_rfl
  obtain ⟨R, o, m, h1, h2⟩ := open_slice (g := 13) (t := 283) (by kernel_rfl) (by kernel_rfl) Tryz.underlying283 h (by rw [List.length_map, cheatRows_len]; omega) (by rw [hc]; omega)
  rw [List.length_map, cheatRows_len] at h1
  have key : ∀ k, 1 ≤ k → k ≤ 60 → ∃ (delta : Nat) (c : ByteArray), W.cell? ⟨R, o + k * 2, none⟩ = some (.int .i64 delta) ∧ W.cell? ⟨R, o + k * 2 + 1, none⟩ = some (.string c) ∧ Cheat k delta (bytesN c) ∧ c.size ≤ 1000 := fun k hk1 hk2 => by
    have hkl : k < Pinned.cheatRows.length := by rw [cheatRows_len]; omega
    obtain ⟨ce, q, hl, hcc, ht⟩ := h2 k _ (by rw [List.getElem?_map, List.getElem?_eq_getElem hkl]; rfl)
    obtain ⟨z, a0, b0, -⟩ := field_int Tryz.underlying282 ht 0 0 rfl rfl rfl Tryz.underlying3 (by kernel_rfl)
    obtain ⟨s, a1, b1⟩ := field_str Tryz.underlying282 ht 1 1 rfl rfl rfl Tryz.underlying9 (by kernel_rfl)
    have e0 : ((Pinned.cheatRows[k]).1 : Int) = z := lit_inj b0
    have e1 : (Pinned.cheatRows[k]).2 = s.data.toList := by simpa using b1
    have hok : cheatOk k (Pinned.cheatRows.getD k (0, [])) = true := by
      have := List.all_eq_true.1 cheatOk_all k (by simp; omega)
      simp only [Bool.or_eq_true, beq_iff_eq] at this
      rcases this with h | h
      · omega
      · exact h
    rw [List.getD, List.getElem?_eq_getElem hkl] at hok
    obtain ⟨hC, hL⟩ := cheatOk.out hok
    have c0 := hcc 0 (by rw [hc]; omega)
    have c1 := hcc 1 (by rw [hc]; omega)
    rw [hc] at c0 c1
    refine ⟨(Pinned.cheatRows[k]).1, s, ?_, ?_, ?_, ?_⟩
    · rw [e0, ← a0, ← c0]; rfl
    · rw [← a1, ← c1]
    · have h3 : bytesN s = (Pinned.cheatRows[k]).2.map UInt8.toNat := by unfold bytesN; rw [e1]
      rw [h3]; exact hC
    · have : s.size = (Pinned.cheatRows[k]).2.length := by rw [e1]; simp
      rw [this]; exact hL
  obtain ⟨_, _, h3, _⟩ := key 1 (by omega) (by omega)
  exact ⟨R, ⟨o, h1, key⟩, block_lt h3, block_lt h1⟩
theorem err_of {W : World} {g : Nat} {name : String} {d : DataW Unit} (hn : Tryz.prog.globalNamed name = some g) (hy : (Tryz.prog.globals[g]?).map (·.type) = some 69) (h : VarReads Tryz.prog W name d) :
    ∃ ev, W.cell? ⟨g, 0, none⟩ = some ev ∧ (ev = .nilIface ∨ ∃ te pe, ev = .iface te pe) := by
  obtain ⟨cs, fuel, p, hcell, hd⟩ := open_var hn hy h
  obtain ⟨v, rfl, hv⟩ := trod_iface' Tryz.underlying69 hd
  exact ⟨v, hcell 0, hv⟩
theorem pow10_eq : ∃ ds : List (DataW Unit), (Rows.laid_internal_strconv_float64pow10 : DataW Unit) = .slice ds [] ∧ ds.length = 23 := ⟨_, rfl, rfl⟩
/-- All of them, out of their readings. -/
theorem numtabs_mk {W : World} (h4 : VarReads Tryz.prog W "internal/strconv.optimize" Rows.laid_internal_strconv_optimize) (h7 : VarReads Tryz.prog W "internal/strconv.float64info" Rows.laid_internal_strconv_float64info)
    (h10 : VarReads Tryz.prog W "internal/strconv.powtab" Rows.laid_internal_strconv_powtab) (h11 : VarReads Tryz.prog W "internal/strconv.float64pow10" Rows.laid_internal_strconv_float64pow10)
    (h12 : VarReads Tryz.prog W "internal/strconv.pow10Tab" Rows.laid_internal_strconv_pow10Tab) (h13 : VarReads Tryz.prog W "internal/strconv.leftcheats" Rows.laid_internal_strconv_leftcheats)
    (h2 : VarReads Tryz.prog W "strconv.ErrSyntax" Rows.laid_strconv_ErrSyntax) (h3 : VarReads Tryz.prog W "strconv.ErrRange" Rows.laid_strconv_ErrRange) : ∃ b11 b10 bl, NumTabs W b11 b10 bl := by
  obtain ⟨ds, hds, hl⟩ := pow10_eq
  rw [hds] at h11
  obtain ⟨b11, t11, l11⟩ := tab11_of hl h11
  obtain ⟨b10, t10, l10⟩ := tab10_of h10
  obtain ⟨bl, hC, hbl, h13'⟩ := cheat_of h13
  obtain ⟨i0, i1, i2⟩ := info_of h7
  exact ⟨b11, b10, bl, ⟨pow_of h12, ⟨by omega, l11, l10, hbl⟩, opt_of h4, i0, i1, i2, t11, t10⟩, hC, h13', ⟨by omega, err_of (by kernel_rfl) (by kernel_rfl) h2, err_of (by kernel_rfl) (by kernel_rfl) h3⟩⟩
end Go.Proofs.YtpjfmfaijcbopaaGreatDoor
