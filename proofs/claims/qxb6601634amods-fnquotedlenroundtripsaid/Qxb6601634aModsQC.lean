/-
  WALKS: zzBytes (13), and the law FnQuotedLenRoundTrip (5).
-/
import Derived.Test.Qxb6601634aModsQB
import Derived.Deep.RegionLaw
namespace Go.Proofs.Qxb6601634aMods.quoted
open Go.RowKit Plain

set_option maxHeartbeats 1000000 in
theorem zz13 (ao bo : Option Addr) (n c m d : Nat) (w : World) (hn : n ≤ maxLen) (hm : m ≤ maxLen) :
    Calls Trym.prog 13 #[.slice ao n c, .slice bo m d] w fun e w' => RetB e ∧ w = w' := by
  unfold maxLen at hn hm
  by_cases h : (n : Int) ≤ 1048576
  · by_cases h2 : (m : Int) ≤ 1048576
    · by_cases h3 : (n : Int) + (m : Int) ≤ 1048576
      all_goals
        go_enter Trym.func13, Trym.ntmps13
        go_wp2
        go_ret
        exact ⟨⟨_, rfl⟩, rfl⟩
    · go_enter Trym.func13, Trym.ntmps13
      go_wp2
      go_ret
      exact ⟨⟨_, rfl⟩, rfl⟩
  · go_enter Trym.func13, Trym.ntmps13
    go_wp2
    go_ret
    exact ⟨⟨_, rfl⟩, rfl⟩

set_option maxHeartbeats 400000 in
/-- Too long: true at once. -/
theorem law5_long (ao bo : Option Addr) (n c m d : Nat) (w : World) (hn : n ≤ maxLen) (hm : m ≤ maxLen) (h : ¬ n ≤ 65536 ∨ ¬ m ≤ 65536) :
    Calls Trym.prog 5 #[.slice ao n c, .slice bo m d] w fun e w' => e = .returned (.bool true) ∧ Below w.heap.size w w' := by
  have H := zz13 ao bo n c m d w hn hm
  unfold maxLen at hn hm
  by_cases hi : (n : Int) ≤ 65536
  · have hj : ¬ (m : Int) ≤ 65536 := by omega
    clear h
    go_enter Trym.func5, Trym.ntmps5
    go_wp2_with fail
    refine H.mono ?_
    rintro e w' ⟨⟨r, rfl⟩, rfl⟩
    clear H
    cases r
    all_goals
      go_wp2_with fail
      go_ret
      exact ⟨rfl, Below.refl _ _⟩
  · clear h
    go_enter Trym.func5, Trym.ntmps5
    go_wp2_with fail
    refine H.mono ?_
    rintro e w' ⟨⟨r, rfl⟩, rfl⟩
    clear H
    cases r
    all_goals
      go_wp2_with fail
      go_ret
      exact ⟨rfl, Below.refl _ _⟩

/-- The cells of a block that was laid just now. -/
theorem new_cells (w : World) (vs : List Value) (T : TypeId) : ∀ j v, vs[j]? = some v → (w.alloc (.cells vs.toArray T)).cell? ((⟨w.heap.size, 0, none⟩ : Addr).add j) = some v := by
  intro j v h
  rw [Addr.add_lit, Nat.zero_add, cell_of_row _ w.heap.size j vs.toArray T (0, 0) (heap_alloc_new w _)]
  simpa using h

theorem ints_one (l : List Int) : ∀ v ∈ l.map (Value.int .u8), v.oneCell' = true := ints_oneCell .u8 l

/-- append within the capacity of a row of the call's own, as one step of a region that draws its order. -/
theorem step_append_own {P : Program} {ops : Array Oper} {o : Oper} {a : Act} {w : World} {K : Act → World → Prop} {Q : Exit → Act → World → Prop} {E : Prop}
    (hg : o.guard = none) (s x : Operand) (t : TypeId) (hop : o.op = Op.call { callee := Callee.builtin Builtin.append, args := #[s, x], argTypes := #[t, t] })
    (base : Nat) (e : TypeId) (i : TypeInfo) (size : Nat) (h1 : P.underlying t = some (.slice e)) (h2 : P.info? e = some i) (h4 : i.size = size)
    (g k cap : Nat) (xs : List Value) (hs : a.eval s = .slice (some ⟨g, 0, none⟩) k cap) (hown : w.ownsRow base e size (.slice (some ⟨g, 0, none⟩) k cap) k xs) (ad : Addr) (m c : Nat) (news : List Value) (hx : a.eval x = .slice (some ad) m c) (hn : news.length = m * size)
    (hc : ∀ j u, news[j]? = some u → w.cell? (ad.add j) = some u) (h1c : ∀ u ∈ news, u.oneCell' = true) (b1 : k + m ≤ cap)
    (hK : ∀ w', w'.ownsRow base e size (.slice (some ⟨g, 0, none⟩) (k + m) cap) (k + m) (xs ++ news) → w.grownBy w' (some g) → K (a.put o.dst (.slice (some ⟨g, 0, none⟩) (k + m) cap)) w') :
    if Region.wanted o (yielded ops a.tmps) = true then Oper.wp P o a w K Q else E := by
  have hw : Region.wanted o (yielded ops a.tmps) = true := by simp [Region.wanted, hg]
  rw [if_pos hw]
  obtain ⟨w', hrun, r1, r2⟩ := run_append_fits (P := P) w base t o.type e i size h1 h2 h4 g k cap xs hown ad m c news hn hc h1c b1
  unfold Oper.wp
  simp [execOp, hop, resolve, invoke, builtin, hs, hx, hrun, Result.andThen]
  exact hK w' r1 r2

theorem and15_fin : ∀ x : Fin 32, bits BinOp.and IntKind.u8 ((x.val : Nat) : Int) 15 = ((x.val : Nat) : Int) % 16 := by decide
theorem and15 (c : Int) (h0 : 0 ≤ c) (h : c < 32) : bits BinOp.and IntKind.u8 c 15 = c % 16 := by
  have := and15_fin ⟨c.toNat, by omega⟩
  simpa [Int.toNat_of_nonneg h0] using this

theorem digit_fin : ∀ x : Fin 16, (((#[48, 49, 50, 51, 52, 53, 54, 55, 56, 57, 97, 98, 99, 100, 101, 102] : Array UInt8).getD x.val 0).toNat : Int) = hexd ((x.val : Nat) : Int) := by decide
theorem digit (x : Int) (h0 : 0 ≤ x) (h1 : x < 16) (h : x.toNat < ({ data := #[48, 49, 50, 51, 52, 53, 54, 55, 56, 57, 97, 98, 99, 100, 101, 102] } : ByteArray).size) :
    ((({ data := #[48, 49, 50, 51, 52, 53, 54, 55, 56, 57, 97, 98, 99, 100, 101, 102] } : ByteArray)[x.toNat]'h).toNat : Int) = hexd x := by
  have := digit_fin ⟨x.toNat, by omega⟩
  rw [Int.toNat_of_nonneg h0] at this
  rw [← this]
  congr 2
  show (#[48, 49, 50, 51, 52, 53, 54, 55, 56, 57, 97, 98, 99, 100, 101, 102] : Array UInt8)[x.toNat]'h = _
  have h' : x.toNat < (#[48, 49, 50, 51, 52, 53, 54, 55, 56, 57, 97, 98, 99, 100, 101, 102] : Array UInt8).size := h
  rw [Array.getD_eq_getD_getElem?, Array.getElem?_eq_getElem h']
  rfl

theorem buf_snoc (t : Nat → Int) (k : Nat) (xs e : List Int) (h : xs = buf t k) (he : enc (t k) = e) : xs ++ e = buf t (k + 1) := by
  rw [h, ← he]; rfl
theorem enc_quote (c : Int) (h : c = 34 ∨ c = 92) : enc c = [92, c] := by unfold enc; rw [if_pos h]
theorem enc_ctl (c : Int) (h : ¬ (c = 34 ∨ c = 92)) (h2 : c < 32) : enc c = [92, 117, 48, 48, hexd (c / 16), hexd (c % 16)] := by unfold enc; rw [if_neg h, if_pos h2]
theorem enc_plain (c : Int) (h : ¬ (c = 34 ∨ c = 92)) (h2 : ¬ c < 32) : enc c = [c] := by unfold enc; rw [if_neg h, if_neg h2]

/-- What the loop knows of the buffer. -/
def Buf (w2 : World) (t : Nat → Int) (k l C : Nat) (wr : World) : Prop :=
  ∃ xs : List Int, xs = buf t k ∧ l = xs.length ∧ wr.ownsRow w2.heap.size 5 1 (.slice (some ⟨w2.heap.size, 0, none⟩) l C) l (xs.map (Value.int .u8)) ∧ Below w2.heap.size w2 wr

/-- One append hands it on. -/
theorem Buf.step {w2 : World} {t : Nat → Int} {k l C : Nat} {wr w' : World} {xs : List Int} {o : Obj} {v : List Int}
    (hx : xs = buf t k) (hl : l = xs.length) (hb : Below w2.heap.size w2 wr) (he : enc (t k) = v)
    (hown : w'.ownsRow w2.heap.size 5 1 (.slice (some ⟨w2.heap.size, 0, none⟩) (l + v.length) C) (l + v.length) (xs.map (Value.int .u8) ++ v.map (Value.int .u8)))
    (hg : (wr.alloc o).grownBy w' (some w2.heap.size)) : Buf w2 t (k + 1) (l + v.length) C w' := by
  refine ⟨xs ++ v, buf_snoc t k xs v hx he, by rw [hl, List.length_append], by simpa [List.map_append] using hown, ?_⟩
  exact (hb.alloc hb.size _).grown hg (by simp; have := hb.size; omega) (fun k hk => by cases hk; exact Nat.le_refl _)

theorem undrew {w w' : World} {row : Option Nat} (h : w.drew.grownBy w' row) : w.grownBy w' row := ⟨h.os, h.tape, h.output, h.size, h.block⟩

theorem fin_ql (t : Nat → Int) (n l m : Nat) (xs T : List Int) (hx : xs = buf t n) (hl : l = xs.length) (hT : T.length = m) (h0 : ∀ i, i < n → 0 ≤ t i ∧ t i ≤ 255) :
    ql (fun i => (xs ++ 34 :: T).getD i 0) (l + 1 + m) (l + 1 + m + 1) 1 = l + 1 := by
  subst hx
  have := roundTrip t n (fun i hi => (h0 i hi).1) T
  have e : (buf t n ++ 34 :: T).length = l + 1 + m := by simp [hT]; omega
  rw [e] at this
  rw [this, hl]

theorem fin_cells {w6 : World} {G l m C : Nat} {xs T : List Int} (hl : l = xs.length) (hT : T.length = m)
    (h : w6.ownsRow G 5 1 (.slice (some ⟨G, 0, none⟩) (l + 1 + m) C) (l + 1 + m) (xs.map (Value.int .u8) ++ Value.int .u8 34 :: T.map (Value.int .u8))) :
    ∀ i, i < l + 1 + m → w6.cell? ⟨G, i, none⟩ = some (.int .u8 ((fun i => (xs ++ 34 :: T).getD i 0) i)) := by
  intro i hi
  rw [h.cellAt i (by omega)]
  have e : xs.map (Value.int .u8) ++ Value.int .u8 34 :: T.map (Value.int .u8) = (xs ++ 34 :: T).map (Value.int .u8) := by simp
  have hlen : i < (xs ++ 34 :: T).length := by simp; omega
  rw [e, List.getElem?_map, List.getElem?_eq_getElem hlen]
  simp [List.getD_eq_getElem?_getD, List.getElem?_eq_getElem hlen]

set_option maxHeartbeats 2000000 in
theorem law5_in (t u : Nat → Int) (ao bo : Option Addr) (n c m d : Nat) (w : World) (hn : n ≤ 65536) (hm : m ≤ 65536) (ht : ∀ i, i < n → 0 ≤ t i ∧ t i ≤ 255)
    (HC : Calls Trym.prog 8 #[.slice ao n c] w fun e w' => Cl w n t e w')
    (HD : ∀ w1, Below w.heap.size w w1 → Calls Trym.prog 8 #[.slice bo m d] w1 fun e w' => Cl w1 m u e w') :
    Calls Trym.prog 5 #[.slice ao n c, .slice bo m d] w fun e w' => e = .returned (.bool true) ∧ Below w.heap.size w w' := by
  have H := zz13 ao bo n c m d w (by unfold maxLen; omega) (by unfold maxLen; omega)
  have HT : Hid (∀ i, i < n → 0 ≤ t i ∧ t i ≤ 255) := ht
  have HDD : Hid (∀ w1, Below w.heap.size w w1 → Calls Trym.prog 8 #[.slice bo m d] w1 fun e w' => Cl w1 m u e w') := HD
  obtain ⟨i0, hi, hz0, hz1, hz2⟩ := info_parts info5
  clear ht HD
  go_enter Trym.func5, Trym.ntmps5
  go_wp2_with fail
  refine H.mono ?_
  rintro e w' ⟨⟨r', rfl⟩, rfl⟩
  clear H
  cases r'
  · go_wp2_with fail
    go_ret
    exact ⟨rfl, Below.refl _ _⟩
  go_wp2_with fail
  refine HC.mono ?_
  clear HC
  rintro e w1 ⟨a1, rfl, ha, hbel, hcell⟩
  have HA : Hid (0 < n → a1 = some ⟨w.heap.size, 0, none⟩ ∧ w.heap.size < w1.heap.size) := fun h => by
    rcases ha with ⟨_, h0⟩ | h1
    · omega
    · exact h1
  have HC1 : Hid (∀ i, i < n → w1.cell? ⟨w.heap.size, i, none⟩ = some (.int .u8 (t i))) := hcell
  clear hcell ha
  go_wp2_with fail
  refine (HDD.out w1 hbel).mono ?_
  rintro e w2 ⟨a2, rfl, hb, hbel2, hcell2⟩
  have HC2 : Hid (∀ i, i < n → w2.cell? ⟨w.heap.size, i, none⟩ = some (.int .u8 (t i)) ∧ w.heap.size < w2.heap.size) := fun i hi =>
    ⟨(hbel2.cell (HA.out (by omega)).2).trans (HC1.out i hi), Nat.lt_of_lt_of_le (HA.out (by omega)).2 hbel2.size⟩
  have HB : Hid (a2 = none ∧ m = 0 ∨ a2 = some ⟨w1.heap.size, 0, none⟩ ∧ w1.heap.size < w2.heap.size) := hb
  have HD2 : Hid (∀ i, i < m → w2.cell? ⟨w1.heap.size, i, none⟩ = some (.int .u8 (u i))) := hcell2
  have hbw : Below w.heap.size w w2 := hbel.trans (hbel2.mono hbel.size)
  have HA2 : Hid (0 < n → a1 = some ⟨w.heap.size, 0, none⟩) := fun h => (HA.out h).1
  clear HC1 hbel hbel2 hcell2 hb HDD HA
  obtain ⟨C, hC⟩ : ∃ C : Nat, C = 6 * n + 2 + m := ⟨_, rfl⟩
  have hCb : C ≤ 1048576 := by omega
  have HCC : Hid (C = 6 * n + 2 + m) := hC
  have hCi : (6 : Int) * (n : Int) + 2 + (m : Int) = (C : Int) := by omega
  clear hC
  go_wp2_with (at_make; refine wpList_make_own _ rfl _ _ 22 rfl w2.heap.size 5 i0 (.int .u8 0) 1 Trym.underlying22 hi hz0 hz1 _ _ _ C rfl rfl (by omega) ?b2 ?b3 (Nat.le_refl _) ?_)
  case b2 => rw [hz2]; omega
  case b3 => unfold maxLen; omega
  intro w3 hown3 hgrow3
  have hb3 : Below w2.heap.size w2 w3 := (Below.refl _ _).grown hgrow3 (Nat.le_refl _) (fun k h => by cases h)
  clear hgrow3
  go_wp2_with (at_builtin; refine wpList_append_fits _ rfl (.tmp 31) (.tmp 32) 22 rfl w2.heap.size 5 i0 1 Trym.underlying22 hi hz1 w2.heap.size 0 C _ rfl (hown3.alloc _) ⟨w3.heap.size, 0, none⟩ 1 1 ([34].map (Value.int .u8)) rfl rfl (new_cells w3 _ 5) (ints_one _) (by omega) ?_)
  intro w4 hown4 hgrow4
  have hb4 : Below w2.heap.size w2 w4 := (hb3.alloc hb3.size _).grown hgrow4 (by simp; have := hb3.size; omega) (fun k hk => by cases hk; exact Nat.le_refl _)
  clear hgrow4 hb3 hown3
  go_wp2_with fail
  go_loopw [5, 6, 7] (fun v i _ wr => ∃ (k l : Nat), k ≤ n ∧ l ≤ 6 * k + 1 ∧ i = .int .i64 k ∧ v = .slice (some ⟨w2.heap.size, 0, none⟩) l C ∧ Buf w2 t k l C wr)
    (fun _ i _ _ => n - (intOf i).toNat)
  case atStart => exact ⟨0, 1, Nat.zero_le _, by omega, rfl, rfl, [34], rfl, rfl, hown4, hb4⟩
  case round =>
    obtain ⟨k, l, hk, hl6, rfl, rfl, xs, hxs, hlx, hown, hbr⟩ := hrel
    clear hown4 hb4
    have HXS : Hid (xs = buf t k) := hxs
    have HLX : Hid (l = xs.length) := hlx
    have hroom : l + 6 ≤ C ∨ n ≤ k := by have := HCC.out; omega
    clear hxs hlx
    by_cases hlt : k < n
    · obtain rfl := HA2.out (by omega)
      have hroom6 : l + 6 ≤ C := by omega
      clear hroom
      obtain ⟨hck, hsz⟩ := HC2.out k hlt
      have hcr : wr.cell? ⟨w.heap.size, k, none⟩ = some (.int .u8 (t k)) := (hbr.cell (by exact hsz)).trans hck
      have htk := HT.out k hlt
      clear hck
      obtain ⟨cv, hcv⟩ : ∃ cv, cv = t k := ⟨_, rfl⟩
      rw [← hcv] at hcr htk
      have HCV : Hid (cv = t k) := hcv
      clear hcv
      by_cases hq : cv = 34 ∨ cv = 92
      · have HEN : Hid (enc (t k) = [92, cv]) := by rw [← HCV.out]; exact enc_quote cv hq
        rcases hq with rfl | rfl
        all_goals
          go_wp2_with (at_builtin; refine wpList_append_fits _ rfl (.tmp 50) (.tmp 52) 22 rfl w2.heap.size 5 i0 1 Trym.underlying22 hi hz1 w2.heap.size l C _ rfl (hown.alloc _) ⟨wr.heap.size, 0, none⟩ 2 2 ([92, _].map (Value.int .u8)) rfl rfl (new_cells wr _ 5) (ints_one _) (by omega) ?_)
          intro w5 hown5 hgrow5
          have R := Buf.step HXS.out HLX.out hbr HEN.out hown5 hgrow5
          clear hown5 hgrow5 hown hbr hcr
          go_wp2_with fail
          go_roundw
          case rel => exact ⟨k + 1, l + 2, by omega, by omega, by go_num, rfl, R⟩
          case measure => simp [intOf]; omega
      · have q1 : (cv == 34) = false := by simp; omega
        have q2 : (cv == 92) = false := by simp; omega
        by_cases h32 : cv < 32
        · have HEN : Hid (enc (t k) = [92, 117, 48, 48, hexd (cv / 16), hexd (cv % 16)]) := by rw [← HCV.out]; exact enc_ctl cv hq h32
          clear hq
          have d1 : 0 ≤ cv / 16 := by omega
          have d2 : cv / 16 < 16 := by omega
          have d3 : 0 ≤ cv % 16 := by omega
          have d4 : cv % 16 < 16 := by omega
          have d5 := and15 cv htk.1 h32
          have d6 := digit (cv / 16) d1 d2
          have d7 := digit (cv % 16) d3 d4
          go_wp2_with fail
          go_region_law (refine step_append_own rfl (.tmp 56) (.tmp 63) 22 rfl w2.heap.size 5 i0 1 Trym.underlying22 hi hz1 w2.heap.size l C _ rfl (hown.alloc _).drew ⟨wr.heap.size, 0, none⟩ 6 6 ([92, 117, 48, 48, hexd (cv / 16), hexd (cv % 16)].map (Value.int .u8)) rfl rfl (new_cells wr _ 5) (ints_one _) hroom6 ?_; intro w5 hown5 hgrow5)
          all_goals
            have R := Buf.step HXS.out HLX.out hbr HEN.out hown5 (undrew hgrow5)
            clear hown5 hgrow5 hown hbr hcr
            go_wp2_with fail
            go_roundw
            case rel => exact ⟨k + 1, l + 6, by omega, by omega, by go_num, rfl, R⟩
            case measure => simp [intOf]; omega
        · have HEN : Hid (enc (t k) = [cv]) := by rw [← HCV.out]; exact enc_plain cv hq h32
          clear hq
          go_wp2_with (at_builtin; refine wpList_append_fits _ rfl (.tmp 65) (.tmp 67) 22 rfl w2.heap.size 5 i0 1 Trym.underlying22 hi hz1 w2.heap.size l C _ rfl (hown.alloc _) ⟨wr.heap.size, 0, none⟩ 1 1 ([cv].map (Value.int .u8)) rfl rfl (new_cells wr _ 5) (ints_one _) (by omega) ?_)
          intro w5 hown5 hgrow5
          have R := Buf.step HXS.out HLX.out hbr HEN.out hown5 hgrow5
          clear hown5 hgrow5 hown hbr hcr
          go_wp2_with fail
          go_roundw
          case rel => exact ⟨k + 1, l + 1, by omega, by omega, by go_num, rfl, R⟩
          case measure => simp [intOf]; omega
    · obtain rfl : k = n := by omega
      have hroom0 : l + 1 + m ≤ C := by have := HCC.out; omega
      clear hroom
      have hcl : l < C := by omega
      obtain ⟨T, hT⟩ : ∃ T : List Int, T = (List.range m).map u := ⟨_, rfl⟩
      have hTl : T.length = m := by rw [hT]; simp
      have HTT : Hid (T = (List.range m).map u) := hT
      clear hT
      go_wp2_with (at_builtin; refine wpList_append_fits _ rfl (.tmp 69) (.tmp 70) 22 rfl w2.heap.size 5 i0 1 Trym.underlying22 hi hz1 w2.heap.size l C _ rfl (hown.alloc _) ⟨wr.heap.size, 0, none⟩ 1 1 ([34].map (Value.int .u8)) rfl rfl (new_cells wr _ 5) (ints_one _) (by omega) ?_)
      intro w5 hown5 hgrow5
      have hb5 : Below w2.heap.size w2 w5 := (hbr.alloc hbr.size _).grown hgrow5 (by simp; have := hbr.size; omega) (fun k hk => by cases hk; exact Nat.le_refl _)
      have HM : Hid (∀ ad, a2 = some ad → ∀ j v, (T.map (Value.int .u8))[j]? = some v → w5.cell? (ad.add j) = some v) := by
        intro ad had j v hv
        have hj : j < m := by
          have := (List.getElem?_eq_some_iff.1 hv).1
          simpa [hTl] using this
        rcases HB.out with ⟨h1, _⟩ | ⟨h1, h2⟩
        · rw [h1] at had; cases had
        · rw [h1] at had
          obtain rfl := Option.some.inj had
          rw [Addr.add_lit, Nat.zero_add, (hb5.cell (by exact h2)), HD2.out j hj]
          rw [HTT.out] at hv
          simp [hj] at hv
          rw [hv]
      clear hgrow5 hown hbr
      go_wp2_with (at_builtin; refine wpList_append_fits_any _ rfl (.tmp 74) (.tmp 75) 22 rfl w2.heap.size 5 i0 1 Trym.underlying22 hi hz1 w2.heap.size (l + 1) C _ rfl hown5 a2 m m (T.map (Value.int .u8)) rfl (by simp [hTl]) (fun h => by rcases HB.out with ⟨_, h0⟩ | ⟨h1, _⟩; exact ⟨h0, h0⟩; rw [h1] at h; cases h) HM.out (ints_one _) (by omega) ?_)
      intro w6 hown6 hgrow6
      have hb6 : Below w.heap.size w w6 := hbw.trans ((hb5.grown hgrow6 hb5.size (fun k hk => by cases hk; exact Nat.le_refl _)).mono hbw.size)
      have HF := fin_cells HLX.out hTl hown6
      have HQ := ql_any (fun i => (xs ++ 34 :: T).getD i 0) (some ⟨w2.heap.size, 0, none⟩) w2.heap.size (l + 1 + m) C w6 (by omega) (fun _ => rfl) HF
      rw [fin_ql t k l m xs T HXS.out HLX.out hTl HT.out] at HQ
      clear HF hown6 hgrow6 hown5 hb5
      go_wp2_with fail
      refine HQ.mono ?_
      rintro e w7 ⟨rfl, rfl⟩
      clear HQ
      go_wp2_with fail
      go_ret
      exact ⟨ret_bool (by simp), hb6⟩

end Go.Proofs.Qxb6601634aMods.quoted
