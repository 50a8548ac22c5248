/-
  The law's own helpers: zzFindModule, zzHexUpper, zzModuleName, zzMaskedSame, zzLevelIndex; the two doors of the package.
-/
import Derived.Test.Qxb6609499aFmtModule
import Derived.Laws.BytesArg
import Derived.Laws.BitsAllLaws
namespace Go.Proofs.Qxb6609499aFmt
open Go.RowKit Go.Extern.Stop Go.Stop Go.Extern

set_option maxRecDepth 100000 in
set_option maxHeartbeats 1000000 in
theorem find_any (a : Option Addr) (n c : Nat) (ms : Nat → ModV) (svns : Nat → Nat → Int) (nm : ByteArray) (w : World) (hi : IdsAt w a n ms svns) :
    Calls Tryf.prog 11 #[.slice a n c, .string nm] w fun e w' => ∃ r : Int, e = .returned (.int .i64 r) ∧ FirstIx (fun i => ((ms i).id.toList == nm.toList) = true) n r ∧ w = w' := by
  have hn := hi.1
  have HI := hid hi
  clear hi
  go_enter Tryf.func11, Tryf.ntmps11
  go_wp2
  go_loopw [5] (fun i wr => ∃ k : Nat, k ≤ n ∧ i = .int .i64 k ∧ (∀ q, q < k → ¬ ((ms q).id.toList == nm.toList) = true) ∧ w = wr) (fun i _ => n - (intOf i).toNat)
  case atStart => exact ⟨0, Nat.zero_le _, rfl, fun q hq => by omega, rfl⟩
  case round =>
    obtain ⟨k, hk, rfl, hno, rfl⟩ := hrel
    have HN := hid hno
    clear hno
    by_cases hkn : k < n
    · obtain ⟨b, off, rfl, hlt, hok, hr, _⟩ := HI.out.2 k hkn
      have hid0 := ModV.id_at hr
      go_wp2
      · go_ret
        exact ⟨_, rfl, .inl ⟨k, rfl, hkn, by assumption, HN.out⟩, rfl⟩
      · have hf : ((ms k).id.toList == nm.toList) = false := by assumption
        go_roundw
        case rel =>
          refine ⟨k + 1, by omega, by go_num, fun q hq => ?_, trivial⟩
          by_cases hqk : q = k
          · subst hqk; rw [hf]; simp
          · exact HN.out q (by omega)
        case measure => simp [intOf]; omega
    · go_wp2
      go_ret
      exact ⟨_, rfl, .inr ⟨rfl, fun q hq => HN.out q (by omega)⟩, rfl⟩

theorem hex_any (d : Int) (h0 : 0 ≤ d) (h1 : d ≤ 15) (w : World) : Calls Tryf.prog 20 #[.int .u8 d] w fun e w' => e = .returned (.int .u8 (hexUp d.toNat).toNat) ∧ w = w' := by
  have hd : d = 0 ∨ d = 1 ∨ d = 2 ∨ d = 3 ∨ d = 4 ∨ d = 5 ∨ d = 6 ∨ d = 7 ∨ d = 8 ∨ d = 9 ∨ d = 10 ∨ d = 11 ∨ d = 12 ∨ d = 13 ∨ d = 14 ∨ d = 15 := by omega
  rcases hd with rfl | rfl | rfl | rfl | rfl | rfl | rfl | rfl | rfl | rfl | rfl | rfl | rfl | rfl | rfl | rfl
  all_goals
    go_enter Tryf.func20, Tryf.ntmps20
    go_wp2
    go_ret
    exact ⟨rfl, rfl⟩

set_option maxRecDepth 100000 in
theorem name_any (x : Int) (h0 : 0 ≤ x) (h1 : x ≤ 255) (w : World) : Calls Tryf.prog 12 #[.int .u8 x] w fun e w' => ∃ nm : ByteArray, nm.data.toList = tdxName x ∧ e = .returned (.string nm) ∧ Below w.heap.size w w' := by
  go_enter Tryf.func12, Tryf.ntmps12
  go_wp2_with fail
  refine (hex_any (x / 16) (by omega) (by omega) w).mono ?_
  rintro e w1 ⟨rfl, rfl⟩
  go_wp2_with fail
  refine (hex_any (x % 16) (by omega) (by omega) w).mono ?_
  rintro e w1 ⟨rfl, rfl⟩
  have hu1 : UInt8.ofNat (((hexUp (x / 16).toNat).toNat : Int)).toNat = hexUp (x.toNat / 16) := by
    rw [show (x / 16).toNat = x.toNat / 16 by omega]; simp
  have hu2 : UInt8.ofNat (((hexUp (x % 16).toNat).toNat : Int)).toNat = hexUp (x.toNat % 16) := by
    rw [show (x % 16).toNat = x.toNat % 16 by omega]; simp
  generalize ((hexUp (x / 16).toNat).toNat : Int) = u1 at hu1 ⊢
  generalize ((hexUp (x % 16).toNat).toNat : Int) = u2 at hu2 ⊢
  have hcv := run_convert_bytes_arg (w.alloc (.cells #[.int .u8 84, .int .u8 68, .int .u8 88, .int .u8 95, .int .u8 u1, .int .u8 u2] 5)) 84 5 Tryf.underlying84 Tryf.underlying5 w.heap.size 0 6 6 [84, 68, 88, 95, u1, u2] rfl
    (fun i hi => by
      rw [World.cell?_alloc_at _ _ _ _ rfl, Nat.zero_add]
      match i, hi with
      | 0, _ => rfl
      | 1, _ => rfl
      | 2, _ => rfl
      | 3, _ => rfl
      | 4, _ => rfl
      | 5, _ => rfl) 9 Tryf.underlying9
  have hst : (strOfNums [84, 68, 88, 95, u1, u2]).data.toList = tdxName x := by
    rw [strOfNums_data]; simp only [List.map_cons, List.map_nil, hu1, hu2, tdxName]; rfl
  generalize strOfNums [84, 68, 88, 95, u1, u2] = nm at hcv hst
  have HST := hid hst
  clear hst hu1 hu2
  go_wp2
  go_ret
  exact ⟨nm, HST.out, rfl, (Below.refl _ _).alloc (Nat.le_refl _) _⟩
theorem nat_mask (a b m z : Nat) : (z ||| ((a ^^^ b) &&& m)) = 0 ↔ (z = 0 ∧ a &&& m = b &&& m) := by
  rw [Nat.or_eq_zero_iff, Nat.and_xor_distrib_right]
  have hx : ∀ p q : Nat, p ^^^ q = 0 ↔ p = q := fun p q => by
    constructor
    · intro h
      have h' := congrArg (· ^^^ q) h
      simpa [Nat.xor_assoc] using h'
    · rintro rfl; simp
  rw [hx]
theorem bits_mask (x y m z : Int) (hx : 0 ≤ x ∧ x ≤ 255) (hy : 0 ≤ y ∧ y ≤ 255) (hm : 0 ≤ m ∧ m ≤ 255) (hz : 0 ≤ z ∧ z ≤ 255) :
    (0 ≤ bits .or .u8 z (bits .and .u8 (bits .xor .u8 x y) m) ∧ bits .or .u8 z (bits .and .u8 (bits .xor .u8 x y) m) ≤ 255) ∧
    (bits .or .u8 z (bits .and .u8 (bits .xor .u8 x y) m) = 0 ↔ (z = 0 ∧ bits .and .u8 x m = bits .and .u8 y m)) := by
  obtain ⟨a, rfl⟩ := Int.eq_ofNat_of_zero_le hx.1
  obtain ⟨b, rfl⟩ := Int.eq_ofNat_of_zero_le hy.1
  obtain ⟨c, rfl⟩ := Int.eq_ofNat_of_zero_le hm.1
  obtain ⟨d, rfl⟩ := Int.eq_ofNat_of_zero_le hz.1
  have h1 : a ^^^ b < 256 := Nat.xor_lt_two_pow (n := 8) (by omega) (by omega)
  have h2 : (a ^^^ b) &&& c < 256 := Nat.and_lt_two_pow (n := 8) _ (by omega)
  have h3 : d ||| ((a ^^^ b) &&& c) < 256 := Nat.or_lt_two_pow (n := 8) (by omega) h2
  rw [u8_xor_nat a b (by omega) (by omega), u8_and_nat _ c h1 (by omega), u8_or_nat d _ (by omega) h2, u8_and_nat a c (by omega) (by omega), u8_and_nat b c (by omega) (by omega)]
  refine ⟨by omega, ?_⟩
  have := nat_mask a b c d
  constructor
  · intro h
    have h' := this.1 (by exact_mod_cast h)
    exact ⟨by exact_mod_cast h'.1, by exact_mod_cast h'.2⟩
  · rintro ⟨h4, h5⟩
    exact_mod_cast this.2 ⟨by exact_mod_cast h4, by exact_mod_cast h5⟩
theorem Byt.get {zs : List Int} {n : Nat} (h : Byt zs n) (k : Nat) (hk : k < n) : 0 ≤ zs.getD k 0 ∧ zs.getD k 0 ≤ 255 := by
  have hk' : k < zs.length := by rw [h.1]; exact hk
  have := h.2 zs[k] (List.getElem_mem hk')
  simpa [List.getD, List.getElem?_eq_getElem hk'] using this
set_option maxRecDepth 100000 in
set_option maxHeartbeats 1000000 in
theorem same_any (za zb zm : List Int) (w : World) (ha : Byt za 8) (hb : Byt zb 8) (hm : Byt zm 8) :
    Calls Tryf.prog 13 #[.agg (B8 za).toArray, .agg (B8 zb).toArray, .agg (B8 zm).toArray] w fun e w' => e = .returned (.bool (meq za zb zm 8)) ∧ Below w.heap.size w w' := by
  have la : ∀ k, k < 8 → (B8 za).toArray[k]? = some (.int .u8 (za.getD k 0)) := fun k hk => by simpa using B8_get za k (by rw [ha.1]; exact hk)
  have lb : ∀ k, k < 8 → (B8 zb).toArray[k]? = some (.int .u8 (zb.getD k 0)) := fun k hk => by simpa using B8_get zb k (by rw [hb.1]; exact hk)
  have lm : ∀ k, k < 8 → (B8 zm).toArray[k]? = some (.int .u8 (zm.getD k 0)) := fun k hk => by simpa using B8_get zm k (by rw [hm.1]; exact hk)
  have LA := hid la
  have LB := hid lb
  have LM := hid lm
  clear la lb lm
  generalize (B8 za).toArray = A at LA ⊢
  generalize (B8 zb).toArray = B at LB ⊢
  generalize (B8 zm).toArray = C at LM ⊢
  obtain ⟨W0, hW0⟩ : ∃ W0, W0 = ((w.alloc (.cells A 24)).alloc (.cells B 24)).alloc (.cells C 24) := ⟨_, rfl⟩
  have bW : Below w.heap.size w W0 := by rw [hW0]; exact (((Below.refl _ _).alloc (Nat.le_refl _) _).alloc (by simp) _).alloc (by simp; omega) _
  have CA : Hid (∀ k, k < 8 → W0.cell? ⟨w.heap.size, k, none⟩ = some (.int .u8 (za.getD k 0))) := fun k hk => by
    rw [hW0, World.cell?_alloc_past _ _ _ (by simp; omega), World.cell?_alloc_past _ _ _ (by simp), World.cell?_alloc_at _ _ _ _ rfl]; exact LA.out k hk
  have CB : Hid (∀ k, k < 8 → W0.cell? ⟨w.heap.size + 1, k, none⟩ = some (.int .u8 (zb.getD k 0))) := fun k hk => by
    rw [hW0, World.cell?_alloc_past _ _ _ (by simp), World.cell?_alloc_at _ _ _ _ (by simp)]; exact LB.out k hk
  have CM : Hid (∀ k, k < 8 → W0.cell? ⟨w.heap.size + 1 + 1, k, none⟩ = some (.int .u8 (zm.getD k 0))) := fun k hk => by
    rw [hW0, World.cell?_alloc_at _ _ _ _ (by simp)]; exact LM.out k hk
  go_enter Tryf.func13, Tryf.ntmps13
  go_wp2
  rw [← hW0]
  clear hW0
  go_loopw [7, 8] (fun s i wr => ∃ (k : Nat) (z : Int), k ≤ 8 ∧ i = .int .i64 k ∧ s = .int .u8 z ∧ (0 ≤ z ∧ z ≤ 255) ∧ (z = 0 ↔ meq za zb zm k = true) ∧ ∃ n, wr = W0.drewN n) (fun _ i _ => 8 - (intOf i).toNat)
  case atStart => exact ⟨0, 0, Nat.zero_le _, rfl, rfl, by omega, by simp [meq], 0, rfl⟩
  case round =>
    obtain ⟨k, z, hk, rfl, rfl, hz, hq, nn, rfl⟩ := hrel
    have HQ := hid hq
    clear hq
    by_cases hlt : k < 8
    · have a1 := CA.out k hlt
      have a2 := CB.out k hlt
      have a3 := CM.out k hlt
      have j1 : (k : Int) < 8 := by omega
      have HM : Hid (meq za zb zm (k + 1) = (meq za zb zm k && (bits .and .u8 (za.getD k 0) (zm.getD k 0) == bits .and .u8 (zb.getD k 0) (zm.getD k 0)))) := rfl
      have HB := hid (bits_mask (za.getD k 0) (zb.getD k 0) (zm.getD k 0) z (ha.get k hlt) (hb.get k hlt) (hm.get k hlt) hz)
      generalize za.getD k 0 = x at a1 HM HB
      generalize zb.getD k 0 = y at a2 HM HB
      generalize zm.getD k 0 = q at a3 HM HB
      go_wp2
      go_quiet (fail)
      go_wp2
      go_roundw
      case rel =>
        refine ⟨k + 1, _, by omega, by go_num, rfl, HB.out.1, ?_, nn + nq, by first | rfl | rw [World.drewN_drewN]⟩
        rw [HB.out.2, HM.out, HQ.out]; simp
      case measure => simp [intOf]; omega
    · have hke : k = 8 := by omega
      subst hke
      go_wp2
      go_ret
      refine ⟨?_, below_drewN bW nn⟩
      show Ending.returned (Value.bool (z == 0)) = _
      congr 2
      rw [Bool.eq_iff_iff, ← HQ.out]; simp
set_option maxRecDepth 100000 in
theorem at_any (M o g ln lc k : Nat) (w : World) (hc : w.cell? ⟨M, o + 65, none⟩ = some (.slice (some ⟨g, 0, none⟩) ln lc)) (hk : k < ln) :
    Calls Tryf.prog 21 #[.pointer (some ⟨M, o, none⟩), .int .i64 k] w fun e w' => e = .returned (.pointer (some ⟨g, k * 3 + 1, none⟩)) ∧ w = w' := by
  have j0 : ¬ ((k : Int) < 0) := by omega
  have j1 : (k : Int) < (ln : Int) := by omega
  go_enter Tryf.func21, Tryf.ntmps21
  go_wp2
  go_ret
  exact ⟨rfl, rfl⟩
theorem Tryf.und44 : ∃ t j, Tryf.prog.underlying 44 = some (.pointer t) ∧ Tryf.prog.info? t = some j ∧ j.size = 2 := by
  have h : (Tryf.prog.info? 74).map (·.size) = some 2 := by kernel_rfl
  cases hq : Tryf.prog.info? 74 with
  | none => rw [hq] at h; cases h
  | some j => rw [hq] at h; exact ⟨74, j, Tryf.underlying44, hq, by simpa using h⟩
theorem eql44 (g o1 o2 : Nat) (w : World) : (binOp .eql 44 (.pointer (some ⟨g, o1, none⟩)) (.pointer (some ⟨g, o2, none⟩))).run Tryf.prog w = .ok (.bool (decide (o1 = o2))) w := by
  obtain ⟨t, j, hp, hte, hsz⟩ := Tryf.und44
  have h : ∀ d : Nat, (Op.equalIn (d + 1) 44 (.pointer (some ⟨g, o1, none⟩)) (.pointer (some ⟨g, o2, none⟩))).run Tryf.prog w = .ok (decide (o1 = o2)) w := fun d => by
    simp [Op.equalIn, run_underlying hp, sizeOf, typeInfo, hte, hsz, sameAddr]
    by_cases e : o1 = o2 <;> simp [e]
  simp only [binOp]
  simp [Op.equal, Op.maxDepth, h 9999]
set_option maxRecDepth 100000 in
set_option maxHeartbeats 1000000 in
theorem levelIndex_any (M o g ln lc j : Nat) (w : World) (hc : w.cell? ⟨M, o + 65, none⟩ = some (.slice (some ⟨g, 0, none⟩) ln lc)) (hj : j < ln) (hl : ln ≤ 9223372036854775806) :
    Calls Tryf.prog 14 #[.pointer (some ⟨M, o, none⟩), .int .i64 ln, .pointer (some ⟨g, j * 3 + 1, none⟩)] w fun e w' => e = .returned (.int .i64 j) ∧ w = w' := by
  have HC := hid hc
  clear hc
  go_enter Tryf.func14, Tryf.ntmps14
  go_wp2
  go_loopw [7] (fun i wr => ∃ k : Nat, k ≤ j ∧ i = .int .i64 k ∧ w = wr) (fun i _ => ln - (intOf i).toNat)
  case atStart => exact ⟨0, Nat.zero_le _, rfl, rfl⟩
  case round =>
    obtain ⟨k, hk, rfl, rfl⟩ := hrel
    have j1 : (k : Int) < (ln : Int) := by omega
    have EQ := eql44 g (k * 3 + 1) (j * 3 + 1) w
    by_cases hkj : k = j
    · subst hkj
      have hd : decide (k * 3 + 1 = k * 3 + 1) = true := by simp
      rw [hd] at EQ
      have HEQ := hid EQ
      clear hd EQ
      go_wp2_with fail
      refine (at_any M o g ln lc k w HC.out hj).mono ?_
      rintro e w1 ⟨rfl, rfl⟩
      go_wp2_with (simp only [HEQ.out])
      go_ret
      exact ⟨rfl, rfl⟩
    · have hd : decide (k * 3 + 1 = j * 3 + 1) = false := by simp; omega
      rw [hd] at EQ
      have HEQ := hid EQ
      clear hd EQ
      go_wp2_with fail
      refine (at_any M o g ln lc k w HC.out (by omega)).mono ?_
      rintro e w1 ⟨rfl, rfl⟩
      go_wp2_with (simp only [HEQ.out])
      go_roundw
      case rel => exact ⟨k + 1, by omega, by go_num, trivial⟩
      case measure => simp [intOf]; omega
set_option maxRecDepth 100000 in
set_option maxHeartbeats 4000000 in
theorem zzlevel_any (F : Interp) (T R M n c : Nat) (base : ModV) (ms : Nat → ModV) (gs : Nat → Nat) (svns : Nat → Nat → Int) (svn sig att : List Int) (w : World) (hF : F.told.answers w.tape)
    (hbo : base.ok) (hsv : Byt svn 16) (hsg : Byt sig 48) (hat : Byt att 8) (hn : n ≤ 9223372036854775806)
    (rT : w.rangeAt T 16 base.cells) (rI : w.cell? ⟨T, 82, none⟩ = some (.slice (some ⟨M, 0, none⟩) n c)) (rR : w.rangeAt R 0 (B8 svn)) (rS : w.rangeAt R 64 (B8 sig)) (rA : w.rangeAt R 112 (B8 att)) (hT : T < w.heap.size) (hR : R < w.heap.size) (hM : M < w.heap.size)
    (hms : ModsAt w M n ms gs svns) :
    Calls Tryf.prog 9 #[.pointer (some ⟨T, 0, none⟩), .pointer (some ⟨R, 0, none⟩)] w fun e w' => MlRes base n ms gs svns (svn.getD 0 0) (svn.getD 1 0) sig att e ∧ Below w.heap.size w w' := by
  have C := hid (moduleLevel_any F T R M n c base ms gs svns svn sig att w hF hbo hsv hsg hat hn rT rI rR rS rA hT hR hM hms)
  clear hF hbo hsv hsg hat hn rT rI rR rS rA hT hR hM hms
  generalize svn.getD 0 0 = x0 at C ⊢
  generalize svn.getD 1 0 = x1 at C ⊢
  go_enter Tryf.func9, Tryf.ntmps9
  go_wp2_with fail
  refine C.out.mono ?_
  rintro e w1 ⟨h | h | h, hb⟩
  · obtain ⟨m, g, sv, h1, h2, h3, h4, rfl⟩ := h
    have H := hid (And.intro h1 (And.intro h2 (And.intro h3 h4)))
    clear h1 h2 h3 h4 C
    go_wp2
    go_ret2
    obtain ⟨h1, h2, h3, h4⟩ := H.out
    exact ⟨.inl ⟨m, g, sv, h1, h2, h3, h4, rfl⟩, hb⟩
  · obtain ⟨m, g, sv, h1, h2, h3, h4, j, h5, h6, h7, rfl⟩ := h
    have H := hid (And.intro h1 (And.intro h2 (And.intro h3 (And.intro h4 (And.intro h5 (And.intro h6 h7))))))
    clear h1 h2 h3 h4 h5 h6 h7 C
    go_wp2
    go_ret2
    obtain ⟨h1, h2, h3, h4, h5, h6, h7⟩ := H.out
    exact ⟨.inr (.inl ⟨m, g, sv, h1, h2, h3, h4, j, h5, h6, h7, rfl⟩), hb⟩
  · obtain ⟨⟨t, v, rfl⟩, h1⟩ := h
    have H := hid h1
    clear h1 C
    go_wp2
    go_ret2
    exact ⟨.inr (.inr ⟨⟨t, v, rfl⟩, H.out⟩), hb⟩
end Go.Proofs.Qxb6609499aFmt
