/-
  appendState.
-/
import Derived.Test.Qxb6609540aGreatDoorHere
import Derived.Test.Qxb6609540aGreatDoorNames
import Derived.Deep.RegionHeld3
import Derived.Deep.DrawnRows
namespace Go.Proofs.Qxb6609540aGreatDoor
open Go.RowKit Go.ChangeMaps
set_option linter.unusedSimpArgs false
/-- The store as it lies. -/
structure StoreAt (B : Nat) (nx cr : Int) (D : List DbV) (w : World) (st rm : Nat) (pv : Value) (ML : List (ByteArray × Nat)) (PE : List (Nat × Value)) : Prop where
  c14 : w.cell? ⟨st, 14, none⟩ = some (.map (some rm))
  c15 : w.cell? ⟨st, 15, none⟩ = some (.int .i64 cr)
  c17 : w.cell? ⟨st, 17, none⟩ = some (.int .u64 nx)
  names : NamesAt w rm ML
  plan : PlanIs B rm w pv PE
  len : ML.length = D.length
  dbs : ∀ (k : Nat) d, D[k]? = some d → ∃ g, ML[k]? = some (d.name, g) ∧ DbP B w PE g d
/-- What it is asked of besides. -/
structure Fits (nx : Int) (D : List DbV) : Prop where
  nx : U64 nx
  apart : Apart D D.length
  sizes : ∀ d ∈ D, d.name.size ≤ maxLen
  len : D.length * 16 ≤ 140737488355328
/-- What appendState leaves. -/
def StateRet (nx cr : Int) (D : List DbV) (xs : List Value) (w : World) (e : Ending) (w' : World) : Prop :=
  ∃ (L : List DbV) (v : Value), e = .returned v ∧ L.Perm D ∧ L.Pairwise (fun x y => x.ord < y.ord) ∧ w'.ownsRow w.heap.size 5 1 v (xs ++ eState nx cr L).length (xs ++ eState nx cr L) ∧ Kept w.heap.size w w'
theorem Here.named {w wr w' : World} {X : List Value} {sv : Value} (h : Here w [] none X sv wr) (hb : Below wr.heap.size wr w') {L : List DbV} {na : Option Addr}
    (hn : ∀ (k : Nat) d, L[k]? = some d → ∃ g off, na = some ⟨g, off, none⟩ ∧ wr.heap.size ≤ g ∧ g < w'.heap.size ∧ w'.cell? ⟨g, off + k, none⟩ = some (.string d.name)) : Here w (L.map (·.name)) na X sv w' := by
  refine ⟨?_, h.kept.trans ((Kept.of hb).mono h.kept.size), fun k s hk => ?_⟩
  · obtain ⟨h0, h1⟩ := h.own
    refine ⟨h0, ?_⟩
    rcases h1 with h1 | ⟨g, cap, cur, e1, e2, e3, e4⟩
    · exact .inl h1
    · exact .inr ⟨g, cap, cur, e1, e2, (hb.block g (block_lt e3)).trans e3, e4⟩
  · rw [List.getElem?_map] at hk
    cases hq : L[k]? with
    | none => rw [hq] at hk; cases hk
    | some d =>
      rw [hq] at hk
      have hd : d.name = s := by simpa using hk
      obtain ⟨g, off, h1, h2, h3, h4⟩ := hn k d hq
      refine ⟨g, off, h1, h3, fun e => ?_, by rw [← hd]; exact h4⟩
      have := (h.own.lt g e).2
      omega
theorem Here.undrew {w wr : World} {NM : List ByteArray} {na : Option Addr} {X : List Value} {sv : Value} (h : Here w.drew NM na X sv wr) : Here w NM na X sv wr := ⟨h.own, ⟨h.kept.os, h.kept.output, h.kept.size, h.kept.block⟩, h.names⟩
theorem Here.below {w wr w' : World} {NM : List ByteArray} {na : Option Addr} {X : List Value} {sv : Value} (h : Here w NM na X sv wr) (hb : Below wr.heap.size wr w') : Here w NM na X sv w' := by
  refine ⟨?_, h.kept.trans ((Kept.of hb).mono h.kept.size), fun k s hk => ?_⟩
  · obtain ⟨h0, h1⟩ := h.own
    refine ⟨h0, ?_⟩
    rcases h1 with h1 | ⟨g, cap, cur, e1, e2, e3, e4⟩
    · exact .inl h1
    · exact .inr ⟨g, cap, cur, e1, e2, (hb.block g (block_lt e3)).trans e3, e4⟩
  · obtain ⟨g, off, h1, h2, h3, h4⟩ := h.names k s hk
    exact ⟨g, off, h1, Nat.lt_of_lt_of_le h2 hb.size, h3, (hb.cell (p := ⟨g, off + k, none⟩) h2).trans h4⟩
theorem StoreAt.look {B : Nat} {nx cr : Int} {D : List DbV} {w wr : World} {st rm : Nat} {pv : Value} {ML : List (ByteArray × Nat)} {PE : List (Nat × Value)} (h : StoreAt B nx cr D w st rm pv ML PE) (hap : Apart D D.length) (hk : Kept w.heap.size w wr) {d : DbV} (hd : d ∈ D) :
    ∃ g, (Instr.lookup 53 (.map (some rm)) (.string d.name) false).run Tryz.prog wr = .ok (.pointer (some ⟨g, 0, none⟩)) wr ∧ DbP B w PE g d := by
  obtain ⟨hnd, _⟩ := names_nodup hap h.len (fun k d hk => by obtain ⟨g, h, _⟩ := h.dbs k d hk; exact ⟨g, h⟩)
  obtain ⟨j, hj⟩ := List.mem_iff_getElem?.1 hd
  obtain ⟨g, h1, h2⟩ := h.dbs j d hj
  have hrm : rm < w.heap.size := by obtain ⟨es, hb, _⟩ := h.names; exact block_lt hb
  have := names_look (h.names.kept (hk.block rm hrm)) d.name
  rw [nameAt_of hnd h1] at this
  exact ⟨g, this, h2⟩
theorem StoreAt.plook {B : Nat} {nx cr : Int} {D : List DbV} {w wr : World} {st rm : Nat} {pv : Value} {ML : List (ByteArray × Nat)} {PE : List (Nat × Value)} (h : StoreAt B nx cr D w st rm pv ML PE) (hk : Kept w.heap.size w wr) {g : Nat} (hg : Plain w g) :
    (Instr.lookup 31 pv (.pointer (some ⟨g, 0, none⟩)) true).run Tryz.prog wr = .ok (.tuple #[(planAt PE g).getD (.slice none 0 0), .bool (planAt PE g).isSome]) wr := by
  have hck : CK 0 w wr := CK.of_kept hk
  rcases h.plan.1 with ⟨rfl, rfl⟩ | ⟨r, rfl, h2, h3, hP⟩
  · exact plan_look_nil wr g
  · have hP' : PlanAt wr r PE := by
      obtain ⟨es, clock, h4, h5⟩ := hP
      exact ⟨es, clock, (hk.block r (block_lt h4)).trans h4, h5⟩
    exact plan_look hP' g (hck.2.2 g (Nat.zero_le _) hg) (fun p hp => hck.2.2 _ (Nat.zero_le _) (h.plan.2 p hp))
set_option maxRecDepth 100000 in
set_option maxHeartbeats 8000000 in
theorem appendState_any (B B2 : Nat) (nx cr : Int) (D : List DbV) (w : World) (st rm : Nat) (pv : Value) (ML : List (ByteArray × Nat)) (PE : List (Nat × Value)) (sv : Value) (xs : List Value) (hS : StoreAt B nx cr D w st rm pv ML PE) (hF : Fits nx D)
    (hown : w.ownsRow B2 5 1 sv xs.length xs) (hfull : sv = .slice none 0 0 ∨ ∃ g, sv = .slice (some ⟨g, 0, none⟩) xs.length xs.length) (hlim : xs.length + (eState nx cr D).length + 1000 ≤ 140737488355328) :
    Calls Tryz.prog 24 #[.pointer (some ⟨st, 0, none⟩), sv, pv] w fun e w' => StateRet nx cr D xs w e w' := by
  have HS := hid hS
  have HF := hid hF
  have HO := hid hown
  have HFU := hid hfull
  have c14 := hS.c14
  have c15 := hS.c15
  have c17 := hS.c17
  have hw1 := uN_wrap cr
  have hw2 := uN_lt cr
  have hnx : nx = ((uN nx : Nat) : Int) := (uN_of hF.nx).symm
  have hnl := uN_lt nx
  have hes := eState_length nx cr D
  have b1 := eU_le (uN nx) hnl
  have b2 := eU_le (uN cr) hw2
  have hlD := hF.len
  have b3 := eU_le D.length (by omega)
  rw [hnx] at c17
  have HES := hid hes
  have HL := hid hlim
  have hl1 : xs.length + 100 ≤ 140737488355328 := by omega
  clear hS hF hown hfull hnx hes hlim
  go_enter Tryz.func24, Tryz.ntmps24
  go_upto_region 1 with fail
  go_region_held3 (fun w' => w'.cell? ⟨st, 17, none⟩ = some (.int .u64 ((uN nx : Nat) : Int)) ∧ w'.cell? ⟨st, 15, none⟩ = some (.int .i64 cr))
    (first
      | go_keep
      | (go_split_ands; refine ⟨?_, ?_⟩ <;> (refine HH2.out.cell ?_; assumption))
      | (go_split_ands; refine ⟨?_, ?_⟩ <;> (refine HH1.out.cell ?_; assumption)))
    (first
      | (go_at_call 37; refine (uvarint_here HH1.out (uN cr) hw2 (by rw [List.length_append]; omega)).mono ?_; rintro e w2 ⟨v2, rfl, hh2⟩; have HH2 := hid hh2; clear hh2)
      | (go_at_call 37; refine (uvarint_first (xs := xs) (B := B2) (by exact HO.out) HFU.out (uN nx) hnl (by omega)).mono ?_; rintro e w1 ⟨v1, rfl, hh1⟩; have HH1 := hid hh1; clear hh1))
  have HW2 : Hid (Here w [] none (xs ++ eU (uN nx) ++ eU (uN cr)) v2 w2) := HH2.out.undrew
  have d14 : w2.cell? ⟨st, 14, none⟩ = some (.map (some rm)) := HW2.out.cell c14
  have HD2 : Hid (∀ W, W = w2 → Calls Tryz.prog 38 #[.pointer (some ⟨st, 0, none⟩)] W fun e w' => NamesRet D w2 e w') := fun W hW => by
    subst hW
    refine dbNames_any st rm ML D W d14 (HS.out.names.kept (HW2.out.heap ?_)) HS.out.len (fun k d hk => ?_) HF.out.apart HF.out.sizes HF.out.len
    · obtain ⟨es, hb, _⟩ := HS.out.names; exact block_lt hb
    · obtain ⟨g, h1, h2⟩ := HS.out.dbs k d hk
      exact ⟨g, h1, HW2.out.cell h2.2.1⟩
  clear HH1 HH2 c15 c17 hw1
  go_upto_region 3 with (go_at_call 38; refine (HD2.out _ rfl).mono ?_; rintro e w3 ⟨L, na, nc, rfl, hLp, hLo, hLb, hLn⟩; have HLP := hid hLp; have HLO := hid hLo; have HW3 := hid (HW2.out.named hLb hLn); clear hLp hLo hLb hLn)
  have hLD : L.length = D.length := HLP.out.length_eq
  have hwl := wrap_u64 L.length (by omega)
  have HLD := hid hLD
  have hLl : L.length * 16 ≤ 140737488355328 := by omega
  have hLu : L.length < 18446744073709551616 := by omega
  clear hLD d14 HD2
  go_wp2_with (go_at_call 37; refine (uvarint_here HW3.out L.length hLu (by rw [List.length_append, List.length_append]; omega)).mono ?_; rintro e w4 ⟨v4, rfl, hh4⟩; have HH4 := hid hh4; clear hh4)
  obtain ⟨X0, hX0⟩ : ∃ X0, X0 = xs ++ eU (uN nx) ++ eU (uN cr) ++ eU L.length := ⟨_, rfl⟩
  rw [← hX0] at HH4
  have HX0 := hid hX0
  have HLF : Hid (X0.length + (L.flatMap eDb).length + 900 ≤ 140737488355328) := by
    have h1 := HES.out
    have h2 := HL.out
    have h3 := flat_perm_length eDb HLP.out
    have h4 := HLD.out
    rw [Hid, hX0, List.length_append, List.length_append, List.length_append, h4]
    omega
  clear hX0 HW3 HW2 hwl hw2 hnl b1 b2 b3 hlD hl1
  go_loopw [1, 42] (fun v1 v42 wr => ∃ (X : List Value) (k : Nat), k ≤ L.length ∧ v42 = .int .i64 k ∧ Hid (X = X0 ++ (L.take k).flatMap eDb) ∧ Hid (Here w (L.map (·.name)) na X v1 wr)) (fun _ v42 _ => L.length - (intOf v42).toNat)
  case atStart => exact ⟨X0, 0, Nat.zero_le _, rfl, by rw [Hid]; simp, HH4.out⟩
  case round =>
    obtain ⟨X, k, hk, rfl, HX, HH⟩ := hrel
    by_cases hlt : k < L.length
    · obtain ⟨d, hdk⟩ := get_of hlt
      have hdD : d ∈ D := HLP.out.mem_iff.1 (List.mem_of_getElem? hdk)
      obtain ⟨ng, noff, rfl, _, _, cn⟩ := HH.out.names k d.name (by rw [List.getElem?_map, hdk]; rfl)
      obtain ⟨gd, hlook, hDP⟩ := HS.out.look HF.out.apart HH.out.kept hdD
      obtain ⟨p0, p1, ⟨pa, pc, p2, HPP⟩, p3, p4, p5⟩ := hDP
      have e14 := HH.out.cell c14
      have hXl : X.length + (eDb d).length + 900 ≤ 140737488355328 := by
        have h1 := HX.out
        have h2 := HLF.out
        have h3 := flat_at_le eDb hdk
        rw [h1, List.length_append]; omega
      have hed := eDb_length d
      have HED := hid hed
      rw [hed] at hXl
      have HJ := hid hdk
      have HPS := hid HPP
      have hsl := eS_length d.name
      have hsd := eS_length d.dp
      have o1 := uN_wrap d.ord
      have o2 := uN_lt d.ord
      have hnp := HPP.1
      have q0 := HH.out.cell p1
      have q1 := HH.out.cell p2
      have q2 := HH.out.cell p3
      have f1 := Lib.uvarint_pos d.name.size
      have f2 := Lib.uvarint_pos d.dp.size
      clear hed hdk HPP p4 p5 p0
      go_upto_region 8 with fail
      go_region_held3 (fun w' => w'.cell? ⟨gd, 0, none⟩ = some (.int .i64 d.ord) ∧ w'.cell? ⟨gd, 2, none⟩ = some (.string d.dp))
        (first
          | go_keep
          | (go_split_ands; exact ⟨HG7.out.cell p1, HG7.out.cell p3⟩)
          | (go_split_ands; exact ⟨HG6.out.cell p1, HG6.out.cell p3⟩)
          | (go_split_ands; exact ⟨HG5.out.cell p1, HG5.out.cell p3⟩))
        (first
          | (go_at_call 39; refine (appendString_here HG6.out d.dp (by rw [List.length_append, List.length_append]; omega)).mono ?_; rintro e w7 ⟨v7, rfl, hh7⟩; have HG7 := hid hh7; clear hh7)
          | (go_at_call 37; refine (uvarint_here HG5.out (uN d.ord) o2 (by rw [List.length_append]; omega)).mono ?_; rintro e w6 ⟨v6, rfl, hh6⟩; have HG6 := hid hh6; clear hh6)
          | (go_at_call 39; refine (appendString_here HH.out.drew d.name (by omega)).mono ?_; rintro e w5 ⟨v5, rfl, hh5⟩; have HG5 := hid hh5; clear hh5))
      obtain ⟨X1, hX1⟩ : ∃ X1, X1 = X ++ eS d.name ++ eU (uN d.ord) ++ eS d.dp := ⟨_, rfl⟩
      rw [← hX1] at HG7
      have HX1 := hid hX1
      have hX1l : X1.length = X.length + (eS d.name).length + (eU (uN d.ord)).length + (eS d.dp).length := by rw [hX1, List.length_append, List.length_append, List.length_append]
      have r1 := HG7.out.cell p2
      have hwp := wrap_u64 d.pols.length (by omega)
      have hup : d.pols.length < 18446744073709551616 := by omega
      have hX1n : X1.length + (eU d.pols.length).length + (d.pols.flatMap ePolF).length + 900 ≤ 140737488355328 := by omega
      clear hX1 q0 q1 q2 HG5 HG6 hXl hsl hsd f1 f2 o1 hX1l
      go_upto_region 10 with (go_at_call 37; refine (uvarint_here HG7.out d.pols.length hup (by omega)).mono ?_; rintro e w8 ⟨v8, rfl, hh8⟩; have HG8 := hid hh8; clear hh8)
      obtain ⟨X2, hX2⟩ : ∃ X2, X2 = X1 ++ eU d.pols.length := ⟨_, rfl⟩
      rw [← hX2] at HG8
      have HX2 := hid hX2
      have hX2n : X2.length + (d.pols.flatMap ePolF).length + 900 ≤ 140737488355328 := by rw [hX2, List.length_append]; omega
      have HX2n := hid hX2n
      have t1 := HG8.out.cell p2
      clear hX2 hX1n hX2n r1 HG7
      go_wp2_with fail
      go_loopw [1, 79] (fun v1 v79 wr => ∃ (X : List Value) (j : Nat), j ≤ d.pols.length ∧ v79 = .int .i64 j ∧ Hid (X = X2 ++ (d.pols.take j).flatMap ePolF) ∧ Hid (Here w (L.map (·.name)) (some ⟨ng, noff, none⟩) X v1 wr)) (fun _ v79 _ => d.pols.length - (intOf v79).toNat)
      case atStart => exact ⟨X2, 0, Nat.zero_le _, rfl, by rw [Hid]; simp, HG8.out⟩
      case round =>
        obtain ⟨X3, j, hj, rfl, HX3, HP⟩ := hrel
        by_cases hltj : j < d.pols.length
        · obtain ⟨p, hpj⟩ := get_of hltj
          obtain ⟨b2, off2, gp, rfl, _, e2, _, m0, m1, m2, m3, m4, ⟨ga, gc, m5, hGP⟩, _, hi1, hi2, _⟩ := HPS.out.2 j p hpj
          have hX3n : X3.length + (ePolF p).length + 900 ≤ 140737488355328 := by
            have h1 := HX3.out
            have h2 := HX2n.out
            have h3 := flat_at_le ePolF hpj
            rw [h1, List.length_append]; omega
          have hepf := ePolF_length p
          have hep := ePol_length p
          rw [hepf] at hX3n
          have hpn := eS_length p.name
          have HPJ := hid hpj
          have HGP := hid hGP
          have hgl := hGP.1
          have HD1 := hid hi1
          have HD2' := hid hi2
          have n0 := HP.out.cell m0
          have n1 := HP.out.cell m1
          have n2 := HP.out.cell m2
          have n3 := HP.out.cell m3
          have n6 := HP.out.cell e2
          clear hpj hGP hi1 hi2 hepf
          go_upto_region 14 with (go_at_call 40; refine (appendPolicy_here HP.out p HD1.out HD2'.out (by omega)).mono ?_; rintro e wp1 ⟨vp1, rfl, hh1⟩; have HP1 := hid hh1; clear hh1)
          have n5 := HP1.out.cell m5
          have hwg := wrap_u64 p.grps.length (by omega)
          have hug : p.grps.length < 18446744073709551616 := by omega
          clear n0 n1 n2 n3 n6 hep hpn
          go_upto_region 15 with (go_at_call 37; refine (uvarint_here HP1.out p.grps.length hug (by rw [List.length_append]; omega)).mono ?_; rintro e wp2 ⟨vp2, rfl, hh2⟩; have HP2 := hid hh2; clear hh2)
          obtain ⟨X4, hX4⟩ : ∃ X4, X4 = X3 ++ ePol p ++ eU p.grps.length := ⟨_, rfl⟩
          rw [← hX4] at HP2
          have HX4 := hid hX4
          have HX4n : Hid (X4.length + (p.grps.flatMap eGrp).length + 800 ≤ 140737488355328) := by rw [Hid, hX4, List.length_append, List.length_append]; omega
          have n5' := HP2.out.cell m5
          clear hX4 hX3n n5 HP1
          go_wp2_with fail
          go_loopw [1, 102] (fun v1 v102 wr => ∃ (X : List Value) (l : Nat), l ≤ p.grps.length ∧ v102 = .int .i64 l ∧ Hid (X = X4 ++ (p.grps.take l).flatMap eGrp) ∧ Hid (Here w (L.map (·.name)) (some ⟨ng, noff, none⟩) X v1 wr)) (fun _ v102 _ => p.grps.length - (intOf v102).toNat)
          case atStart => exact ⟨X4, 0, Nat.zero_le _, rfl, by rw [Hid]; simp, HP2.out⟩
          case round =>
            obtain ⟨Y, l, hl, rfl, HY, HM⟩ := hrel
            by_cases hltl : l < p.grps.length
            · obtain ⟨G, hGl⟩ := get_of hltl
              obtain ⟨b3, off3, gg, rfl, _, e3, _, hPl, g2, g3, ⟨sa, sc, g4, hSG⟩, hj1, hj2, hpt, hpf⟩ := HGP.out.2 l G hGl
              have hYn : Y.length + (eGrp G).length + 800 ≤ 140737488355328 := by
                have h1 := HY.out
                have h2 := HX4n.out
                have h3 := flat_at_le eGrp hGl
                rw [h1, List.length_append]; omega
              have heg := eGrp_length G
              rw [heg] at hYn
              have HGL := hid hGl
              have HI1 := hid hj1
              have HI2 := hid hj2
              have ghc0 := HM.out.cell e3
              have ghc1 := HM.out.cell g4
              have ghc2 := HM.out.cell g2
              have ghc3 := HM.out.cell g3
              have plook := HS.out.plook HM.out.kept hPl
              have x1 := eV_le G.st hj1
              have x2 := eV_le G.en hj2
              have HPT := hid hpt
              have HPF := hid hpf
              clear hGl heg hj1 hj2 hpt hpf hPl
              cases hpl : G.planned
              · rw [HPF.out hpl] at plook
                simp only [Option.getD_none, Option.isSome_none] at plook
                rw [hpl, cond_false, eSegs, List.length_append] at hYn
                have HSG := hid hSG
                have hsgl := hSG.1
                have husg : G.segs.length < 18446744073709551616 := by omega
                have hwsg := wrap_u64 G.segs.length husg
                clear hSG
                go_upto_region 21 with fail
                clear plook
                obtain ⟨XG, hXG⟩ : ∃ XG, XG = Y ++ eV G.st ++ eV G.en := ⟨_, rfl⟩
                go_region_held3 (fun w' => w'.cell? ⟨gg, 0, none⟩ = some (.int .i64 G.st) ∧ w'.cell? ⟨gg, 1, none⟩ = some (.int .i64 G.en))
                  (first
                    | go_keep
                    | (go_split_ands; exact ⟨HN2.out.cell g2, HN2.out.cell g3⟩)
                    | (go_split_ands; exact ⟨HN1.out.cell g2, HN1.out.cell g3⟩))
                  (first
                    | (go_at_call 41; refine (varint_here HN1.out G.en HI2.out (by rw [List.length_append]; omega)).mono ?_; rintro e wn2 ⟨vn2, rfl, hh2⟩; have HN2 := hid hh2; clear hh2)
                    | (go_at_call 41; refine (varint_here HM.out.drew G.st HI1.out (by omega)).mono ?_; rintro e wn1 ⟨vn1, rfl, hh1⟩; have HN1 := hid hh1; clear hh1))
                rw [← hXG] at HN2
                have HXG := hid hXG
                have hXGn : XG.length + (eU G.segs.length).length + (G.segs.flatMap eSeg).length + 800 ≤ 140737488355328 := by rw [hXG, List.length_append, List.length_append]; omega
                clear hXG HN1 hYn ghc0 ghc1 ghc2 ghc3
                go_wp2_with (go_at_call 37; refine (uvarint_here HN2.out G.segs.length husg (by omega)).mono ?_; rintro e wn3 ⟨vn3, rfl, hh3⟩; have HN3 := hid hh3; clear hh3)
                obtain ⟨XS, hXS⟩ : ∃ XS, XS = XG ++ eU G.segs.length := ⟨_, rfl⟩
                rw [← hXS] at HN3
                have HXS := hid hXS
                have HXSn : Hid (XS.length + (G.segs.flatMap eSeg).length + 800 ≤ 140737488355328) := by rw [Hid, hXS, List.length_append]; omega
                clear hXS hXGn
                go_loopw [1, 136] (fun v1 v136 wr => ∃ (Z : List Value) (q : Nat), q ≤ G.segs.length ∧ v136 = .int .i64 q ∧ Hid (Z = XS ++ (G.segs.take q).flatMap eSeg) ∧ Hid (Here w (L.map (·.name)) (some ⟨ng, noff, none⟩) Z v1 wr)) (fun _ v136 _ => G.segs.length - (intOf v136).toNat)
                case atStart => exact ⟨XS, 0, Nat.zero_le _, rfl, by rw [Hid]; simp, HN3.out⟩
                case round =>
                  obtain ⟨Z, q, hq, rfl, HZ, HQ⟩ := hrel
                  by_cases hltq : q < G.segs.length
                  · obtain ⟨sg, hsq⟩ := get_of hltq
                    obtain ⟨b5, off5, gs, rfl, _, e5, _, s0, s2, ⟨am, cm, s3, hSL⟩, hu5, _⟩ := HSG.out.2 q sg hsq
                    have hZn : Z.length + (eSeg sg).length + 800 ≤ 140737488355328 := by
                      have h1 := HZ.out
                      have h2 := HXSn.out
                      have h3 := flat_at_le eSeg hsq
                      rw [h1, List.length_append]; omega
                    have hesg : (eSeg sg).length = (eU (uN sg.id)).length + ((eU (uN sg.size)).length + (eStrs sg.ms).length) := by simp only [eSeg, List.length_append]
                    rw [hesg] at hZn
                    have HSQ := hid hsq
                    have HSL := hid hSL
                    have hsid : sg.id = ((uN sg.id : Nat) : Int) := (uN_of hu5).symm
                    rw [hsid] at s0
                    have y1 := uN_lt sg.id
                    have y2 := uN_wrap sg.size
                    have y3 := uN_lt sg.size
                    have z0 := HQ.out.cell e5
                    have z1 := HQ.out.cell s0
                    have z2 := HQ.out.cell s2
                    have y4 := eU_le (uN sg.id) y1
                    have y5 := eU_le (uN sg.size) y3
                    clear hsq hSL hsid hu5 hesg
                    go_upto_region 26 with fail
                    go_region_held3 (fun w' => w'.cell? ⟨gs, 0, none⟩ = some (.int .u64 ((uN sg.id : Nat) : Int)) ∧ w'.cell? ⟨gs, 2, none⟩ = some (.int .i64 sg.size))
                      (first
                        | go_keep
                        | (go_split_ands; exact ⟨HQ2.out.cell s0, HQ2.out.cell s2⟩)
                        | (go_split_ands; exact ⟨HQ1.out.cell s0, HQ1.out.cell s2⟩))
                      (first
                        | (go_at_call 37; refine (uvarint_here HQ1.out (uN sg.size) y3 (by rw [List.length_append]; omega)).mono ?_; rintro e wq2 ⟨vq2, rfl, hh2⟩; have HQ2 := hid hh2; clear hh2)
                        | (go_at_call 37; refine (uvarint_here HQ.out.drew (uN sg.id) y1 (by omega)).mono ?_; rintro e wq1 ⟨vq1, rfl, hh1⟩; have HQ1 := hid hh1; clear hh1))
                    have z3 := HQ2.out.cell s3
                    clear z0 z1 z2 y2 HQ1
                    go_wp2_with (go_at_call 42; refine (appendStrings_here HQ2.out B am cm sg.ms HSL.out (by rw [List.length_append, List.length_append]; omega)).mono ?_; rintro e wq3 ⟨vq3, rfl, hh3⟩; have HQ3 := hid hh3; clear hh3)
                    go_roundw
                    case rel =>
                      refine ⟨_, q + 1, by omega, by go_num, ?_, HQ3.out⟩
                      rw [Hid, flat_next eSeg HSQ.out, HZ.out, eSeg]
                      simp only [List.append_assoc]
                    case measure => simp [intOf]; omega
                  · have hqe : q = G.segs.length := by omega
                    subst hqe
                    go_wp2_with fail
                    go_roundw
                    case rel =>
                      refine ⟨Z, l + 1, by omega, by go_num, ?_, HQ.out⟩
                      rw [Hid, flat_next eGrp HGL.out, HZ.out, List.take_length, HXS.out, HXG.out, HY.out, eGrp, hpl, cond_false, eSegs]
                      simp only [List.append_assoc]
                    case measure => simp [intOf]; omega
              · obtain ⟨pa', pc', hpe, hSP⟩ := HPT.out hpl
                rw [hpe] at plook
                simp only [Option.getD_some, Option.isSome_some] at plook
                rw [hpl, cond_true, eSegs, List.length_append] at hYn
                have HSG := hid hSP
                have hsgl := hSP.1
                have husg : G.plan.length < 18446744073709551616 := by omega
                have hwsg := wrap_u64 G.plan.length husg
                clear hSP hSG hpe
                go_upto_region 21 with fail
                clear plook
                obtain ⟨XG, hXG⟩ : ∃ XG, XG = Y ++ eV G.st ++ eV G.en := ⟨_, rfl⟩
                go_region_held3 (fun w' => w'.cell? ⟨gg, 0, none⟩ = some (.int .i64 G.st) ∧ w'.cell? ⟨gg, 1, none⟩ = some (.int .i64 G.en))
                  (first
                    | go_keep
                    | (go_split_ands; exact ⟨HN2.out.cell g2, HN2.out.cell g3⟩)
                    | (go_split_ands; exact ⟨HN1.out.cell g2, HN1.out.cell g3⟩))
                  (first
                    | (go_at_call 41; refine (varint_here HN1.out G.en HI2.out (by rw [List.length_append]; omega)).mono ?_; rintro e wn2 ⟨vn2, rfl, hh2⟩; have HN2 := hid hh2; clear hh2)
                    | (go_at_call 41; refine (varint_here HM.out.drew G.st HI1.out (by omega)).mono ?_; rintro e wn1 ⟨vn1, rfl, hh1⟩; have HN1 := hid hh1; clear hh1))
                rw [← hXG] at HN2
                have HXG := hid hXG
                have hXGn : XG.length + (eU G.plan.length).length + (G.plan.flatMap eSeg).length + 800 ≤ 140737488355328 := by rw [hXG, List.length_append, List.length_append]; omega
                clear hXG HN1 hYn ghc0 ghc1 ghc2 ghc3
                go_wp2_with (go_at_call 37; refine (uvarint_here HN2.out G.plan.length husg (by omega)).mono ?_; rintro e wn3 ⟨vn3, rfl, hh3⟩; have HN3 := hid hh3; clear hh3)
                obtain ⟨XS, hXS⟩ : ∃ XS, XS = XG ++ eU G.plan.length := ⟨_, rfl⟩
                rw [← hXS] at HN3
                have HXS := hid hXS
                have HXSn : Hid (XS.length + (G.plan.flatMap eSeg).length + 800 ≤ 140737488355328) := by rw [Hid, hXS, List.length_append]; omega
                clear hXS hXGn
                go_loopw [1, 136] (fun v1 v136 wr => ∃ (Z : List Value) (q : Nat), q ≤ G.plan.length ∧ v136 = .int .i64 q ∧ Hid (Z = XS ++ (G.plan.take q).flatMap eSeg) ∧ Hid (Here w (L.map (·.name)) (some ⟨ng, noff, none⟩) Z v1 wr)) (fun _ v136 _ => G.plan.length - (intOf v136).toNat)
                case atStart => exact ⟨XS, 0, Nat.zero_le _, rfl, by rw [Hid]; simp, HN3.out⟩
                case round =>
                  obtain ⟨Z, q, hq, rfl, HZ, HQ⟩ := hrel
                  by_cases hltq : q < G.plan.length
                  · obtain ⟨sg, hsq⟩ := get_of hltq
                    obtain ⟨b5, off5, gs, rfl, _, e5, _, s0, s2, ⟨am, cm, s3, hSL⟩, hu5, _⟩ := HSG.out.2 q sg hsq
                    have hZn : Z.length + (eSeg sg).length + 800 ≤ 140737488355328 := by
                      have h1 := HZ.out
                      have h2 := HXSn.out
                      have h3 := flat_at_le eSeg hsq
                      rw [h1, List.length_append]; omega
                    have hesg : (eSeg sg).length = (eU (uN sg.id)).length + ((eU (uN sg.size)).length + (eStrs sg.ms).length) := by simp only [eSeg, List.length_append]
                    rw [hesg] at hZn
                    have HSQ := hid hsq
                    have HSL := hid hSL
                    have hsid : sg.id = ((uN sg.id : Nat) : Int) := (uN_of hu5).symm
                    rw [hsid] at s0
                    have y1 := uN_lt sg.id
                    have y2 := uN_wrap sg.size
                    have y3 := uN_lt sg.size
                    have z0 := HQ.out.cell e5
                    have z1 := HQ.out.cell s0
                    have z2 := HQ.out.cell s2
                    have y4 := eU_le (uN sg.id) y1
                    have y5 := eU_le (uN sg.size) y3
                    clear hsq hSL hsid hu5 hesg
                    go_upto_region 26 with fail
                    go_region_held3 (fun w' => w'.cell? ⟨gs, 0, none⟩ = some (.int .u64 ((uN sg.id : Nat) : Int)) ∧ w'.cell? ⟨gs, 2, none⟩ = some (.int .i64 sg.size))
                      (first
                        | go_keep
                        | (go_split_ands; exact ⟨HQ2.out.cell s0, HQ2.out.cell s2⟩)
                        | (go_split_ands; exact ⟨HQ1.out.cell s0, HQ1.out.cell s2⟩))
                      (first
                        | (go_at_call 37; refine (uvarint_here HQ1.out (uN sg.size) y3 (by rw [List.length_append]; omega)).mono ?_; rintro e wq2 ⟨vq2, rfl, hh2⟩; have HQ2 := hid hh2; clear hh2)
                        | (go_at_call 37; refine (uvarint_here HQ.out.drew (uN sg.id) y1 (by omega)).mono ?_; rintro e wq1 ⟨vq1, rfl, hh1⟩; have HQ1 := hid hh1; clear hh1))
                    have z3 := HQ2.out.cell s3
                    clear z0 z1 z2 y2 HQ1
                    go_wp2_with (go_at_call 42; refine (appendStrings_here HQ2.out B am cm sg.ms HSL.out (by rw [List.length_append, List.length_append]; omega)).mono ?_; rintro e wq3 ⟨vq3, rfl, hh3⟩; have HQ3 := hid hh3; clear hh3)
                    go_roundw
                    case rel =>
                      refine ⟨_, q + 1, by omega, by go_num, ?_, HQ3.out⟩
                      rw [Hid, flat_next eSeg HSQ.out, HZ.out, eSeg]
                      simp only [List.append_assoc]
                    case measure => simp [intOf]; omega
                  · have hqe : q = G.plan.length := by omega
                    subst hqe
                    go_wp2_with fail
                    go_roundw
                    case rel =>
                      refine ⟨Z, l + 1, by omega, by go_num, ?_, HQ.out⟩
                      rw [Hid, flat_next eGrp HGL.out, HZ.out, List.take_length, HXS.out, HXG.out, HY.out, eGrp, hpl, cond_true, eSegs]
                      simp only [List.append_assoc]
                    case measure => simp [intOf]; omega
            · have hle : l = p.grps.length := by omega
              subst hle
              have m4' := HM.out.cell m4
              have hYe : Y.length + 800 ≤ 140737488355328 := by
                have h1 := HY.out
                have h2 := HX4n.out
                rw [h1, List.take_length, List.length_append]; omega
              go_upto_region 31 with (go_at_call 37; refine (uvarint_here HM.out 0 (by omega) (by omega)).mono ?_; rintro e wm1 ⟨vm1, rfl, hh1⟩; have HM1 := hid hh1; clear hh1)
              have m4'' := HM1.out.cell m4
              clear m4'
              go_wp2_with (first
                | (go_at_call 44; refine (keys44_any _ _).mono ?_; rintro e wm2 ⟨rfl, rfl⟩)
                | (go_at_call 43; refine (sorted43_nil _).mono ?_; rintro e wm3 ⟨rfl, hb3⟩; have HM3 := hid (HM1.out.below hb3); clear hb3))
              refine wp_loop_once ?_
              go_wp2_with fail
              go_roundw
              case rel =>
                refine ⟨_, j + 1, by omega, by go_num, ?_, HM3.out⟩
                rw [Hid, flat_next ePolF HPJ.out, HY.out, List.take_length, HX4.out, HX3.out, ePolF]
                simp only [List.append_assoc]
              case measure => simp [intOf]; omega
        · have hje : j = d.pols.length := by omega
          subst hje
          go_wp2_with fail
          go_roundw
          case rel =>
            refine ⟨X3, k + 1, by omega, by go_num, ?_, HP.out⟩
            rw [Hid, flat_next eDb HJ.out, HX3.out, List.take_length, HX2.out, HX1.out, HX.out, eDb]
            simp only [List.append_assoc]
          case measure => simp [intOf]; omega
    · have hke : k = L.length := by omega
      subst hke
      go_wp2_with fail
      go_ret
      refine ⟨L, _, rfl, HLP.out, HLO.out, ?_, HH.out.kept⟩
      have h1 := HH.out.own
      have h2 : X = xs ++ eState nx cr L := by rw [HX.out, List.take_length, HX0.out, eState]; simp only [List.append_assoc]
      rw [h2] at h1
      exact h1
end Go.Proofs.Qxb6609540aGreatDoor
