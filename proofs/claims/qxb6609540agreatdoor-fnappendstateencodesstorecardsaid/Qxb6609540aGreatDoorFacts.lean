/-
  Plain facts on the encoding: its bound; that it is made of bytes; the order is one.
-/
import Derived.Test.Qxb6609540aGreatDoorState
namespace Go.Proofs.Qxb6609540aGreatDoor
open Go.RowKit Go.ChangeMaps
set_option linter.unusedSimpArgs false
theorem flat_bound {α : Type} (f : α → List Value) (g : α → Nat) (c : Nat) (L : List α) (h : ∀ x ∈ L, (f x).length ≤ c + g x) : (L.flatMap f).length ≤ c * L.length + (L.map g).sum := by
  induction L with
  | nil => simp
  | cons x L ih =>
    have h1 := h x List.mem_cons_self
    have h2 := ih (fun y hy => h y (List.mem_cons_of_mem _ hy))
    simp only [List.flatMap_cons, List.length_append, List.length_cons, List.map_cons, List.sum_cons, Nat.mul_add, Nat.mul_one]
    omega
theorem flat_boundL {α : Type} (f : α → List Value) (g : α → Nat) (c : Nat) (L : List α) (h : ∀ (k : Nat) x, L[k]? = some x → (f x).length ≤ c + g x) : (L.flatMap f).length ≤ c * L.length + (L.map g).sum :=
  flat_bound f g c L fun x hx => by obtain ⟨k, hk⟩ := List.mem_iff_getElem?.1 hx; exact h k x hk
theorem eS_le (s : ByteArray) (h : s.size ≤ 9223372036854775807) : (eS s).length ≤ 10 + s.size := by
  have := eU_le s.size (by omega)
  rw [eS_length, ← eU_length]; omega
theorem eSegs_le {w : World} {a : Option Addr} {L : List SegV} (h : SegsAt w a L) : (eSegs L).length ≤ 10 + segsW L := by
  have h0 := eU_le L.length (by have := h.1; omega)
  have h1 : (L.flatMap eSeg).length ≤ 32 * L.length + (L.map segW).sum := by
    refine flat_boundL eSeg segW 32 L fun k s hk => ?_
    obtain ⟨b, off, am, cm, _, _, _, _, _, hS, hu, hz⟩ := h.2 k s hk
    have e1 := eU_le (uN s.id) (uN_lt _)
    have e2 := eU_le (uN s.size) (uN_lt _)
    have e3 := eU_le s.ms.length (by have := hS.1; omega)
    have e4 : (s.ms.flatMap eS).length ≤ 10 * s.ms.length + (s.ms.map ByteArray.size).sum := by
      refine flat_boundL eS ByteArray.size 10 s.ms fun q t ht => ?_
      obtain ⟨_, _, _, _, _, hf⟩ := hS.2 q t ht
      exact eS_le t hf
    rw [eSeg_length, segW, strsW]
    omega
  rw [eSegs, List.length_append, segsW]
  omega
theorem eState_le {w : World} {a : Option Addr} {D : List DbV} (nx cr : Int) (h : DbsAt w a D) : (eState nx cr D).length ≤ 30 + 64 * D.length + (D.map dbW).sum := by
  have h0 := eU_le (uN nx) (uN_lt _)
  have h1 := eU_le (uN cr) (uN_lt _)
  have h2 := eU_le D.length (by have := h.1; omega)
  have h3 : (D.flatMap eDb).length ≤ 64 * D.length + (D.map dbW).sum := by
    refine flat_boundL eDb dbW 64 D fun k d hk => ?_
    obtain ⟨b, off, pa, pc, _, _, _, _, _, _, hP, hn, hd, _⟩ := h.2 k d hk
    have e1 := eS_le d.name hn
    have e2 := eU_le (uN d.ord) (uN_lt _)
    have e3 := eS_le d.dp hd
    have e4 := eU_le d.pols.length (by have := hP.1; omega)
    have e5 : (d.pols.flatMap ePolF).length ≤ 64 * d.pols.length + (d.pols.map polW).sum := by
      refine flat_boundL ePolF polW 64 d.pols fun j p hj => ?_
      obtain ⟨_, _, ga, gc, _, _, _, _, _, _, _, hG, hpn, hi1, hi2, _⟩ := hP.2 j p hj
      have f1 := eS_le p.name hpn
      have f2 := eV_le p.dur hi1
      have f3 := eV_le p.sgd hi2
      have f4 := eU_le (uN p.rep) (uN_lt _)
      have f5 := eU_le p.grps.length (by have := hG.1; omega)
      have f6 : (p.grps.flatMap eGrp).length ≤ 80 * p.grps.length + (p.grps.map grpW).sum := by
        refine flat_boundL eGrp grpW 80 p.grps fun l g hl => ?_
        obtain ⟨_, _, _, _, _, _, _, _, _, _, _, _, _, hS, hQ, hj1, hj2⟩ := hG.2 l g hl
        have g1 := eV_le g.st hj1
        have g2 := eV_le g.en hj2
        have g3 := eSegs_le hS
        have g4 := eSegs_le hQ
        rw [eGrp_length, grpW]
        cases g.planned <;> simp only [cond_true, cond_false] <;> omega
      rw [ePolF_length, ePol_length, polW]
      omega
    rw [eDb_length, dbW]
    omega
  rw [eState_length]
  omega
/-- Made of bytes. -/
def Bytes (L : List Value) : Prop := ∀ v ∈ L, ∃ k : Int, v = .int .u8 k
theorem Bytes.append {A B : List Value} (h : Bytes A) (k : Bytes B) : Bytes (A ++ B) := fun v hv => by
  rcases List.mem_append.1 hv with hv | hv
  · exact h v hv
  · exact k v hv
theorem Bytes.flat {α : Type} {f : α → List Value} (h : ∀ x, Bytes (f x)) (L : List α) : Bytes (L.flatMap f) := fun v hv => by
  obtain ⟨x, _, hx⟩ := List.mem_flatMap.1 hv
  exact h x v hx
theorem Bytes.u (x : Nat) : Bytes (eU x) := fun v hv => by
  obtain ⟨b, _, rfl⟩ := List.mem_map.1 hv
  exact ⟨_, rfl⟩
theorem Bytes.v (x : Int) : Bytes (eV x) := fun v hv => by
  obtain ⟨b, _, rfl⟩ := List.mem_map.1 hv
  exact ⟨_, rfl⟩
theorem Bytes.s (x : ByteArray) : Bytes (eS x) := (Bytes.u _).append fun v hv => by
  obtain ⟨b, _, rfl⟩ := List.mem_map.1 hv
  exact ⟨_, rfl⟩
theorem Bytes.segs (L : List SegV) : Bytes (eSegs L) := (Bytes.u _).append (Bytes.flat (fun _ => (Bytes.u _).append ((Bytes.u _).append ((Bytes.u _).append (Bytes.flat Bytes.s _)))) L)
theorem Bytes.state (nx cr : Int) (D : List DbV) : Bytes (eState nx cr D) :=
  (Bytes.u _).append ((Bytes.u _).append ((Bytes.u _).append (Bytes.flat (fun _ => (Bytes.s _).append ((Bytes.u _).append ((Bytes.s _).append ((Bytes.u _).append
    (Bytes.flat (fun _ => ((Bytes.s _).append ((Bytes.v _).append ((Bytes.v _).append (Bytes.u _)))).append ((Bytes.u _).append ((Bytes.flat (fun _ => (Bytes.v _).append ((Bytes.v _).append (Bytes.segs _))) _).append (Bytes.u _)))) _))))) D)))
/-- Two lists of the same databases, each in the order of the numbers, are one. -/
theorem order_unique {D L M : List DbV} (h1 : L.Perm D) (h2 : M.Perm D) (h3 : L.Pairwise (fun x y => x.ord < y.ord)) (h4 : M.Pairwise (fun x y => x.ord < y.ord)) : L = M := by
  refine List.Perm.eq_of_pairwise (le := fun x y : DbV => x.ord < y.ord) (fun a b _ _ h5 h6 => ?_) h3 h4 (h1.trans h2.symm)
  omega
theorem built_store {B : Nat} {nx cr : Int} {D : List DbV} {w : World} {e : Ending} (h : Built B nx cr D w e) : ∃ st pv rm ML PE, e = .returned (.tuple #[.pointer (some ⟨st, 0, none⟩), pv]) ∧ StoreAt B nx cr D w st rm pv ML PE := by
  obtain ⟨st, pv, rm, ML, PE, h1, h2, h3, h4, h5, h6, h7, h8⟩ := h
  exact ⟨st, pv, rm, ML, PE, h1, ⟨h2, h3, h4, h5, h6, h7, h8⟩⟩
theorem StoreAt.kept {B : Nat} {nx cr : Int} {D : List DbV} {w w' : World} {st rm : Nat} {pv : Value} {ML : List (ByteArray × Nat)} {PE : List (Nat × Value)} (h : StoreAt B nx cr D w st rm pv ML PE) (hk : Kept w.heap.size w w') : StoreAt B nx cr D w' st rm pv ML PE := by
  have hck : ∀ lo, CK lo w w' := fun lo => CK.of_kept hk
  have hc : ∀ {p : Addr} {u : Value}, w.cell? p = some u → w'.cell? p = some u := fun {p u} hp => (hck 0).2.1 p u (Nat.zero_le _) hp
  have hrm : rm < w.heap.size := by obtain ⟨es, hb, _⟩ := h.names; exact block_lt hb
  refine ⟨hc h.c14, hc h.c15, hc h.c17, h.names.kept (hk.block rm hrm), h.plan.kept (hck 0) (fun k es cl hb => hk.block k (block_lt hb)), h.len, fun k d hd => ?_⟩
  obtain ⟨g, h1, h2⟩ := h.dbs k d hd
  exact ⟨g, h1, h2.ck (hck B) (Grow.refl _ _)⟩
set_option maxRecDepth 100000 in
theorem zzAppend_any (B B2 : Nat) (nx cr : Int) (D : List DbV) (w : World) (st rm : Nat) (pv : Value) (ML : List (ByteArray × Nat)) (PE : List (Nat × Value)) (sv : Value) (xs : List Value) (hS : StoreAt B nx cr D w st rm pv ML PE) (hF : Fits nx D)
    (hown : w.ownsRow B2 5 1 sv xs.length xs) (hfull : sv = .slice none 0 0 ∨ ∃ g, sv = .slice (some ⟨g, 0, none⟩) xs.length xs.length) (hlim : xs.length + (eState nx cr D).length + 1000 ≤ 140737488355328) :
    Calls Tryz.prog 10 #[.pointer (some ⟨st, 0, none⟩), sv, pv] w fun e w' => StateRet nx cr D xs w e w' := by
  have H := hid (appendState_any B B2 nx cr D w st rm pv ML PE sv xs hS hF hown hfull hlim)
  clear hS hF hown hfull hlim
  go_enter Tryz.func10, Tryz.ntmps10
  go_wp2_with (go_at_call 24; refine H.out.mono ?_; rintro e w1 ⟨L, v, rfl, h1, h2, h3, h4⟩; have HR := hid (And.intro h1 (And.intro h2 (And.intro h3 h4))); clear h1 h2 h3 h4)
  go_ret
  obtain ⟨h1, h2, h3, h4⟩ := HR.out
  exact ⟨L, v, rfl, h1, h2, h3, h4⟩
end Go.Proofs.Qxb6609540aGreatDoor
