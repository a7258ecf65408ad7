/-
  leave (39).
-/
import Derived.Test.Qxb6615025aLead
namespace Go.Proofs.Qxb6615025a
open Go.RowKit

/-- The cells of a cycler. -/
def cyc (ids next prev : Value) (bfo bfi lead : Nat) (cm path : Value) (bs : Nat) : Array Value :=
  #[ids, next, prev, .pointer (some ⟨bfo, 0, none⟩), .pointer (some ⟨bfi, 0, none⟩), .int .i64 lead, cm, path, .pointer (some ⟨bs, 0, none⟩)]

theorem store33 (w : World) (b off : Nat) (v0 : Value) (ao : Option Addr) (n c : Nat) (hc : w.cell? ⟨b, off, none⟩ = some v0) (hf : w.frozen? ⟨b, off, none⟩ = false) : (Instr.storeAt 33 (.pointer (some ⟨b, off, none⟩)) (.slice ao n c)).run Try.prog w = .ok () (w.setCell ⟨b, off, none⟩ (.slice ao n c)) := by
  simp [go_sem, hc, hf]

set_option maxRecDepth 100000 in
set_option maxHeartbeats 4000000 in
theorem leave_any (bc : Nat) (ids next prev : Value) (bfo bfi lead : Nat) (cm : Value) (bp cp : Nat) (p0 : List Nat) (u : Nat) (bs bt n b0 b1 b2 b3 : Nat) (fr dp size pos : Nat → Int) (ao : Option Addr) (c : Nat) (top : Nat → Int) (held : List (Int × Int)) (lo sz : Nat) (w : World)
    (hC : Rec w bc 61 (cyc ids next prev bfo bfi lead cm (.slice (some ⟨bp, 0, none⟩) (p0.length + 1) cp) bs)) (hP : Sl w 3 1 (some ⟨bp, 0, none⟩) (p0.length + 1) cp (ints (p0 ++ [u]))) (hu : u < n) (hn : n ≤ 1024) (hpl : p0.length ≤ 1024)
    (hF : Fo w bfi b0 b1 b2 b3 n fr dp size pos) (hlo : pos u = lo) (hsz : size u = sz) (hls : lo + sz ≤ n) (hI : Iv w bs bt n ao c top held) (hh : held.length ≤ 524288) (h0 : 0 < held.length) (hc : (nodes n lo (lo + sz)).length ≤ held.length)
    (hv : ∀ l x, (l ++ [x]) <+: nodes n lo (lo + sz) → ∃ t : Nat, t < held.length ∧ (l.foldl (popN held) top) x = (t : Int))
    (d1 : ∀ b ∈ [bc, bp, bfi, b2, b3], b ≠ bs ∧ b ≠ bt) (d2 : bc ≠ bp) (d3 : blk ao ≠ some bc) :
    Calls Try.prog 39 #[.pointer (some ⟨bc, 0, none⟩)] w fun e w' => e = .returned (.tuple #[]) ∧
      Rec w' bc 61 (cyc ids next prev bfo bfi lead cm (.slice (some ⟨bp, 0, none⟩) p0.length cp) bs) ∧ Sl w' 3 1 (some ⟨bp, 0, none⟩) p0.length cp (ints p0) ∧
      Iv w' bs bt n ao c ((nodes n lo (lo + sz)).foldl (popN held) top) (held.take (held.length - (nodes n lo (lo + sz)).length)) ∧ Fr (fun k => k = bs ∨ k = bt ∨ k = bc) w w' := by
  have c4 := hC.cell 4
  have c7 := hC.cell 7
  have c8 := hC.cell 8
  simp [cyc] at c4 c7 c8
  have q1 : w.cell? ⟨bp, p0.length, none⟩ = some (.int .i64 (u : Int)) := by
    obtain ⟨b, hb, hc⟩ := hP.cell (j := p0.length) (v := .int .i64 (u : Int)) (by simp [ints])
    simp at hb
    subst hb
    exact hc
  have f2 := hF.str.cell 2
  have f3 := hF.str.cell 3
  simp at f2 f3
  have e2 := hF.i2.cell hu
  have e3 := hF.i3.cell hu
  rw [hsz] at e2
  rw [hlo] at e3
  have dc := d1 bc (by simp)
  have dp' := d1 bp (by simp)
  have df := d1 bfi (by simp)
  have d2' := d1 b2 (by simp)
  have d3' := d1 b3 (by simp)
  have HD := hid (And.intro dc (And.intro dp' (And.intro df (And.intro d2' d3'))))
  have HC := hid hC
  have HP := hid hP
  have HI := hid hI
  have HV := hid hv
  have HCC := hid hc
  have hcap : p0.length + 1 ≤ cp := by
    rcases hP.form with ⟨h, _⟩ | ⟨g, cur, h1, _, h2, _⟩
    · cases h
    · exact h2
  have POP := hid (show ∀ w0 : World, Iv w0 bs bt n ao c top held → Calls Try.prog 47 #[.pointer (some ⟨bs, 0, none⟩), .int .i64 lo, .int .i64 ((lo : Int) + sz)] w0 fun e w' => e = .returned (.tuple #[]) ∧
      Iv w' bs bt n ao c ((nodes n lo (lo + sz)).foldl (popN held) top) (held.take (held.length - (nodes n lo (lo + sz)).length)) ∧ Fr (fun k => k = bs ∨ k = bt) w0 w' from
    fun w0 h => by
      have := pop_any bs bt n ao c top held lo (lo + sz) w0 h hn (by omega) hls hh h0 hc hv
      rwa [Int.natCast_add] at this)
  clear hC hP hI hv hc hF d1 dc dp' df d2' d3' hsz hlo
  have hwr : IntKind.i64.wrap ((lo : Int) + (sz : Int)) = (lo : Int) + (sz : Int) := by rw [IntKind.wrap_i64]; omega
  go_enter Try.func39, Try.ntmps39
  go_upto_region 0 with fail
  go_quiet (fail)
  go_wp2_with fail
  go_region_held3 (fun w' => w'.cell? ⟨bc, 4, none⟩ = some (.pointer (some ⟨bfi, 0, none⟩)) ∧ w'.cell? ⟨bc, 8, none⟩ = some (.pointer (some ⟨bs, 0, none⟩)) ∧ w'.cell? ⟨bfi, 2, none⟩ = some (.slice (some ⟨b2, 0, none⟩) n n) ∧ w'.cell? ⟨bfi, 3, none⟩ = some (.slice (some ⟨b3, 0, none⟩) n n) ∧ w'.cell? ⟨b2, u, none⟩ = some (.int .i64 sz) ∧ w'.cell? ⟨b3, u, none⟩ = some (.int .i64 lo))
    (((try simp only [World.cell?_drew, World.cell?_drewN]); refine ⟨?_, ?_, ?_, ?_, ?_, ?_⟩ <;> with_reducible assumption))
    ((go_at_call 47; (try rw [hwr]); refine (POP.out (w.drewN (nq + 1)) (HI.out.fr (M := Nothing) ((Fr.refl _ w).drewN _) (fun q => q) (fun q => q) (fun _ _ q => q))).mono ?_; rintro e w2 ⟨rfl, hI2, hF2⟩; have g4 := hF2.cell c4 (by have := HD.out.1; omega); have g8 := hF2.cell c8 (by have := HD.out.1; omega); have g2 := hF2.cell f2 (by have := HD.out.2.2.1; omega); have g3 := hF2.cell f3 (by have := HD.out.2.2.1; omega); have g22 := hF2.cell e2 (by have := HD.out.2.2.2.1; omega); have g33 := hF2.cell e3 (by have := HD.out.2.2.2.2; omega)))
  have HI2 := hid hI2
  have HF2 := hid hF2
  have P2 := hid (HP.out.fr (w' := w2) (((Fr.refl (fun k => k = bs ∨ k = bt) w).drewN (nq + 1)).trans hF2 (fun _ _ q => q)) (fun g hg => by simp [blk] at hg; subst hg; have := HD.out.2.1; omega))
  have C2 := hid (HC.out.fr (w' := w2) (((Fr.refl (fun k => k = bs ∨ k = bt) w).drewN (nq + 1)).trans hF2 (fun _ _ q => q)) (by have := HD.out.1; omega))
  have h7 := C2.out.cell 7
  have z7 := C2.out.frozen 7
  simp [cyc] at h7
  clear hI2 hF2 c4 c7 c8 q1 f2 f3 e2 e3 g4 g8 g2 g3 g22 g33
  go_upto_region 2 with fail
  go_region
  go_end0
  have hpre := (P2.out.pre (m := p0.length) (by omega))
  refine ⟨rfl, ?_, ?_, ?_, ?_⟩
  · have := C2.out.set 7 (.slice (some ⟨bp, 0, none⟩) p0.length cp)
    simpa [cyc] using this
  · have := hpre.setOther (p := ⟨bc, 7, none⟩) (by simpa [blk] using d2.symm) (.slice (some ⟨bp, 0, none⟩) p0.length cp)
    simpa [ints] using this
  · refine Iv.drew (HI2.out.setOther ⟨bc, 7, none⟩ _ ?_ ?_ d3)
    · have := HD.out.1.1; exact fun q => this q.symm
    · have := HD.out.1.2; exact fun q => this q.symm
  · refine Fr.drew (Fr.setCell ((((Fr.refl _ w).drewN (nq + 1)).trans HF2.out ?_)) (fun _ => .inr (.inr rfl)) _)
    rintro i _ (q | q)
    · exact .inl q
    · exact .inr (.inl q)
end Go.Proofs.Qxb6615025a
