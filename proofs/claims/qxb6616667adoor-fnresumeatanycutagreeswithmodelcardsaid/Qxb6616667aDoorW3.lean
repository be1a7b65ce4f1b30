/-
  THE WALKS, 3: stringStop.
-/
import Derived.Test.Qxb6616667aDoorW2
import Derived.Deep.RegionWith
namespace Go.Proofs.Qxb6616667aDoor
open Go.RowKit

def Byt (zs : List Int) : Prop := ∀ z ∈ zs, 0 ≤ z ∧ z ≤ 255
theorem Byt.wf {zs : List Int} (h : Byt zs) : ∀ z ∈ zs, (Lit.int .u8 z).wf = true := fun z hz => by
  have := h z hz
  simp [Lit.wf, IntKind.min, IntKind.max, IntKind.signed, IntKind.bits]
  omega

/-- The eight bytes from k on. -/
def eight (zs : List Int) (k : Nat) : List Nat := ((zs.drop k).take 8).map Int.toNat
theorem eight_len (zs : List Int) (k : Nat) (h : k + 8 ≤ zs.length) : (eight zs k).length = 8 := by simp [eight]; omega
theorem leZ_val : ∀ (l : List Int), (∀ z ∈ l, 0 ≤ z ∧ z ≤ 255) → Lib.leZ l = ((Pl.val (l.map Int.toNat) : Nat) : Int)
  | [], _ => rfl
  | z :: r, h => by
    have h1 := h z (by simp)
    have h2 := leZ_val r (fun y hy => h y (by simp [hy]))
    simp only [Lib.leZ, List.map_cons, Pl.val, h2]
    omega

theorem f28 (b o n c : Nat) (zs : List Int) (k : Nat) (w : World) (hn : 8 ≤ n) (hl : k + 8 ≤ zs.length) (hz : Byt zs) (hcell : ∀ j, j < zs.length → w.cell? ⟨b, o + j, none⟩ = some (.int .u8 (zs.getD j 0))) :
    Calls Tryd.prog 28 #[.agg #[], .slice (some ⟨b, o + k, none⟩) n c] w fun e w' => e = .returned (.int .u64 ((Pl.val (eight zs k) : Nat) : Int)) ∧ Below w.heap.size w w' := by
  have h := Tryd.binary_LE_Uint64_z ⟨b, o + k, none⟩ n c (zs.drop k) w hn (by simp; omega) (fun i hi => by
    have := hcell (k + i) (by simp at hi; omega)
    rw [show (Addr.add ⟨b, o + k, none⟩ i) = ⟨b, o + (k + i), none⟩ from by simp [Addr.add, Nat.add_assoc]]
    rw [this]; simp) (fun z hz' => hz.wf z (List.mem_of_mem_drop hz'))
  rw [leZ_val _ (fun z hz' => hz z (List.mem_of_mem_drop (List.mem_of_mem_take hz')))] at h
  exact h

/-- The index of the first byte from i on that ends a run of a string's plain bytes. -/
def stopB (c : Int) : Bool := c == 34 || c == 92 || decide (c < 32)
def run : List Int → Nat
  | [] => 0
  | c :: cs => if stopB c = true then 0 else run cs + 1
def stopEnd (zs : List Int) (i : Nat) : Nat := i + run (zs.drop i)
theorem stopEnd_no (zs : List Int) (k : Nat) (hk : k < zs.length) (h : stopB zs[k] = false) : stopEnd zs k = stopEnd zs (k + 1) := by
  unfold stopEnd; rw [List.drop_eq_getElem_cons hk, run, if_neg (by simp [h])]; omega
theorem stopEnd_yes (zs : List Int) (k : Nat) (hk : k < zs.length) (h : stopB zs[k] = true) : stopEnd zs k = k := by
  unfold stopEnd; rw [List.drop_eq_getElem_cons hk, run, if_pos h]; omega
theorem stopEnd_end (zs : List Int) (k : Nat) (hk : zs.length ≤ k) : stopEnd zs k = k := by
  unfold stopEnd; rw [List.drop_eq_nil_of_le hk]; simp [run]
theorem stopEnd_skip (zs : List Int) (k : Nat) : ∀ m, k + m ≤ zs.length → (∀ j, j < m → ∀ h : k + j < zs.length, stopB zs[k + j] = false) → stopEnd zs k = stopEnd zs (k + m)
  | 0, _, _ => rfl
  | m + 1, hm, h => by
    rw [stopEnd_skip zs k m (by omega) (fun j hj h' => h j (by omega) h'), stopEnd_no zs (k + m) (by omega) (h m (by omega) (by omega))]
    rfl

theorem eight_get (zs : List Int) (k j : Nat) (h : k + 8 ≤ zs.length) (hj : j < 8) (hj' : j < (eight zs k).length) : (eight zs k)[j] = (zs[k + j]'(by omega)).toNat := by
  simp [eight]
theorem eight_byte (zs : List Int) (hz : Byt zs) (k : Nat) : ∀ b ∈ eight zs k, b < 256 := by
  intro b hb
  obtain ⟨z, hz', rfl⟩ := List.mem_map.1 hb
  have := hz z (List.mem_of_mem_drop (List.mem_of_mem_take hz'))
  omega
theorem stop_same (zs : List Int) (hz : Byt zs) (k j : Nat) (h : k + 8 ≤ zs.length) (hj : j < 8) (hj' : j < (eight zs k).length) : Pl.stopN ((eight zs k)[j]) = stopB (zs[k + j]'(by omega)) := by
  rw [eight_get zs k j h hj hj']
  have := hz (zs[k + j]'(by omega)) (List.getElem_mem _)
  rw [Bool.eq_iff_iff]
  simp [Pl.stopN, stopB]
  omega

/-- WHAT THE WORD SAYS OF THE EIGHT BYTES. -/
theorem word_law (zs : List Int) (hz : Byt zs) (k : Nat) (h : k + 8 ≤ zs.length) :
    (Pl.stopW (Pl.val (eight zs k)) = 0 → stopEnd zs k = stopEnd zs (k + 8)) ∧
    (Pl.stopW (Pl.val (eight zs k)) ≠ 0 → stopEnd zs k = k + Lib.ctz 64 (Pl.stopW (Pl.val (eight zs k))) / 8 ∧ Lib.ctz 64 (Pl.stopW (Pl.val (eight zs k))) ≤ 63) := by
  have hl := eight_len zs k h
  have hb := eight_byte zs hz k
  by_cases hex : ∃ m, m < 8 ∧ ∃ h' : k + m < zs.length, stopB zs[k + m] = true
  · -- the least such m
    have least : ∃ m, m < 8 ∧ (∃ h' : k + m < zs.length, stopB zs[k + m] = true) ∧ ∀ j, j < m → ∀ h' : k + j < zs.length, stopB zs[k + j] = false := by
      obtain ⟨m, hm, h', hs⟩ := hex
      have key : ∀ n, ∀ m, m ≤ n → m < 8 → (h' : k + m < zs.length) → stopB zs[k + m] = true → ∃ m, m < 8 ∧ (∃ h' : k + m < zs.length, stopB zs[k + m] = true) ∧ ∀ j, j < m → ∀ h' : k + j < zs.length, stopB zs[k + j] = false := by
        intro n
        induction n with
        | zero => intro m hm0 hm h' hs; exact ⟨m, hm, ⟨h', hs⟩, fun j hj => by omega⟩
        | succ n ih =>
          intro m hmn hm h' hs
          by_cases hall : ∀ j, j < m → ∀ h' : k + j < zs.length, stopB zs[k + j] = false
          · exact ⟨m, hm, ⟨h', hs⟩, hall⟩
          · obtain ⟨j, hj⟩ := Classical.not_forall.1 hall
            obtain ⟨hjm, hj⟩ := Classical.not_forall.1 hj
            obtain ⟨h2, hj⟩ := Classical.not_forall.1 hj
            exact ih j (by omega) (by omega) h2 (by simpa using hj)
      exact key m m (Nat.le_refl _) hm h' hs
    obtain ⟨m, hm, ⟨h', hs⟩, hno⟩ := least
    obtain ⟨hne, hctz⟩ := Pl.stopW_first (eight zs k) hl hb m hm (fun j hj => by rw [stop_same zs hz k j h (by omega)]; exact hno j hj _) (by rw [stop_same zs hz k m h hm]; exact hs)
    refine ⟨fun h0 => absurd h0 hne, fun _ => ⟨?_, by omega⟩⟩
    rw [hctz, stopEnd_skip zs k m (by omega) (fun j hj h2 => hno j hj h2), stopEnd_yes zs (k + m) h' hs]
    omega
  · have hno : ∀ j, j < 8 → ∀ h' : k + j < zs.length, stopB zs[k + j] = false := by
      intro j hj h'
      cases hs : stopB zs[k + j]
      · rfl
      · exact absurd ⟨j, hj, h', hs⟩ hex
    have h0 := Pl.stopW_none (eight zs k) hl hb (fun j hj => by rw [stop_same zs hz k j h hj]; exact hno j hj _)
    refine ⟨fun _ => stopEnd_skip zs k 8 h (fun j hj h2 => hno j hj h2), fun hne => absurd h0 hne⟩

end Go.Proofs.Qxb6616667aDoor
