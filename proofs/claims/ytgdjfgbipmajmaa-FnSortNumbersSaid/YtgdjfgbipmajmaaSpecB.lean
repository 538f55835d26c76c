/- The reference: Sorted, Bag. -/
import Derived.Test.YtgdjfgbipmajmaaSpecA
import Derived.Test.YtgdjfgbipmajmaaSortG
import Derived.Test.YtgdjfgbipmajmaaAlike
namespace Go.Nl
open Go.RowKit Go.Sort Go.Proofs

theorem intV_get (xs : List Int) (j : Nat) (hj : j < xs.length) : (xs.map intV)[j]? = some (.int .i64 xs.toArray[j]!) := by
  rw [List.getElem?_map, List.getElem?_eq_getElem hj, getElem!_pos _ j (by simpa using hj)]
  simp [intV]

/-- A row of numbers, as the sort takes it. -/
theorem RowAt.nums {w : World} {g n cap : Nat} {xs : List Int} (h : RowAt w g n cap 3 1 (xs.map intV)) : Nums w g cap xs.toArray := by
  obtain ⟨cur, hb, hc, ht⟩ := h.row
  have hl := h.len
  simp only [List.length_map, Nat.mul_one] at hl
  refine ⟨by have := h.le; simp; omega, cur, hb, by simpa using hc, ?_⟩
  intro j hj
  have hj' : j < xs.length := by simpa using hj
  have := h.cell j _ (intV_get xs j hj')
  rwa [hb.cell] at this

theorem Nums.row_at {w : World} {g n cap : Nat} {d : Array Int} (h : Nums w g cap d) (hn : d.size = n) : RowAt w g n cap 3 1 (d.toList.map intV) := by
  obtain ⟨cs, hb, hs, hc⟩ := h.row
  have hle := h.le
  refine ⟨by simp [hn], by omega, cs, hb, by simpa using hs, ?_⟩
  rw [Nat.mul_one]
  apply List.ext_getElem?
  intro j
  rw [List.getElem?_take]
  by_cases hj : j < n
  · rw [if_pos hj]
    have h2 := hc j (by omega)
    have h3 := intV_get d.toList j (by simpa [hn] using hj)
    simp only [Array.toArray_toList] at h3
    rw [h3, ← h2]
    simp
  · rw [if_neg hj, List.getElem?_eq_none (by simp; omega)]

theorem inOrd_of {lt : Int → Int → Bool} {d : Array Int} (h : SortedIn lt 0 d.size d) : InOrd lt d.toList := by
  unfold InOrd
  rw [List.pairwise_iff_getElem]
  intro i j hi hj hij
  have := h i j (Nat.zero_le _) hij (by simpa using hj)
  rw [getElem!_pos d i (by simpa using hi), getElem!_pos d j (by simpa using hj)] at this
  simpa using this

theorem insertion_none (ad : Option Addr) (w : World) (fv : Value) : Calls Try.prog 84 #[.slice ad 0 0, .int .i64 0, .int .i64 0, fv] w fun e w' => e = .returned (.tuple #[]) ∧ w = w' := by
  go_enter Try.func84, Try.ntmps84
  go_wp2_with fail
  go_loopg [8] 1 (fun gg si wr => si = .int .i64 1 ∧ 1 ≤ gg ∧ w = wr)
  case atStart => exact ⟨rfl, by omega, rfl⟩
  case round =>
    obtain ⟨rfl, hg, rfl⟩ := hrel
    go_wp2_with fail
    go_end0
    exact ⟨rfl, rfl⟩

theorem stable_none (ad : Option Addr) (w : World) (pb : Nat) : Calls Try.prog 68 #[.slice ad 0 0, .int .i64 0, cmpFn pb] w fun e w' => e = .returned (.tuple #[]) ∧ w = w' := by
  go_enter Try.func68, Try.ntmps68
  go_wp2_with fail
  go_loopg [7, 8] 1 (fun gg sa sb wr => sa = .int .i64 0 ∧ sb = .int .i64 20 ∧ 1 ≤ gg ∧ w = wr)
  case atStart => exact ⟨rfl, rfl, by omega, rfl⟩
  case round =>
    obtain ⟨rfl, rfl, hg, rfl⟩ := hrel
    have hc := insertion_none ad w (cmpFn pb)
    go_wp2_with fail
    refine hc.mono ?_
    rintro e w2 ⟨rfl, rfl⟩
    go_wp2_with fail
    go_loopg [6, 7, 8, 9] 1 (fun gg s6 s7 s8 s9 wr => s6 = .int .i64 20 ∧ 1 ≤ gg ∧ w = wr)
    case atStart => exact ⟨rfl, by omega, rfl⟩
    case round =>
      obtain ⟨rfl, hg, rfl⟩ := hrel
      go_wp2_with fail
      go_end0
      exact ⟨rfl, rfl⟩

/-- Sorted in place. -/
def SortPost (base : Nat) (w : World) (ad : Option Addr) (n c : Nat) (kind m : Int) (xs : List Int) (e : Ending) (w' : World) : Prop :=
  e = .returned (.tuple #[]) ∧ ∃ L : List Int, L.Perm xs ∧ InOrd (ltK kind m) L ∧ OwnRow base w' ad n c 3 1 (L.map intV) ∧ Kept (Mine base ad) w w'

theorem sortSlice_of {ad : Option Addr} {n c pb : Nat} {w : World} {Q : World → Prop} (h : Calls Try.prog 68 #[.slice ad n c, .int .i64 n, cmpFn pb] w fun e w' => e = .returned (.tuple #[]) ∧ Q w') :
    Calls Try.prog 45 #[.slice ad n c, cmpFn pb] w fun e w' => e = .returned (.tuple #[]) ∧ Q w' := by
  have H := Lib.hid h; clear h
  go_enter Try.func45, Try.ntmps45
  go_wp2_with fail
  refine H.out.mono ?_
  rintro e w2 ⟨rfl, hq⟩
  have HQ := Lib.hid hq; clear hq
  go_wp2_with fail
  go_end0
  exact ⟨rfl, HQ.out⟩

theorem sortSlice_any {base : Nat} {w : World} {ad : Option Addr} {n c pb : Nat} {kind m : Int} {xs : List Int} (hO : Blk w pb (ordCells kind m) 23) (h : OwnRow base w ad n c 3 1 (xs.map intV)) (hpb : pb < base) (ok : OrdOk kind m) (hb : n ≤ 1048576) :
    Calls Try.prog 45 #[.slice ad n c, cmpFn pb] w (SortPost base w ad n c kind m xs) := by
  refine sortSlice_of (Q := fun w' => ∃ L : List Int, L.Perm xs ∧ InOrd (ltK kind m) L ∧ OwnRow base w' ad n c 3 1 (L.map intV) ∧ Kept (Mine base ad) w w') ?_
  have hlen := h.len
  simp only [List.length_map, Nat.mul_one] at hlen
  rcases h with ⟨rfl, rfl, hx⟩ | ⟨g, rfl, hg, h⟩
  · have hx' : xs = [] := by simpa using hx
    subst hx'
    refine (stable_none ad w pb).mono ?_
    rintro e w' ⟨he, rfl⟩
    exact ⟨he, [], List.Perm.refl _, List.Pairwise.nil, Or.inl ⟨rfl, rfl, rfl⟩, Kept.refl _ _⟩
  · refine (stable_any (d := xs.toArray) ⟨h.nums, hO, by omega⟩ ok (by simpa using hlen) hb c).mono ?_
    rintro e w' ⟨he, d', hs, hp, hso⟩
    have hsz : d'.size = n := by rw [hp.1]; simpa using hlen
    refine ⟨he, d'.toList, ?_, inOrd_of (by rw [hp.1]; exact hso), Or.inr ⟨g, rfl, hg, hs.1.nums.row_at hsz⟩, hs.2.mono (fun i _ hi => ⟨by omega, by rw [hi]⟩)⟩
    have := permIn_all_toList hp
    simpa using this

/-- What Sorted hands back: the same numbers, in order, in a slice of its own. -/
def Sorted' (w : World) (kind m : Int) (xs : List Int) (e : Ending) (w' : World) : Prop :=
  ∃ ad c, ∃ L : List Int, e = .returned (.slice ad xs.length c) ∧ L.Perm xs ∧ InOrd (ltK kind m) L ∧ OwnRow w.heap.size w' ad xs.length c 3 1 (L.map intV) ∧ Kept No w w'

theorem sorted_any {w : World} {ad : Option Addr} {n' : Nat} {kind m : Int} (xs : List Int) (hx : CellsAt w ad (xs.map intV)) (had : ad = none → n' = 0) (ok : OrdOk kind m) (hb : xs.length ≤ 1048576) :
    Calls Try.prog 29 #[.slice ad xs.length n', .agg #[.int .i64 kind, .int .i64 m]] w (Sorted' w kind m xs) := by
  have k1 : Kept No w (w.alloc (.cells #[.int .i64 kind, .int .i64 m] 23)) := (Kept.refl No w).alloc _
  have hO := Blk.new w #[.int .i64 kind, .int .i64 m] 23
  have hc := clone_any xs ad n' _ (hx.keptNo k1) had hb
  have hs : ∀ w2 ad2 c2, OwnRow (w.alloc (.cells #[.int .i64 kind, .int .i64 m] 23)).heap.size w2 ad2 xs.length c2 3 1 (xs.map intV) → Kept No (w.alloc (.cells #[.int .i64 kind, .int .i64 m] 23)) w2 →
      Calls Try.prog 45 #[.slice ad2 xs.length c2, cmpFn w.heap.size] w2 fun e w' => e = .returned (.tuple #[]) ∧ Sorted' w kind m xs (.returned (.slice ad2 xs.length c2)) w' := by
    intro w2 ad2 c2 h2 k2
    refine (sortSlice_any (hO.kept k2 (fun h => h)) h2 (by simp) ok hb).mono ?_
    rintro e w' ⟨he, L, p, o, r, k3⟩
    refine ⟨he, ad2, c2, L, rfl, p, o, r.down (by simp), (k1.trans k2 (fun _ _ h => h)).trans k3 (fun i hi h => ?_)⟩
    have := h.1
    simp at this
    omega
  have HC := Lib.hid hc; have HS := Lib.hid hs; clear hc hs hO k1 hx had
  go_enter Try.func29, Try.ntmps29
  go_wp2_with fail
  refine HC.out.mono ?_
  rintro e w2 ⟨ad2, c2, rfl, h2, k2⟩
  have H2 := Lib.hid (HS.out w2 ad2 c2 h2 k2); clear h2 k2
  go_wp2_with fail
  refine H2.out.mono ?_
  rintro e w3 ⟨rfl, hq⟩
  have HQ := Lib.hid hq; clear hq
  go_wp2_with fail
  go_ret
  exact HQ.out

end Go.Nl
