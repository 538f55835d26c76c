/- Numbers put into interface values; a heap's Push of any numbers; what was got. -/
import Derived.Test.YtgdjfgbipmajmaaPushN
import Derived.Test.YtgdjfgbipmajmaaRow
namespace Go.Nl
open Go.RowKit Go.Sort Go.Proofs

/-- Push, of whatever numbers. -/
def pushV (lt : Int → Int → Bool) (d : Array Int) (xs : List Int) : Array Int := if xs.length = 1 then push1 lt d (xs.getD 0 0) else pushN lt d xs

theorem push_any {w : World} {hb lb : Nat} {ao : Option Nat} {c ob : Nat} {kind m : Int} {d : Array Int} (h : HO w hb lb ao c ob kind m d) (ok : OrdOk kind m) (xs : List Int) (ad : Option Addr) (n' : Nat)
    (hx : CellsAt w ad (xs.map box)) (had : ∀ a, ad = some a → ¬ own lb ao a.block) (hd : d.size + xs.length ≤ 1048576) :
    Calls Try.prog 58 #[.pointer (some ⟨hb, 0, none⟩), .slice ad xs.length n'] w fun e w' => e = .returned (.tuple #[]) ∧
      Left w hb lb ao ob kind m (pushV (ltK kind m) d xs) w' := by
  by_cases h1 : xs.length = 1
  · unfold pushV
    rw [if_pos h1]
    obtain ⟨x, rfl⟩ : ∃ x, xs = [x] := by
      cases xs with
      | nil => simp at h1
      | cons a l => cases l with
        | nil => exact ⟨a, rfl⟩
        | cons b l => simp at h1
    obtain ⟨vb, vo, rfl, hc⟩ := hx 0 (box x) rfl
    exact push_one h ok x vb vo n' hc (by simpa using hd)
  · unfold pushV
    rw [if_neg h1]
    refine push_many h ok xs ad n' ?_ had h1 hd
    intro j hj
    obtain ⟨vb, vo, ha, hc⟩ := hx j (box (xs.getD j 0)) (by rw [List.getElem?_map, List.getElem?_eq_getElem hj, List.getD_eq_getElem?_getD, List.getElem?_eq_getElem hj]; rfl)
    exact ⟨vb, vo, ha, hc⟩

theorem i20_parts : ∃ i, Try.prog.info? 20 = some i ∧ i.zero = some .nilIface ∧ i.size = 1 ∧ i.bytes = 16 := by
  obtain ⟨i, hi, h⟩ := Option.map_eq_some_iff.1 info20
  simp only [Prod.mk.injEq] at h
  exact ⟨i, hi, h.1, h.2.1, h.2.2⟩

def intV (x : Int) : Value := .int .i64 x

/-- What boxed leaves: a new row of the numbers in interface values. -/
def BoxedRow (w : World) (xs : List Int) (g cap : Nat) (w' : World) : Prop := RowAt w' g xs.length cap 20 1 (xs.map box) ∧ Kept No w w' ∧ w.heap.size ≤ g

theorem take_map_box (xs : List Int) (k : Nat) (hk : k < xs.length) (x : Int) (hx : xs[k]? = some x) : (xs.take k).map box ++ [box x] = (xs.take (k + 1)).map box := by
  rw [List.take_succ_eq_append_getElem hk, List.map_append]
  rw [List.getElem?_eq_getElem hk] at hx
  injection hx with hx
  rw [hx]; rfl

set_option maxHeartbeats 1000000 in
set_option maxRecDepth 100000 in
theorem boxed_any (xs : List Int) (ad : Option Addr) (n' : Nat) (w : World) (hx : CellsAt w ad (xs.map intV)) (hn : xs.length ≤ 1048576) :
    Calls Try.prog 50 #[.slice ad xs.length n'] w fun e w' => ∃ g cap, e = .returned (.slice (some ⟨g, 0, none⟩) xs.length cap) ∧ BoxedRow w xs g cap w' := by
  obtain ⟨i, hi, hz, hs, hb⟩ := i20_parts
  obtain ⟨n, hnn⟩ : ∃ n, xs.length = n := ⟨_, rfl⟩
  rw [hnn] at hn ⊢
  have Hi := Lib.hid hi; have Hz := Lib.hid hz; have Hs := Lib.hid hs; have Hb := Lib.hid hb; have Hx := Lib.hid hx; have Hn := Lib.hid hnn
  clear hi hz hs hb hx hnn
  go_enter Try.func50, Try.ntmps50
  go_wp2_with fail
  go_loopg [3, 9] (n + 1) (fun g s3 si wr => ∃ k b cap : Nat, s3 = .slice (some ⟨b, 0, none⟩) k cap ∧ si = .int .i64 k ∧ k ≤ n ∧ n + 1 - k ≤ g ∧ Hid (RowAt wr b k cap 20 1 ((xs.take k).map box) ∧ Kept No w wr ∧ w.heap.size ≤ b))
  case atStart =>
    refine ⟨0, _, 0, rfl, rfl, by omega, by omega, ?_⟩
    show _ ∧ _
    exact ⟨RowAt.new w #[] 20 1 0 rfl, (Kept.refl No w).alloc _, Nat.le_refl _⟩
  case round =>
    obtain ⟨k, b, cap, rfl, rfl, hk, hg, HR⟩ := hrel
    by_cases hkn : k < n
    · have hkl : k < xs.length := by rw [Hn.out]; exact hkn
      obtain ⟨x, hx⟩ : ∃ x, xs[k]? = some x := ⟨_, List.getElem?_eq_getElem hkl⟩
      obtain ⟨vb, vo, had, hc⟩ := (Hx.out.keptNo HR.out.2.1) k (intV x) (by rw [List.getElem?_map, hx]; rfl)
      subst had
      have k1 : Kept No wr (wr.alloc (.cells #[box x] 20)) := (Kept.refl No wr).alloc _
      have hrow := HR.out.1.kept k1 (fun h => h)
      obtain ⟨g', cap', w3, hap, hr3, hk3, hg3⟩ := append_row (P := Try.prog) 70 70 i .nilIface 1 16 hrow und70 Hi.out Hz.out Hs.out Hb.out rfl ⟨wr.heap.size, 0, none⟩ 1 1 [box x] rfl
        (fun j u hu => by
          rw [add_zero_off]
          exact (RowAt.new wr #[box x] 20 1 1 rfl).cell j u hu) (fun u hu => by simp at hu; subst hu; rfl) (by omega) (by omega)
      rw [take_map_box xs k hkl x hx] at hr3
      have hb0 := HR.out.2.2
      have hks := HR.out.2.1
      have hws := hks.size
      have fin : RowAt w3 g' (k + 1) cap' 20 1 ((xs.take (k + 1)).map box) ∧ Kept No w w3 ∧ w.heap.size ≤ g' := by
        refine ⟨hr3, hks.trans (Kept.trans (S := fun i => i = b) (k1.mono (fun _ _ h => h.elim)) hk3 (fun _ _ h => h)) (fun i hi h => by omega), ?_⟩
        rcases hg3 with rfl | h
        · exact hb0
        · simp at h; omega
      have HF := Lib.hid fin; have HA := Lib.hid hap
      clear k1 hrow hr3 hk3 hg3 hks hx fin hb0 hap
      unfold box intV at *
      go_wp2_with (at_builtin; refine wpList_append_run rfl (.tmp 13) (.tmp 16) 70 rfl _ _ _ rfl rfl HA.out ?_)
      go_roundg (n + 1 - (k + 1))
      case measure => omega
      case rel => exact ⟨k + 1, g', cap', rfl, by go_num, by omega, by omega, HF.out⟩
    · obtain rfl : k = n := by omega
      go_wp2_with fail
      go_ret
      refine ⟨b, cap, rfl, ?_⟩
      obtain ⟨h1, h2, h3⟩ := HR.out
      rw [List.take_of_length_le (by rw [Hn.out]; omega)] at h1
      exact ⟨by rw [Hn.out]; exact h1, h2, h3⟩

end Go.Nl
