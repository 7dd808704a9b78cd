import Derived.Test.Qxb6605297aPlain
namespace Go.Proofs.Qxb6605297a
open Go.RowKit

theorem Try.cells28 : Try.prog.cellsOf 28 = 4 := by kernel_rfl

def noStep : Step := ⟨⟨#[]⟩, ⟨#[]⟩, 0, 0⟩
def nth (cs : List Step) (i : Nat) : Step := cs.getD i noStep

/-- the four cells of each step, from place o of block b on -/
def Cal (w : World) (b o : Nat) (cs : List Step) : Prop := ∀ i, i < cs.length →
  w.cell? ⟨b, o + i * 4, none⟩ = some (.string (nth cs i).name) ∧ w.cell? ⟨b, o + i * 4 + 1, none⟩ = some (.string (nth cs i).key) ∧
  w.cell? ⟨b, o + i * 4 + 2, none⟩ = some (.int .u8 (nth cs i).kind) ∧ w.cell? ⟨b, o + i * 4 + 3, none⟩ = some (.int .u64 ((nth cs i).num : Int))

/-- a bool -/
def Bol (e : Ending) : Prop := ∃ r : Bool, e = .returned (.bool r)
def CntSt (len : Nat) (z i : Value) : Prop := ∃ zn k : Nat, z = .int .i64 zn ∧ i = .int .i64 k ∧ zn ≤ 1048576 ∧ k ≤ len

set_option maxRecDepth 100000 in
set_option maxHeartbeats 1600000 in
theorem bytes_is (b o cap : Nat) (cs : List Step) (w : World) (hl : cs.length ≤ 9223372036854775807) (hc : Cal w b o cs) :
    Calls Try.prog 8 #[.slice (some ⟨b, o, none⟩) cs.length cap] w fun e w' => Bol e ∧ w' = w := by
  have HC := hide hc
  clear hc
  by_cases hbig : 1048576 < cs.length
  · go_enter Try.func8, Try.ntmps8
    go_wp2_with fail
    go_ret
    exact ⟨⟨_, rfl⟩, rfl⟩
  go_enter Try.func8, Try.ntmps8
  go_wp2_with fail
  go_loop [3, 4] (fun z i => CntSt cs.length z i) (fun _ i => cs.length - (intOf i).toNat)
  case atStart => exact ⟨cs.length, 0, by simp, rfl, by omega, Nat.zero_le _⟩
  case round =>
    obtain ⟨zn, k, rfl, rfl, hz, hk⟩ := hrel
    by_cases hlt : k < cs.length
    · obtain ⟨c0, c1, _, _⟩ := unhide HC k hlt
      generalize (nth cs k).name = nm at c0
      generalize (nth cs k).key = ky at c1
      by_cases h1 : 1048576 < nm.size
      · go_wp2_with fail
        go_ret
        exact ⟨⟨_, rfl⟩, rfl⟩
      by_cases h2 : 1048576 < zn + nm.size
      · go_wp2_with fail
        go_ret
        exact ⟨⟨_, rfl⟩, rfl⟩
      by_cases h3 : 1048576 < ky.size
      · go_wp2_with fail
        go_ret
        exact ⟨⟨_, rfl⟩, rfl⟩
      by_cases h4 : 1048576 < zn + nm.size + ky.size
      · go_wp2_with fail
        go_ret
        exact ⟨⟨_, rfl⟩, rfl⟩
      go_wp2_with fail
      go_round
      case rel => exact ⟨zn + nm.size + ky.size, k + 1, by simp, by simp, by omega, by omega⟩
      case measure => simp [intOf]; omega
    · go_wp2_with fail
      go_ret
      exact ⟨⟨_, rfl⟩, rfl⟩
end Go.Proofs.Qxb6605297a
