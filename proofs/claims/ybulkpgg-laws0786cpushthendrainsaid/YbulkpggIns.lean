/-
  The contract of slices.Insert at []int, laid at this dump in plain words (written by the kit's lay-plain.mjs).
-/
import Derived.Shelf.Spec.SlicesInsert
import Derived.Test.YbulkpggProg
namespace Go.Proofs
open Go.Shelf
def Yba.lays21_ren : Go.Shelf.Ren := ⟨fun | 21 => 14 | 27 => 27 | 28 => 28 | 35 => 32 | 39 => 33 | n => n, fun | 22 => 53 | 3 => 3 | 4 => 4 | 0 => 0 | n => n, fun | n => n⟩
theorem Yba.lays21 : Go.Proofs.Lays2.n21 Yba.prog Yba.lays21_ren := {
  mixed := by kernel_rfl
  f21 := Yba.func14.trans (congrArg some (by kernel_rfl))
  f27 := Yba.func27.trans (congrArg some (by kernel_rfl))
  f28 := Yba.func28.trans (congrArg some (by kernel_rfl))
  f35 := Yba.func32.trans (congrArg some (by kernel_rfl))
  f39 := Yba.func33.trans (congrArg some (by kernel_rfl))
  t0 := Yba.underlying0
  a0 := Yba.isAgg0
  z0 := Yba.sizeOf0
  v0 := Yba.zeroValue0
  t3 := Yba.underlying3
  a3 := Yba.isAgg3
  z3 := Yba.sizeOf3
  v3 := Yba.zeroValue3
  t4 := Yba.underlying4
  a4 := Yba.isAgg4
  z4 := Yba.sizeOf4
  v4 := Yba.zeroValue4
  t22 := Yba.underlying53
  a22 := Yba.isAgg53
  z22 := Yba.sizeOf53
  v22 := Yba.zeroValue53
  i3 := by kernel_rfl }
end Go.Proofs
namespace Go.Proofs.Ybulkpgg
/-- slices.Insert of one number, there is room, ahead of the end. -/
theorem insert_shift (b n c i vb vc : Nat) (cs : List Value) (x : Value) (w : World) (hi : i < n) (hroom : n + 1 ≤ c) (hc63 : c ≤ 1024) (hvb : vb ≠ b)
    (hcl : cs.length = n) (hcs : ∀ j v, cs[j]? = some v → w.cell? ⟨b, 0 + j, none⟩ = some v) (hsp : ∀ j, j < n + 1 → (w.cell? ⟨b, 0 + j, none⟩).isSome = true) (hfz : ∀ j, j < n + 1 → w.frozen? ⟨b, 0 + j, none⟩ = false)
    (hvs : w.cell? ⟨vb, 0, none⟩ = some x) (h1c : ∀ v ∈ cs, v.oneCell' = true) (h1v : x.oneCell' = true)
    (tA tB : TypeId) (kA kB : Nat) (hsa : w.shape? vb = some (tA, kA)) (hsb : w.shape? b = some (tB, kB)) (hkB : kB ≠ 0) (hfa : w.frozen? ⟨vb, 0, none⟩ = false) (hfe : w.frozen? ⟨vb, kA, none⟩ = false) :
    Calls Yba.prog 14 #[.slice (some ⟨b, 0, none⟩) n c, .int .i64 i, .slice (some ⟨vb, 0, none⟩) 1 vc] w fun e w' =>
      e = .returned (.slice (some ⟨b, 0, none⟩) (n + 1) c) ∧ w' = (w.drew.setCells b (0 + (i + 1)) (cs.drop i)).setCells b (0 + i) [x] :=
  Any2.slices_Insert_int_shift Yba.lays21 b 0 n c i vb 0 1 vc cs [x] w hi (by omega) hroom (by omega) hvb hcl rfl hcs hsp hfz
    (fun j v h => by match j, h with | 0, h => simp at h; subst h; simpa using hvs) h1c (fun v hv => by simp at hv; subst hv; exact h1v) tA tB kA kB hsa hsb hkB hfa hfe

/-- slices.Insert of one number at the end, there is room. -/
theorem insert_end (b n c vb vc : Nat) (x : Value) (w : World) (hroom : n + 1 ≤ c) (hc63 : c ≤ 1024)
    (hsp : (w.cell? ⟨b, n, none⟩).isSome = true) (hfz : w.frozen? ⟨b, n, none⟩ = false) (hvs : w.cell? ⟨vb, 0, none⟩ = some x) (h1v : x.oneCell' = true) :
    Calls Yba.prog 14 #[.slice (some ⟨b, 0, none⟩) n c, .int .i64 n, .slice (some ⟨vb, 0, none⟩) 1 vc] w fun e w' =>
      e = .returned (.slice (some ⟨b, 0, none⟩) (n + 1) c) ∧ w' = w.setCells b (0 + n) [x] :=
  Any2.slices_Insert_int_end_room Yba.lays21 b 0 n c vb 0 1 vc [x] w (by omega) hroom (by omega) rfl
    (fun j hj => by obtain rfl : j = 0 := by omega
                    simpa using hsp) (fun j hj => by obtain rfl : j = 0 := by omega
                                                     simpa using hfz)
    (fun j v h => by match j, h with | 0, h => simp at h; subst h; simpa using hvs) (fun v hv => by simp at hv; subst hv; exact h1v)
end Go.Proofs.Ybulkpgg
