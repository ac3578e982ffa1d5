import Derived.Test.Qxb6601068aLaw
namespace Go.Proofs.Qxb6601068a
open Go.RowKit
set_option linter.unusedVariables false
set_option linter.unusedSimpArgs false

set_option maxHeartbeats 4000000 in
theorem law_true (a0 : Int) (m : Int) (w : World) (h0 : 0 ≤ a0) (h1 : a0 ≤ 65535) (hm : w.cell? ⟨0, 0, none⟩ = some (.int .i64 m)) :
    Calls Try.prog 9 #[.int .u16 a0, .bool true] w fun e w' => e = .returned (.bool true) ∧ Below w.heap.size w w' := by
  obtain ⟨n, rfl⟩ := Int.eq_ofNat_of_zero_le h0
  obtain ⟨k3, hk3⟩ : ∃ k3, k3 = n / 4096 % 16 := ⟨_, rfl⟩
  obtain ⟨k2, hk2⟩ : ∃ k2, k2 = n / 256 % 16 := ⟨_, rfl⟩
  obtain ⟨k1, hk1⟩ : ∃ k1, k1 = n / 16 % 16 := ⟨_, rfl⟩
  obtain ⟨k0, hk0⟩ : ∃ k0, k0 = n % 16 := ⟨_, rfl⟩
  have q3 : k3 < 16 := by omega
  have q2 : k2 < 16 := by omega
  have q1 : k1 < 16 := by omega
  have q0 : k0 < 16 := by omega
  have e3 : bits BinOp.and IntKind.u16 ((n : Int) / 4096) 15 = (k3 : Int) := by rw [and15 _ (by omega) (by omega)]; omega
  have e2 : bits BinOp.and IntKind.u16 ((n : Int) / 256) 15 = (k2 : Int) := by rw [and15 _ (by omega) (by omega)]; omega
  have e1 : bits BinOp.and IntKind.u16 ((n : Int) / 16) 15 = (k1 : Int) := by rw [and15 _ (by omega) (by omega)]; omega
  have e0 : bits BinOp.and IntKind.u16 (n : Int) 15 = (k0 : Int) := by rw [and15 _ (by omega) (by omega)]; omega
  have hN : 4096 * k3 + 256 * k2 + 16 * k1 + k0 = n := by omega
  have hV := validU k3 k2 k1 k0 q3 q2 q1 q0
  simp only [hN] at hV
  have hB : Hid (Below w.heap.size w (w.alloc (.cells #[.int .u8 92, .int .u8 117, .int .u8 ((hexU[k3]'(ltU q3)).toNat : Int), .int .u8 ((hexU[k2]'(ltU q2)).toNat : Int), .int .u8 ((hexU[k1]'(ltU q1)).toNat : Int), .int .u8 ((hexU[k0]'(ltU q0)).toNat : Int)] 5)).drew) := ((Below.refl _ _).alloc (Nat.le_refl _) _).drew
  have KK : ∀ v : Bool, validB (hexU[k3]'(ltU q3)) (hexU[k2]'(ltU q2)) (hexU[k1]'(ltU q1)) (hexU[k0]'(ltU q0)) = v → Calls Try.prog 21 #[.slice (some ⟨w.heap.size, 0, none⟩) 6 6] (w.alloc (.cells #[.int .u8 92, .int .u8 117, .int .u8 ((hexU[k3]'(ltU q3)).toNat : Int), .int .u8 ((hexU[k2]'(ltU q2)).toNat : Int), .int .u8 ((hexU[k1]'(ltU q1)).toNat : Int), .int .u8 ((hexU[k0]'(ltU q0)).toNat : Int)] 5)).drew fun e w' => e = .returned (.bool (!v)) ∧ Below (w.alloc (.cells #[.int .u8 92, .int .u8 117, .int .u8 ((hexU[k3]'(ltU q3)).toNat : Int), .int .u8 ((hexU[k2]'(ltU q2)).toNat : Int), .int .u8 ((hexU[k1]'(ltU q1)).toNat : Int), .int .u8 ((hexU[k0]'(ltU q0)).toNat : Int)] 5)).drew.heap.size (w.alloc (.cells #[.int .u8 92, .int .u8 117, .int .u8 ((hexU[k3]'(ltU q3)).toNat : Int), .int .u8 ((hexU[k2]'(ltU q2)).toNat : Int), .int .u8 ((hexU[k1]'(ltU q1)).toNat : Int), .int .u8 ((hexU[k0]'(ltU q0)).toNat : Int)] 5)).drew w' := by
    intro v hv
    exact zz_any w.heap.size _ _ _ _ m v _ ((six_new w [92, 117, ((hexU[k3]'(ltU q3)).toNat : Int), ((hexU[k2]'(ltU q2)).toNat : Int), ((hexU[k1]'(ltU q1)).toNat : Int), ((hexU[k0]'(ltU q0)).toNat : Int)] 5 (0, 0)).below ((Below.refl _ _).drew)) (cell_later hB.out hm) (rangeU ⟨k3, q3⟩) (rangeU ⟨k2, q2⟩) (rangeU ⟨k1, q1⟩) (rangeU ⟨k0, q0⟩) hv
  replace KK := hid KK
  clear hm hk3 hk2 hk1 hk0 hN h0
  have q3i : (k3 : Int) < 16 := by omega
  have q2i : (k2 : Int) < 16 := by omega
  have q1i : (k1 : Int) < 16 := by omega
  have q0i : (k0 : Int) < 16 := by omega
  by_cases s0 : n < 32
  · have hv := hid (hV.2 (by omega))
    have b38 : ((n : Int) == 38) = false := by simp; omega
    have b8232 : ((n : Int) == 8232) = false := by simp; omega
    have b8233 : ((n : Int) == 8233) = false := by simp; omega
    have s0i : (n : Int) < 32 := by omega
    have d0 : decide ((n : Int) < 32) = true := by simp; omega
    clear s0
    clear hV
    go_enter Try.func9, Try.ntmps9
    go_wp2
    go_region
    go_wp2_with fail
    refine (KK.out true hv.out).mono ?_
    rintro e w' ⟨rfl, hb⟩
    replace hb := hid hb
    go_wp2_with fail
    go_ret
    exact ⟨rfl, hB.out.trans (hb.out.mono hB.out.size)⟩
  by_cases s38 : n = 38
  · have hv := hid (hV.2 (by omega))
    have b38 : ((n : Int) == 38) = true := by simp; omega
    have b8232 : ((n : Int) == 8232) = false := by simp; omega
    have b8233 : ((n : Int) == 8233) = false := by simp; omega
    have s0i : ¬ (n : Int) < 32 := by omega
    have d0 : decide ((n : Int) < 32) = false := by simp; omega
    clear s0 s38
    clear hV
    go_enter Try.func9, Try.ntmps9
    go_wp2
    go_region
    go_wp2_with fail
    refine (KK.out true hv.out).mono ?_
    rintro e w' ⟨rfl, hb⟩
    replace hb := hid hb
    go_wp2_with fail
    go_ret
    exact ⟨rfl, hB.out.trans (hb.out.mono hB.out.size)⟩
  by_cases s8232 : n = 8232
  · have hv := hid (hV.2 (by omega))
    have b38 : ((n : Int) == 38) = false := by simp; omega
    have b8232 : ((n : Int) == 8232) = true := by simp; omega
    have b8233 : ((n : Int) == 8233) = false := by simp; omega
    have s0i : ¬ (n : Int) < 32 := by omega
    have d0 : decide ((n : Int) < 32) = false := by simp; omega
    clear s0 s8232
    clear hV
    go_enter Try.func9, Try.ntmps9
    go_wp2
    go_region
    go_wp2_with fail
    refine (KK.out true hv.out).mono ?_
    rintro e w' ⟨rfl, hb⟩
    replace hb := hid hb
    go_wp2_with fail
    go_ret
    exact ⟨rfl, hB.out.trans (hb.out.mono hB.out.size)⟩
  by_cases s8233 : n = 8233
  · have hv := hid (hV.2 (by omega))
    have b38 : ((n : Int) == 38) = false := by simp; omega
    have b8232 : ((n : Int) == 8232) = false := by simp; omega
    have b8233 : ((n : Int) == 8233) = true := by simp; omega
    have s0i : ¬ (n : Int) < 32 := by omega
    have d0 : decide ((n : Int) < 32) = false := by simp; omega
    clear s0 s8233
    clear hV
    go_enter Try.func9, Try.ntmps9
    go_wp2
    go_region
    go_wp2_with fail
    refine (KK.out true hv.out).mono ?_
    rintro e w' ⟨rfl, hb⟩
    replace hb := hid hb
    go_wp2_with fail
    go_ret
    exact ⟨rfl, hB.out.trans (hb.out.mono hB.out.size)⟩
  · have hv := hid (Bool.eq_false_iff.2 (fun h => absurd (hV.1 h) (by omega)))
    have b38 : ((n : Int) == 38) = false := by simp; omega
    have b8232 : ((n : Int) == 8232) = false := by simp; omega
    have b8233 : ((n : Int) == 8233) = false := by simp; omega
    have s0i : ¬ (n : Int) < 32 := by omega
    have d0 : decide ((n : Int) < 32) = false := by simp; omega
    clear s0
    clear hV
    go_enter Try.func9, Try.ntmps9
    go_wp2
    go_region
    go_wp2_with fail
    refine (KK.out false hv.out).mono ?_
    rintro e w' ⟨rfl, hb⟩
    replace hb := hid hb
    go_wp2_with fail
    go_ret
    exact ⟨rfl, hB.out.trans (hb.out.mono hB.out.size)⟩

set_option maxHeartbeats 4000000 in
theorem law_false (a0 : Int) (m : Int) (w : World) (h0 : 0 ≤ a0) (h1 : a0 ≤ 65535) (hm : w.cell? ⟨0, 0, none⟩ = some (.int .i64 m)) :
    Calls Try.prog 9 #[.int .u16 a0, .bool false] w fun e w' => e = .returned (.bool true) ∧ Below w.heap.size w w' := by
  obtain ⟨n, rfl⟩ := Int.eq_ofNat_of_zero_le h0
  obtain ⟨k3, hk3⟩ : ∃ k3, k3 = n / 4096 % 16 := ⟨_, rfl⟩
  obtain ⟨k2, hk2⟩ : ∃ k2, k2 = n / 256 % 16 := ⟨_, rfl⟩
  obtain ⟨k1, hk1⟩ : ∃ k1, k1 = n / 16 % 16 := ⟨_, rfl⟩
  obtain ⟨k0, hk0⟩ : ∃ k0, k0 = n % 16 := ⟨_, rfl⟩
  have q3 : k3 < 16 := by omega
  have q2 : k2 < 16 := by omega
  have q1 : k1 < 16 := by omega
  have q0 : k0 < 16 := by omega
  have e3 : bits BinOp.and IntKind.u16 ((n : Int) / 4096) 15 = (k3 : Int) := by rw [and15 _ (by omega) (by omega)]; omega
  have e2 : bits BinOp.and IntKind.u16 ((n : Int) / 256) 15 = (k2 : Int) := by rw [and15 _ (by omega) (by omega)]; omega
  have e1 : bits BinOp.and IntKind.u16 ((n : Int) / 16) 15 = (k1 : Int) := by rw [and15 _ (by omega) (by omega)]; omega
  have e0 : bits BinOp.and IntKind.u16 (n : Int) 15 = (k0 : Int) := by rw [and15 _ (by omega) (by omega)]; omega
  have hN : 4096 * k3 + 256 * k2 + 16 * k1 + k0 = n := by omega
  have hV := validL k3 k2 k1 k0 q3 q2 q1 q0
  simp only [hN] at hV
  have hB : Hid (Below w.heap.size w (w.alloc (.cells #[.int .u8 92, .int .u8 117, .int .u8 ((hexL[k3]'(ltL q3)).toNat : Int), .int .u8 ((hexL[k2]'(ltL q2)).toNat : Int), .int .u8 ((hexL[k1]'(ltL q1)).toNat : Int), .int .u8 ((hexL[k0]'(ltL q0)).toNat : Int)] 5)).drew) := ((Below.refl _ _).alloc (Nat.le_refl _) _).drew
  have KK : ∀ v : Bool, validB (hexL[k3]'(ltL q3)) (hexL[k2]'(ltL q2)) (hexL[k1]'(ltL q1)) (hexL[k0]'(ltL q0)) = v → Calls Try.prog 21 #[.slice (some ⟨w.heap.size, 0, none⟩) 6 6] (w.alloc (.cells #[.int .u8 92, .int .u8 117, .int .u8 ((hexL[k3]'(ltL q3)).toNat : Int), .int .u8 ((hexL[k2]'(ltL q2)).toNat : Int), .int .u8 ((hexL[k1]'(ltL q1)).toNat : Int), .int .u8 ((hexL[k0]'(ltL q0)).toNat : Int)] 5)).drew fun e w' => e = .returned (.bool (!v)) ∧ Below (w.alloc (.cells #[.int .u8 92, .int .u8 117, .int .u8 ((hexL[k3]'(ltL q3)).toNat : Int), .int .u8 ((hexL[k2]'(ltL q2)).toNat : Int), .int .u8 ((hexL[k1]'(ltL q1)).toNat : Int), .int .u8 ((hexL[k0]'(ltL q0)).toNat : Int)] 5)).drew.heap.size (w.alloc (.cells #[.int .u8 92, .int .u8 117, .int .u8 ((hexL[k3]'(ltL q3)).toNat : Int), .int .u8 ((hexL[k2]'(ltL q2)).toNat : Int), .int .u8 ((hexL[k1]'(ltL q1)).toNat : Int), .int .u8 ((hexL[k0]'(ltL q0)).toNat : Int)] 5)).drew w' := by
    intro v hv
    exact zz_any w.heap.size _ _ _ _ m v _ ((six_new w [92, 117, ((hexL[k3]'(ltL q3)).toNat : Int), ((hexL[k2]'(ltL q2)).toNat : Int), ((hexL[k1]'(ltL q1)).toNat : Int), ((hexL[k0]'(ltL q0)).toNat : Int)] 5 (0, 0)).below ((Below.refl _ _).drew)) (cell_later hB.out hm) (rangeL ⟨k3, q3⟩) (rangeL ⟨k2, q2⟩) (rangeL ⟨k1, q1⟩) (rangeL ⟨k0, q0⟩) hv
  replace KK := hid KK
  clear hm hk3 hk2 hk1 hk0 hN h0
  have q3i : (k3 : Int) < 16 := by omega
  have q2i : (k2 : Int) < 16 := by omega
  have q1i : (k1 : Int) < 16 := by omega
  have q0i : (k0 : Int) < 16 := by omega
  by_cases s0 : n < 32
  · have hv := hid (hV.2 (by omega))
    have b38 : ((n : Int) == 38) = false := by simp; omega
    have b8232 : ((n : Int) == 8232) = false := by simp; omega
    have b8233 : ((n : Int) == 8233) = false := by simp; omega
    have b60 : ((n : Int) == 60) = false := by simp; omega
    have b62 : ((n : Int) == 62) = false := by simp; omega
    have s0i : (n : Int) < 32 := by omega
    have d0 : decide ((n : Int) < 32) = true := by simp; omega
    clear s0
    clear hV
    go_enter Try.func9, Try.ntmps9
    go_wp2
    go_region
    go_wp2_with fail
    refine (KK.out true hv.out).mono ?_
    rintro e w' ⟨rfl, hb⟩
    replace hb := hid hb
    go_wp2_with fail
    go_ret
    exact ⟨rfl, hB.out.trans (hb.out.mono hB.out.size)⟩
  by_cases s38 : n = 38
  · have hv := hid (hV.2 (by omega))
    have b38 : ((n : Int) == 38) = true := by simp; omega
    have b8232 : ((n : Int) == 8232) = false := by simp; omega
    have b8233 : ((n : Int) == 8233) = false := by simp; omega
    have b60 : ((n : Int) == 60) = false := by simp; omega
    have b62 : ((n : Int) == 62) = false := by simp; omega
    have s0i : ¬ (n : Int) < 32 := by omega
    have d0 : decide ((n : Int) < 32) = false := by simp; omega
    clear s0 s38
    clear hV
    go_enter Try.func9, Try.ntmps9
    go_wp2
    go_region
    go_wp2_with fail
    refine (KK.out true hv.out).mono ?_
    rintro e w' ⟨rfl, hb⟩
    replace hb := hid hb
    go_wp2_with fail
    go_ret
    exact ⟨rfl, hB.out.trans (hb.out.mono hB.out.size)⟩
  by_cases s8232 : n = 8232
  · have hv := hid (hV.2 (by omega))
    have b38 : ((n : Int) == 38) = false := by simp; omega
    have b8232 : ((n : Int) == 8232) = true := by simp; omega
    have b8233 : ((n : Int) == 8233) = false := by simp; omega
    have b60 : ((n : Int) == 60) = false := by simp; omega
    have b62 : ((n : Int) == 62) = false := by simp; omega
    have s0i : ¬ (n : Int) < 32 := by omega
    have d0 : decide ((n : Int) < 32) = false := by simp; omega
    clear s0 s8232
    clear hV
    go_enter Try.func9, Try.ntmps9
    go_wp2
    go_region
    go_wp2_with fail
    refine (KK.out true hv.out).mono ?_
    rintro e w' ⟨rfl, hb⟩
    replace hb := hid hb
    go_wp2_with fail
    go_ret
    exact ⟨rfl, hB.out.trans (hb.out.mono hB.out.size)⟩
  by_cases s8233 : n = 8233
  · have hv := hid (hV.2 (by omega))
    have b38 : ((n : Int) == 38) = false := by simp; omega
    have b8232 : ((n : Int) == 8232) = false := by simp; omega
    have b8233 : ((n : Int) == 8233) = true := by simp; omega
    have b60 : ((n : Int) == 60) = false := by simp; omega
    have b62 : ((n : Int) == 62) = false := by simp; omega
    have s0i : ¬ (n : Int) < 32 := by omega
    have d0 : decide ((n : Int) < 32) = false := by simp; omega
    clear s0 s8233
    clear hV
    go_enter Try.func9, Try.ntmps9
    go_wp2
    go_region
    go_wp2_with fail
    refine (KK.out true hv.out).mono ?_
    rintro e w' ⟨rfl, hb⟩
    replace hb := hid hb
    go_wp2_with fail
    go_ret
    exact ⟨rfl, hB.out.trans (hb.out.mono hB.out.size)⟩
  by_cases s60 : n = 60
  · have hv := hid (hV.2 (by omega))
    have b38 : ((n : Int) == 38) = false := by simp; omega
    have b8232 : ((n : Int) == 8232) = false := by simp; omega
    have b8233 : ((n : Int) == 8233) = false := by simp; omega
    have b60 : ((n : Int) == 60) = true := by simp; omega
    have b62 : ((n : Int) == 62) = false := by simp; omega
    have s0i : ¬ (n : Int) < 32 := by omega
    have d0 : decide ((n : Int) < 32) = false := by simp; omega
    clear s0 s60
    clear hV
    go_enter Try.func9, Try.ntmps9
    go_wp2
    go_region
    go_wp2_with fail
    refine (KK.out true hv.out).mono ?_
    rintro e w' ⟨rfl, hb⟩
    replace hb := hid hb
    go_wp2_with fail
    go_ret
    exact ⟨rfl, hB.out.trans (hb.out.mono hB.out.size)⟩
  by_cases s62 : n = 62
  · have hv := hid (hV.2 (by omega))
    have b38 : ((n : Int) == 38) = false := by simp; omega
    have b8232 : ((n : Int) == 8232) = false := by simp; omega
    have b8233 : ((n : Int) == 8233) = false := by simp; omega
    have b60 : ((n : Int) == 60) = false := by simp; omega
    have b62 : ((n : Int) == 62) = true := by simp; omega
    have s0i : ¬ (n : Int) < 32 := by omega
    have d0 : decide ((n : Int) < 32) = false := by simp; omega
    clear s0 s62
    clear hV
    go_enter Try.func9, Try.ntmps9
    go_wp2
    go_region
    go_wp2_with fail
    refine (KK.out true hv.out).mono ?_
    rintro e w' ⟨rfl, hb⟩
    replace hb := hid hb
    go_wp2_with fail
    go_ret
    exact ⟨rfl, hB.out.trans (hb.out.mono hB.out.size)⟩
  · have hv := hid (Bool.eq_false_iff.2 (fun h => absurd (hV.1 h) (by omega)))
    have b38 : ((n : Int) == 38) = false := by simp; omega
    have b8232 : ((n : Int) == 8232) = false := by simp; omega
    have b8233 : ((n : Int) == 8233) = false := by simp; omega
    have b60 : ((n : Int) == 60) = false := by simp; omega
    have b62 : ((n : Int) == 62) = false := by simp; omega
    have s0i : ¬ (n : Int) < 32 := by omega
    have d0 : decide ((n : Int) < 32) = false := by simp; omega
    clear s0
    clear hV
    go_enter Try.func9, Try.ntmps9
    go_wp2
    go_region
    go_wp2_with fail
    refine (KK.out false hv.out).mono ?_
    rintro e w' ⟨rfl, hb⟩
    replace hb := hid hb
    go_wp2_with fail
    go_ret
    exact ⟨rfl, hB.out.trans (hb.out.mono hB.out.size)⟩


end Go.Proofs.Qxb6601068a
