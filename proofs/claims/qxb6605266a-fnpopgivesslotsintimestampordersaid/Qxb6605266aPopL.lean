import Derived.Test.Qxb6605266aPopP
import Derived.Deep.CutRange
namespace Go.Proofs.Qxb6605266a.Pop
open Go Go.RowKit
open Go.Proofs.Qxb6605266a.Seq (blk)
set_option linter.unusedVariables false
set_option maxRecDepth 100000
attribute [-go_sem] Instr.build
attribute [local go_sem] fr_sz fr_ne fr_lt setCell_drewN setCell_drew alloc_drewN

theorem range_fr {w : World} {b o : Nat} {F : Fs} {i : Nat} (u : Bool) (h : ∀ k, k < 26 → w.cell? ⟨b, o + k, none⟩ = some (frCell F i k)) : w.rangeAt b o (frArr u F i).toList := fun j v hv => by
  have hj : j < 26 := by
    have := (List.getElem?_eq_some_iff.1 hv).1
    rw [Array.length_toList, frArr_size] at this; exact this
  rw [Array.getElem?_toList, frArr_get u _ _ _ hj] at hv
  rw [← Option.some.inj hv, h j hj]
theorem if39 (u : Bool) (F : Fs) (i : Nat) : (Try.prog.info? 39).map (·.size) = some (frArr u F i).toList.length := by rw [Array.length_toList, frArr_size]; exact info39
/-- a whole load of a frame inside its row, under a guard that says yes -/
theorem wpList_load_fr {ops : Array Oper} {rest : List Oper} {op : Oper} {a : Act} {w : World} {Q : Exit → Act → World → Prop} (hw : Region.wanted op (yielded ops a.tmps) = true) (x : Operand) (ho : op.op = .load 39 x)
    (b o : Nat) (hx : a.eval x = .pointer (some ⟨b, o, none⟩)) (u : Bool) (F : Fs) (i : Nat) (hc : w.rangeAt b o (frArr u F i).toList)
    (h : wpList Try.prog ops Q rest (a.put op.dst (.agg (frArr u F i))) w) : wpList Try.prog ops Q (op :: rest) a w :=
  BigFrame.wpList_want hw fun _ hK => wp_load_mid 39 x ho b o hx (frArr u F i).toList _ hc Try.underlying39 rfl (if39 u F i) (hK _ _ h)

set_option maxHeartbeats 4000000 in
theorem law_walk (u : Bool) (A : Option Addr) (n c b o : Nat) (F : Fs) (w : World) (hF : Arg A n b o F w) (hn : (n : Int) ≤ 9223372036854775807) (hR : Ran n F) (first next last : Int) (taken started : Bool) (empty : ByteArray) (out eo : Int)
    (HN : Hid (0 ≤ next ∧ next ≤ 4294967295 ∧ -9223372036854775808 ≤ out ∧ out ≤ 9223372036854775807 ∧ -9223372036854775808 ≤ eo ∧ eo ≤ 9223372036854775807)) :
    Calls Try.prog 5 #[.slice A n c, .int .i64 first, .int .u32 next, .int .u32 last, .bool taken, .bool started, .string empty, .int .i64 out, .int .i64 eo] w fun e w' => e = .returned (.bool true) ∧ Below w.heap.size w w' := by
  have hw : Below w.heap.size w w := ⟨rfl, rfl, rfl, Nat.le_refl _, fun _ _ => rfl⟩
  have HW : Hid (Below w.heap.size w w) := hw
  clear hw
  go_enter Try.func5, Try.ntmps5
  go_wp2_with fail
  refine (zzbytes_any A n c b o F w hF hn first next last taken started empty out eo).mono ?_
  rintro e w' ⟨⟨r, rfl⟩, rfl⟩
  cases r with
  | false =>
    go_wp2
    go_ret
    exact ⟨rfl, HW⟩
  | true =>
    by_cases h1 : (4096 : Int) < n
    · go_wp2
      go_ret
      exact ⟨rfl, HW⟩
    by_cases h2 : (65536 : Int) < empty.size
    · go_wp2
      go_ret
      exact ⟨rfl, HW⟩
    go_wp2
    go_loopw [19, 20] (fun z x wr => ∃ (s : Int) (k : Nat), k ≤ n ∧ z = .int .i64 s ∧ x = .int .i64 k ∧ wr = w') (fun _ x _ => n - (intOf x).toNat)
    case atStart => exact ⟨_, 0, by omega, rfl, rfl, rfl⟩
    case round =>
      obtain ⟨s, k, hk, rfl, rfl, rfl⟩ := hrel
      by_cases hlt : k < n
      · obtain rfl := hF.hA (by omega)
        have i0 : (0 : Int) ≤ (k : Int) := by omega
        have i1 : (k : Int) < n := by omega
        have hc := hF.c3 k hlt
        go_wp2
        go_roundw
        case rel => exact ⟨_, k + 1, by omega, rfl, by go_num, by trivial⟩
        case measure => simp [intOf]; omega
      · have hk2 : n = k := by omega
        subst hk2
        by_cases h3 : (1048576 : Int) < s
        · go_wp2
          go_ret
          exact ⟨rfl, HW⟩
        by_cases h4 : first < 0
        · go_wp2
          go_ret
          exact ⟨rfl, HW⟩
        by_cases h5 : (n : Int) < first
        · go_wp2
          go_ret
          exact ⟨rfl, HW⟩
        by_cases h6 : taken = false ∧ first < n
        · obtain ⟨rfl, h6⟩ := h6
          go_wp2
          go_ret
          exact ⟨rfl, HW⟩
        go_upto_region 14 with fail
        go_cut [103] from 96 to 103 (fun x wx => x = .bool false ∧ wx = wr)
        case first =>
          cases taken with
          | false =>
            have h7 : ¬ first < (n : Int) := fun h => h6 ⟨rfl, h⟩
            go_wp2
            go_meet
            exact ⟨rfl, rfl⟩
          | true =>
            go_wp2
            go_meet
            exact ⟨rfl, rfl⟩
        case rest =>
        obtain ⟨rfl, rfl⟩ := hcut
        go_upto_region 17 with fail
        generalize hsp : wrap64 (wrap32 ((last - next) % 4294967296)) = sp
        have HSP : Hid (sp = tsc last next) := by rw [← hsp]; exact tsc_wrap last next
        by_cases h7 : taken = true ∧ 10485760 < sp
        · obtain ⟨rfl, h7⟩ := h7
          go_wp2
          go_ret
          exact ⟨rfl, HW⟩
        by_cases h8 : taken = true ∧ sp = -2147483648
        · obtain ⟨rfl, h8⟩ := h8
          go_wp2
          go_ret
          exact ⟨rfl, HW⟩
        go_cut [117] from 109 to 117 (fun x wx => x = .bool false ∧ wx = wc)
        case first =>
          cases taken with
          | false =>
            go_wp2
            go_meet
            exact ⟨rfl, rfl⟩
          | true =>
            have h9 : ¬ 10485760 < sp := fun h => h7 ⟨rfl, h⟩
            have h10 : (sp == -2147483648) = false := beq_eq_false_iff_ne.2 fun h => h8 ⟨rfl, h⟩
            go_wp2
            go_meet
            exact ⟨rfl, rfl⟩
        case rest =>
        obtain ⟨rfl, rfl⟩ := hcut
        obtain ⟨W0, rfl⟩ : ∃ W0, W0 = wc := ⟨wc, rfl⟩
        obtain ⟨f, rfl⟩ : ∃ f : Nat, first = f := ⟨first.toNat, by omega⟩
        have hff : f ≤ n := by omega
        have HS : Hid ((taken = true → sp ≤ 10485760 ∧ sp ≠ -2147483648) ∧ (taken = false → f = n)) := by
          refine ⟨fun h => ⟨Int.not_lt.1 fun x => h7 ⟨h, x⟩, fun x => h8 ⟨h, x⟩⟩, fun h => ?_⟩
          have h9 : ¬ (f : Int) < n := fun x => h6 ⟨h, x⟩
          omega
        clear h6 h7 h8 hsp
        go_wp2
        go_loopw [22, 23] (fun z x wx => ∃ (p : Int) (i : Nat), f ≤ i ∧ i ≤ n ∧ z = .int .i64 p ∧ x = .int .i64 i ∧ (f < i → p = tsc (F.ts (i - 1)) next) ∧ Good F next sp f i ∧ Below W0.heap.size W0 wx) (fun _ x _ => n - (intOf x).toNat)
        case atStart => exact ⟨_, f, Nat.le_refl _, hff, rfl, rfl, fun h => by omega, Good.none F next sp f, HW⟩
        case round =>
          obtain ⟨p, i, hfi, hik, rfl, rfl, hp, hG, hB⟩ := hrel
          by_cases hlt : i < n
          · obtain rfl := hF.hA (by omega)
            have i0 : (0 : Int) ≤ (i : Int) := by omega
            have i1 : (i : Int) < n := by omega
            have hFr := arg_below hF hB
            have c0 := hFr.c0 i hlt
            have c1 := hFr.c1 i hlt
            have c2 := hFr.c2 i hlt
            have HG : Hid ((f < i → p = tsc (F.ts (i - 1)) next) ∧ Good F next sp f i ∧ Below W0.heap.size W0 wr) := ⟨hp, hG, hB⟩
            have s0 : IntKind.i64.wrap (F.st i) = F.st i := w64_in _ (hR.st0 i hlt) (by have := hR.st1 i hlt; omega)
            have s1 : IntKind.i64.wrap (F.sz i) = F.sz i := w64_in _ (hR.sz0 i hlt) (by have := hR.sz1 i hlt; omega)
            have s2 : IntKind.i64.wrap (F.st i + F.sz i) = F.st i + F.sz i := w64_in _ (by have := hR.st0 i hlt; have := hR.sz0 i hlt; omega) (by have := hR.st1 i hlt; have := hR.sz1 i hlt; omega)
            have HA : Hid (Arg (some ⟨b, o, none⟩) n b o F W0 ∧ Ran n F) := ⟨hF, hR⟩
            clear hp hG hB hFr hF hR
            go_upto_region 24 with fail
            generalize hof : wrap64 (wrap32 ((F.ts i - next) % 4294967296)) = of
            have HO : Hid (of = tsc (F.ts i) next) := by rw [← hof]; exact tsc_wrap _ _
            clear hof
            by_cases g1 : of < 0
            · go_wp2
              go_ret
              exact ⟨rfl, HG.2.2⟩
            by_cases g2 : sp < of
            · go_wp2
              go_ret
              exact ⟨rfl, HG.2.2⟩
            by_cases g3 : of ≤ p
            · go_wp2
              go_ret
              exact ⟨rfl, HG.2.2⟩
            by_cases hz : 0 < F.sz i
            · by_cases hz2 : 22 < F.st i + F.sz i
              · -- part l2a
                go_wp2
                go_big_quiet (fail)
                all_goals go_wp2
                go_ret
                exact ⟨rfl, below_drewN HG.2.2 _⟩
                -- end of l2a
              · -- part l2b
                go_wp2
                go_big_quiet (fail)
                all_goals go_wp2
                go_roundw
                case rel => exact ⟨_, i + 1, by omega, by omega, rfl, by go_num, fun _ => HO, HG.2.1.more (by rw [← HO]; omega) (by rw [← HO]; omega) (fun h => by have := HG.1 h; rw [← HO, ← this]; omega) (fun _ => by omega), below_drewN HG.2.2 _⟩
                case measure => simp [intOf]; omega
                -- end of l2b
            · -- part l2c
              have hz0 : F.sz i = 0 := by have := HA.2.sz0 i hlt; omega
              rw [hz0] at c2
              go_wp2
              go_big_quiet (fail)
              all_goals go_wp2
              go_roundw
              case rel => exact ⟨_, i + 1, by omega, by omega, rfl, by go_num, fun _ => HO, HG.2.1.more (by rw [← HO]; omega) (by rw [← HO]; omega) (fun h => by have := HG.1 h; rw [← HO, ← this]; omega) (fun h => by omega), below_drewN HG.2.2 _⟩
              case measure => simp [intOf]; omega
              -- end of l2c
          · have hin : n = i := by omega
            subst hin
            have HG : Hid (Good F next sp f n) := hG
            have hm := make40 F n (by omega)
            have hh0 : blk (wr.alloc (.cells (rowArr (partF F 0) n) 41)) wr.heap.size 41 (rowArr (partF F 0) n) := blk.new ..
            have hB0 := hB.alloc hB.size (.cells (rowArr (partF F 0) n) 41)
            have hle : W0.heap.size ≤ wr.heap.size := hB.size
            clear hG hB hp
            go_wp2
            clear hm
            generalize wr.alloc (.cells (rowArr (partF F 0) n) 41) = w3 at hh0 hB0 ⊢
            generalize wr.heap.size = h3 at hh0 hle ⊢
            go_loopw [26] (fun x wx => ∃ (i : Nat), i ≤ n ∧ x = .int .i64 i ∧ blk wx h3 41 (rowArr (partF F i) n) ∧ Below W0.heap.size W0 wx) (fun x _ => n - (intOf x).toNat)
            case atStart => exact ⟨0, by omega, rfl, hh0, hB0⟩
            case round =>
              clear hh0 hB0
              obtain ⟨i, hin, rfl, hh, hB⟩ := hrel
              by_cases hlt : i < n
              · -- part l3
                obtain rfl := hF.hA (by omega)
                have i0 : (0 : Int) ≤ (i : Int) := by omega
                have i1 : (i : Int) < n := by omega
                have hFr := arg_below hF hB
                have s0 := hFr.c0 i hlt
                have s1 := hFr.c1 i hlt
                have s2 := hFr.c2 i hlt
                have s3 := hFr.c3 i hlt
                have s4 : wr.rangeAt b (o + i * 26 + 4) (ocArr u (F.oc i)).toList := range_oct u (hFr.fr i hlt)
                have bl : b < W0.heap.size := cell_lt (hF.fr i hlt 0 (by omega))
                have hst : (storeCells ⟨h3, i * 26, none⟩ (frArr u F i).toList 0).run Try.prog wr.drew = .ok () (wr.setRow h3 (rowArr (partF F (i + 1)) n)).drew := store_cells u F n i 41 h3 wr.drew hlt hh
                have hk1 : ∀ c o, (wr.setRow h3 c).cell? ⟨b, o, none⟩ = wr.cell? ⟨b, o, none⟩ := fun c o => cell_setRow (by omega)
                have hk3 : ∀ c o cs, (wr.setRow h3 c).rangeAt b o cs = wr.rangeAt b o cs := fun c o cs => by unfold World.rangeAt; simp only [hk1]
                have hu37 : Try.prog.underlying 37 = some (.array 22 5) := Try.underlying37
                have hi37 : (Try.prog.info? 37).map (·.size) = some (ocArr u (F.oc i)).toList.length := by rw [Array.length_toList, ocArr_size]; exact info37
                have hbd := build41 u F i
                have hbd' : ∀ W, (Instr.build 41 #[(0, .int .u32 (F.ts i)), (1, .int .u8 (F.st i)), (2, .int .u8 (F.sz i)), (3, .string (F.ty i)), (4, .agg (ocArr u (F.oc i)).toList.toArray)]).run Try.prog W = .ok (.agg (frArr u F i)) W := hbd
                have HH : Hid (blk wr h3 41 (rowArr (partF F i) n) ∧ Below W0.heap.size W0 wr) := ⟨hh, hB⟩
                have HA : Hid (Arg (some ⟨b, o, none⟩) n b o F W0 ∧ Ran n F) := ⟨hF, hR⟩
                clear hh hB hFr hF hR
                go_wp2
                go_region_held3 (fun W => W.cell? ⟨b, o + i * 26, none⟩ = some (.int .u32 (F.ts i)) ∧ W.cell? ⟨b, o + i * 26 + 1, none⟩ = some (.int .u8 (F.st i)) ∧ W.cell? ⟨b, o + i * 26 + 2, none⟩ = some (.int .u8 (F.sz i)) ∧ W.cell? ⟨b, o + i * 26 + 3, none⟩ = some (.string (F.ty i)) ∧ W.rangeAt b (o + i * 26 + 4) (ocArr u (F.oc i)).toList) (refine ⟨?_, ?_, ?_, ?_, ?_⟩ <;> go_simp) (fail)
                all_goals go_wp2
                obtain ⟨hh, hB⟩ := HH
                go_roundw
                case rel =>
                  refine ⟨i + 1, by omega, by go_num, ?_, ?_⟩
                  · exact (hh.row (rowArr (partF F (i + 1)) n)).drewN 1
                  · exact below_drewN (below_setRow hB hle (rowArr (partF F (i + 1)) n)) 1
                case measure => simp [intOf]; omega
                -- end of l3
              · have hin2 : n = i := by omega
                subst hin2
                rw [row_all] at hh
                have hN := newq_any u W0 wr F n h3 hB (by omega) (fun j hj k hk => by rw [hh.cell]; exact rowArr_at F n j k hj hk) f next last taken started empty out eo
                clear hh hB
                generalize wr.heap.size + 1 = h at hN
                generalize wr.heap.size = g at hN
                go_wp2_with fail
                refine hN.mono ?_
                clear hN
                rintro e w4 ⟨rfl, I⟩
                rw [← Qv_zero started out eo f next HN.2.2.1 HN.2.2.2.1 HN.2.2.2.2.1 HN.2.2.2.2.2] at I
                have HA : Hid (Arg A n b o F W0 ∧ Ran n F) := ⟨hF, hR⟩
                have HI : Hid (Inv u W0 ⟨some ⟨h, 0, none⟩, n, last, taken, empty⟩ F g h (Qv started out eo f next 0 0) w4) := I
                clear I hF hR
                go_wp2
                go_loopw [28, 29, 30, 31] (fun x28 x29 x30 x31 wx => ∃ (c : Int) (p e i : Nat), f ≤ i ∧ i ≤ n ∧ x28 = .int .u32 c ∧ x29 = .int .i64 p ∧ x30 = .int .i64 e ∧ x31 = .int .i64 i ∧ Cur F next f i c ∧ p ≤ i * 65537 ∧ e ≤ i * 65537 ∧ Inv u W0 ⟨some ⟨h, 0, none⟩, n, last, taken, empty⟩ F g h (Qv started out eo i c p e) wx) (fun _ _ _ x _ => n - (intOf x).toNat)
                case atStart => exact ⟨next, 0, 0, f, Nat.le_refl _, hff, rfl, rfl, rfl, rfl, .inl ⟨rfl, rfl⟩, by omega, by omega, HI⟩
                case round =>
                  clear HI
                  obtain ⟨cu, p, e, i, hfi, hin, rfl, rfl, rfl, rfl, hC, hp, he, hI⟩ := hrel
                  by_cases hlt : i < n
                  · -- part l4
                    obtain rfl := HA.1.hA (by omega)
                    have i0 : (0 : Int) ≤ (i : Int) := by omega
                    have i1 : (i : Int) < n := by omega
                    have c0 := (arg_below HA.1 hI.gr).c0 i hlt
                    have HS1 : Hid (sp ≤ 10485760) := by
                      cases taken with
                      | true => exact (HS.1 rfl).1
                      | false => have := HS.2 rfl; omega
                    have HGP := gap_ran HG HS1 hfi hlt hC
                    have HC : Hid (Cur F next f i cu ∧ p ≤ i * 65537 ∧ e ≤ i * 65537 ∧ (-160 < tsc (F.ts i) cu ∧ tsc (F.ts i) cu ≤ 10485760)) := ⟨hC, hp, he, HGP⟩
                    have HI : Hid (Inv u W0 ⟨some ⟨h, 0, none⟩, n, last, taken, empty⟩ F g h (Qv started out eo i cu p e) wr) := hI
                    clear hC hp he hI HGP
                    go_upto_region 42 with fail
                    generalize hgp : wrap64 (wrap32 ((F.ts i - cu) % 4294967296)) = gp
                    have HGP : Hid (gp = tsc (F.ts i) cu) := by rw [← hgp]; exact tsc_wrap _ _
                    clear hgp c0
                    go_upto_if 235 with fail
                    go_cut [33] from 236 to 237 (fun x wx => x = .int .i64 (slots gp) ∧ wr = wx)
                    case first =>
                      by_cases g1 : 160 ≤ gp
                      · go_wp2
                        go_meet
                        exact ⟨congrArg (Value.int .i64) (quo_slots gp g1 (by rw [HGP]; exact HC.2.2.2.2)), rfl⟩
                      · go_wp2
                        go_meet
                        exact ⟨congrArg (Value.int .i64) (by rw [show slots gp = 0 from if_neg (by omega)]; rfl), rfl⟩
                    case rest =>
                    obtain ⟨rfl, rfl⟩ := hcut
                    go_wp2
                    go_loopw [34] (fun x wx => ∃ m : Nat, m ≤ slots gp ∧ x = .int .i64 m ∧ Inv u W0 ⟨some ⟨h, 0, none⟩, n, last, taken, empty⟩ F g h (Qv started out eo i ((cu + 160 * (m : Int)) % 4294967296) (p + m) (e + m)) wx) (fun x _ => slots gp - (intOf x).toNat)
                    case atStart => 
                      refine ⟨0, by omega, rfl, ?_⟩
                      rw [cur_zero cu (cur_ran HC.1 HN.1 HN.2.1).1 (cur_ran HC.1 HN.1 HN.2.1).2]
                      exact HI
                    case round =>
                      clear HI
                      obtain ⟨m, hm, rfl, hI⟩ := hrel
                      have HSL : Hid (slots gp ≤ 65536) := by rw [HGP]; exact slots_le HC.2.2.2.2
                      by_cases hmlt : m < slots gp
                      · -- part l5
                        have m1 : (m : Int) < slots gp := by omega
                        have m0 : (0 : Int) ≤ m := by omega
                        have m2 : (m : Int) ≤ 65536 := by have : slots gp ≤ 65536 := HSL
                                                          omega
                        have HI : Hid (Inv u W0 ⟨some ⟨h, 0, none⟩, n, last, taken, empty⟩ F g h (Qv started out eo i ((cu + 160 * (m : Int)) % 4294967296) (p + m) (e + m)) wr) := hI
                        clear hI
                        go_wp2_with fail
                        refine (empty_gap HI i rfl hlt (by show ¬ tsc (F.ts i) ((cu + 160 * (m : Int)) % 4294967296) < 160; exact gap_in (by rw [← HGP]; exact hmlt)) _ ?_).mono ?_
                        · first | rfl | exact step_next cu m (by omega)
                        rintro e w' ⟨rfl, hI⟩
                        rw [gave_Qv, cur_step] at hI
                        have HI2 : Hid (Inv u W0 ⟨some ⟨h, 0, none⟩, n, last, taken, empty⟩ F g h (Qv started out eo i ((cu + 160 * ((m + 1 : Nat) : Int)) % 4294967296) (p + m + 1) (e + m + 1)) w') := hI
                        clear hI
                        go_wp2
                        go_roundw
                        case rel => exact ⟨m + 1, by omega, by go_num, HI2⟩
                        case measure => simp [intOf]; omega
                        -- end of l5
                      · have hmm : m = slots gp := by omega
                        subst hmm
                        have hs1 : slots gp ≤ 65536 := HSL
                        have HI : Hid (Inv u W0 ⟨some ⟨h, 0, none⟩, n, last, taken, empty⟩ F g h (Qv started out eo i ((cu + 160 * (slots gp : Int)) % 4294967296) (p + slots gp) (e + slots gp)) wr) := hI
                        have hRF := range_fr u ((arg_below HA.1 hI.gr).fr i hlt)
                        clear hI
                        have z1 := HG.sz i hfi hlt
                        have hpop := zzpop_frame HI i rfl hlt (by show tsc (F.ts i) ((cu + 160 * (slots gp : Int)) % 4294967296) < 160; rw [HGP]; exact gap_end HC.2.2.2.1) (HA.2.st0 i hlt) (HA.2.sz0 i hlt) z1
                        rw [handed_Qv] at hpop
                        go_wp2_with fail
                        refine hpop.mono ?_
                        clear hpop
                        rintro _ w5 ⟨rfl, hI⟩
                        have HI5 : Hid (Inv u W0 ⟨some ⟨h, 0, none⟩, n, last, taken, empty⟩ F g h (Qv started out eo (i + 1) ((F.ts i + 160) % 4294967296) (p + slots gp + 1) (e + slots gp)) w5) := hI
                        have c0 := (arg_below HA.1 hI.gr).c0 i hlt
                        have c3 := (arg_below HA.1 hI.gr).c3 i hlt
                        have hRF := range_fr u ((arg_below HA.1 hI.gr).fr i hlt)
                        have hoc := octets_any hI u i hlt (HA.2.st0 i hlt) (HA.2.sz0 i hlt) z1
                        generalize octv F h i = ov at hoc ⊢
                        clear hI z1
                        go_wp2_with (refine wpList_load_fr rfl _ rfl b (o + i * 26) rfl u F i hRF ?_)
                        refine hoc.mono ?_
                        clear hoc hRF c3
                        rintro _ w6 ⟨rfl, hI⟩
                        have HI6 : Hid (Inv u W0 ⟨some ⟨h, 0, none⟩, n, last, taken, empty⟩ F g h (Qv started out eo (i + 1) ((F.ts i + 160) % 4294967296) (p + slots gp + 1) (e + slots gp)) w6) := hI
                        have c0 := (arg_below HA.1 hI.gr).c0 i hlt
                        clear hI
                        go_wp2
                        go_roundw
                        case rel => exact ⟨_, p + slots gp + 1, e + slots gp, i + 1, by omega, by omega, rfl, congrArg (Value.int .i64) (pops_add1 p (slots gp) i (by omega) HC.2.1 (by omega)), congrArg (Value.int .i64) (pops_add e (slots gp) i (by omega) HC.2.2.1 (by omega)), by go_num, .inr ⟨by omega, rfl⟩, by have := HC.2.1; omega, by have := HC.2.2.1; omega, HI6⟩
                        case measure => simp [intOf]; omega
                    -- end of l4
                  · have hin2 : n = i := by omega
                    subst hin2
                    have HC : Hid (Cur F next f n cu ∧ p ≤ n * 65537 ∧ e ≤ n * 65537) := ⟨hC, hp, he⟩
                    have HI : Hid (Inv u W0 ⟨some ⟨h, 0, none⟩, n, last, taken, empty⟩ F g h (Qv started out eo n cu p e) wr) := hI
                    clear hC hp he hI
                    go_upto_if 302 with fail
                    go_cut [28, 29, 30, 39, 40, 41] from 303 to 337 (fun x28 x29 x30 _ _ _ wx => ∃ (c : Int) (p e : Nat), x28 = .int .u32 c ∧ x29 = .int .i64 p ∧ x30 = .int .i64 e ∧ Inv u W0 ⟨some ⟨h, 0, none⟩, n, last, taken, empty⟩ F g h (Qv started out eo n c p e) wx ∧ (0 < tsc c last ∨ taken = false))
                    case first =>
                      -- part tail
                      cases taken with
                      | false =>
                        go_wp2
                        go_meet
                        exact ⟨cu, p, e, rfl, rfl, rfl, HI, .inr (by trivial)⟩
                      | true =>
                        have HT := tail_ran HG HSP (HS.1 rfl).1 (HS.1 rfl).2 hff HC.1
                        have HT2 : Hid (tsc last cu ≠ -2147483648 ∧ tsc last cu ≤ 10485760) := HT
                        clear HT
                        go_upto_region 59 with fail
                        generalize htl : wrap64 (wrap32 ((last - cu) % 4294967296)) = tl
                        have HTL : Hid (tl = tsc last cu) := by rw [← htl]; exact tsc_wrap _ _
                        clear htl
                        by_cases t0 : 0 ≤ tl
                        · have HQ := quo_tails tl t0 (by rw [HTL]; exact HT2.2)
                          have HTS : Hid (tails tl ≤ 65537 ∧ 0 ≤ tsc last cu) := ⟨tail_le t0 (by rw [HTL]; exact HT2.2), by rw [← HTL]; exact t0⟩
                          go_upto_region 61 with fail
                          rw [HQ]
                          clear HQ
                          go_wp2
                          go_loopw [41] (fun x wx => ∃ m : Nat, m ≤ tails tl ∧ x = .int .i64 m ∧ Inv u W0 ⟨some ⟨h, 0, none⟩, n, last, true, empty⟩ F g h (Qv started out eo n ((cu + 160 * (m : Int)) % 4294967296) (p + m) (e + m)) wx) (fun x _ => tails tl - (intOf x).toNat)
                          case atStart =>
                            refine ⟨0, by omega, rfl, ?_⟩
                            rw [cur_zero cu (cur_ran HC.1 HN.1 HN.2.1).1 (cur_ran HC.1 HN.1 HN.2.1).2]
                            exact HI
                          case round =>
                            clear HI
                            obtain ⟨m, hm, rfl, hI⟩ := hrel
                            have hs1 : tails tl ≤ 65537 := HTS.1
                            by_cases hmlt : m < tails tl
                            · have m1 : (m : Int) < tails tl := by omega
                              have m0 : (0 : Int) ≤ m := by omega
                              have m2 : (m : Int) ≤ 65536 := by omega
                              have HI : Hid (Inv u W0 ⟨some ⟨h, 0, none⟩, n, last, true, empty⟩ F g h (Qv started out eo n ((cu + 160 * (m : Int)) % 4294967296) (p + m) (e + m)) wr) := hI
                              clear hI
                              go_wp2_with fail
                              refine (empty_tail HI (by show (0 : Int) ≤ (n : Int); omega) (by show (n : Int) ≤ 4096; omega) (Int.le_refl _) (by show ¬ 0 < tsc ((cu + 160 * (m : Int)) % 4294967296) last; exact tail_in HTS.2 (by rw [← HTL]; exact hmlt)) rfl _ ?_).mono ?_
                              · first | rfl | exact step_next cu m (by omega)
                              rintro _ w' ⟨rfl, hI⟩
                              rw [gave_Qv, cur_step] at hI
                              have HI2 : Hid (Inv u W0 ⟨some ⟨h, 0, none⟩, n, last, true, empty⟩ F g h (Qv started out eo n ((cu + 160 * ((m + 1 : Nat) : Int)) % 4294967296) (p + m + 1) (e + m + 1)) w') := hI
                              clear hI
                              go_wp2
                              go_roundw
                              case rel => exact ⟨m + 1, by omega, by go_num, HI2⟩
                              case measure => simp [intOf]; omega
                            · have hmm : m = tails tl := by omega
                              subst hmm
                              have HI : Hid (Inv u W0 ⟨some ⟨h, 0, none⟩, n, last, true, empty⟩ F g h (Qv started out eo n ((cu + 160 * (tails tl : Int)) % 4294967296) (p + tails tl) (e + tails tl)) wr) := hI
                              clear hI
                              go_wp2
                              go_meet
                              exact ⟨_, p + tails tl, e + tails tl, rfl, congrArg (Value.int .i64) (pops_add p (tails tl) n (by omega) HC.2.1 hs1), congrArg (Value.int .i64) (pops_add e (tails tl) n (by omega) HC.2.2 hs1), HI, .inl (by rw [HTL]; exact tail_end HTS.2)⟩
                        · go_wp2
                          go_meet
                          exact ⟨cu, p, e, rfl, rfl, rfl, HI, .inl (tail_none (by rw [← HTL]; omega) HT2.1)⟩
                      -- end of tail
                    case rest =>
                    clear HC HI
                    obtain ⟨cx, px, ex, rfl, rfl, rfl, hI, hT⟩ := hcut
                    -- part fin
                    have hpop := zzpop_none hI (by show (0 : Int) ≤ (n : Int); omega) (by show (n : Int) ≤ 4096; omega) (Int.le_refl _) hT
                    clear hI hT
                    go_wp2_with fail
                    refine hpop.mono ?_
                    clear hpop
                    rintro _ w7 ⟨rfl, hI⟩
                    have HI := qstate_inv hI
                    clear hI
                    go_wp2_with fail
                    refine HI.mono ?_
                    clear HI
                    rintro _ w8 ⟨rfl, hI⟩
                    have HI : Hid (∀ ob, Below W0.heap.size W0 (w8.alloc ob)) := fun ob => (hI.alloc ob).gr
                    clear hI
                    rw [show qsArr ⟨some ⟨h, 0, none⟩, n, last, taken, empty⟩ (Qv started out eo n cx px ex) = #[.int .i64 n, .int .u32 cx, .int .u32 last, .bool taken, .bool (started || decide (0 < px)), .int .i64 (wrap64 (out + px)), .int .i64 (wrap64 (eo + ex))] from rfl]
                    cases started with
                    | true =>
                      rw [show (true || decide (0 < px)) = true from rfl]
                      go_wp2
                      go_ret
                      exact ⟨rfl, HI _⟩
                    | false =>
                      by_cases hp0 : 0 < px
                      · rw [show (false || decide (0 < px)) = true from decide_eq_true hp0]
                        have hp1 : (0 : Int) < px := by omega
                        go_wp2
                        go_ret
                        exact ⟨rfl, HI _⟩
                      · rw [show (false || decide (0 < px)) = false from decide_eq_false hp0]
                        obtain rfl : px = 0 := by omega
                        go_wp2
                        go_ret
                        exact ⟨rfl, HI _⟩
                    -- end of fin
end Go.Proofs.Qxb6605266a.Pop
