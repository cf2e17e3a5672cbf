/-
  THE LAW's WALK (function 3).
-/
import Derived.Test.YbulkbrnoStart
import Derived.Test.YbulkbrnoNew
import Derived.Deep.DeepCutAuto
import Derived.Deep.CutBlock
import Derived.Deep.AppendLies
namespace Go.Proofs.Ybulkbrno.law
open Go.ChangeShapes Go.WideShapes Go.ChangeAt Go.RowKit plain mem slot add head state begin0 new0

theorem held_last {wr w' : World} {g gh i b : Nat} {k t y : Int} (f : Fr Nil wr w') (hg : g < wr.heap.size) (hh : gh < wr.heap.size)
    (y0 : wr.cell? ⟨g, i * 3, none⟩ = some (.int .u8 k)) (y1 : wr.cell? ⟨g, i * 3 + 1, none⟩ = some (.int .u32 t)) (y2 : wr.cell? ⟨g, i * 3 + 2, none⟩ = some (.int .u64 y)) (y3 : wr.cell? ⟨gh, i, none⟩ = some (.pointer (some ⟨b, 0, none⟩))) :
    Fr Nil wr w' ∧ w'.cell? ⟨g, i * 3, none⟩ = some (.int .u8 k) ∧ w'.cell? ⟨g, i * 3 + 1, none⟩ = some (.int .u32 t) ∧ w'.cell? ⟨g, i * 3 + 2, none⟩ = some (.int .u64 y) ∧ w'.cell? ⟨gh, i, none⟩ = some (.pointer (some ⟨b, 0, none⟩)) :=
  ⟨f, (World.cell?_of_block (f.block g hg (fun h => h))).trans y0, (World.cell?_of_block (f.block g hg (fun h => h))).trans y1, (World.cell?_of_block (f.block g hg (fun h => h))).trans y2, (World.cell?_of_block (f.block gh hh (fun h => h))).trans y3⟩

set_option maxRecDepth 100000 in
set_option maxHeartbeats 4000000 in
theorem walk (a0 a1 a2 : Int) (v : Option Addr) (len cap : Nat) (w2 : (Lit.int .u8 a2).wf = true) (w : World) (hlen : (len : Int) ≤ 1024)
    (hsteps : ∀ j, j < len → ∃ b off x0 x1 x2, v = some ⟨b, off, none⟩ ∧ b < w.heap.size ∧ w.cell? ⟨b, off + j * 3, none⟩ = some (.int .u8 x0) ∧ w.cell? ⟨b, off + j * 3 + 1, none⟩ = some (.int .u8 x1) ∧ w.cell? ⟨b, off + j * 3 + 2, none⟩ = some (.int .u8 x2) ∧ (0 ≤ x0 ∧ x0 ≤ 255) ∧ (0 ≤ x1 ∧ x1 ≤ 255) ∧ (0 ≤ x2 ∧ x2 ≤ 255)) :
    Calls Yba.prog 3 #[.int .u64 a0, .int .u64 a1, .int .u8 a2, .slice v len cap] w fun e w' => e = .returned (.bool true) ∧ Below w.heap.size w w' := by
  have hmk : ∀ w : World, (Instr.makeSlice 26 (.int .i64 8) (.int .i64 8)).run Yba.prog w = .ok (.slice (some ⟨w.heap.size, 0, none⟩) 8 8) (w.alloc (.cells (madeCells #[.pointer none] 8) 29)) := fun w => run_make_row' (P := Yba.prog) 26 29 (.pointer none) 8 Yba.underlying26 resize.info29 rfl .i64 .i64 8 (by omega) (by omega) w
  have b2 := bounds_u8 w2
  have HST := hidden hsteps
  clear hsteps
  go_enter Yba.func3, Yba.ntmps3
  go_upto_block 0 with fail
  obtain ⟨s1, hs1⟩ : ∃ s1, s1 = bits .or .u64 a1 9223372036854775808 := ⟨_, rfl⟩
  rw [← hs1]
  clear hmk hs1
  obtain ⟨n0, hn0⟩ : ∃ n0 : Nat, a2 % 3 = (n0 : Int) := ⟨(a2 % 3).toNat, by omega⟩
  rw [hn0]
  have hn2 : n0 ≤ 2 := by omega
  clear hn0
  obtain ⟨T, hT⟩ : ∃ T, T = w.heap.size + 1 + 1 := ⟨_, rfl⟩
  rw [← hT]
  obtain ⟨P, hP⟩ : ∃ P, P = T + 1 := ⟨_, rfl⟩
  rw [← hP]
  have HTP := hidden (show T = w.heap.size + 1 + 1 ∧ P = T + 1 from ⟨hT, hP⟩)
  clear hT hP
  go_cut [13] (fun i wc => ∃ q0 q1 p0 p1, Hid (St w T P a0 s1 q0 q1 wc n0 (w.heap.size + 1) (List.replicate 8 none) [] p0 p1 0))
  case first =>
    go_wp2_with fail
    go_loopw [13] (fun i wr => ∃ k : Nat, k ≤ n0 ∧ i = .int .i64 k ∧ ∃ q0 q1 p0 p1, Hid (St w T P a0 s1 q0 q1 wr k (w.heap.size + 1) (List.replicate 8 none) [] p0 p1 0))
      (fun i _ => n0 - (intOf i).toNat)
    case atStart =>
      obtain ⟨rfl, rfl⟩ := HTP.out
      exact ⟨0, Nat.zero_le _, rfl, none, none, _, _, st_start w a0 s1⟩
    case round =>
      obtain ⟨k, hk, rfl, q0, q1, p0, p1, H⟩ := hrel
      have hTr := blk_lt H.out.inv.tab.tab
      have hPr := blk_lt H.out.pre
      have hPT : P ≠ T := blk_ne H.out.pre H.out.inv.tab.tab (by decide)
      have hTP : T ≠ P := hPT.symm
      by_cases hlt : k < n0
      · have hk1 : k = 0 ∨ k = 1 := by omega
        rcases hk1 with rfl | rfl
        · have f1 : wr.frozen? ⟨P, 0, none⟩ = false := blk_frozen H.out.pre _
          have f2 : wr.frozen? ⟨T, 4, none⟩ = false := blk_frozen H.out.inv.tab.tab _
          have c1 : wr.cell? ⟨P, 0, none⟩ = some (pt q0) := by rw [blk_cell H.out.pre]; rfl
          have c2 : wr.cell? ⟨T, 4, none⟩ = some p0 := by rw [blk_cell H.out.inv.tab.tab]; rfl
          go_wp2_with fail
          go_roundw
          case rel => exact ⟨1, by omega, by go_num, _, _, _, _, take0 H.out⟩
          case measure => simp [intOf]; omega
        · have f1 : wr.frozen? ⟨P, 1, none⟩ = false := blk_frozen H.out.pre _
          have f2 : wr.frozen? ⟨T, 5, none⟩ = false := blk_frozen H.out.inv.tab.tab _
          have c1 : wr.cell? ⟨P, 1, none⟩ = some (pt q1) := by rw [blk_cell H.out.pre]; rfl
          have c2 : wr.cell? ⟨T, 5, none⟩ = some p1 := by rw [blk_cell H.out.inv.tab.tab]; rfl
          go_wp2_with fail
          go_roundw
          case rel => exact ⟨2, by omega, by go_num, _, _, _, _, take1 H.out⟩
          case measure => simp [intOf]; omega
      · go_wp2_with fail
        go_meet
        case rel =>
          obtain rfl : k = n0 := by omega
          exact ⟨_, _, _, _, H⟩
  case rest =>
    obtain ⟨q0, q1, p0, p1, H⟩ := hcut
    have f1 : wc.frozen? ⟨T, 6, none⟩ = false := blk_frozen H.out.inv.tab.tab _
    have c1 : wc.cell? ⟨T, 6, none⟩ = some (.int .i64 0) := by rw [blk_cell H.out.inv.tab.tab]; rfl
    go_upto_block 2 with fail
    have H1 := hidden (count H.out (n0 : Int))
    clear f1 c1 H
    obtain ⟨wd, hwd⟩ : ∃ wd, wd = wc.setCell ⟨T, 6, none⟩ (.int .i64 (n0 : Int)) := ⟨_, rfl⟩
    rw [← hwd] at H1 ⊢
    clear hwd
    go_cut [11, 14, 15] (fun ns vk vh we => ∃ (n A : Nat) (S : List (Option Ent)) (K : List Ent) (p0 p1 : Value) (ak ah : Option Addr) (ck ch : Nat), ns = .int .i64 (n : Int) ∧ vk = .slice ak K.length ck ∧ vh = .slice ah K.length ch ∧ K.length ≤ 1024 ∧ Hid (St w T P a0 s1 q0 q1 we n A S K p0 p1 (n : Int) ∧ Rw w we A K ak ah ck ch))
    case first =>
      go_wp2_with fail
      go_loopg [11, 14, 15, 60] len (fun gk ns vk vh i wr => ∃ (j : Nat), j + gk = len ∧ i = .int .i64 (j : Int) ∧ ∃ (n A : Nat) (S : List (Option Ent)) (K : List Ent) (p0 p1 : Value) (ak ah : Option Addr) (ck ch : Nat), ns = .int .i64 (n : Int) ∧ vk = .slice ak K.length ck ∧ vh = .slice ah K.length ch ∧ K.length ≤ j ∧ n ≤ 2 ∧ Hid (St w T P a0 s1 q0 q1 wr n A S K p0 p1 (n : Int) ∧ Rw w wr A K ak ah ck ch))
      case atStart => exact ⟨0, by omega, rfl, n0, w.heap.size + 1, List.replicate 8 none, [], p0, p1, none, none, 0, 0, rfl, rfl, rfl, Nat.le_refl _, hn2, H1.out, ⟨World.ownsRow_nil _ _ _ _, World.ownsRow_nil _ _ _ _, fun a h => by cases h⟩⟩
      case round =>
        obtain ⟨j, hj, rfl, n, A, S, K, p0, p1, ak, ah, ck, ch, rfl, rfl, rfl, hKj, hn, HR⟩ := hrel
        by_cases hlt : j < len
        · obtain ⟨sb, so, x0, x1, x2, rfl, hsb, g0, g1, g2, e0, e1, e2⟩ := HST.out j hlt
          have g0' : wr.cell? ⟨sb, so + j * 3, none⟩ = some (.int .u8 x0) := (HR.out.1.bel.cell (p := ⟨sb, so + j * 3, none⟩) hsb).trans g0
          have g1' : wr.cell? ⟨sb, so + j * 3 + 1, none⟩ = some (.int .u8 x1) := (HR.out.1.bel.cell (p := ⟨sb, so + j * 3 + 1, none⟩) hsb).trans g1
          have g2' : wr.cell? ⟨sb, so + j * 3 + 2, none⟩ = some (.int .u8 x2) := (HR.out.1.bel.cell (p := ⟨sb, so + j * 3 + 2, none⟩) hsb).trans g2
          clear g0 g1 g2 HST H1
          obtain ⟨c, hc⟩ : ∃ c : Nat, x0 % 3 = (c : Int) := ⟨(x0 % 3).toNat, by omega⟩
          have hc3 : (c : Int) < 3 := by omega
          have hc0 : (0 : Int) ≤ (c : Int) := by omega
          have hkc : wr.cell? ⟨w.heap.size, c, none⟩ = some (.int .u8 ((c : Int) + 1)) := by
            rw [blk_cell HR.out.1.kin]
            have : c = 0 ∨ c = 1 ∨ c = 2 := by omega
            rcases this with rfl | rfl | rfl <;> rfl
          have hkl : w.heap.size < wr.heap.size := blk_lt HR.out.1.kin
          have hq1 : x0.tmod 3 = (c : Int) := by rw [Int.tmod_eq_emod_of_nonneg e0.1]; exact hc
          have hq2 : IntKind.u8.wrap (c : Int) = (c : Int) := by rw [IntKind.wrap_u8]; omega
          have hq3 : x1.tmod 4 = x1 % 4 := Int.tmod_eq_emod_of_nonneg e1.1
          have hq4 : IntKind.u8.wrap (x1 % 4) = x1 % 4 := by rw [IntKind.wrap_u8]; omega
          go_wp2_with fail
          go_region_held3 (fun w' => w'.cell? ⟨wr.heap.size, 0, none⟩ = some (.int .u8 x0) ∧ w'.cell? ⟨wr.heap.size, 1, none⟩ = some (.int .u8 x1) ∧ w'.cell? ⟨wr.heap.size, 2, none⟩ = some (.int .u8 x2) ∧ w'.cell? ⟨w.heap.size, c, none⟩ = some (.int .u8 ((c : Int) + 1))) (simp [go_sem, World.cell?_alloc_past, hkc, hkl])
            (fail)
          have hq5 : IntKind.u32.wrap (x1 % 4) = x1 % 4 := by rw [IntKind.wrap_u32]; omega
          have hq6 : IntKind.u64.wrap x2 = x2 := by rw [IntKind.wrap_u64]; omega
          simp only [hq5, hq6]
          obtain ⟨kk, hkk⟩ : ∃ kk, kk = (c : Int) + 1 := ⟨_, rfl⟩
          obtain ⟨tt, htt⟩ : ∃ tt, tt = x1 % 4 := ⟨_, rfl⟩
          rw [← hkk, ← htt]
          have hrok : Rok (kk, tt, x2) := ⟨⟨by show 0 ≤ kk; omega, by show kk ≤ 255; omega⟩, ⟨by show 0 ≤ tt; omega, by show tt ≤ 4294967295; omega⟩⟩
          obtain ⟨wq, hwq⟩ : ∃ wq, wq = ((wr.alloc (.cells #[.int .u8 x0, .int .u8 x1, .int .u8 x2] 42)).alloc (.cells #[.int .u8 kk, .int .u32 tt, .int .u64 x2] 35)).drew := ⟨_, rfl⟩
          have fq : Fr Nil wr wq := by rw [hwq]; exact (((Fr.refl _ _).alloc _).alloc _).drew
          obtain ⟨R, hR⟩ : ∃ R, R = wr.heap.size + 1 := ⟨_, rfl⟩
          have bR : wq.heap[R]? = some (.cells #[.int .u8 kk, .int .u32 tt, .int .u64 x2] 35) := by
            have := blk_new (wr.alloc (.cells #[.int .u8 x0, .int .u8 x1, .int .u8 x2] 42)) (.cells #[.int .u8 kk, .int .u32 tt, .int .u64 x2] 35)
            rw [World.size_alloc] at this
            rw [hR, hwq]
            exact blk_drew this
          rw [← hwq, ← hR]
          have HQ := hidden (show St w T P a0 s1 q0 q1 wq n A S K p0 p1 (n : Int) ∧ Rw w wq A K ak ah ck ch ∧ Rok (kk, tt, x2) ∧ wq.heap[R]? = some (.cells #[.int .u8 kk, .int .u32 tt, .int .u64 x2] 35) from ⟨HR.out.1.nil fq, HR.out.2.nil fq, hrok, bR⟩)
          have hKl : (K.length : Int) ≤ 1024 := by omega
          have hKL : K.length < 1024 := by omega
          clear hq1 hq2 hq3 hq4 hq5 hq6 hkk htt hrok hwq fq hR bR g0' g1' g2' HR hkc hkl hc hc3 hc0 e0 e1 e2 hsb w2 b2 HTP
          obtain ⟨G, hG⟩ : ∃ G, G + 1 = gk := ⟨gk - 1, by omega⟩
          by_cases hat : ∃ j0, ∃ (h0 : j0 < K.length), K[j0].2 = (kk, tt, x2)
          · obtain ⟨j0, hj0, ⟨h0, hj0e⟩, hmin⟩ := least (fun j0 => ∃ (h0 : j0 < K.length), K[j0].2 = (kk, tt, x2)) _ hat.choose_spec
            clear hj0 hat
            have HE := hidden hj0e
            have HMIN := hidden hmin
            clear hj0e hmin
            go_wp2_with fail
            go_loopg [19, 79] j0 (fun gk2 at_ i wx => ∃ i0 : Nat, i0 + gk2 = j0 ∧ i = .int .i64 (i0 : Int) ∧ at_ = .int .i64 (-1) ∧ Hid (Fr Nil wq wx))
            case atStart => exact ⟨0, by omega, rfl, rfl, Fr.refl _ _⟩
            case round =>
              obtain ⟨i0, hi0, rfl, rfl, F⟩ := hrel
              have hi1 : i0 ≤ j0 := by omega
              have hi2 : i0 < K.length := by omega
              have hi3 : (i0 : Int) < (K.length : Int) := by omega
              have bR := F.out.blk HQ.out.2.2.2 (fun h => h)
              have r0 : wr.cell? ⟨R, 0, none⟩ = some (.int .u8 kk) := by rw [blk_cell bR]; rfl
              have r1 : wr.cell? ⟨R, 1, none⟩ = some (.int .u32 tt) := by rw [blk_cell bR]; rfl
              have r2 : wr.cell? ⟨R, 2, none⟩ = some (.int .u64 x2) := by rw [blk_cell bR]; rfl
              have HQ1 := hidden (HQ.out.2.1.nil F.out)
              obtain ⟨g, rfl, y0, y1, y2⟩ := HQ1.out.key hi2
              obtain ⟨k', t', y', he⟩ : ∃ k' t' y', K[i0].2 = (k', t', y') := ⟨_, _, _, rfl⟩
              rw [he] at y0 y1 y2
              simp only at y0 y1 y2
              clear bR
              by_cases hij : i0 = j0
              · subst hij
                have he2 := HE.out
                rw [he] at he2
                simp only [Prod.mk.injEq] at he2
                obtain ⟨rfl, rfl, rfl⟩ := he2
                have q := run_eql_res k' t' y' k' t' y' true (by simp)
                have HKI := hidden (show ∃ b, K[i0] = (b, (k', t', y')) from ⟨K[i0].1, by rw [← he]⟩)
                clear he
                go_wp2_with fail
                go_quiet (fail)
                go_wp2_with fail
                obtain ⟨b, hKi⟩ := HKI.out
                have hmem : (b, (k', t', y')) ∈ K := by rw [← hKi]; exact List.getElem_mem _
                refine (head_old _ T A S a0 s1 p0 p1 (n : Int) K.length ((HQ.out.1.inv.nil F.out).nil ((Fr.refl _ _).drewN _)) b k' t' y' (HQ.out.1.perm.mem_iff.2 hmem)).mono ?_
                rintro e wh ⟨rfl, fh⟩
                have ff : Fr Nil wq wh := (F.out.drewN _).trans fh
                have st := HQ.out.1.nil ff
                have rw' := HQ.out.2.1.nil ff
                have bl := (st.lies hmem).1
                have b0 : wh.cell? ⟨b, 0, none⟩ = some (.int .u8 k') := by rw [blk_cell bl]; rfl
                have b1 : wh.cell? ⟨b, 1, none⟩ = some (.int .u32 t') := by rw [blk_cell bl]; rfl
                have b2 : wh.cell? ⟨b, 2, none⟩ = some (.int .u64 y') := by rw [blk_cell bl]; rfl
                have bR := ff.blk HQ.out.2.2.2 (fun h => h)
                have o0 : wh.cell? ⟨R, 0, none⟩ = some (.int .u8 k') := by rw [blk_cell bR]; rfl
                have o1 : wh.cell? ⟨R, 1, none⟩ = some (.int .u32 t') := by rw [blk_cell bR]; rfl
                have o2 : wh.cell? ⟨R, 2, none⟩ = some (.int .u64 y') := by rw [blk_cell bR]; rfl
                have t6 : wh.cell? ⟨T, 6, none⟩ = some (.int .i64 (n : Int)) := by rw [blk_cell st.inv.tab.tab]; rfl
                obtain ⟨gh, rfl, hh⟩ := rw'.head hi2
                rw [hKi] at hh
                simp only at hh
                have qn := run_neq_res k' t' y' k' t' y' false (by simp)
                have qp := ptrs.neq_same ⟨b, 0, none⟩
                have HX := hidden (show St w T P a0 s1 q0 q1 wh n A S K p0 p1 (n : Int) ∧ Rw w wh A K (some ⟨g, 0, none⟩) (some ⟨gh, 0, none⟩) ck ch from ⟨st, rw'⟩)
                clear fh ff st rw' bl bR hmem hKi r0 r1 r2 y0 y1 y2 q
                go_wp2_with fail
                go_quiet (fail)
                go_wp2_with fail
                go_roundg G
                case measure => omega
                case rel => exact ⟨j + 1, by omega, by go_num, n, A, S, K, p0, p1, _, _, _, _, rfl, rfl, rfl, by omega, hn, HX.out.1.nil ((Fr.refl _ _).drewN _), HX.out.2.nil ((Fr.refl _ _).drewN _)⟩
              · have q := run_eql_res k' t' y' kk tt x2 false (by
                  have h1 := HMIN.out i0 (by omega)
                  symm
                  rw [decide_eq_false_iff_not]
                  rintro ⟨rfl, rfl, rfl⟩
                  exact h1 ⟨hi2, he⟩)
                clear he
                go_wp2_with fail
                go_quiet (fail)
                go_wp2_with fail
                go_roundg (gk - 1)
                case measure => omega
                case rel => exact ⟨i0 + 1, by omega, by go_num, rfl, F.out.drewN _⟩
          · have HNO := hidden (show ∀ b, (b, (kk, tt, x2)) ∉ K from by
              intro b hm
              obtain ⟨i, hi, he⟩ := List.mem_iff_getElem.1 hm
              exact hat ⟨i, hi, by rw [he]⟩)
            clear hat
            go_wp2_with fail
            go_loopg [19, 79] K.length (fun gk2 at_ i wx => ∃ i0 : Nat, i0 + gk2 = K.length ∧ i = .int .i64 (i0 : Int) ∧ at_ = .int .i64 (-1) ∧ Hid (Fr Nil wq wx))
            case atStart => exact ⟨0, by omega, rfl, rfl, Fr.refl _ _⟩
            case round =>
              obtain ⟨i0, hi0, rfl, rfl, F⟩ := hrel
              by_cases hi2 : i0 < K.length
              · have hi3 : (i0 : Int) < (K.length : Int) := by omega
                have bR := F.out.blk HQ.out.2.2.2 (fun h => h)
                have r0 : wr.cell? ⟨R, 0, none⟩ = some (.int .u8 kk) := by rw [blk_cell bR]; rfl
                have r1 : wr.cell? ⟨R, 1, none⟩ = some (.int .u32 tt) := by rw [blk_cell bR]; rfl
                have r2 : wr.cell? ⟨R, 2, none⟩ = some (.int .u64 x2) := by rw [blk_cell bR]; rfl
                have HQ1 := hidden (HQ.out.2.1.nil F.out)
                obtain ⟨g, rfl, y0, y1, y2⟩ := HQ1.out.key hi2
                obtain ⟨k', t', y', he⟩ : ∃ k' t' y', K[i0].2 = (k', t', y') := ⟨_, _, _, rfl⟩
                rw [he] at y0 y1 y2
                simp only at y0 y1 y2
                have q := run_eql_res k' t' y' kk tt x2 false (by
                  symm
                  rw [decide_eq_false_iff_not]
                  rintro ⟨rfl, rfl, rfl⟩
                  exact HNO.out K[i0].1 (by rw [← he]; exact List.getElem_mem _))
                clear bR he
                go_wp2_with fail
                go_quiet (fail)
                go_wp2_with fail
                go_roundg (gk - 1)
                case measure => omega
                case rel => exact ⟨i0 + 1, by omega, by go_num, rfl, F.out.drewN _⟩
              · obtain rfl : i0 = K.length := by omega
                have bR := F.out.blk HQ.out.2.2.2 (fun h => h)
                have r0 : wr.cell? ⟨R, 0, none⟩ = some (.int .u8 kk) := by rw [blk_cell bR]; rfl
                have r1 : wr.cell? ⟨R, 1, none⟩ = some (.int .u32 tt) := by rw [blk_cell bR]; rfl
                have r2 : wr.cell? ⟨R, 2, none⟩ = some (.int .u64 x2) := by rw [blk_cell bR]; rfl
                clear bR
                go_wp2_with fail
                refine (head_new (HQ.out.1.nil F.out) (HQ.out.2.1.nil F.out) hn hKL kk tt x2 HQ.out.2.2.1 HNO.out).mono ?_
                rintro e wh ⟨b, n', A', S', p0', p1', rfl, st, rws, hbK, h35, hcase⟩
                have bl := (st.lies (List.mem_append_right K (List.mem_singleton.2 rfl))).1
                have b0 : wh.cell? ⟨b, 0, none⟩ = some (.int .u8 kk) := by rw [blk_cell bl]; rfl
                have b1 : wh.cell? ⟨b, 1, none⟩ = some (.int .u32 tt) := by rw [blk_cell bl]; rfl
                have b2 : wh.cell? ⟨b, 2, none⟩ = some (.int .u64 x2) := by rw [blk_cell bl]; rfl
                have bR := h35 R _ (F.out.blk HQ.out.2.2.2 (fun h => h))
                have o0 : wh.cell? ⟨R, 0, none⟩ = some (.int .u8 kk) := by rw [blk_cell bR]; rfl
                have o1 : wh.cell? ⟨R, 1, none⟩ = some (.int .u32 tt) := by rw [blk_cell bR]; rfl
                have o2 : wh.cell? ⟨R, 2, none⟩ = some (.int .u64 x2) := by rw [blk_cell bR]; rfl
                have qn := run_neq_res kk tt x2 kk tt x2 false (by simp)
                have HX := hidden (show St w T P a0 s1 q0 q1 wh n' A' S' (K ++ [(b, (kk, tt, x2))]) p0' p1' (n' : Int) ∧ Rw w wh A' K ak ah ck ch ∧ (∀ r, (b, r) ∉ K) ∧ wh.heap[b]? = some (.cells (headC (kk, tt, x2)) 39) ∧ wh.heap[R]? = some (.cells #[.int .u8 kk, .int .u32 tt, .int .u64 x2] 35) from ⟨st, rws, hbK, bl, bR⟩)
                have HCASE := hidden hcase
                clear st rws hbK h35 hcase bl bR r0 r1 r2 HNO
                go_wp2_with fail
                go_quiet (fail)
                go_wp2_with fail
                obtain ⟨wy, hwy⟩ : ∃ wy, wy = wh.drewN nq := ⟨_, rfl⟩
                have fy : Fr Nil wh wy := by rw [hwy]; exact (Fr.refl _ _).drewN _
                rw [← hwy]
                have HY := hidden (show St w T P a0 s1 q0 q1 wy n' A' S' (K ++ [(b, (kk, tt, x2))]) p0' p1' (n' : Int) ∧ Rw w wy A' K ak ah ck ch ∧ (∀ r, (b, r) ∉ K) ∧ wy.heap[b]? = some (.cells (headC (kk, tt, x2)) 39) ∧ wy.heap[R]? = some (.cells #[.int .u8 kk, .int .u32 tt, .int .u64 x2] 35) from ⟨HX.out.1.nil fy, HX.out.2.1.nil fy, HX.out.2.2.1, fy.blk HX.out.2.2.2.1 (fun h => h), fy.blk HX.out.2.2.2.2 (fun h => h)⟩)
                clear hwy fy HX b0 b1 b2 o0 o1 o2 qn F HQ
                go_loopg [118] K.length (fun gk3 i wz => ∃ i0 : Nat, i0 + gk3 = K.length ∧ i = .int .i64 (i0 : Int) ∧ wz = wy)
                case atStart => exact ⟨0, by omega, rfl, rfl⟩
                case round =>
                  obtain ⟨i1, hi1, rfl, rfl⟩ := hrel
                  by_cases hi2 : i1 < K.length
                  · have hi3 : (i1 : Int) < (K.length : Int) := by omega
                    obtain ⟨gh, rfl, hh⟩ := HY.out.2.1.head hi2
                    obtain ⟨bb, rr, hbb⟩ : ∃ bb rr, K[i1] = (bb, rr) := ⟨_, _, rfl⟩
                    have hmem : (bb, rr) ∈ K := by rw [← hbb]; exact List.getElem_mem _
                    rw [hbb] at hh
                    simp only at hh
                    have q := ptrs.eql_other bb b wr (by rintro rfl; exact HY.out.2.2.1 rr hmem) (HY.out.1.lies (List.mem_append_left _ hmem)).1 HY.out.2.2.2.1
                    clear hmem hbb
                    go_wp2_with fail
                    go_roundg (gk - 1)
                    case measure => omega
                    case rel => exact ⟨i1 + 1, by omega, by go_num, rfl⟩
                  · obtain rfl : i1 = K.length := by omega
                    go_upto_if 129 with fail
                    go_cut [11] (fun ns wz => ns = .int .i64 (n' : Int) ∧ wz = wr)
                    case first =>
                      rcases HCASE.out with ⟨rfl, rfl, hq0, hq1⟩ | ⟨rfl, rfl, hq0, hp⟩ | ⟨rfl, rfl, hq1, hp⟩
                      · have c0 : wr.cell? ⟨P, 0, none⟩ = some (pt q0) := by rw [blk_cell HY.out.1.pre]; rfl
                        have c1 : wr.cell? ⟨P, 1, none⟩ = some (pt q1) := by rw [blk_cell HY.out.1.pre]; rfl
                        have d0 := eql_pre HY.out.2.2.2.1 HY.out.1.q0l hq0
                        have d1 := eql_pre HY.out.2.2.2.1 HY.out.1.q1l hq1
                        clear hq0 hq1 HCASE
                        go_wp2_with fail
                        go_meet
                        case rel => exact ⟨rfl, rfl⟩
                      · have c0 : wr.cell? ⟨P, 0, none⟩ = some (.pointer (some ⟨b, 0, none⟩)) := by rw [blk_cell HY.out.1.pre, hq0]; rfl
                        have c1 : wr.cell? ⟨T, 4, none⟩ = some (.pointer none) := by rw [blk_cell HY.out.1.inv.tab.tab, hp]; rfl
                        have d0 := ptrs.neq_same ⟨b, 0, none⟩
                        clear hq0 hp HCASE
                        go_wp2_with fail
                        go_meet
                        case rel => exact ⟨rfl, rfl⟩
                      · have c0 : wr.cell? ⟨P, 1, none⟩ = some (.pointer (some ⟨b, 0, none⟩)) := by rw [blk_cell HY.out.1.pre, hq1]; rfl
                        have c1 : wr.cell? ⟨T, 5, none⟩ = some (.pointer none) := by rw [blk_cell HY.out.1.inv.tab.tab, hp]; rfl
                        have d0 := ptrs.neq_same ⟨b, 0, none⟩
                        clear hq1 hp HCASE
                        go_wp2_with fail
                        go_meet
                        case rel => exact ⟨rfl, rfl⟩
                    case rest =>
                      obtain ⟨rfl, rfl⟩ := hcut
                      have t6 : wc.cell? ⟨T, 6, none⟩ = some (.int .i64 (n' : Int)) := by rw [blk_cell HY.out.1.inv.tab.tab]; rfl
                      have o0 : wc.cell? ⟨R, 0, none⟩ = some (.int .u8 kk) := by rw [blk_cell HY.out.2.2.2.2]; rfl
                      have o1 : wc.cell? ⟨R, 1, none⟩ = some (.int .u32 tt) := by rw [blk_cell HY.out.2.2.2.2]; rfl
                      have o2 : wc.cell? ⟨R, 2, none⟩ = some (.int .u64 x2) := by rw [blk_cell HY.out.2.2.2.2]; rfl
                      obtain ⟨i35, hi35, hz35, hs35, hb35⟩ := info_parts info35
                      obtain ⟨i29, hi29, hz29, hs29, hb29⟩ := info_parts resize.info29
                      have HOK := hidden (own_fr HY.out.2.1.keys ((Fr.refl Nil wc).alloc (.cells #[.int .u8 kk, .int .u32 tt, .int .u64 x2] 35)) (fun _ _ h => h))
                      have HNK := hidden (World.news_of_block (blk_new wc (.cells #[.int .u8 kk, .int .u32 tt, .int .u64 x2] 35)))
                      have HI35 := hidden (And.intro hi35 (And.intro hz35 (And.intro hs35 hb35)))
                      have HI29 := hidden (And.intro hi29 (And.intro hz29 (And.intro hs29 hb29)))
                      have HL1 := hidden (show K.length + 1 ≤ maxLen ∧ (K.length + 1) * 16 ≤ 140737488355328 ∧ (K.length + 1) * 8 ≤ 140737488355328 ∧ w.heap.size ≤ wc.heap.size from ⟨by unfold maxLen; omega, by omega, by omega, HY.out.1.size⟩)
                      clear hi35 hz35 hs35 hb35 hi29 hz29 hs29 hb29
                      go_wp2_with (first
                        | (at_builtin; refine wpList_append_lies _ (by rfl) (.tmp 158) (.tmp 160) 40 (by rfl) w.heap.size 35 i35 (.agg #[.int .u8 0, .int .u32 0, .int .u64 0]) 3 16 Yba.underlying40 HI35.out.1 HI35.out.2.1 HI35.out.2.2.1 HI35.out.2.2.2 (by rfl) (by decide) (.slice ak K.length ck) K.length (keysC K) (by rfl) HOK.out ⟨wc.heap.size, 0, none⟩ 1 1 [.int .u8 kk, .int .u32 tt, .int .u64 x2] (by rfl) (by rfl) HNK.out (by intro u hu; simp at hu; rcases hu with rfl | rfl | rfl <;> rfl) (by decide) HL1.out.1 HL1.out.2.1 (by rw [World.size_alloc]; have := HL1.out.2.2.2; omega) (wc.heap.size + 1) (by rw [World.size_alloc]) ?_; intro g1 cap1 w1 hown1 hgrow1 hat1 hlt1; have HO1 := hidden (And.intro hown1 hgrow1); clear hown1 hgrow1 hat1 hlt1)
                        | (at_builtin; refine wpList_append_lies _ (by rfl) (.tmp 162) (.tmp 164) 26 (by rfl) w.heap.size 29 i29 (.pointer none) 1 8 Yba.underlying26 HI29.out.1 HI29.out.2.1 HI29.out.2.2.1 HI29.out.2.2.2 (by rfl) (by decide) (.slice ah K.length ch) K.length (headsC K) (by rfl) (own_fr (app_keys HY.out.1 HY.out.2.1 HO1.out.2).2 ((Fr.refl Nil w1).alloc (.cells #[.pointer (some ⟨b, 0, none⟩)] 29)) (fun _ _ h => h)) ⟨w1.heap.size, 0, none⟩ 1 1 [.pointer (some ⟨b, 0, none⟩)] (by rfl) (by rfl) (World.news_of_block (blk_new w1 (.cells #[.pointer (some ⟨b, 0, none⟩)] 29))) (by intro u hu; simp at hu; subst hu; rfl) (by decide) HL1.out.1 HL1.out.2.2.1 (by rw [World.size_alloc]; have := (app_keys HY.out.1 HY.out.2.1 HO1.out.2).1.size; omega) (w1.heap.size + 1) (by rw [World.size_alloc]) ?_; intro g2 cap2 w2 hown2 hgrow2 hat2 hlt2; have HO2 := hidden (And.intro hown2 (And.intro hgrow2 hat2)); clear hown2 hgrow2 hat2 hlt2))
                      go_roundg G
                      case measure => omega
                      case rel =>
                        have hk := app_keys HY.out.1 HY.out.2.1 HO1.out.2
                        have hfin := app_heads (e := (b, (kk, tt, x2))) hk.1 HY.out.2.1.ne HO1.out.1 hk.2 HO2.out.2.1 HO2.out.2.2 (Nat.lt_succ_self _) HO2.out.1
                        have hl : (K ++ [(b, (kk, tt, x2))]).length = K.length + 1 := by simp
                        exact ⟨j + 1, by omega, by go_num, n', A', S', K ++ [(b, (kk, tt, x2))], p0', p1', _, _, _, _, rfl, by rw [hl], by rw [hl], by rw [hl]; omega, by rcases HCASE.out with h | h | h <;> omega, hfin⟩
        · obtain rfl : j = len := by omega
          clear HST H1
          go_wp2_with fail
          go_meet
          case rel => exact ⟨n, A, S, K, p0, p1, ak, ah, ck, ch, rfl, rfl, rfl, by omega, HR⟩
    case rest =>
      clear H1 HST HTP
      obtain ⟨n, A, S, K, p0, p1, ak, ah, ck, ch, rfl, rfl, rfl, hK, HR⟩ := hcut
      obtain ⟨p, hp', hp⟩ := HR.out.1.inv.size.1
      obtain ⟨N, hN'⟩ : ∃ N, N = S.length := ⟨_, rfl⟩
      have HN := hidden hN'
      have HPW := hidden (show S.length = 2 ^ p ∧ p ≤ 38 from ⟨hp, hp'⟩)
      have n8 : (8 : Int) ≤ (N : Int) := by have := HR.out.1.inv.size.2.1; omega
      have nn : (N : Int) ≤ 1099511627776 := by
        have : 2 ^ p ≤ 2 ^ 38 := Nat.pow_le_pow_right (by decide) hp'
        omega
      have ncap : (K.length : Int) * 4 ≤ (N : Int) * 3 := by have := HR.out.1.inv.size.2.2.1; omega
      have nK : (K.length : Int) ≤ 1024 := by omega
      have hand : bits .and .i64 (N : Int) ((N : Int) - 1) = 0 := by
        have := mask_mod N p (by omega) (by omega)
        rw [← hp, ← hN', Nat.mod_self] at this
        exact this
      have t0 : wc.cell? ⟨T, 0, none⟩ = some (.slice (some ⟨A, 0, none⟩) N N) := by rw [blk_cell HR.out.1.inv.tab.tab, hN']; rfl
      have t1 : wc.cell? ⟨T, 1, none⟩ = some (.int .i64 (K.length : Int)) := by rw [blk_cell HR.out.1.inv.tab.tab]; rfl
      clear hp hp' hN'
      go_wp2_with fail
      go_loopg [24, 195] N (fun gk fl i wz => ∃ i0 : Nat, i0 + gk = N ∧ i = .int .i64 (i0 : Int) ∧ wz = wc ∧ ∃ f : Nat, fl = .int .i64 (f : Int) ∧ f ≤ i0 ∧ Hid (((S.take i0).filterMap id).length = f))
      case atStart => exact ⟨0, by omega, rfl, rfl, 0, rfl, Nat.le_refl _, by simp [Hid]⟩
      case round =>
        obtain ⟨i0, hi0, rfl, rfl, f, rfl, hfi, HF⟩ := hrel
        by_cases hi2 : i0 < N
        · have hi3 : (i0 : Int) < (N : Int) := by omega
          have hiS : i0 < S.length := by rw [← HN.out]; exact hi2
          have cA : wr.cell? ⟨A, i0, none⟩ = some (ptr (atS S i0)) := HR.out.1.inv.tab.slot hiS
          cases hs : atS S i0 with
          | none =>
            rw [hs] at cA
            simp only [ptr] at cA
            have HS := hidden hs
            clear hs
            go_wp2_with fail
            go_roundg (gk - 1)
            case measure => omega
            case rel => exact ⟨i0 + 1, by omega, by go_num, rfl, f, rfl, by omega, by show _ = f; rw [take_none hiS HS.out]; exact HF.out⟩
          | some e =>
            obtain ⟨b, r⟩ := e
            rw [hs] at cA
            simp only [ptr] at cA
            have HS := hidden hs
            clear hs
            go_wp2_with fail
            go_roundg (gk - 1)
            case measure => omega
            case rel => exact ⟨i0 + 1, by omega, by go_num, rfl, f + 1, by go_num, by omega, by show _ = f + 1; rw [take_some hiS HS.out, List.length_append, HF.out]; rfl⟩
        · obtain rfl : i0 = N := by omega
          obtain rfl : f = K.length := by
            rw [← HF.out, HN.out, List.take_length]
            exact HR.out.1.inv.len
          clear HF hand hfi
          go_wp2_with fail
          go_loopg [210] K.length (fun gk i wz => ∃ i1 : Nat, i1 + gk = K.length ∧ i = .int .i64 (i1 : Int) ∧ Hid (Fr Nil wr wz))
          case atStart => exact ⟨0, by omega, rfl, Fr.refl _ _⟩
          case round =>
            obtain ⟨i1, hi1, rfl, F⟩ := hrel
            by_cases hi2 : i1 < K.length
            · have hi3 : (i1 : Int) < (K.length : Int) := by omega
              obtain ⟨g, rfl, y0, y1, y2⟩ := (HR.out.2.nil F.out).key hi2
              obtain ⟨gh, rfl, hh⟩ := (HR.out.2.nil F.out).head hi2
              obtain ⟨b, k, t, y, hb⟩ : ∃ b k t y, K[i1] = (b, (k, t, y)) := ⟨_, _, _, _, rfl⟩
              have hmem : (b, (k, t, y)) ∈ S.filterMap id := HR.out.1.perm.mem_iff.2 (by rw [← hb]; exact List.getElem_mem _)
              rw [hb] at y0 y1 y2 hh
              simp only at y0 y1 y2 hh
              have hgl := World.block_lt_of_cell? _ _ y0
              have hhl := World.block_lt_of_cell? _ _ hh
              simp only at hgl hhl
              have qp := ptrs.neq_same ⟨b, 0, none⟩
              have HC := hidden (fun w' (f : Fr Nil wr w') => find_yes w' T A S (K.length : Int) a0 s1 p0 p1 (n : Int) ((HR.out.1.nil F.out).inv.nil f).tab HR.out.1.inv.good k t y p HPW.out.1 (by have := HPW.out.2; omega) b hmem)
              clear hmem hb
              go_wp2_with fail
              go_region_held3 (fun w' => Fr Nil wr w' ∧ w'.cell? ⟨g, i1 * 3, none⟩ = some (.int .u8 k) ∧ w'.cell? ⟨g, i1 * 3 + 1, none⟩ = some (.int .u32 t) ∧ w'.cell? ⟨g, i1 * 3 + 2, none⟩ = some (.int .u64 y) ∧ w'.cell? ⟨gh, i1, none⟩ = some (.pointer (some ⟨b, 0, none⟩)))
                ((refine held_last ?_ hgl hhl y0 y1 y2 hh; first | exact Fr.refl _ _ | exact (Fr.refl _ _).drew | exact (Fr.refl _ _).drew.trans (by assumption)))
                (first | (go_at_call 8; refine (HC.out _ (by exact (Fr.refl _ _).drew)).mono ?_; rintro e w' ⟨rfl, f⟩))
              go_wp2_with fail
              go_roundg (gk - 1)
              case measure => omega
              case rel => exact ⟨i1 + 1, by omega, by go_num, (F.out.drew).trans (by assumption)⟩
            · obtain rfl : i1 = K.length := by omega
              go_wp2_with fail
              go_ret
              exact ⟨rfl, (HR.out.1.nil F.out).bel⟩
end Go.Proofs.Ybulkbrno.law
