/-
  Seat b6603793a: the walk of (*history).add (40).
-/
import Derived.Test.Qxb6603793aHistF2
import Derived.Deep.CutBlock
namespace Go.Proofs.Qxb6603793a.hist
open Go.RowKit Go.Deep

set_option maxRecDepth 100000 in
set_option maxHeartbeats 8000000 in
theorem add_any (p bm H0 d n cap : Nat) (aC : Option Addr) (start after size bef limit : Int) (c : Chg) (S : List Idx) (G : Nat → Nat) (w : World) (hk : c.key.size ≤ maxLen) (hl : c.lock.size ≤ maxLen) (hd : d ≤ 1048576) (hn : n ≤ 1048576)
    (hrow : w.rowIs p 65 6 (hf (.slice aC n cap) start after size d bm)) (hm : MapG w bm H0 S G) (hsm : Hid (∀ s ∈ S, s.ps.length ≤ 1048576)) (hH : H0 ≤ w.heap.size) (hbm : H0 ≤ bm) (hHp : H0 ≤ p) (cs : List Chg) (hcs : cs.length = n) (HCh : Hid (ChOk w H0 (.slice aC n cap) cs)) (hcost : cost c ≤ 8388608) (hsz : Hid (size = (costs cs : Nat))) (hsz0 : 0 ≤ size) (hsz1 : size ≤ 1099511627776) (hI : Hid (Inv d cs S)) :
    Calls Try.prog 40 #[.pointer (some ⟨p, 0, none⟩), .agg #[.int .u64 c.rev, .string c.key, .string c.val, .string c.lock, .string c.ev, .string c.hold, .int .u64 c.tok], .int .u64 bef, .int .i64 limit] w (PostAdd w H0 p bm start after limit d cs S c bef) := by
  have HR : Hid (w.rowIs p 65 6 (hf (.slice aC n cap) start after size d bm)) := hrow
  have HM : Hid (MapG w bm H0 S G) := hm
  have hpl := hrow.lt
  clear hrow hm
  obtain ⟨okb, aA, nA, cA, b0, hlook, hlrun⟩ := look_run HM.out c hk hl
  have HL : Hid (Look w S G c okb (.slice aA nA cA) b0) := hlook
  have HLR : Hid (∀ w' : World, w'.heap[bm]? = w.heap[bm]? → Sem.run Try.prog (Instr.lookup 62 (.map (some bm)) (.agg #[.string c.key, .string c.lock]) true) w' = .ok (.tuple #[.agg #[.slice aA nA cA, .int .u64 b0], .bool okb]) w') := hlrun
  clear hlook hlrun
  go_enter Try.func40, Try.ntmps40
  go_wp2_with fail
  refine (subject_any c _).mono ?_
  rintro e w1 ⟨rfl, hb1⟩
  have A1 : Hid (At1 w c w1.heap.size (w1.alloc (.cells #[.string c.key, .string c.lock] 74))) := at1_start hb1
  clear hb1
  unfold sub
  go_wp2
  refine gen_wp (At1 w c w1.heap.size) A1.out ?_
  clear A1
  generalize w1.heap.size = bs
  clear w1
  intro W hA1
  have HA1 : Hid (At1 w c bs W) := hA1
  obtain ⟨hB, hc7, hs2, hbs⟩ := hA1
  obtain ⟨p0, p1, p2, p3, p4, p5, pf⟩ := hrow_cells (row_below HR.out hB)
  obtain ⟨s0, s1⟩ := srow_cells hs2
  have hbl : bs < W.heap.size := hs2.lt
  have hpW : p < W.heap.size := by have := hB.size; omega
  have l1 := HLR.out W.drew (hB.block _ (mapG_lt HM.out))
  have l2 := HLR.out (W.alloc (.cells #[.slice none 0 0, .int .u64 0] 71)).drew ((blk_alloc_lt _ _ _ (by have := mapG_lt HM.out; have := hB.size; omega)).trans (hB.block _ (mapG_lt HM.out)))
  clear hB hc7 hs2
  go_cut [9, 10] (fun s9 s10 wx => s9 = .pointer (some ⟨W.heap.size, 0, none⟩) ∧ s10 = .bool okb ∧ At2 w c bs W.heap.size (.slice aA nA cA) b0 wx)
  case first =>
    have A2 := at2_start HA1.out (.slice aA nA cA) b0
    have HA2 : Hid (At2 w c bs W.heap.size (.slice aA nA cA) b0 (W.alloc (.cells #[.slice aA nA cA, .int .u64 b0] 71)).drew) := A2
    clear A2
    go_region
    all_goals go_wp2
    all_goals go_meet
    all_goals
      case rel => exact ⟨rfl, rfl, HA2.out⟩
  case rest =>
    clear p0 p1 p2 p3 p4 p5 pf s0 s1 l1 l2 HA1 hbl hpW
    obtain ⟨rfl, rfl, hA2⟩ := hcut
    generalize W.heap.size = be at *
    clear W
    have HA2 : Hid (At2 w c bs be (.slice aA nA cA) b0 wc) := hA2
    obtain ⟨e0, e1, ez⟩ := erow_cells hA2.2.1
    clear hA2
    go_upto_if 27 with (fail)
    go_cut [] (fun wx => At2 w c bs be (.slice aA nA cA) (if okb = true then b0 else bef) wx)
    case first =>
      have HA3 : Hid (At2 w c bs be (.slice aA nA cA) bef (wc.setCell ⟨be, 1, none⟩ (.int .u64 bef))) := at2_set HA2.out bef
      cases okb with
      | true =>
        go_wp2
        go_meet
        case rel => exact HA2.out
      | false =>
        go_wp2
        go_meet
        case rel => exact HA3.out
    case rest =>
      clear e0 e1 ez HA2
      generalize hb1 : (if okb = true then b0 else bef) = b1 at hcut
      have HB1 : Hid ((if okb = true then b0 else bef) = b1) := hb1
      clear hb1
      have HR4 : Hid (Rows4 w c p bs be (hf (.slice aC n cap) start after size d bm) (.slice aA nA cA) b1 wc) := ⟨row_below HR.out hcut.1.1, hcut.1.2.1, hcut.1.2.2.1, hcut.2.1, hcut.1.2.2.2, hcut.2.2⟩
      obtain ⟨p0, p1, p2, p3, p4, p5, pf⟩ := hrow_cells HR4.out.1
      obtain ⟨e0, e1, ez⟩ := erow_cells HR4.out.2.2.2.1
      obtain ⟨a', n', c', X, hap, x0, xz, hR5, hAp⟩ := app_run (d + n) HL.out hcut.1.1 HR4.out hsm.out
      have HR5 : Hid (Rows4 w c p bs be (hf (.slice aC n cap) start after size d bm) (.slice a' n' c') b1 (X.setCell ⟨be, 0, none⟩ (.slice a' n' c'))) := hR5
      have HAp : Hid (AppI w S G c okb b0 (.slice a' n' c') (d + n) (X.setCell ⟨be, 0, none⟩ (.slice a' n' c'))) := hAp
      have hbl : be < wc.heap.size := HR4.out.2.2.2.1.lt
      have hpl2 : p < wc.heap.size := HR4.out.1.lt
      rw [Int.natCast_add] at hap
      clear hcut hR5 hAp
      go_wp2
      go_cut [] (fun wx => Rows4 w c p bs be (hf (.slice aC n cap) start after size d bm) (.slice a' n' c') b1 wx ∧ AppI w S G c okb b0 (.slice a' n' c') (d + n) wx)
      case first =>
        have Hap : Hid (Sem.run Try.prog (Builtin.append_ #[46, 46] 46 #[.slice aA nA cA, .slice (some ⟨wc.heap.size, 0, none⟩) 1 1]) (wc.alloc (.cells #[.int .i64 ((d : Int) + (n : Int))] 3)).drew = .ok (.slice a' n' c') X) := hap
        clear hap
        have hw64 : IntKind.i64.wrap ((d : Int) + (n : Int)) = (d : Int) + (n : Int) := by rw [IntKind.wrap_i64]; omega
        go_region_law (refine step_append_run rfl (.tmp 31) (.tmp 42) 46 rfl (.slice aA nA cA) (.slice (some ⟨wc.heap.size, 0, none⟩) 1 1) (.slice a' n' c') Hap.out (by simp [Act.eval]) (by simp [Act.eval]) ?_)
        all_goals go_wp2
        all_goals go_meet
        all_goals
          case rel => exact ⟨HR5.out, HAp.out⟩
      case rest =>
        clear e0 e1 ez hap x0 xz HR4 HR5 HAp p0 p1 p2 p3 p4 p5 pf hbl hpl2
        obtain ⟨hR5, hAp⟩ := hcut
        have HR5 : Hid (Rows4 w c p bs be (hf (.slice aC n cap) start after size d bm) (.slice a' n' c') b1 wc) := hR5
        clear hR5
        obtain ⟨p0, p1, p2, p3, p4, p5, pf⟩ := hrow_cells HR5.out.1
        obtain ⟨s0, s1⟩ := srow_cells HR5.out.2.2.1
        obtain ⟨e0, e1, ez⟩ := erow_cells HR5.out.2.2.2.1
        obtain ⟨X, S', G', hput, hM', hAdd, hP', hC', h69, hBel⟩ := put_run (d + n) hk hl HM.out hH hbm (by rw [HB1.out]; exact HR5.out) hAp
        rw [HB1.out] at hput
        obtain ⟨a2, c2, X2, hch, y0, yz, hMain, hC2⟩ := ch_run hcs hn hH hHp HCh.out h69 hM' hP' hC' hBel
        have HAdd : Hid (AddRel S (d + n) c bef S') := hAdd
        have HP' : Hid (X.rowIs p 65 6 (hf (.slice aC n cap) start after size d bm)) := hP'
        have HC' : Hid (X.rowIs w.heap.size 69 7 (cf c)) := hC'
        have HMain : Hid (Main w H0 p bm start after size d (cs ++ [c]) S' (X2.setCell ⟨p, 0, none⟩ (.slice a2 (n + 1) c2))) := hMain
        have HC2 : Hid ((X2.setCell ⟨p, 0, none⟩ (.slice a2 (n + 1) c2)).rowIs w.heap.size 69 7 (cf c)) := hC2
        have Hch : Hid (Sem.run Try.prog (Builtin.append_ #[63, 63] 63 #[.slice aC n cap, .slice (some ⟨X.heap.size, 0, none⟩) 1 1]) (X.alloc (.cells #[.int .u64 c.rev, .string c.key, .string c.val, .string c.lock, .string c.ev, .string c.hold, .int .u64 c.tok] 69)).drew = .ok (.slice a2 (n + 1) c2) X2) := hch
        clear hAp hM' hAdd hP' hC' h69 hBel hch hMain hC2
        go_wp2
        go_cut [] (fun wx => wx = X)
        case first =>
          go_region
          all_goals go_wp2
          all_goals go_meet
          all_goals
            case rel => rfl
        case rest =>
          clear p0 p1 p2 p3 p4 p5 pf s0 s1 e0 e1 ez hput HR5
          subst hcut
          obtain ⟨p0, p1, p2, p3, p4, p5, pf⟩ := hrow_cells HP'.out
          obtain ⟨c0, c1, cc2, c3, c4, c5, c6⟩ := crow_cells HC'.out
          have hpl3 : p < wc.heap.size := HP'.out.lt
          have hcl3 : w.heap.size < wc.heap.size := HC'.out.lt
          go_wp2
          go_cut [] (fun wx => Main w H0 p bm start after size d (cs ++ [c]) S' wx ∧ wx.rowIs w.heap.size 69 7 (cf c))
          case first =>
            go_region_law (refine step_append_run rfl (.tmp 55) (.tmp 57) 63 rfl (.slice aC n cap) (.slice (some ⟨wc.heap.size, 0, none⟩) 1 1) (.slice a2 (n + 1) c2) Hch.out (by simp [Act.eval]) (by simp [Act.eval]) ?_)
            all_goals go_wp2
            all_goals go_meet
            all_goals
              case rel => exact ⟨HMain.out, HC2.out⟩
          case rest =>
            clear p0 p1 p2 p3 p4 p5 pf c0 c1 cc2 c3 c4 c5 c6 hpl3 hcl3 HP' HC' HMain HC2 Hch y0 yz
            obtain ⟨hMa, hCr⟩ := hcut
            have HMa : Hid (Main w H0 p bm start after size d (cs ++ [c]) S' wc) := hMa
            obtain ⟨a3, cap3, p0, p1, p2, p3, p4, p5, pf, hpl3⟩ := main_cells hMa
            obtain ⟨c0, c1, cc2, c3, c4, c5, c6⟩ := crow_cells hCr
            clear hMa hCr
            have hw8 : IntKind.i64.wrap (size + ((cost c : Nat) : Int)) = size + ((cost c : Nat) : Int) := by rw [IntKind.wrap_i64]; omega
            go_wp2
            go_cut [] (fun wx => Main w H0 p bm start after (size + (cost c : Nat)) d (cs ++ [c]) S' wx)
            case first =>
              go_region_with (go_at_call 44; refine (size_any c _ (by omega)).mono ?_; rintro e w8 ⟨rfl, hb8⟩; have q3 : w8.cell? ⟨p, 3, none⟩ = some (.int .i64 size) := (hb8.cell (by exact hpl3)).trans p3; have qz : w8.frozen? ⟨p, 3, none⟩ = false := (hb8.frozen (by exact hpl3)).trans (pf 3); have HQ : Hid (Main w H0 p bm start after (size + (cost c : Nat)) d (cs ++ [c]) S' (w8.setCell ⟨p, 3, none⟩ (.int .i64 (size + (cost c : Nat))))) := main_size (main_below (main_drew HMa.out) hH hb8) hHp _; clear hb8)
              all_goals go_wp2
              all_goals go_meet
              all_goals
                case rel => exact HQ.out
            case rest =>
              clear p0 p1 p2 p3 p4 p5 pf c0 c1 cc2 c3 c4 c5 c6 hpl3 HMa hw8
              have hlen1 : Hid ((cs ++ [c]).length = n + 1) := by show (cs ++ [c]).length = n + 1; simp [hcs]
              have hlen2 : (cs ++ [c]).length ≤ 1048577 := by have := hlen1.out; omega
              have hsz2 : size + ((cost c : Nat) : Int) = (costs (cs ++ [c]) : Nat) := by rw [hsz.out, costs_append]; simp [costs]
              rw [hsz2] at hcut
              have hI1 : Inv d (cs ++ [c]) S' := inv_add hI.out (by rw [hcs]; exact HAdd.out)
              have HL0 : Hid (Loop w H0 p bm start after limit d (cs ++ [c]) S' 0 wc) := ⟨by have := hlen1.out; omega, fun i hi => by omega, S', rfl, hI1, hcut⟩
              have hsz3 : costs (cs ++ [c]) ≤ 1099520016384 := by have := hsz.out; rw [costs_append]; simp [costs]; omega
              clear hcut hI1 hsz2
              generalize hcs1 : cs ++ [c] = cs1 at *
              have HCS1 : Hid (cs ++ [c] = cs1) := hcs1
              clear hcs1
              go_upto_block 0 with fail
              go_cut [11] (fun s wx => ∃ k : Nat, s = .int .i64 k ∧ Loop w H0 p bm start after limit d cs1 S' k wx ∧ ((costs (cs1.drop k) : Nat) ≤ limit ∨ k + 1 = cs1.length))
              case first =>
                go_wp2
                go_loopw [11] (fun i wr => ∃ k : Nat, i = .int .i64 k ∧ Loop w H0 p bm start after limit d cs1 S' k wr) (fun i _ => cs1.length - (intOf i).toNat)
                case atStart => exact ⟨0, rfl, HL0.out⟩
                case round =>
                  clear HL0
                  obtain ⟨k, rfl, hrel⟩ := hrel
                  have HL1 : Hid (Loop w H0 p bm start after limit d cs1 S' k wr) := hrel
                  obtain ⟨hk1, hk2, Sk, hk3, hk4, hk5⟩ := hrel
                  obtain ⟨g, off, capm, Gm, hMG⟩ := main_open hk5
                  have HMG : Hid (MainG w H0 p bm start after (costs (cs1.drop k) : Nat) d cs1 Sk wr g off capm Gm) := hMG
                  have HK2 : Hid (∀ i, i < k → limit < (costs (cs1.drop i) : Nat)) := hk2
                  have HK3 : Hid (DropsRel S' (cs1.take k) Sk) := hk3
                  have HK4 : Hid (Inv (d + k) (cs1.drop k) Sk) := hk4
                  clear hk2 hk3 hk4 hk5
                  obtain ⟨ck, hck⟩ : ∃ ck, cs1[k]? = some ck := ⟨_, List.getElem?_eq_getElem hk1⟩
                  have hmc := fun j hj => mainG_chg hMG hck j hj
                  have hq0 : wr.cell? ⟨g, off + k * 7, none⟩ = some (.int .u64 ck.rev) := hmc 0 (by omega)
                  have hq1 : wr.cell? ⟨g, off + (k * 7 + 1), none⟩ = some (.string ck.key) := hmc 1 (by omega)
                  have hq2 : wr.cell? ⟨g, off + (k * 7 + 2), none⟩ = some (.string ck.val) := hmc 2 (by omega)
                  have hq3 : wr.cell? ⟨g, off + (k * 7 + 3), none⟩ = some (.string ck.lock) := hmc 3 (by omega)
                  have hq4 : wr.cell? ⟨g, off + (k * 7 + 4), none⟩ = some (.string ck.ev) := hmc 4 (by omega)
                  have hq5 : wr.cell? ⟨g, off + (k * 7 + 5), none⟩ = some (.string ck.hold) := hmc 5 (by omega)
                  have hq6 : wr.cell? ⟨g, off + (k * 7 + 6), none⟩ = some (.int .u64 ck.tok) := hmc 6 (by omega)
                  rw [← Nat.add_assoc] at hq1 hq2 hq3 hq4 hq5 hq6
                  obtain ⟨p0, p1, p2, p3, p4, p5, pf, hplr⟩ := mainG_cells hMG
                  have HCK : Hid (cs1[k]? = some ck) := hck
                  have HZ4 : Hid (costs (cs1.drop k) = cost ck + costs (cs1.drop (k + 1))) := costs_drop cs1 hck
                  have hsz5 : costs (cs1.drop k) ≤ 1099520016384 := by
                    have e : costs (cs1.take k) + costs (cs1.drop k) = costs cs1 := by rw [← costs_append, List.take_append_drop]
                    omega
                  clear hmc hMG hck
                  have hckc : cost ck ≤ 1099520016384 := by have := HZ4.out; omega
                  generalize hZ : costs (cs1.drop k) = Z at *
                  have HZ : Hid (costs (cs1.drop k) = Z) := hZ
                  clear hZ
                  by_cases hA : limit < (Z : Int) ∧ k + 1 < cs1.length
                  · obtain ⟨hA1, hA2⟩ := hA
                    clear HL1
                    go_upto_block 1 with fail
                    go_cut [] (fun wx => Loop w H0 p bm start after limit d cs1 S' (k + 1) wx)
                    case first =>
                      have HBX : Hid (Box w H0 p bm start after (Z : Nat) d cs1 Sk g off capm Gm ck wr.heap.size (wr.alloc (.cells #[.int .u64 ck.rev, .string ck.key, .string ck.val, .string ck.lock, .string ck.ev, .string ck.hold, .int .u64 ck.tok] 69))) := box_new HMG.out hH ck
                      go_wp2
                      refine gen_wp (Box w H0 p bm start after (Z : Nat) d cs1 Sk g off capm Gm ck wr.heap.size) HBX.out ?_
                      clear HBX p0 p1 p2 p3 p4 p5 pf hplr hq0 hq1 hq2 hq3 hq4 hq5 hq6 HMG
                      generalize wr.heap.size = bb
                      intro W hBX
                      have HBX : Hid (Box w H0 p bm start after (Z : Nat) d cs1 Sk g off capm Gm ck bb W) := hBX
                      obtain ⟨p0, p1, p2, p3, p4, p5, pf, hplr⟩ := mainG_cells hBX.1
                      obtain ⟨c0, c1, cc2, c3, c4, c5, c6⟩ := crow_cells hBX.2.1
                      clear hBX
                      have hw9 : IntKind.i64.wrap ((Z : Int) - ((cost ck : Nat) : Int)) = (Z : Int) - ((cost ck : Nat) : Int) := by rw [IntKind.wrap_i64]; omega
                      go_cut [] (fun wx => Box w H0 p bm start after ((Z : Int) - ((cost ck : Nat) : Int)) d cs1 Sk g off capm Gm ck bb wx)
                      case first =>
                        go_region_with (go_at_call 44; refine (size_any ck _ (by omega)).mono ?_; rintro e w8 ⟨rfl, hb8⟩; have q3 : w8.cell? ⟨p, 3, none⟩ = some (.int .i64 (Z : Nat)) := (hb8.cell (by exact hplr)).trans p3; have qz : w8.frozen? ⟨p, 3, none⟩ = false := (hb8.frozen (by exact hplr)).trans (pf 3); have HQ : Hid (Box w H0 p bm start after ((Z : Int) - ((cost ck : Nat) : Int)) d cs1 Sk g off capm Gm ck bb (w8.setCell ⟨p, 3, none⟩ (.int .i64 ((Z : Int) - ((cost ck : Nat) : Int))))) := box_size (box_below (box_drew HBX.out) hH hb8) hHp _; clear hb8)
                        all_goals go_wp2
                        all_goals go_meet
                        all_goals
                          case rel => exact HQ.out
                      case rest =>
                        clear HBX p0 p1 p2 p3 p4 p5 pf hplr c0 c1 cc2 c3 c4 c5 c6 hw9
                        have hz' : (Z : Int) - ((cost ck : Nat) : Int) = (costs (cs1.drop (k + 1)) : Nat) := by have := HZ4.out; omega
                        rw [hz'] at hcut
                        have HBX : Hid (Box w H0 p bm start after (costs (cs1.drop (k + 1)) : Nat) d cs1 Sk g off capm Gm ck bb wc) := hcut
                        obtain ⟨c0, c1, cc2, c3, c4, c5, c6⟩ := crow_cells hcut.2.1
                        clear hcut hz'
                        go_wp2_with fail
                        refine (subject_any ck _).mono ?_
                        rintro e w9 ⟨rfl, hb9⟩
                        have HB2 : Hid (Box2 w H0 p bm start after (costs (cs1.drop (k + 1)) : Nat) d cs1 Sk g off capm Gm ck bb w9.heap.size (w9.alloc (.cells #[.string ck.key, .string ck.lock] 74))) := box2_new HBX.out hH hb9
                        clear hb9 HBX c0 c1 cc2 c3 c4 c5 c6
                        unfold sub
                        go_wp2
                        refine gen_wp (Box2 w H0 p bm start after (costs (cs1.drop (k + 1)) : Nat) d cs1 Sk g off capm Gm ck bb w9.heap.size) HB2.out ?_
                        clear HB2
                        generalize w9.heap.size = bt
                        clear w9
                        intro W2 hB2
                        have HB2 : Hid (Box2 w H0 p bm start after (costs (cs1.drop (k + 1)) : Nat) d cs1 Sk g off capm Gm ck bb bt W2) := hB2
                        obtain ⟨p0, p1, p2, p3, p4, p5, pf, hplr⟩ := mainG_cells hB2.1.1
                        obtain ⟨s0, s1⟩ := srow_cells hB2.2
                        have hbtl : bt < W2.heap.size := hB2.2.lt
                        obtain ⟨j, s, o, cp, hj, hsk, hsl, hss, hlr⟩ := drop_look hB2.1.1 (by rw [← drop_cons HCK.out]; exact HK4.out)
                        have hbml : bm < W2.heap.size := mapG_lt hB2.1.1.2.2.2.1
                        have l1 := hlr W2.drew rfl
                        have l2 := hlr (W2.alloc (.cells #[.slice none 0 0, .int .u64 0] 71)).drew (blk_alloc_lt _ _ _ hbml)
                        have HJ : Hid (Sk[j]? = some s) := hj
                        have HSK : Hid (s.k = ck.key) := hsk
                        have HSL : Hid (s.l = ck.lock) := hsl
                        have HSS : Hid (SlIs W2 3 1 (.slice (some ⟨Gm j, o, none⟩) s.ps.length cp) s.ps.length (ints s.ps) (Gm j)) := hss
                        clear hB2 hj hsk hsl hss hlr
                        have HR3 : Hid (Box3 w H0 p bm start after (costs (cs1.drop (k + 1)) : Nat) d cs1 Sk g off capm Gm ck bb bt W2.heap.size (.slice (some ⟨Gm j, o, none⟩) s.ps.length cp) s.bef (W2.alloc (.cells #[.slice (some ⟨Gm j, o, none⟩) s.ps.length cp, .int .u64 s.bef] 71)).drew ∧ SlIs (W2.alloc (.cells #[.slice (some ⟨Gm j, o, none⟩) s.ps.length cp, .int .u64 s.bef] 71)).drew 3 1 (.slice (some ⟨Gm j, o, none⟩) s.ps.length cp) s.ps.length (ints s.ps) (Gm j)) := ⟨box3_new HB2.out hH _ _, slIs_of HSS.out (blk_alloc_lt _ _ _ (slIs_lt HSS.out))⟩
                        clear HB2 HSS
                        go_cut [14] (fun s14 wx => s14 = .pointer (some ⟨W2.heap.size, 0, none⟩) ∧ Box3 w H0 p bm start after (costs (cs1.drop (k + 1)) : Nat) d cs1 Sk g off capm Gm ck bb bt W2.heap.size (.slice (some ⟨Gm j, o, none⟩) s.ps.length cp) s.bef wx ∧ SlIs wx 3 1 (.slice (some ⟨Gm j, o, none⟩) s.ps.length cp) s.ps.length (ints s.ps) (Gm j))
                        case first =>
                          go_region
                          all_goals go_wp2
                          all_goals go_meet
                          all_goals
                            case rel => exact ⟨rfl, HR3.out⟩
                        case rest =>
                          clear p0 p1 p2 p3 p4 p5 pf hplr s0 s1 hbtl l1 l2 hbml HR3
                          obtain ⟨rfl, hB3, hS3⟩ := hcut
                          generalize W2.heap.size = bu at *
                          clear W2
                          have hlim : limit < (costs (cs1.drop k) : Nat) := by have := HZ.out; omega
                          have HI' : Hid (Inv (d + k) (cs1.drop k) Sk) := HK4.out
                          obtain ⟨p0, p1, p2, p3, p4, p5, pf, hplr⟩ := mainG_cells hB3.1.1.1
                          obtain ⟨s0, s1⟩ := srow_cells hB3.1.2
                          obtain ⟨e0, e1, ez⟩ := erow_cells hB3.2
                          obtain ⟨c0, c1, cc2, c3, c4, c5, c6⟩ := crow_cells hB3.1.1.2.1
                          have hcp : s.ps.length ≤ cp ∧ cp ≤ maxLen := by
                            obtain ⟨o', cp', N, f, e, hrow, h0, hnc, hm, _⟩ := hS3
                            simp only [Value.slice.injEq, Option.some.injEq, Addr.mk.injEq] at e
                            obtain ⟨_, _, rfl⟩ := e
                            exact ⟨hnc, hm⟩
                          unfold maxLen at hcp
                          by_cases hps : 1 < s.ps.length
                          · obtain ⟨X, S2, G2, hput, hDR, hMX⟩ := drop_put hB3.1.1.1 hbm hH HJ.out HSK.out HSL.out hS3 hps
                            have HLN : Hid (Loop w H0 p bm start after limit d cs1 S' (k + 1) X) := loop_next hA2 HK2.out hlim HK3.out HI'.out HCK.out hDR (mainG_shut hMX)
                            clear hB3 hS3 hDR hMX hlim HI' HK2 HK3 HK4 HCK HJ HSK HSL HZ HZ4
                            go_wp2
                            go_region
                            all_goals go_wp2
                            all_goals go_meet
                            all_goals
                              case rel => exact HLN.out
                          · obtain ⟨X, S2, G2, hdel, hDR, hMX⟩ := drop_del hB3.1.1.1 hbm hH HJ.out HSK.out HSL.out (by omega)
                            have HLN : Hid (Loop w H0 p bm start after limit d cs1 S' (k + 1) X) := loop_next hA2 HK2.out hlim HK3.out HI'.out HCK.out hDR (mainG_shut hMX)
                            have Hdel : Hid (∀ ty, Sem.run Try.prog (Builtin.delete_ #[62, 74] ty #[.map (some bm), .agg #[.string ck.key, .string ck.lock]]) wc.drew = .ok (.tuple #[]) X) := hdel
                            clear hB3 hS3 hDR hMX hlim HI' HK2 HK3 HK4 HCK HJ HSK HSL HZ HZ4 hdel
                            go_wp2
                            go_region_law (refine step_delete_run rfl (.tmp 130) (.tmp 131) 62 74 rfl (.map (some bm)) (.agg #[.string ck.key, .string ck.lock]) (.tuple #[]) (Hdel.out _) (by simp [Act.eval]) (by simp [Act.eval]) ?_)
                            all_goals go_wp2
                            all_goals go_meet
                            all_goals
                              case rel => exact HLN.out
                    case rest =>
                      go_wp2
                      go_roundw
                      case rel => exact ⟨k + 1, by go_num, hcut⟩
                      case measure => simp [intOf]; omega
                  · by_cases hB : limit < (Z : Int)
                    · have hB2 : ¬ (k + 1 < cs1.length) := fun e => hA ⟨hB, e⟩
                      go_wp2
                      go_meet
                      case rel => exact ⟨k, rfl, HL1.out, .inr (by omega)⟩
                    · go_wp2
                      go_meet
                      case rel => exact ⟨k, rfl, HL1.out, .inl (by have := HZ.out; omega)⟩
              case rest =>
                obtain ⟨k, rfl, hLo, hend⟩ := hcut
                have HEnd : Hid ((costs (cs1.drop k) : Nat) ≤ limit ∨ k + 1 = cs1.length) := hend
                clear hend HL0
                obtain ⟨hk1, hk2, Sk, hk3, hk4, hk5⟩ := hLo
                obtain ⟨g, off, capm, Gm, hMG⟩ := main_open hk5
                have HMG : Hid (MainG w H0 p bm start after (costs (cs1.drop k) : Nat) d cs1 Sk wc g off capm Gm) := hMG
                have HK2 : Hid (∀ i, i < k → limit < (costs (cs1.drop i) : Nat)) := hk2
                have HK3 : Hid (DropsRel S' (cs1.take k) Sk) := hk3
                have HK4 : Hid (Inv (d + k) (cs1.drop k) Sk) := hk4
                have hcapm := mainG_cap hMG
                unfold maxLen at hcapm
                clear hk2 hk3 hk4 hk5
                obtain ⟨p0, p1, p2, p3, p4, p5, pf, hplr⟩ := mainG_cells hMG
                clear hMG
                cases k with
                | zero =>
                  go_wp2
                  refine bodyPost_end (v := .tuple #[]) (by simp [results, Try.results40, go_sem]) rfl ?_
                  refine ⟨rfl, 0, S', Sk, ?_⟩
                  rw [HCS1.out]
                  exact ⟨hk1, HK2.out, HEnd.out, by rw [hcs]; exact HAdd.out, HK3.out, HK4.out, hist_of_main (mainG_shut HMG.out), HMG.out.2.2.2.2⟩
                | succ k =>
                  obtain ⟨ck, hck⟩ : ∃ ck, cs1[k]? = some ck := ⟨_, List.getElem?_eq_getElem (by omega)⟩
                  have hq0 : wc.cell? ⟨g, off + k * 7, none⟩ = some (.int .u64 ck.rev) := mainG_chg HMG.out hck 0 (by omega)
                  have hq : afterOf after cs1 (k + 1) = ck.rev := by simp [afterOf, hck]
                  have hMG2 := mainG_after HMG.out hHp ck.rev
                  rw [← hq] at hMG2
                  obtain ⟨X, hclr, x0, x4, xf, hxl, hfin⟩ := tail_run hMG2 hH hHp (k + 1) hk1
                  have HFin : Hid (Main w H0 p bm start (afterOf after cs1 (k + 1)) (costs (cs1.drop (k + 1)) : Nat) (d + (k + 1)) (cs1.drop (k + 1)) Sk ((X.setCell ⟨p, 0, none⟩ (.slice (some ⟨g, off + (k + 1) * 7, none⟩) (cs1.length - (k + 1)) (capm - (k + 1)))).setCell ⟨p, 4, none⟩ (.int .i64 ((d : Int) + ((k + 1 : Nat) : Int))))) := hfin
                  rw [hq] at hclr
                  clear hMG2 hfin hck HMG hq
                  go_wp2
                  refine bodyPost_end (v := .tuple #[]) (by simp [results, Try.results40, go_sem]) rfl ?_
                  refine ⟨rfl, k + 1, S', Sk, ?_⟩
                  rw [HCS1.out]
                  have hm := HFin.out
                  refine ⟨hk1, HK2.out, HEnd.out, by rw [hcs]; exact HAdd.out, HK3.out, HK4.out, hist_of_main (w := w) ?_, ?_⟩
                  · exact hm
                  · obtain ⟨_, _, _, _, _, _, _, _, hB⟩ := hm
                    exact hB

/-- add, on a history. -/
theorem add_hist {p bm H0 d : Nat} {start after : Int} {cs : List Chg} {S : List Idx} {w : World} (h : Hist w H0 p bm start after d cs S) (hI : Inv d cs S) (c : Chg) (bef limit : Int) (hk : c.key.size ≤ maxLen) (hl : c.lock.size ≤ maxLen) (hd : d ≤ 1048576) (hn : cs.length ≤ 1048576) (hsm : ∀ s ∈ S, s.ps.length ≤ 1048576) (hH : H0 ≤ w.heap.size) (hbm : H0 ≤ bm) (hHp : H0 ≤ p)
    (hcost : cost c ≤ 8388608) (hsz : costs cs ≤ 1099511627776) :
    Calls Try.prog 40 #[.pointer (some ⟨p, 0, none⟩), .agg #[.int .u64 c.rev, .string c.key, .string c.val, .string c.lock, .string c.ev, .string c.hold, .int .u64 c.tok], .int .u64 bef, .int .i64 limit] w (PostAdd w H0 p bm start after limit d cs S c bef) := by
  obtain ⟨aC, cap, G, h1, h2, h3⟩ := h
  exact add_any p bm H0 d cs.length cap aC start after (costs cs : Nat) bef limit c S G w hk hl hd hn h1 h2 hsm hH hbm hHp cs rfl h3 hcost rfl (by omega) (by omega) hI
end Go.Proofs.Qxb6603793a.hist
