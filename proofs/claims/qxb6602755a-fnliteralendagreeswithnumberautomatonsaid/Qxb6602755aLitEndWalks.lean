/-
  THE WALK of literalEnd.
-/
import Derived.Test.Qxb6602755aLitWalks
import Derived.Deep.DeepCutAuto
import Derived.Laws.IdiomStrings
namespace Go.Proofs.Qxb6602755a
open Go.RowKit

/-- '[]byte(s)': the new row holds the bytes; what was there is as it was. -/
theorem conv_bytes (w : World) (s : ByteArray) : ∃ (wb : World) (cp : Nat), (convert 9 22 (.string s)).run Try.prog w = .ok (.slice (some ⟨w.heap.size, 0, none⟩) s.size cp) wb ∧
    (∀ j, j < s.size → wb.cell? ⟨w.heap.size, 0 + j, none⟩ = some (.int .u8 ((s.data.toList.map fun x => (x.toNat : Int)).getD j 0))) ∧ Below w.heap.size w wb := by
  refine ⟨_, _, run_bytes_of_string (P := Try.prog) w 9 22 5 s Try.underlying9 Try.underlying22 Try.underlying5, ?_, ?_⟩
  · intro j hj
    rw [Nat.zero_add]
    refine (World.cell?_alloc_mark w.drew _ _ _ j).trans ?_
    rw [bytesRow_at s _ j hj]
    simp [List.getD, hj]
  · exact (Below.refl _ w).drew.alloc (Nat.le_refl _) _

structure LW (w : World) (b o c : Nat) (l : List Int) (wr : World) : Prop where
  below : Below w.heap.size w wr
  size : w.heap.size + 2 ≤ wr.heap.size
  box : wr.cell? ⟨w.heap.size, 0, none⟩ = some (.slice (some ⟨b, o, none⟩) l.length c)
  s0 : wr.cell? ⟨w.heap.size + 1, 0, none⟩ = some (.string ⟨#[116, 114, 117, 101]⟩)
  s1 : wr.cell? ⟨w.heap.size + 1, 1, none⟩ = some (.string ⟨#[102, 97, 108, 115, 101]⟩)
  s2 : wr.cell? ⟨w.heap.size + 1, 2, none⟩ = some (.string ⟨#[110, 117, 108, 108]⟩)

theorem LW.start (w : World) (b o c : Nat) (l : List Int) : LW w b o c l ((w.alloc (.cells #[.slice (some ⟨b, o, none⟩) l.length c] 22)).alloc (.cells #[.string ⟨#[116, 114, 117, 101]⟩, .string ⟨#[102, 97, 108, 115, 101]⟩, .string ⟨#[110, 117, 108, 108]⟩] 9)) where
  below := ((Below.refl _ _).alloc (Nat.le_refl _) _).alloc (by simp) _
  size := by simp
  box := by go_simp
  s0 := by go_simp
  s1 := by go_simp
  s2 := by go_simp

theorem LW.next {w wr wb : World} {b o c : Nat} {l : List Int} (h : LW w b o c l wr) (hb : Below wr.heap.size wr wb) : LW w b o c l wb where
  below := h.below.trans (hb.mono (by have := h.size; omega))
  size := Nat.le_trans h.size hb.size
  box := (hb.cell (by have := h.size; show w.heap.size < _; omega)).trans h.box
  s0 := (hb.cell (by have := h.size; show w.heap.size + 1 < _; omega)).trans h.s0
  s1 := (hb.cell (by have := h.size; show w.heap.size + 1 < _; omega)).trans h.s1
  s2 := (hb.cell (by have := h.size; show w.heap.size + 1 < _; omega)).trans h.s2

theorem LW.cells {w wr : World} {b o c : Nat} {l : List Int} (h : LW w b o c l wr) (hbw : b < w.heap.size) (cl : ∀ i, i < l.length → w.cell? ⟨b, o + i, none⟩ = some (.int .u8 (el l i))) :
    ∀ i, i < l.length → wr.cell? ⟨b, o + i, none⟩ = some (.int .u8 (el l i)) :=
  fun i hi => (h.below.cell hbw).trans (cl i hi)

theorem drop_cells {wr : World} {b o pos : Nat} {l : List Int} (cl : ∀ i, i < l.length → wr.cell? ⟨b, o + i, none⟩ = some (.int .u8 (el l i))) :
    ∀ i, i < (l.drop pos).length → wr.cell? ⟨b, o + pos + i, none⟩ = some (.int .u8 ((l.drop pos).getD i 0)) := by
  intro i hi
  rw [List.length_drop] at hi
  rw [Nat.add_assoc, cl (pos + i) (by omega)]
  simp [el, List.getD, List.getElem?_drop]

/-- One word tried. -/
theorem try_word (l : List Int) (hl : Bytes l) (b o c pos cp g : Nat) (W : List Int) (hW : Bytes W) (hW0 : W.length ≤ 16) (wb : World) (hc : l.length ≤ c)
    (cl : ∀ i, i < l.length → wb.cell? ⟨b, o + i, none⟩ = some (.int .u8 (el l i))) (cy : ∀ i, i < W.length → wb.cell? ⟨g, 0 + i, none⟩ = some (.int .u8 (W.getD i 0))) (n m : Nat) (hn : n = l.length - pos) (hm : m = W.length) :
    Calls Try.prog 27 #[.slice (some ⟨b, o + pos, none⟩) n (c - pos), .slice (some ⟨g, 0, none⟩) m cp] wb fun e w' => e = .returned (.bool (pre W (l.drop pos))) ∧ w' = wb := by
  subst hm hn
  rw [← List.length_drop]
  exact hasPrefix_any (l.drop pos) W (hl.drop pos) hW b (o + pos) (c - pos) g cp wb (by rw [List.length_drop]; omega) hW0 (drop_cells cl) cy

set_option maxRecDepth 10000 in
set_option maxHeartbeats 1000000 in
theorem litEnd_any (l : List Int) (hl : Bytes l) (b o c pos : Nat) (w : World) (hc : l.length ≤ c) (hpos : pos < l.length) (hb : l.length ≤ 4194304) (hbw : b < w.heap.size)
    (cl : ∀ i, i < l.length → w.cell? ⟨b, o + i, none⟩ = some (.int .u8 (el l i))) :
    Calls Try.prog 22 #[.slice (some ⟨b, o, none⟩) l.length c, .int .i64 pos] w fun e w' => e = .returned (.tuple #[.int .i64 (litE l pos), .bool (litO l pos)]) ∧ Below w.heap.size w w' := by
  have CL : Hid (∀ i, i < l.length → w.cell? ⟨b, o + i, none⟩ = some (.int .u8 (el l i))) := cl
  have hcp : ¬ c = pos := by omega
  clear cl
  go_enter Try.func22, Try.ntmps22
  go_wp2
  go_loopw [11] (fun i wr => ∃ k : Nat, k ≤ 3 ∧ i = .int .i64 k ∧ noW k (l.drop pos) ∧ LW w b o c l wr) (fun i _ => 3 - (intOf i).toNat)
  case atStart => exact ⟨0, by omega, rfl, noW_zero _, LW.start w b o c l⟩
  case round =>
    obtain ⟨k, hk, rfl, hno, hw⟩ := hrel
    rcases (by omega : k = 0 ∨ k = 1 ∨ k = 2 ∨ k = 3) with rfl | rfl | rfl | rfl
    · obtain ⟨wb, cp, hcv, hcy, hbel⟩ := conv_bytes wr ⟨#[116, 114, 117, 101]⟩
      have hw2 := hw.next hbel
      have HP := try_word l hl b o c pos cp wr.heap.size W0 (by intro n hn; simp [W0] at hn; omega) (by decide) wb hc (hw2.cells hbw CL.out) (fun i hi => hcy i hi) (l.length - pos) 4 rfl rfl
      have h0 := hw.s0
      have hbx := hw.box
      clear hcy hbel
      by_cases hp : pre W0 (l.drop pos) = true
      · go_wp2_with (go_at_call 27; refine HP.mono ?_; rintro e w' ⟨rfl, rfl⟩; rw [hp])
        go_ret2
        have R := lit_w0 l pos hp
        exact ⟨ret_two (by rw [R.1]; go_num) R.2.symm, hw2.below⟩
      · have hp' : pre W0 (l.drop pos) = false := by simpa using hp
        go_wp2_with (go_at_call 27; refine HP.mono ?_; rintro e w' ⟨rfl, rfl⟩; rw [hp'])
        go_roundw
        case rel => exact ⟨1, by omega, by go_num, noW_one hp', hw2⟩
        case measure => simp [intOf]
    · obtain ⟨wb, cp, hcv, hcy, hbel⟩ := conv_bytes wr ⟨#[102, 97, 108, 115, 101]⟩
      have hw2 := hw.next hbel
      have HP := try_word l hl b o c pos cp wr.heap.size W1 (by intro n hn; simp [W1] at hn; omega) (by decide) wb hc (hw2.cells hbw CL.out) (fun i hi => hcy i hi) (l.length - pos) 5 rfl rfl
      have h0 := hw.s1
      have hbx := hw.box
      clear hcy hbel
      by_cases hp : pre W1 (l.drop pos) = true
      · go_wp2_with (go_at_call 27; refine HP.mono ?_; rintro e w' ⟨rfl, rfl⟩; rw [hp])
        go_ret2
        have R := lit_w1 l pos hno hp
        exact ⟨ret_two (by rw [R.1]; go_num) R.2.symm, hw2.below⟩
      · have hp' : pre W1 (l.drop pos) = false := by simpa using hp
        go_wp2_with (go_at_call 27; refine HP.mono ?_; rintro e w' ⟨rfl, rfl⟩; rw [hp'])
        go_roundw
        case rel => exact ⟨2, by omega, by go_num, noW_two hno hp', hw2⟩
        case measure => simp [intOf]
    · obtain ⟨wb, cp, hcv, hcy, hbel⟩ := conv_bytes wr ⟨#[110, 117, 108, 108]⟩
      have hw2 := hw.next hbel
      have HP := try_word l hl b o c pos cp wr.heap.size W2 (by intro n hn; simp [W2] at hn; omega) (by decide) wb hc (hw2.cells hbw CL.out) (fun i hi => hcy i hi) (l.length - pos) 4 rfl rfl
      have h0 := hw.s2
      have hbx := hw.box
      clear hcy hbel
      by_cases hp : pre W2 (l.drop pos) = true
      · go_wp2_with (go_at_call 27; refine HP.mono ?_; rintro e w' ⟨rfl, rfl⟩; rw [hp])
        go_ret2
        have R := lit_w2 l pos hno hp
        exact ⟨ret_two (by rw [R.1]; go_num) R.2.symm, hw2.below⟩
      · have hp' : pre W2 (l.drop pos) = false := by simpa using hp
        go_wp2_with (go_at_call 27; refine HP.mono ?_; rintro e w' ⟨rfl, rfl⟩; rw [hp'])
        go_roundw
        case rel => exact ⟨3, by omega, by go_num, noW_three hno hp', hw2⟩
        case measure => simp [intOf]
    · have hA := at_num l pos hno
      have hbx := hw.box
      have CR : Hid (∀ i, i < l.length → wr.cell? ⟨b, o + i, none⟩ = some (.int .u8 (el l i))) := hw.cells hbw CL.out
      have HW : Hid (Below w.heap.size w wr) := hw.below
      clear hw hno CL
      obtain ⟨x, hx⟩ : ∃ x, x = el l pos := ⟨_, rfl⟩
      have hck := CR.out pos hpos
      rw [← hx] at hck
      have HX : Hid (x = el l pos) := hx
      clear hx
      go_upto_if 31 with fail
      go_cut [1] (fun p wc => wr = wc ∧ ∃ k : Nat, k ≤ l.length ∧ p = .int .i64 k ∧ AtP l pos intP k)
      case first =>
        by_cases h45 : x = 45
        · have h45' : (x == 45) = true := by simp [h45]
          have HA : Hid (AtP l pos intP (pos + 1)) := at_sign_yes hA hpos (HX.out ▸ h45)
          clear h45
          go_wp2_with fail
          go_meet
          case rel => exact ⟨rfl, pos + 1, by omega, by go_num, HA.out⟩
        · have h45' : (x == 45) = false := by simp [h45]
          have HA : Hid (AtP l pos intP pos) := at_sign_no hA hpos (HX.out ▸ h45)
          clear h45
          go_wp2_with fail
          go_meet
          case rel => exact ⟨rfl, pos, by omega, rfl, HA.out⟩
      case rest =>
        clear hA hck HX
        obtain ⟨rfl, k, hk, rfl, hA⟩ := hcut
        go_upto_region 10 with fail
        go_cut [44] (fun v wc => wr = wc ∧ v = .bool (hd (l.drop k) 48))
        case first =>
          by_cases hlt : k < l.length
          · obtain ⟨x, hx⟩ : ∃ x, x = el l k := ⟨_, rfl⟩
            have hck := CR.out k hlt
            rw [← hx] at hck
            have HX : Hid (x = el l k) := hx
            clear hx
            have HT : Hid ((x == 48) = hd (l.drop k) 48) := by show (x == 48) = hd (l.drop k) 48; rw [hd_at l k hlt, HX.out]
            go_wp2_with fail
            go_meet
            case rel => exact ⟨rfl, congrArg Value.bool HT.out⟩
          · have HT : Hid ((hd (l.drop k) 48) = false) := by show (hd (l.drop k) 48) = false; rw [hd_past l k (by omega)]
            go_wp2_with fail
            go_meet
            case rel => exact ⟨rfl, congrArg Value.bool HT.out.symm⟩
        case rest =>
          obtain ⟨rfl, rfl⟩ := hcut
          go_upto_if 44 with fail
          go_cut [1] (fun p wc => wr = wc ∧ ∃ k2 : Nat, k2 ≤ l.length ∧ p = .int .i64 k2 ∧ AtP l pos fracP k2)
          case first =>
            by_cases hz : hd (l.drop k) 48 = true
            · have hlt := (hd_el hz).1
              have HA : Hid (AtP l pos fracP (k + 1)) := at_zero hA hlt (hd_el hz).2
              rw [hz]
              go_wp2_with fail
              go_meet
              case rel => exact ⟨rfl, k + 1, by omega, by go_num, HA.out⟩
            · have hz' : hd (l.drop k) 48 = false := by simpa using hz
              rw [hz']
              have hge := dEnd_ge l k
              have hle := dEnd_le l k hk
              by_cases hdz : dEnd l k = k
              · have HR : Hid (litE l pos = k ∧ litO l pos = false) := at_int_no hA hz' (dEnd_eq hdz)
                have hnl : ¬ (k : Int) < (dEnd l k : Int) := by omega
                clear hdz hge hle hz
                go_wp2_with (go_at_call 28; refine (digitsEnd_at l _ b o c k _ rfl _ hb hk hbx CR.out).mono ?_; rintro e w' ⟨rfl, rfl⟩)
                go_ret2
                exact ⟨ret_two (by rw [HR.out.1]) HR.out.2.symm, HW.out⟩
              · have HA : Hid (AtP l pos fracP (dEnd l k)) := at_int_yes hA hz' (dEnd_ne hdz)
                have hnl : (k : Int) < (dEnd l k : Int) := by omega
                clear hdz hge hz
                go_wp2_with (go_at_call 28; refine (digitsEnd_at l _ b o c k _ rfl _ hb hk hbx CR.out).mono ?_; rintro e w' ⟨rfl, rfl⟩)
                go_meet
                case rel => exact ⟨rfl, dEnd l k, hle, rfl, HA.out⟩
          case rest =>
            clear hA hk
            obtain ⟨rfl, k, hk, rfl, hA⟩ := hcut
            go_upto_region 16 with fail
            go_cut [65] (fun v wc => wr = wc ∧ v = .bool (hd (l.drop k) 46))
            case first =>
              by_cases hlt : k < l.length
              · obtain ⟨x, hx⟩ : ∃ x, x = el l k := ⟨_, rfl⟩
                have hck := CR.out k hlt
                rw [← hx] at hck
                have HX : Hid (x = el l k) := hx
                clear hx
                have HT : Hid ((x == 46) = hd (l.drop k) 46) := by show (x == 46) = hd (l.drop k) 46; rw [hd_at l k hlt, HX.out]
                go_wp2_with fail
                go_meet
                case rel => exact ⟨rfl, congrArg Value.bool HT.out⟩
              · have HT : Hid ((hd (l.drop k) 46) = false) := by show (hd (l.drop k) 46) = false; rw [hd_past l k (by omega)]
                go_wp2_with fail
                go_meet
                case rel => exact ⟨rfl, congrArg Value.bool HT.out.symm⟩
            case rest =>
              obtain ⟨rfl, rfl⟩ := hcut
              go_upto_if 65 with fail
              go_cut [1] (fun p wc => wr = wc ∧ ∃ k2 : Nat, k2 ≤ l.length ∧ p = .int .i64 k2 ∧ AtP l pos expP k2)
              case first =>
                by_cases hz : hd (l.drop k) 46 = true
                · have hlt := (hd_el hz).1
                  rw [hz]
                  have hle := dEnd_le l (k + 1) hlt
                  have hge := dEnd_ge l (k + 1)
                  by_cases hdz : dEnd l (k + 1) = k + 1
                  · have HR : Hid (litE l pos = k + 1 ∧ litO l pos = false) := at_dot_bad hA hlt (hd_el hz).2 (dEnd_eq hdz)
                    have HD : Hid (dEnd l (k + 1) = k + 1) := hdz
                    have hnl : ((dEnd l (k + 1) : Int) == (k : Int) + 1) = true := by rw [hdz]; simp
                    clear hdz hge
                    go_wp2_with (go_at_call 28; refine (digitsEnd_at l _ b o c (k + 1) _ (by omega) _ hb hlt hbx CR.out).mono ?_; rintro e w' ⟨rfl, rfl⟩)
                    go_ret2
                    exact ⟨ret_two (by rw [HR.out.1, HD.out]) HR.out.2.symm, HW.out⟩
                  · have HA : Hid (AtP l pos expP (dEnd l (k + 1))) := at_dot hA hlt (hd_el hz).2 (dEnd_ne hdz)
                    have hnl : ((dEnd l (k + 1) : Int) == (k : Int) + 1) = false := beq_false_of_ne (by omega)
                    clear hdz
                    go_wp2_with (go_at_call 28; refine (digitsEnd_at l _ b o c (k + 1) _ (by omega) _ hb hlt hbx CR.out).mono ?_; rintro e w' ⟨rfl, rfl⟩)
                    go_meet
                    case rel => exact ⟨rfl, dEnd l (k + 1), hle, rfl, HA.out⟩
                · have hz' : hd (l.drop k) 46 = false := by simpa using hz
                  rw [hz']
                  have HA : Hid (AtP l pos expP k) := at_nodot hA hz'
                  clear hz
                  go_wp2_with fail
                  go_meet
                  case rel => exact ⟨rfl, k, hk, rfl, HA.out⟩
              case rest =>
                clear hA hk
                obtain ⟨rfl, k, hk, rfl, hA⟩ := hcut
                go_upto_region 21 with fail
                go_cut [93] (fun v wc => wr = wc ∧ v = .bool (hd (l.drop k) 101 || hd (l.drop k) 69))
                case first =>
                  by_cases hlt : k < l.length
                  · obtain ⟨x, hx⟩ : ∃ x, x = el l k := ⟨_, rfl⟩
                    have hck := CR.out k hlt
                    rw [← hx] at hck
                    have HX : Hid (x = el l k) := hx
                    clear hx
                    have HT : Hid (((x == 101) || (x == 69)) = (hd (l.drop k) 101 || hd (l.drop k) 69)) := by show ((x == 101) || (x == 69)) = (hd (l.drop k) 101 || hd (l.drop k) 69); rw [hd_at l k hlt, hd_at l k hlt, HX.out]
                    by_cases hx1 : (x == 101) = true
                    · go_wp2_with fail
                      go_meet
                      case rel => exact ⟨rfl, congrArg Value.bool (by rw [← HT.out, hx1]; rfl)⟩
                    · have hx2 : (x == 101) = false := by simpa using hx1
                      clear hx1
                      go_wp2_with fail
                      go_meet
                      case rel => exact ⟨rfl, congrArg Value.bool (by rw [← HT.out, hx2]; rfl)⟩
                  · have HT : Hid ((hd (l.drop k) 101 || hd (l.drop k) 69) = false) := by show (hd (l.drop k) 101 || hd (l.drop k) 69) = false; rw [hd_past l k (by omega), hd_past l k (by omega)]; rfl
                    go_wp2_with fail
                    go_meet
                    case rel => exact ⟨rfl, congrArg Value.bool HT.out.symm⟩
                case rest =>
                  obtain ⟨rfl, rfl⟩ := hcut
                  go_upto_if 93 with fail
                  by_cases hz : (hd (l.drop k) 101 || hd (l.drop k) 69) = true
                  · have hz2 : hd (l.drop k) 101 = true ∨ hd (l.drop k) 69 = true := by simpa using hz
                    have hlt : k < l.length := by rcases hz2 with h | h <;> exact (hd_el h).1
                    have HZ : Hid (el l k = 101 ∨ el l k = 69) := by rcases hz2 with h | h; exact .inl (hd_el h).2; exact .inr (hd_el h).2
                    rw [hz]
                    clear hz hz2
                    go_upto_region 22 with fail
                    go_cut [1] (fun p wc => wr = wc ∧ ∃ j : Nat, Hid (j = k + 1) ∧ p = .int .i64 j)
                    case first =>
                      go_wp2_with fail
                      go_meet
                      case rel => exact ⟨rfl, k + 1, rfl, by go_num⟩
                    case rest =>
                      obtain ⟨rfl, j, HJ, rfl⟩ := hcut
                      have hj : j ≤ l.length := by have := HJ.out; omega
                      go_upto_region 23 with fail
                      go_cut [113] (fun v wc => wr = wc ∧ v = .bool (hd (l.drop j) 43 || hd (l.drop j) 45))
                      case first =>
                        by_cases hlt : j < l.length
                        · obtain ⟨x, hx⟩ : ∃ x, x = el l j := ⟨_, rfl⟩
                          have hck := CR.out j hlt
                          rw [← hx] at hck
                          have HX : Hid (x = el l j) := hx
                          clear hx
                          have HT : Hid (((x == 43) || (x == 45)) = (hd (l.drop j) 43 || hd (l.drop j) 45)) := by show ((x == 43) || (x == 45)) = (hd (l.drop j) 43 || hd (l.drop j) 45); rw [hd_at l j hlt, hd_at l j hlt, HX.out]
                          by_cases hx1 : (x == 43) = true
                          · go_wp2_with fail
                            go_meet
                            case rel => exact ⟨rfl, congrArg Value.bool (by rw [← HT.out, hx1]; rfl)⟩
                          · have hx2 : (x == 43) = false := by simpa using hx1
                            clear hx1
                            go_wp2_with fail
                            go_meet
                            case rel => exact ⟨rfl, congrArg Value.bool (by rw [← HT.out, hx2]; rfl)⟩
                        · have HT : Hid ((hd (l.drop j) 43 || hd (l.drop j) 45) = false) := by show (hd (l.drop j) 43 || hd (l.drop j) 45) = false; rw [hd_past l j (by omega), hd_past l j (by omega)]; rfl
                          go_wp2_with fail
                          go_meet
                          case rel => exact ⟨rfl, congrArg Value.bool HT.out.symm⟩
                      case rest =>
                        obtain ⟨rfl, rfl⟩ := hcut
                        go_upto_if 113 with fail
                        go_cut [1] (fun p wc => wr = wc ∧ ∃ m : Nat, m ≤ l.length ∧ p = .int .i64 m ∧ AtE l pos m)
                        case first =>
                          by_cases hs : (hd (l.drop j) 43 || hd (l.drop j) 45) = true
                          · have hs2 : hd (l.drop j) 43 = true ∨ hd (l.drop j) 45 = true := by simpa using hs
                            have hltj : j < l.length := by rcases hs2 with h | h <;> exact (hd_el h).1
                            have HA : Hid (AtE l pos (j + 1)) := by have h := at_exp_sign hA hlt HZ.out (HJ.out ▸ hs2); rw [HJ.out]; exact h
                            rw [hs]
                            clear hs hs2
                            go_wp2_with fail
                            go_meet
                            case rel => exact ⟨rfl, j + 1, by omega, by go_num, HA.out⟩
                          · have hs' : (hd (l.drop j) 43 || hd (l.drop j) 45) = false := by simpa using hs
                            have hs2 : hd (l.drop j) 43 = false ∧ hd (l.drop j) 45 = false := by simpa using hs'
                            have HA : Hid (AtE l pos j) := by have h := at_exp_bare hA hlt HZ.out (HJ.out ▸ hs2.1) (HJ.out ▸ hs2.2); rw [HJ.out]; exact h
                            rw [hs']
                            clear hs hs' hs2
                            go_wp2_with fail
                            go_meet
                            case rel => exact ⟨rfl, j, hj, rfl, HA.out⟩
                        case rest =>
                          clear hA hk
                          obtain ⟨rfl, m, hm, rfl, hA⟩ := hcut
                          by_cases hdz : dEnd l m = m
                          · have HR : Hid (litE l pos = m ∧ litO l pos = false) := at_exp_bad hA (dEnd_eq hdz)
                            have HD : Hid (dEnd l m = m) := hdz
                            have hnl : ((dEnd l m : Int) == (m : Int)) = true := by rw [hdz]; simp
                            clear hdz
                            go_wp2_with (go_at_call 28; refine (digitsEnd_at l _ b o c m _ rfl _ hb hm hbx CR.out).mono ?_; rintro e w' ⟨rfl, rfl⟩)
                            go_ret2
                            exact ⟨ret_two (by rw [HR.out.1, HD.out]) HR.out.2.symm, HW.out⟩
                          · have HR : Hid (litE l pos = dEnd l m ∧ litO l pos = true) := at_exp_ok hA (dEnd_ne hdz)
                            have hnl : ((dEnd l m : Int) == (m : Int)) = false := beq_false_of_ne (by omega)
                            clear hdz
                            go_wp2_with (go_at_call 28; refine (digitsEnd_at l _ b o c m _ rfl _ hb hm hbx CR.out).mono ?_; rintro e w' ⟨rfl, rfl⟩)
                            go_ret2
                            exact ⟨ret_two (by rw [HR.out.1]) HR.out.2.symm, HW.out⟩
                  · have hz' : (hd (l.drop k) 101 || hd (l.drop k) 69) = false := by simpa using hz
                    have hz2 : hd (l.drop k) 101 = false ∧ hd (l.drop k) 69 = false := by simpa using hz'
                    have HR : Hid (litE l pos = k ∧ litO l pos = true) := at_noexp hA hz2.1 hz2.2
                    rw [hz']
                    clear hz hz' hz2
                    go_wp2_with fail
                    go_ret2
                    exact ⟨ret_two (by rw [HR.out.1]) HR.out.2.symm, HW.out⟩

end Go.Proofs.Qxb6602755a
