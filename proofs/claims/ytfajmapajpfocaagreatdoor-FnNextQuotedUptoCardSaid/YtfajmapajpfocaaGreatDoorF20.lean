/-
  A part of the proof: The quoted-printable reader: a new line is fetched and trimmed. The quoted-printable reader: one byte is given. The quoted-printable reader's Read as a whole.
  Conditions: each contract's own.
-/
import Derived.Test.YtfajmapajpfocaaGreatDoorF19
set_option linter.all false
namespace Go.Cps
open Go Go.Proofs
theorem qLine_ok {e : REnv} {F : QF} {q : Nat} {t : QSt} {lv : Value} {D : List UInt8} {H : Heap} {K : Heap → Prop} (h : QR e F q t false lv [] H) (hD : QText t.rest D)
    (hK : ∀ t' rerr' lv' ln' H', QR e F q t' rerr' lv' ln' H' → QRem ln' rerr' t'.rest D → Frm (q :: F.ids e) H H' → t'.rest.length + (if rerr' then 0 else 1) < t.rest.length + 1 → K H') :
    Fld 0 (.pointer (some ⟨q, 0, none⟩)) H fun x36 =>
    CallsH Tryz.prog 93 #[x36, (.int .u8 10)] H fun x37 H =>
    Get (extractV x37 0) fun x38 =>
    Get (extractV x37 1) fun x39 =>
    Get (nilV (.pointer (some ⟨q, 0, none⟩))) fun x40 =>
    Get (fieldAddrV 2 x40) fun x41 =>
    Get (store1V x41 x38 H) fun H =>
    Get (nilV (.pointer (some ⟨q, 0, none⟩))) fun x42 =>
    Get (fieldAddrV 1 x42) fun x43 =>
    Get (store1V x43 x39 H) fun H =>
    Fld 2 (.pointer (some ⟨q, 0, none⟩)) H fun x47 =>
    Get (Instr.fill (fun j => some (j * 1, 1)) ((Array.range (1 * 1)).map ((#[(.int .u8 0)] : Array Value)[· % 1]!)) [(0, (.int .u8 10))]) fun cs => NewSl cs 5 1 H fun x48 H =>
    MarkS x48 H fun x49 H =>
    CallsH Tryz.prog 232 #[x47, x49] H fun x50 H =>
    Fld 2 (.pointer (some ⟨q, 0, none⟩)) H fun x54 =>
    Get (Instr.fill (fun j => some (j * 1, 1)) ((Array.range (2 * 1)).map ((#[(.int .u8 0)] : Array Value)[· % 1]!)) [(0, (.int .u8 13)), (1, (.int .u8 10))]) fun cs => NewSl cs 5 2 H fun x55 H =>
    MarkS x55 H fun x56 H =>
    CallsH Tryz.prog 232 #[x54, x56] H fun x57 H =>
    Fld 2 (.pointer (some ⟨q, 0, none⟩)) H fun x61 =>
    CallsH Tryz.prog 233 #[x61, (.func (.func 234) #[] #[])] H fun x64 H =>
    Get (nilV (.pointer (some ⟨q, 0, none⟩))) fun x65 =>
    Get (fieldAddrV 2 x65) fun x66 =>
    Get (store1V x66 x64 H) fun H =>
    Join (fun K3 =>
    Fld 2 (.pointer (some ⟨q, 0, none⟩)) H fun x70 =>
    Get (Instr.fill (fun j => some (j * 1, 1)) ((Array.range (1 * 1)).map ((#[(.int .u8 0)] : Array Value)[· % 1]!)) [(0, (.int .u8 61))]) fun cs => NewSl cs 5 1 H fun x71 H =>
    MarkS x71 H fun x72 H =>
    CallsH Tryz.prog 232 #[x70, x72] H fun x73 H =>
    Br x73 (
    Fld 2 (.pointer (some ⟨q, 0, none⟩)) H fun x78 =>
    Get (lenV x78) fun x79 =>
    Get (sliceV 1 x61 (some x79) none none) fun x80 =>
    CallsH Tryz.prog 172 #[x80, (.string ⟨#[32, 9]⟩)] H fun x81 H =>
    Fld 2 (.pointer (some ⟨q, 0, none⟩)) H fun x86 =>
    Fld 2 (.pointer (some ⟨q, 0, none⟩)) H fun x90 =>
    Get (lenV x90) fun x91 =>
    Get (arithV .sub .i64 x91 (.int .i64 1)) fun x92 =>
    Get (sliceV 1 x86 none (some x92) none) fun x93 =>
    Get (nilV (.pointer (some ⟨q, 0, none⟩))) fun x94 =>
    Get (fieldAddrV 2 x94) fun x95 =>
    Get (store1V x95 x93 H) fun H =>
    Join (fun K4 =>
    Get (Instr.fill (fun j => some (j * 1, 1)) ((Array.range (1 * 1)).map ((#[(.int .u8 0)] : Array Value)[· % 1]!)) [(0, (.int .u8 10))]) fun cs => NewSl cs 5 1 H fun x97 H =>
    MarkS x97 H fun x98 H =>
    CallsH Tryz.prog 58 #[x81, x98] H fun x99 H =>
    Get (unV .not x99) fun x100 =>
    Br x100 (
    Get (Instr.fill (fun j => some (j * 1, 1)) ((Array.range (2 * 1)).map ((#[(.int .u8 0)] : Array Value)[· % 1]!)) [(0, (.int .u8 13)), (1, (.int .u8 10))]) fun cs => NewSl cs 5 2 H fun x103 H =>
    MarkS x103 H fun x104 H =>
    CallsH Tryz.prog 58 #[x81, x104] H fun x105 H =>
    Get (unV .not x105) fun x106 =>
    Get (pickV (.bool true) x106 (.bool false)) fun x107 =>
    Br x107 (
    Get (lenV x81) fun x110 =>
    Get (arithV .eql .i64 x110 (.int .i64 0)) fun x111 =>
    Br x111 (
    Fld 2 (.pointer (some ⟨q, 0, none⟩)) H fun x116 =>
    Get (lenV x116) fun x117 =>
    Get (arithV .gtr .i64 x117 (.int .i64 0)) fun x118 =>
    Get (pickV (.bool true) x118 (.bool false)) fun x119 =>
    Br x119 (
    Fld 1 (.pointer (some ⟨q, 0, none⟩)) H fun x124 =>
    Get (load1V (.pointer (some ⟨0, 0, none⟩)) H) fun x125 =>
    ExecV Tryz.prog (do eqGuard .eql 60 (.tmp 124) (.tmp 125) x124 x125; binOp .eql 60 x124 x125) H fun x126 H =>
    Get (pickV (.bool true) x126 (.bool false)) fun x127 =>
    Get (unV .not x127) fun x128 =>
    Get (pickV (.bool true) x128 (.bool false)) fun x129 =>
    K4 [x129] H) (
    Get (pickV (.bool false) undef (.bool false)) fun x127_1 =>
    Get (unV .not x127_1) fun x128_1 =>
    Get (pickV (.bool true) x128_1 (.bool false)) fun x129_1 =>
    K4 [x129_1] H)) (
    Get (pickV (.bool false) undef (.bool false)) fun x119_1 =>
    Br x119_1 (
    Fld 1 (.pointer (some ⟨q, 0, none⟩)) H fun x124_1 =>
    Get (load1V (.pointer (some ⟨0, 0, none⟩)) H) fun x125_1 =>
    ExecV Tryz.prog (do eqGuard .eql 60 (.tmp 124) (.tmp 125) x124_1 x125_1; binOp .eql 60 x124_1 x125_1) H fun x126_1 H =>
    Get (pickV (.bool true) x126_1 (.bool false)) fun x127_2 =>
    Get (unV .not x127_2) fun x128_2 =>
    Get (pickV (.bool true) x128_2 (.bool false)) fun x129_2 =>
    K4 [x129_2] H) (
    Get (pickV (.bool false) undef (.bool false)) fun x127_3 =>
    Get (unV .not x127_3) fun x128_3 =>
    Get (pickV (.bool true) x128_3 (.bool false)) fun x129_3 =>
    K4 [x129_3] H))) (
    Get (pickV (.bool false) undef (.bool false)) fun x129_4 =>
    K4 [x129_4] H)) (
    Get (pickV (.bool false) undef (.bool false)) fun x107_1 =>
    Br x107_1 (
    Get (lenV x81) fun x110_1 =>
    Get (arithV .eql .i64 x110_1 (.int .i64 0)) fun x111_1 =>
    Br x111_1 (
    Fld 2 (.pointer (some ⟨q, 0, none⟩)) H fun x116_1 =>
    Get (lenV x116_1) fun x117_1 =>
    Get (arithV .gtr .i64 x117_1 (.int .i64 0)) fun x118_1 =>
    Get (pickV (.bool true) x118_1 (.bool false)) fun x119_2 =>
    Br x119_2 (
    Fld 1 (.pointer (some ⟨q, 0, none⟩)) H fun x124_2 =>
    Get (load1V (.pointer (some ⟨0, 0, none⟩)) H) fun x125_2 =>
    ExecV Tryz.prog (do eqGuard .eql 60 (.tmp 124) (.tmp 125) x124_2 x125_2; binOp .eql 60 x124_2 x125_2) H fun x126_2 H =>
    Get (pickV (.bool true) x126_2 (.bool false)) fun x127_4 =>
    Get (unV .not x127_4) fun x128_4 =>
    Get (pickV (.bool true) x128_4 (.bool false)) fun x129_5 =>
    K4 [x129_5] H) (
    Get (pickV (.bool false) undef (.bool false)) fun x127_5 =>
    Get (unV .not x127_5) fun x128_5 =>
    Get (pickV (.bool true) x128_5 (.bool false)) fun x129_6 =>
    K4 [x129_6] H)) (
    Get (pickV (.bool false) undef (.bool false)) fun x119_3 =>
    Br x119_3 (
    Fld 1 (.pointer (some ⟨q, 0, none⟩)) H fun x124_3 =>
    Get (load1V (.pointer (some ⟨0, 0, none⟩)) H) fun x125_3 =>
    ExecV Tryz.prog (do eqGuard .eql 60 (.tmp 124) (.tmp 125) x124_3 x125_3; binOp .eql 60 x124_3 x125_3) H fun x126_3 H =>
    Get (pickV (.bool true) x126_3 (.bool false)) fun x127_6 =>
    Get (unV .not x127_6) fun x128_6 =>
    Get (pickV (.bool true) x128_6 (.bool false)) fun x129_7 =>
    K4 [x129_7] H) (
    Get (pickV (.bool false) undef (.bool false)) fun x127_7 =>
    Get (unV .not x127_7) fun x128_7 =>
    Get (pickV (.bool true) x128_7 (.bool false)) fun x129_8 =>
    K4 [x129_8] H))) (
    Get (pickV (.bool false) undef (.bool false)) fun x129_9 =>
    K4 [x129_9] H))) fun vs5 H =>
    Br (nth vs5 0) (
    CallsH Tryz.prog 60 #[(.string ⟨#[113, 117, 111, 116, 101, 100, 112, 114, 105, 110, 116, 97, 98, 108, 101, 58, 32, 105, 110, 118, 97, 108, 105, 100, 32, 98, 121, 116, 101, 115, 32, 97, 102, 116, 101, 114, 32, 61]⟩)] H fun x131 H =>
    Get (nilV (.pointer (some ⟨q, 0, none⟩))) fun x132 =>
    Get (fieldAddrV 1 x132) fun x133 =>
    Get (store1V x133 x131 H) fun H =>
    K3 [] H) (
    K3 [] H)) (
    Br x50 (
    Br x57 (
    Fld 2 (.pointer (some ⟨q, 0, none⟩)) H fun x140 =>
    Get (Instr.fill (fun j => some (j * 1, 1)) ((Array.range (2 * 1)).map ((#[(.int .u8 0)] : Array Value)[· % 1]!)) [(0, (.int .u8 13)), (1, (.int .u8 10))]) fun cs => NewSl cs 5 2 H fun x141 H =>
    Append 5 1 1 #[(.int .u8 0)] x140 x141 H fun x142 H =>
    Get (nilV (.pointer (some ⟨q, 0, none⟩))) fun x143 =>
    Get (fieldAddrV 2 x143) fun x144 =>
    Get (store1V x144 x142 H) fun H =>
    K3 [] H) (
    Fld 2 (.pointer (some ⟨q, 0, none⟩)) H fun x149 =>
    Get (Instr.fill (fun j => some (j * 1, 1)) ((Array.range (1 * 1)).map ((#[(.int .u8 0)] : Array Value)[· % 1]!)) [(0, (.int .u8 10))]) fun cs => NewSl cs 5 1 H fun x150 H =>
    Append 5 1 1 #[(.int .u8 0)] x149 x150 H fun x151 H =>
    Get (nilV (.pointer (some ⟨q, 0, none⟩))) fun x152 =>
    Get (fieldAddrV 2 x152) fun x153 =>
    Get (store1V x153 x151 H) fun H =>
    K3 [] H)) (
    K3 [] H))) fun _ H =>
    K H := by
  have ⟨hq1, hq2, hq3, hq4, hq5⟩ := h.dq
  obtain ⟨P, T, hL, hT, hP, hl78, h128, hcase⟩ := hD.line
  have hLl : lineLen t.rest = (P ++ T).length := by
    rw [← hL, List.length_take, Nat.min_eq_left (lineLen_le _)]
  have hqn : q ∉ F.ids e := fun hm => by
    simp only [QF.ids, List.mem_cons] at hm
    rcases hm with rfl | rfl | rfl | hm
    · exact hq1 rfl
    · exact hq2 rfl
    · exact hq4 (by simp [REnv.all])
    · exact hq4 (by simp [REnv.all, hm])
  simp only [Q0, Q1, Q2, Q3, Q4, Q5, Q6, Q7, Q8, Q9, Qa, Qb, Qc, Qd, Qe, Qf, Qg, Qh, Qi, Qj, cellH_of h.hq]
  refine (readSlice2_ok h.qa (fun hn => ?_) (fun j hj => ?_)).mono ?_
  · rw [lineLen, hn] at hLl
    simp only [] at hLl
    omega
  · rw [lineLen, hj] at hLl
    simp only [] at hLl
    omega
  rintro x H1 ⟨u, t1, rfl, hL1⟩
  have hub := hL1.line
  rw [hL] at hub
  have hrest1 := hL1.rest
  obtain ⟨o, n, c, rfl, hr1, hr2, hr3⟩ := hL1.rng
  have hn : n = (P ++ T).length := by
    have := hub.len
    simp [lenV] at this
    simp; omega
  subst hn
  have hqq1 := hL1.frm.get h.hq hqn
  generalize hnl : (nl? t.rest).isNone = nn at *
  simp only [Q0, Q1, Q2, Q3, Q4, Q5, Q6, Q7, Q8, Q9, Qa, Qb, Qc, Qd, Qe, Qf, Qg, Qh, Qi, Qj]
  refine qstore hL1.qa h.dq hqq1 (by omega) rfl fun H2 qa2 hqq2 f2 z2 => ?_
  simp only [Qt, Qu, Qv] at hqq2
  refine qstore qa2 h.dq hqq2 (by omega) (er_one e nn) fun H3 qa3 hqq3 f3 z3 => ?_
  simp only [Qt, Qu, Qv] at hqq3
  have fq : ∀ {A B : Heap} (_ : Frm [q] A B) {w : Value} {l : List UInt8}, IsBytes A w l → blk w = some F.bf → IsBytes B w l := fun f w l hw hb => hw.frm f (fun b h' => by
    rw [hb] at h'; cases h'
    rw [List.mem_singleton]; exact fun e => hq2 e.symm)
  have hub3 := fq (f2.trans f3) hub rfl
  have f13 : Frm (q :: F.ids e) H H3 := (hL1.frm.mono (fun x hx => List.mem_cons_of_mem _ hx)).trans ((f2.trans f3).mono (by simp))
  simp only [Q0, Q1, Q2, Q3, Q4, Q5, Q6, Q7, Q8, Q9, Qa, Qb, Qc, Qd, Qe, Qf, Qg, Qh, Qi, Qj, cellH_of hqq3]
  refine lit1 (c := 10) fun H4 hl4 f4 z4 => ?_
  have hqq4 := f4.get hqq3 (by simp)
  have hub4 := hub3.frm f4 (by simp)
  refine (hasSuffix_ok hub4 hl4 (by omega) (by simp)).mono ?_
  rintro x H5 ⟨rfl, rfl⟩
  simp only [Q0, Q1, Q2, Q3, Q4, Q5, Q6, Q7, Q8, Q9, Qa, Qb, Qc, Qd, Qe, Qf, Qg, Qh, Qi, Qj, cellH_of hqq4]
  refine lit2 (c := 13) (d := 10) fun H6 hl6 f6 z6 => ?_
  have hqq6 := f6.get hqq4 (by simp)
  have hub6 := hub4.frm f6 (by simp)
  refine (hasSuffix_ok hub6 hl6 (by omega) (by simp)).mono ?_
  rintro x H7 ⟨rfl, rfl⟩
  have qa7 : QAt e F t1 H7 := (qa3.frm f4 (by simp)).frm f6 (by simp)
  have f17 : Frm (q :: F.ids e) H H7 := f13.trans ((f4.trans f6).mono (by simp))
  simp only [Q0, Q1, Q2, Q3, Q4, Q5, Q6, Q7, Q8, Q9, Qa, Qb, Qc, Qd, Qe, Qf, Qg, Qh, Qi, Qj, cellH_of hqq6]
  refine (trimRight_ok hub6 hr2 (by omega) h128).mono ?_
  rintro x H8 ⟨rfl, k, hk, rfl⟩
  have hkP : k = P.length := hk.eq hT hP
  subst hkP
  refine qstore qa7 h.dq hqq6 (by omega) rfl fun H9 qa9 hqq9 f9 z9 => ?_
  simp only [Qt, Qu, Qv] at hqq9
  have hub9 := fq f9 hub6 rfl
  have hP9 : IsBytes H9 (.slice (some ⟨F.bf, o, none⟩) P.length c) P := by
    have hs := hub9.sub (lo := 0) (hi := P.length) (Nat.zero_le _) (by simp)
    rw [List.take_left] at hs
    have e6 : (if c = 0 then (⟨F.bf, o, none⟩ : Addr) else ⟨F.bf, o + 0, none⟩) = ⟨F.bf, o, none⟩ := by split <;> rfl
    rw [e6] at hs
    simpa using hs
  have f19 : Frm (q :: F.ids e) H H9 := f17.trans (f9.mono (by simp))
  have hPl : P.length + T.length ≤ c := by simpa using hr2
  have hor : o + P.length + T.length ≤ t1.r := by simp at hr1; omega
  have hlt : lineLen t.rest = P.length + T.length := by rw [hLl]; simp
  have hrl : t1.rest.length + lineLen t.rest = t.rest.length := by rw [hrest1, List.length_drop]; have := lineLen_le t.rest; omega
  refine ⟨fun _ H' => ∃ t' lv' ln', QR e F q t' nn lv' ln' H' ∧ QRem ln' nn t'.rest D ∧ Frm (q :: F.ids e) H H' ∧ t'.rest = t1.rest, ?_, ?_⟩
  · simp only [Q0, Q1, Q2, Q3, Q4, Q5, Q6, Q7, Q8, Q9, Qa, Qb, Qc, Qd, Qe, Qf, Qg, Qh, Qi, Qj, cellH_of hqq9]
    refine lit1 (c := 61) fun H10 hl10 f10 z10 => ?_
    have hqq10 := f10.get hqq9 (by simp)
    have hP10 := hP9.frm f10 (by simp)
    have qa10 := qa9.frm f10 (by simp)
    have f1A : Frm (q :: F.ids e) H H10 := f19.trans (f10.mono (by simp))
    refine (hasSuffix_ok hP10 hl10 (by omega) (by simp)).mono ?_
    rintro x H11 ⟨rfl, rfl⟩
    rcases hcase with ⟨hn0, hdr, htok, hlf, hne⟩ | ⟨hn0, d, D', htok, rfl, hqt, hlf, hcr, hT2, hne⟩ | ⟨hn0, p, d, D', rfl, rfl, htok, rfl, hqt⟩
    · -- the last line
      have h61 : [61].isSuffixOf P = false := by rw [suffix_last, decide_eq_false_iff_not]; exact hne
      rw [h61, hlf]
      simp only [Q0, Q1, Q2, Q3, Q4, Q5, Q6, Q7, Q8, Q9, Qa, Qb, Qc, Qd, Qe, Qf, Qg, Qh, Qi, Qj]
      have hnn : nn = true := by rw [← hnl, hn0]; rfl
      subst hnn
      refine ⟨t1, _, P, ⟨qa10, hqq10, hP10, .inr ⟨o, P.length, c, rfl, by omega, by omega, hr3⟩, rfl, fun _ => ⟨(hL1.ended hn0).1, (hL1.ended hn0).2, by rw [hrest1, hdr]⟩, h.dq⟩, ⟨D, [], htok, by simp, fun _ => ⟨by rw [hrest1, hdr], rfl⟩, by simp⟩, f1A, rfl⟩
    · have h61 : [61].isSuffixOf P = false := by rw [suffix_last, decide_eq_false_iff_not]; exact hne
      have hnn : nn = false := hn0
      subst hnn
      rw [h61, hlf, hcr]
      simp only [Q0, Q1, Q2, Q3, Q4, Q5, Q6, Q7, Q8, Q9, Qa, Qb, Qc, Qd, Qe, Qf, Qg, Qh, Qi, Qj, cellH_of hqq10]
      refine row2 (c := 13) (d := 10) fun H12 hl12 f12 z12 => ?_
      have hqq12 := f12.get hqq10 (by simp)
      have hP12 := hP10.frm f12 (by simp)
      have qa12 := qa10.frm f12 (by simp)
      refine appendBreak qa12 hP12 rfl (by omega) (by omega) hl12 fun t' H13 qa13 hr' hrest' _ _ hb13 f13' z13 => ?_
      have hqq13 := f13'.get hqq12 (by rw [List.mem_singleton]; exact hq2)
      refine qstore qa13 h.dq hqq13 (by omega) rfl fun H14 qa14 hqq14 f14 z14 => ?_
      simp only [Qt, Qu, Qv] at hqq14
      refine ⟨t', _, P ++ [13, 10], ⟨qa14, hqq14, fq f14 hb13 rfl, .inr ⟨o, P.length + 2, c, rfl, by rw [hr']; omega, by omega, hr3⟩, rfl, by simp, h.dq⟩, ⟨d ++ [13, 10], D', htok.app (.lit 13 _ _ (by unfold okB; decide) (.lit 10 _ _ (by unfold okB; decide) .nil)), by simp, by simp, fun _ => by rw [hrest', hrest1]; exact hqt⟩, ?_, hrest'⟩
      exact ((f1A.trans (f12.mono (by simp))).trans (f13'.mono (by simp [QF.ids]))).trans (f14.mono (by simp))
    · have h61 : [61].isSuffixOf (p ++ [61]) = true := by rw [suffix_last]; simp
      have hnn : nn = false := hn0
      subst hnn
      have hub10 := hub9.frm f10 (by simp)
      obtain ⟨y, hy, hyb, _, hyr⟩ := hub10.from (n := (p ++ [61]).length) (by simp) .i64
      have hyB : ∀ x, blk y = some x → x < H11.size := fun x hx => by
        obtain ⟨o', n', c', rfl, _⟩ := hyr _ _ ⟨o, _, c, rfl, hr1, hr2, hr3⟩
        simp only [blk_slice, Option.map_some, Option.some.injEq] at hx
        rw [← hx]; exact lt_of_some qa10.hbf
      rw [List.drop_left] at hyb
      rw [h61]
      simp only [Q0, Q1, Q2, Q3, Q4, Q5, Q6, Q7, Q8, Q9, Qa, Qb, Qc, Qd, Qe, Qf, Qg, Qh, Qi, Qj, cellH_of hqq10, hy]
      refine (trimLeft_ok hyb hyB (by simp)).mono ?_
      rintro z H12 ⟨hz, f12⟩
      rw [dropWhile_crlf] at hz
      have hqq12 := f12.get hqq10 (by simp)
      have hP12 := hP10.frm f12 (by simp)
      have qa12 := qa10.frm f12 (by simp)
      have e1 : IntKind.i64.wrap (((p ++ [61]).length : Int) - 1) = (p.length : Int) := by simp at hPl hl78 ⊢; rw [wrap_i64 (by omega) (by omega)]
      simp only [Q0, Q1, Q2, Q3, Q4, Q5, Q6, Q7, Q8, Q9, Qa, Qb, Qc, Qd, Qe, Qf, Qg, Qh, Qi, Qj, Qk, Ql, Qm, Qn, Qo, Qp, Qq, Qr, Qs, cellH_of hqq12, e1]
      rw [sliceV_hi (by simp at hPl; omega), Q6]
      refine qstore qa12 h.dq hqq12 (by omega) rfl fun H13 qa13 hqq13 f13' z13 => ?_
      simp only [Qt, Qu, Qv] at hqq13
      have hp13 : IsBytes H13 (.slice (some ⟨F.bf, o, none⟩) p.length c) p := by
        have hP13 := fq f13' hP12 rfl
        have hs := hP13.sub (lo := 0) (hi := p.length) (Nat.zero_le _) (by simp)
        rw [List.take_left] at hs
        have e6 : (if c = 0 then (⟨F.bf, o, none⟩ : Addr) else ⟨F.bf, o + 0, none⟩) = ⟨F.bf, o, none⟩ := by split <;> rfl
        rw [e6] at hs
        simpa using hs
      have f1D : Frm (q :: F.ids e) H H13 := (f1A.trans (f12.mono (by simp))).trans (f13'.mono (by simp))
      have hz13 := hz.frm f13' (fun b hb => ?_)
      · refine ⟨fun vs H' => vs = [.bool false] ∧ Frm [] H13 H', ?_, ?_⟩
        · refine lit1 (c := 10) fun H14 hl14 f14 z14 => ?_
          refine (hasPrefix_ok (hz13.frm f14 (by simp)) hl14).mono ?_
          rintro x H15 ⟨rfl, rfl⟩
          have g1 : ([10] : List UInt8).isPrefixOf [13, 10] = false := by decide
          rw [g1]
          simp only [Q0, Q1, Q2, Q3, Q4, Q5, Q6, Q7, Q8, Q9, Qa, Qb, Qc, Qd, Qe, Qf, Qg, Qh, Qi, Qj, Bool.not_false]
          refine lit2 (c := 13) (d := 10) fun H16 hl16 f16 z16 => ?_
          refine (hasPrefix_ok ((hz13.frm f14 (by simp)).frm f16 (by simp)) hl16).mono ?_
          rintro x H17 ⟨rfl, rfl⟩
          have g2 : ([13, 10] : List UInt8).isPrefixOf [13, 10] = true := by decide
          rw [g2]
          simp only [Q0, Q1, Q2, Q3, Q4, Q5, Q6, Q7, Q8, Q9, Qa, Qb, Qc, Qd, Qe, Qf, Qg, Qh, Qi, Qj, Bool.not_true, if_true, Bool.false_eq_true, if_false]
          exact ⟨trivial, f14.trans f16⟩
        · rintro _ H14 ⟨rfl, f14⟩
          simp only [Q0, Q1, Q2, Q3, Q4, Q5, Q6, Q7, Q8, Q9, Qa, Qb, Qc, Qd, Qe, Qf, Qg, Qh, Qi, Qj]
          have hqq14 := f14.get hqq13 (by simp)
          refine ⟨t1, _, p, ⟨qa13.frm f14 (by simp), hqq14, hp13.frm f14 (by simp), .inr ⟨o, p.length, c, rfl, by simp at hor; omega, by simp at hPl; omega, hr3⟩, rfl, by simp, h.dq⟩, ⟨d, D', htok, rfl, by simp, fun _ => by rw [hrest1]; exact hqt⟩, f1D.trans (f14.mono (by simp)), rfl⟩
      · rw [List.mem_singleton]
        intro hbq
        rcases hz with ⟨b', o', c', rfl, _, hcell⟩ | ⟨a, _, h⟩
        · simp only [blk_slice, Option.map_some, Option.some.injEq] at hb
          have h0 := hcell 0 (by simp)
          rw [hb, hbq, cellH_of hqq12] at h0
          have ho : o' = 0 ∨ o' = 1 ∨ o' = 2 ∨ 3 ≤ o' := by omega
          rcases ho with rfl | rfl | rfl | ho
          · simp [byteV] at h0
          · simp [byteV, REnv.er] at h0
          · simp [byteV] at h0
          · rw [Array.getElem?_eq_none (by simp; omega)] at h0
            simp at h0
        · cases h
  · rintro _ H10 ⟨t', lv', ln', hqr, hrem, ff, hrr⟩
    refine hK t' nn lv' ln' H10 hqr hrem ff ?_
    rw [hrr]
    rcases hcase with ⟨hn0, hdr, _⟩ | ⟨hn0, d, D', _, _, _, _, _, hT2, _⟩ | ⟨hn0, p, d, D', hp, rfl, _⟩
    · have hnn : nn = true := by rw [← hnl, hn0]; rfl
      subst hnn
      simp only [if_true]; omega
    · have : (if nn = true then 0 else 1) ≤ 1 := by split <;> omega
      omega
    · have : (if nn = true then 0 else 1) ≤ 1 := by split <;> omega
      simp at hlt
      omega
end Go.Cps
namespace Go.Cps
open Go Go.Proofs
theorem u8_eq (c : UInt8) (n : Nat) (hn : n < 256) : (((c.toNat : Nat) : Int) == (n : Int)) = (c == UInt8.ofNat n) := by
  rw [Bool.eq_iff_iff, beq_iff_eq, beq_iff_eq]
  constructor
  · intro h
    have : c.toNat = n := by omega
    rw [← this]; simp
  · intro h
    rw [h]
    simp; omega
theorem qByte_ok {e : REnv} {F : QF} {q : Nat} {t : QSt} {rerr : Bool} {lv : Value} {a : UInt8} {ln0 D : List UInt8} {H : Heap} {db o dn dc : Nat} {cs : Array Value} {T : TypeId} {nv : Nat} {R1 R2 : Value → Heap → Prop} {K : Value → Value → Heap → Prop}
    (h : QR e F q t rerr lv (a :: ln0) H) (hln : ln0.length < 2 ^ 30) (hD : QRem (a :: ln0) rerr t.rest D) (hd : H[db]? = some (.cells cs T (0, 0))) (ho : o < cs.size) (hdn : 0 < dn) (hdc : dn ≤ dc) (hnv : nv < 2 ^ 40)
    (hdb : db ≠ q ∧ db ≠ F.b ∧ db ≠ F.bf ∧ e.B ≤ db ∧ db ∉ e.all ∧ blk e.S.v ≠ some db)
    (hK : ∀ c D0 lv' ln' H' pv', D = c :: D0 → QR e F q t rerr lv' ln' H' → QRem ln' rerr t.rest D0 → ln'.length ≤ ln0.length → H'[db]? = some (.cells (cs.setIfInBounds o (byteV c)) T (0, 0)) → Frm [db, q] H H' → (∃ a, pv' = .slice a (dn - 1) (dc - 1) ∧ (1 < dn → a = some ⟨db, o + 1, none⟩)) → K pv' (.int .i64 (nv + 1 : Nat)) H') :
    Fld 2 (.pointer (some ⟨q, 0, none⟩)) H fun x157 =>
    Get (elemAddrV 1 x157 (.int .i64 0)) fun x158 =>
    Get (load1V x158 H) fun x159 =>
    Join (fun K7 =>
    Get (arithV .eql .u8 x159 (.int .u8 61)) fun x162 =>
    Br x162 (
    Fld 2 (.pointer (some ⟨q, 0, none⟩)) H fun x167 =>
    Get (sliceV 1 x167 (some (.int .i64 1)) none none) fun x168 =>
    CallsH Tryz.prog 235 #[x168] H fun x169 H =>
    Get (extractV x169 0) fun x170 =>
    Get (extractV x169 1) fun x171 =>
    Get (nilV2 .neq .nilIface x171) fun x173 =>
    Br x173 (
    Join (fun K8 =>
    Fld 2 (.pointer (some ⟨q, 0, none⟩)) H fun x177 =>
    Get (lenV x177) fun x178 =>
    Get (arithV .geq .i64 x178 (.int .i64 2)) fun x179 =>
    Br x179 (
    Fld 2 (.pointer (some ⟨q, 0, none⟩)) H fun x184 =>
    Get (elemAddrV 1 x184 (.int .i64 1)) fun x185 =>
    Get (load1V x185 H) fun x186 =>
    Get (arithV .neq .u8 x186 (.int .u8 13)) fun x187 =>
    Get (pickV (.bool true) x187 (.bool false)) fun x188 =>
    Br x188 (
    Fld 2 (.pointer (some ⟨q, 0, none⟩)) H fun x193 =>
    Get (elemAddrV 1 x193 (.int .i64 1)) fun x194 =>
    Get (load1V x194 H) fun x195 =>
    Get (arithV .neq .u8 x195 (.int .u8 10)) fun x196 =>
    Get (pickV (.bool true) x196 (.bool false)) fun x197 =>
    K8 [x197] H) (
    Get (pickV (.bool false) undef (.bool false)) fun x197_1 =>
    K8 [x197_1] H)) (
    Get (pickV (.bool false) undef (.bool false)) fun x188_1 =>
    Br x188_1 (
    Fld 2 (.pointer (some ⟨q, 0, none⟩)) H fun x193_1 =>
    Get (elemAddrV 1 x193_1 (.int .i64 1)) fun x194_1 =>
    Get (load1V x194_1 H) fun x195_1 =>
    Get (arithV .neq .u8 x195_1 (.int .u8 10)) fun x196_1 =>
    Get (pickV (.bool true) x196_1 (.bool false)) fun x197_2 =>
    K8 [x197_2] H) (
    Get (pickV (.bool false) undef (.bool false)) fun x197_3 =>
    K8 [x197_3] H))) fun vs9 H =>
    Br (nth vs9 0) (
    K7 [.int .i64 (nv : Nat), (.int .u8 61)] H) (
    R1 x171 H)) (
    Fld 2 (.pointer (some ⟨q, 0, none⟩)) H fun x204 =>
    Get (sliceV 1 x204 (some (.int .i64 2)) none none) fun x205 =>
    Get (nilV (.pointer (some ⟨q, 0, none⟩))) fun x206 =>
    Get (fieldAddrV 2 x206) fun x207 =>
    Get (store1V x207 x205 H) fun H =>
    K7 [.int .i64 (nv : Nat), x170] H)) (
    Join (fun K10 =>
    Get (arithV .eql .u8 x159 (.int .u8 9)) fun x210 =>
    Br x210 (
    Get (pickV (.bool true) (.bool true) undef) fun x214 =>
    Br x214 (
    Get (pickV (.bool true) (.bool true) undef) fun x218 =>
    K10 [x218] H) (
    Get (arithV .eql .u8 x159 (.int .u8 10)) fun x217 =>
    Get (pickV (.bool false) (.bool true) x217) fun x218_1 =>
    K10 [x218_1] H)) (
    Get (arithV .eql .u8 x159 (.int .u8 13)) fun x213 =>
    Get (pickV (.bool false) (.bool true) x213) fun x214_1 =>
    Br x214_1 (
    Get (pickV (.bool true) (.bool true) undef) fun x218_2 =>
    K10 [x218_2] H) (
    Get (arithV .eql .u8 x159 (.int .u8 10)) fun x217_1 =>
    Get (pickV (.bool false) (.bool true) x217_1) fun x218_3 =>
    K10 [x218_3] H))) fun vs11 H =>
    Br (nth vs11 0) (
    K7 [.int .i64 (nv : Nat), x159] H) (
    Get (arithV .geq .u8 x159 (.int .u8 128)) fun x221 =>
    Br x221 (
    K7 [.int .i64 (nv : Nat), x159] H) (
    Join (fun K12 =>
    Get (arithV .lss .u8 x159 (.int .u8 32)) fun x224 =>
    Br x224 (
    Get (pickV (.bool true) (.bool true) undef) fun x228 =>
    K12 [x228] H) (
    Get (arithV .gtr .u8 x159 (.int .u8 126)) fun x227 =>
    Get (pickV (.bool false) (.bool true) x227) fun x228_1 =>
    K12 [x228_1] H)) fun vs13 H =>
    Br (nth vs13 0) (
    CallsH Tryz.prog 60 #[(.string ⟨#[113, 117, 111, 116, 101, 100, 112, 114, 105, 110, 116, 97, 98, 108, 101, 58, 32, 105, 110, 118, 97, 108, 105, 100, 32, 117, 110, 101, 115, 99, 97, 112, 101, 100, 32, 98, 121, 116, 101, 32, 105, 110, 32, 98, 111, 100, 121]⟩)] H fun x230 H =>
    R2 x230 H) (
    K7 [.int .i64 (nv : Nat), x159] H))))) fun vs14 H =>
    Get (elemAddrV 1 (.slice (some ⟨db, o, none⟩) dn dc) (.int .i64 0)) fun x233 =>
    Get (store1V x233 (nth vs14 1) H) fun H =>
    Get (sliceV 1 (.slice (some ⟨db, o, none⟩) dn dc) (some (.int .i64 1)) none none) fun x235 =>
    Fld 2 (.pointer (some ⟨q, 0, none⟩)) H fun x240 =>
    Get (sliceV 1 x240 (some (.int .i64 1)) none none) fun x241 =>
    Get (nilV (.pointer (some ⟨q, 0, none⟩))) fun x242 =>
    Get (fieldAddrV 2 x242) fun x243 =>
    Get (store1V x243 x241 H) fun H =>
    Get (arithV .add .i64 (nth vs14 0) (.int .i64 1)) fun x245 =>
    K x235 x245 H := by
  have ⟨hq1, hq2, hq3, hq4, hq5⟩ := h.dq
  obtain ⟨hb1, hb2, hb3, hb4, hb5, hb6⟩ := hdb
  have hrng : Rng2 lv F.bf t.r := by
    rcases h.lr with h1 | h1
    · cases h1
    · exact h1
  obtain ⟨lo, n, lc, rfl, hr1, hr2, hr3⟩ := hrng
  have hlb := h.lb
  have hn : n = ln0.length + 1 := by
    have := hlb.len
    simp [lenV] at this
    omega
  subst hn
  have hcell : cellH H ⟨F.bf, lo, none⟩ = some (byteV a) := by
    rcases hlb with ⟨b', o', c', he, _, hc⟩ | ⟨_, _, h0⟩
    · cases he
      have := hc 0 (by simp)
      simpa using this
    · cases h0
  have hel : elemAddrV 1 (.slice (some ⟨F.bf, lo, none⟩) (ln0.length + 1) lc) (.int .i64 0) = some (.pointer (some ⟨F.bf, lo, none⟩)) := by
    rw [elemAddr_of (by omega) (by omega)]; simp
  -- what comes behind: the byte is stored, the line goes on
  have hend : ∀ (c : UInt8) (D0 : List UInt8) (lv1 : Value) (ln1 : List UInt8) (z : UInt8) (H1 : Heap), D = c :: D0 → QR e F q t rerr lv1 (z :: ln1) H1 → ln1.length ≤ ln0.length → QRem ln1 rerr t.rest D0 → Frm [q] H H1 →
      (Get (elemAddrV 1 (.slice (some ⟨db, o, none⟩) dn dc) (.int .i64 0)) fun x233 =>
      Get (store1V x233 (byteV c) H1) fun H =>
      Get (sliceV 1 (.slice (some ⟨db, o, none⟩) dn dc) (some (.int .i64 1)) none none) fun x235 =>
      Fld 2 (.pointer (some ⟨q, 0, none⟩)) H fun x240 =>
      Get (sliceV 1 x240 (some (.int .i64 1)) none none) fun x241 =>
      Get (nilV (.pointer (some ⟨q, 0, none⟩))) fun x242 =>
      Get (fieldAddrV 2 x242) fun x243 =>
      Get (store1V x243 x241 H) fun H =>
      Get (arithV .add .i64 (.int .i64 (nv : Nat)) (.int .i64 1)) fun x245 =>
      K x235 x245 H) := by
    intro c D0 lv1 ln1 z H1 hDc h1 hlen1 hrem1 f1
    have hd1 := f1.get hd (by rw [List.mem_singleton]; exact hb1)
    rw [elemAddr_of (by omega) (by omega)]
    have e0 : o + (0 : Int).toNat * 1 = o := by simp
    simp only [Q0, Q1, Q2, Q3, Q4, Q5, Q6, Q7, Q8, Q9, Qa, Qb, Qc, Qd, Qe, Qf, Qg, Qh, Qi, Qj, e0]
    refine Store_of hd1 ho rfl fun H2 hd2 f2 z2 => ?_
    have qa2 : QAt e F t H2 := h1.qa.frm f2 (fun x hx => by rw [List.mem_singleton] at hx; subst hx; exact ⟨hb2, hb3, hb4, hb5, hb6⟩)
    have hqq2 := f2.get h1.hq (by rw [List.mem_singleton]; exact hb1.symm)
    have hlb2 : IsBytes H2 lv1 (z :: ln1) := h1.lb.frm f2 (fun b hb => by
      rcases h1.lr with hh | ⟨o', n', c', rfl, _⟩
      · cases hh
      · simp only [blk_slice, Option.map_some, Option.some.injEq] at hb
        rw [List.mem_singleton, ← hb]; exact hb3.symm)
    obtain ⟨y, hy, hyb, hy1, hyr⟩ := hlb2.from (n := 1) (by simp) .i64
    have hs := sliceV_lo (a := some ⟨db, o, none⟩) (n := dn) (c := dc) (size := 1) (lo := 1) (by omega) .i64
    have e2 : IntKind.i64.wrap ((nv : Int) + 1) = ((nv + 1 : Nat) : Int) := by rw [wrap_i64 (by omega) (by omega)]; omega
    have hs' : sliceV 1 (.slice (some ⟨db, o, none⟩) dn dc) (some (.int .i64 1)) none none = some (.slice (if dc = 1 then some ⟨db, o, none⟩ else (some (⟨db, o, none⟩ : Addr)).map (·.add (1 * 1))) (dn - 1) (dc - 1)) := hs
    have hy' : sliceV 1 lv1 (some (.int .i64 1)) none none = some y := hy
    simp only [Q0, Q1, Q2, Q3, Q4, Q5, Q6, Q7, Q8, Q9, Qa, Qb, Qc, Qd, Qe, Qf, Qg, Qh, Qi, Qj, Qk, Ql, Qm, Qn, Qo, Qp, Qq, Qr, Qs, hs', cellH_of hqq2, hy', e2]
    refine qstore qa2 h.dq hqq2 (by omega) hy1 fun H3 qa3 hqq3 f3 z3 => ?_
    simp only [Qt, Qu, Qv] at hqq3
    have hlr : ln1 = [] ∨ Rng2 y F.bf t.r := by
      rcases h1.lr with hh | hh
      · cases hh
      · exact .inr (hyr _ _ hh)
    have hyb3 : IsBytes H3 y ln1 := hyb.frm' f3 (fun hne b hb => by
      rcases hlr with hh | ⟨o', n', c', rfl, _⟩
      · exact absurd hh hne
      · simp only [blk_slice, Option.map_some, Option.some.injEq] at hb
        rw [List.mem_singleton, ← hb]; exact hq2.symm)
    refine hK c D0 y ln1 H3 _ hDc ⟨qa3, hqq3, hyb3, hlr, hy1, h1.fin, h.dq⟩ hrem1 hlen1 (f3.get hd2 (by rw [List.mem_singleton]; exact hb1)) (((f1.mono (by simp)).trans (f2.mono (by simp))).trans (f3.mono (by simp))) ⟨_, rfl, fun hlt => ?_⟩
    rw [if_neg (by omega)]
    simp
  have e61 : (((a.toNat : Nat) : Int) == 61) = (a == UInt8.ofNat 61) := u8_eq a 61 (by omega)
  have e9 : (((a.toNat : Nat) : Int) == 9) = (a == UInt8.ofNat 9) := u8_eq a 9 (by omega)
  have e13 : (((a.toNat : Nat) : Int) == 13) = (a == UInt8.ofNat 13) := u8_eq a 13 (by omega)
  have e10 : (((a.toNat : Nat) : Int) == 10) = (a == UInt8.ofNat 10) := u8_eq a 10 (by omega)
  obtain ⟨dl, D', htok, rfl, hfin, hrd⟩ := hD
  simp only [Q0, Q1, Q2, Q3, Q4, Q5, Q6, Q7, Q8, Q9, Qa, Qb, Qc, Qd, Qe, Qf, Qg, Qh, Qi, Qj, cellH_of h.hq, hel, hcell]
  refine ⟨fun vs H1 => ∃ (c : UInt8) (D0 : List UInt8) (lv1 : Value) (ln1 : List UInt8) (z : UInt8), vs = [.int .i64 (nv : Nat), byteV c] ∧ dl ++ D' = c :: D0 ∧ QR e F q t rerr lv1 (z :: ln1) H1 ∧ ln1.length ≤ ln0.length ∧ QRem ln1 rerr t.rest D0 ∧ Frm [q] H H1, ?_, ?_⟩
  · simp only [byteV, Q0, Q1, Q2, Q3, Q4, Q5, Q6, Q7, Q8, Q9, Qa, Qb, Qc, Qd, Qe, Qf, Qg, Qh, Qi, Qj, Qk, Ql, Qm, Qn, Qo, Qp, Qq, Qr, Qs, e61]
    cases htok with
    | lit _ _ d hok hr =>
      obtain ⟨hne, hcase⟩ := hok
      have h61 : (a == UInt8.ofNat 61) = false := by rw [beq_eq_false_iff_ne]; exact hne
      have hgo : ∃ (c : UInt8) (D0 : List UInt8) (lv1 : Value) (ln1 : List UInt8) (z : UInt8), [Value.int .i64 (nv : Nat), .int .u8 a.toNat] = [.int .i64 (nv : Nat), byteV c] ∧ a :: d ++ D' = c :: D0 ∧ QR e F q t rerr lv1 (z :: ln1) H ∧ ln1.length ≤ ln0.length ∧ QRem ln1 rerr t.rest D0 ∧ Frm [q] H H :=
        ⟨a, d ++ D', _, ln0, a, rfl, rfl, h, Nat.le_refl _, ⟨d, D', hr, rfl, hfin, hrd⟩, Frm.refl _ _⟩
      simp only [h61, Q8]
      refine ⟨fun vs H' => H' = H ∧ vs = [.bool (a == 9 || a == 13 || a == 10)], ?_, ?_⟩
      · simp only [Q0, Q1, Q2, Q3, Q4, Q5, Q6, Q7, Q8, Q9, Qa, Qb, Qc, Qd, Qe, Qf, Qg, Qh, Qi, Qj, Qk, Ql, Qm, Qn, Qo, Qp, Qq, Qr, Qs, e9, e13, e10]
        by_cases g9 : a = 9
        · subst g9
          simp
        · have g9' : (a == UInt8.ofNat 9) = false := by rw [beq_eq_false_iff_ne]; exact g9
          have g9'' : (a == 9) = false := g9'
          by_cases g13 : a = 13
          · subst g13
            simp
          · have g13' : (a == UInt8.ofNat 13) = false := by rw [beq_eq_false_iff_ne]; exact g13
            have g13'' : (a == 13) = false := g13'
            simp only [g9', g13', Q0, Q1, Q2, Q3, Q4, Q5, Q6, Q7, Q8, Q9, Qa, Qb, Qc, Qd, Qe, Qf, Qg, Qh, Qi, Qj, Bool.false_eq_true, if_false, g9'', g13'', Bool.false_or]
            exact ⟨trivial, rfl⟩
      · rintro _ H1 ⟨rfl, rfl⟩
        simp only [Q0, Q1, Q2, Q3, Q4, Q5, Q6, Q7, Q8, Q9, Qa, Qb, Qc, Qd, Qe, Qf, Qg, Qh, Qi, Qj, Qk, Ql, Qm, Qn, Qo, Qp, Qq, Qr, Qs]
        refine Br_intro (fun g => hgo) (fun g => ?_)
        simp only [Bool.or_eq_false_iff, beq_eq_false_iff_ne] at g
        have hpr : 32 ≤ a.toNat ∧ a.toNat ≤ 126 := by
          rcases hcase with h | h | h | h
          · exact absurd h g.1.1
          · exact absurd h g.2
          · exact absurd h g.1.2
          · exact h
        have d1 : decide (((a.toNat : Nat) : Int) ≥ 128) = false := by simp; omega
        have d2 : decide (((a.toNat : Nat) : Int) < 32) = false := by simp; omega
        have d3 : decide (((a.toNat : Nat) : Int) > 126) = false := by simp; omega
        simp only [d1, Q8]
        refine Join_direct ?_
        simp only [d2, d3, Q0, Q1, Q2, Q3, Q4, Q5, Q6, Q7, Q8, Q9, Qa, Qb, Qc, Qd, Qe, Qf, Qg, Qh, Qi, Qj, Bool.false_eq_true, if_false]
        exact hgo
    | esc a1 b1 x y r d hx hy hr =>
      have h61 : ((61 : UInt8) == UInt8.ofNat 61) = true := by decide
      obtain ⟨u, hu, hub, _⟩ := hlb.from (n := 1) (by simp) .i64
      have hu' : sliceV 1 (.slice (some ⟨F.bf, lo, none⟩) ((a1 :: b1 :: r).length + 1) lc) (some (.int .i64 1)) none none = some u := hu
      simp only [h61, Q7, hu', Q6]
      refine (readHex_ok (r := r) hub (by simp at hln; omega) hx hy).mono ?_
      rintro v H1 ⟨rfl, rfl⟩
      obtain ⟨w, hw, hwb, hw1, hwr⟩ := hlb.from (n := 2) (by simp) .i64
      have hw' : sliceV 1 (.slice (some ⟨F.bf, lo, none⟩) ((a1 :: b1 :: r).length + 1) lc) (some (.int .i64 2)) none none = some w := hw
      simp only [Q0, Q1, Q2, Q3, Q4, Q5, Q6, Q7, Q8, Q9, Qa, Qb, Qc, Qd, Qe, Qf, Qg, Qh, Qi, Qj, nilV2_neq_nil, cellH_of h.hq, hw']
      refine qstore h.qa h.dq h.hq (by omega) hw1 fun H2 qa2 hqq2 f2 z2 => ?_
      simp only [Qt, Qu, Qv] at hqq2
      have hwb2 : IsBytes H2 w (b1 :: r) := hwb.frm f2 (fun b hb => by
        obtain ⟨o', n', c', rfl, _⟩ := hwr _ _ ⟨lo, _, lc, rfl, hr1, hr2, hr3⟩
        simp only [blk_slice, Option.map_some, Option.some.injEq] at hb
        rw [List.mem_singleton, ← hb]; exact hq2.symm)
      exact ⟨_, d ++ D', w, r, b1, rfl, rfl, ⟨qa2, hqq2, hwb2, .inr (hwr _ _ ⟨lo, _, lc, rfl, hr1, hr2, hr3⟩), hw1, h.fin, h.dq⟩, by simp; omega, ⟨d, D', hr, rfl, hfin, hrd⟩, f2⟩
  · rintro _ H1 ⟨c, D0, lv1, ln1, z, rfl, hDc, h1, hl1, hrem1, f1⟩
    have := hend c D0 lv1 ln1 z H1 hDc h1 hl1 hrem1 f1
    simp only [Q0, Q1, Q2, Q3, Q4, Q5, Q6, Q7, Q8, Q9, Qa, Qb, Qc, Qd, Qe, Qf, Qg, Qh, Qi, Qj] at this ⊢
    exact this
end Go.Cps
namespace Go.Cps
open Go Go.Proofs
theorem Get_of {α : Type} {o : Option α} {v : α} {K : α → Prop} (h : o = some v) (hK : K v) : Get o K := ⟨v, h, hK⟩
theorem Fld_of {b o n : Nat} {v : Value} {H : Heap} {K : Value → Prop} (h : cellH H ⟨b, o + n, none⟩ = some v) (hK : K v) : Fld n (.pointer (some ⟨b, o, none⟩)) H K := by
  rw [Q0, Q1]
  exact ⟨v, h, hK⟩
theorem QR.len {e : REnv} {F : QF} {q : Nat} {t : QSt} {rerr : Bool} {lv : Value} {ln : List UInt8} {H : Heap} (h : QR e F q t rerr lv ln H) : ln.length ≤ 4096 := by
  rcases h.lr with rfl | ⟨o, n, c, rfl, h1, h2, h3⟩
  · simp
  · have := h.lb.len
    simp [lenV] at this
    omega
theorem QR.lenV {e : REnv} {F : QF} {q : Nat} {t : QSt} {rerr : Bool} {lv : Value} {ln : List UInt8} {H : Heap} (h : QR e F q t rerr lv ln H) : Go.Cps.lenV lv = some (.int .i64 ln.length) := h.lb.len
theorem qRead_ok {e : REnv} {F : QF} {q : Nat} {t : QSt} {rerr : Bool} {lv : Value} {ln D : List UInt8} {H : Heap} {db dn dc : Nat} {cs : Array Value} {T : TypeId} (h : QR e F q t rerr lv ln H) (hD : QRem ln rerr t.rest D) (hd : H[db]? = some (.cells cs T (0, 0))) (hdn : dn ≤ cs.size) (hdc : dn ≤ dc) (hd38 : dn < 2 ^ 38)
    (hdb : db ≠ q ∧ db ≠ F.b ∧ db ≠ F.bf ∧ e.B ≤ db ∧ db ∉ e.all ∧ blk e.S.v ≠ some db) :
    CallsH Tryz.prog 231 #[.pointer (some ⟨q, 0, none⟩), .slice (some ⟨db, 0, none⟩) dn dc] H fun x H' => ∃ k eo t' rerr' lv' ln', x = .tuple #[.int .i64 (k : Nat), e.er eo] ∧ k ≤ dn ∧ k ≤ D.length ∧ QR e F q t' rerr' lv' ln' H' ∧ QRem ln' rerr' t'.rest (D.drop k) ∧ H'[db]? = some (.cells (putAt cs 0 ((D.take k).map byteV)) T (0, 0)) ∧
      Frm (db :: q :: F.ids e) H H' ∧ (eo = true → rerr' = true ∧ ln' = [] ∧ D.drop k = []) ∧ (eo = false → k = dn) := by
  have hdx : db ∉ q :: F.ids e := fun hm => by
    simp only [QF.ids, List.mem_cons] at hm
    rcases hm with h1 | h1 | h1 | h1 | h1
    · exact hdb.1 h1
    · exact hdb.2.1 h1
    · exact hdb.2.2.1 h1
    · exact hdb.2.2.2.2.1 (by simp [REnv.all, h1])
    · exact hdb.2.2.2.2.1 (by simp [REnv.all, h1])
  apply s231
  unfold c231
  refine ⟨fun μ vs H1 => ∃ (k : Nat) (t1 : QSt) (rerr1 : Bool) (lv1 : Value) (ln1 : List UInt8) (a : Option Addr), vs = [.slice a (dn - k) (dc - k), .int .i64 (k : Nat)] ∧ μ = (dn - k) + (t1.rest.length + (if rerr1 then 0 else 1)) ∧ k ≤ dn ∧ k ≤ D.length ∧ (k < dn → a = some ⟨db, k, none⟩) ∧ QR e F q t1 rerr1 lv1 ln1 H1 ∧ QRem ln1 rerr1 t1.rest (D.drop k) ∧
      H1[db]? = some (.cells (putAt cs 0 ((D.take k).map byteV)) T (0, 0)) ∧ Frm (db :: q :: F.ids e) H H1, ⟨_, 0, t, rerr, lv, ln, _, rfl, rfl, Nat.zero_le _, Nat.zero_le _, fun _ => rfl, h, hD, hd, Frm.refl _ _⟩, ?_⟩
  clear h hD hd
  rintro μ vs H1 ⟨k, t1, rerr1, lv1, ln1, a, rfl, rfl, hk, hkD, ha, h1, hD1, hd1, f1⟩
  simp only [Q9, Qa]
  refine Get_of (Qi _ _ _) ?_
  refine Get_of (Qq _ _ _) ?_
  refine Br_intro (fun hlt => ?_) (fun hlt => ?_)
  · have hlt' : k < dn := by simp at hlt; omega
    have ha' := ha hlt'
    subst ha'
    refine Fld_of (v := lv1) (by rw [cellH_of h1.hq]; rfl) ?_
    refine Get_of h1.lenV ?_
    refine Get_of (Qm _ _ _) ?_
    refine Br_intro (fun h0 => ?_) (fun h0 => ?_)
    · have hl0 : ln1 = [] := List.eq_nil_of_length_eq_zero (by simpa using h0)
      subst hl0
      refine Fld_of (v := e.er rerr1) (by rw [cellH_of h1.hq]; rfl) ?_
      refine Get_of (neq_qer e rerr1) ?_
      refine Br_intro (fun hr => ?_) (fun hr => ?_)
      · refine Fld_of (v := e.er rerr1) (by rw [cellH_of h1.hq]; rfl) ?_
        have hD0 : D.drop k = [] := by
          obtain ⟨dl, D', htok, he, hf, _⟩ := hD1
          cases htok
          rw [he, (hf hr).2]; rfl
        exact ⟨k, rerr1, t1, rerr1, lv1, [], rfl, hk, hkD, h1, hD1, hd1, f1, fun _ => ⟨hr, rfl, hD0⟩, fun hh => by rw [hr] at hh; cases hh⟩
      · subst hr
        have hq : QText t1.rest (D.drop k) := by
          obtain ⟨dl, D', htok, he, _, hf⟩ := hD1
          cases htok
          rw [he]; exact hf rfl
        refine qLine_ok h1 hq fun t' rerr' lv' ln' H' g1 g2 g3 g4 => ?_
        exact ⟨(dn - k) + (t'.rest.length + (if rerr' then 0 else 1)), by simp only [Bool.false_eq_true, if_false]; omega, k, t', rerr', lv', ln', some ⟨db, k, none⟩, rfl, rfl, hk, hkD, fun _ => rfl, g1, g2, g3.get hd1 hdx, f1.trans (g3.mono (fun x hx => List.mem_cons_of_mem _ hx))⟩
    · cases ln1 with
      | nil => simp at h0
      | cons a0 ln0 =>
        have hlen := h1.len
        simp only [List.length_cons] at hlen
        have hdr : D.drop k ≠ [] := by
          obtain ⟨dl, D', htok, he, _⟩ := hD1
          intro hh
          rw [hh] at he
          have : dl = [] := by
            cases dl with
            | nil => rfl
            | cons => cases he
          subst this
          cases htok
        have hkl : k < D.length := by
          rcases Nat.lt_or_ge k D.length with h | h
          · exact h
          · exact absurd (List.drop_eq_nil_of_le h) hdr
        refine qByte_ok h1 (by omega) hD1 hd1 (by simp; omega) (by omega) (by omega) (by omega) hdb fun c D0 lv' ln' H' pv' hc g1 g2 _ g3 g4 ⟨a', hpv, ha'⟩ => ?_
        subst hpv
        have hdk := List.drop_eq_getElem_cons hkl
        rw [hc] at hdk
        have hc1 : c = D[k] := by injection hdk
        have hc2 : D0 = D.drop (k + 1) := by injection hdk
        refine ⟨(dn - (k + 1)) + (t1.rest.length + (if rerr1 then 0 else 1)), by omega, k + 1, t1, rerr1, lv', ln', a', by rw [Nat.sub_sub, Nat.sub_sub], rfl, hlt', hkl, fun hh => ha' (by omega), g1, by rw [← hc2]; exact g2, ?_, ?_⟩
        · rw [g3, List.take_succ_eq_append_getElem hkl, List.map_append, List.map_cons, List.map_nil, putAt_snoc, hc1]
          congr 3
          simp; omega
        · exact f1.trans (g4.mono (by intro x hx; simp at hx ⊢; rcases hx with h | h <;> simp [h]))
  · have hke : k = dn := by simp at hlt; omega
    exact ⟨k, false, t1, rerr1, lv1, ln1, rfl, hk, hkD, h1, hD1, hd1, f1, by simp, fun _ => hke⟩
end Go.Cps
