/-
  encodeValue (23): whatever the script and the strings, what comes back is one JSON value.
-/
import Derived.Test.Qxb6000759aEncA
import Derived.Test.Qxb6000759aEncB
namespace Go.Proofs.Qxb6000759a
open Go.RowKit

set_option maxRecDepth 100000 in
set_option maxHeartbeats 8000000 in
theorem encode_any (ao so : Option Addr) (len cap slen scap : Nat) (w : World) (hops : BytesAt w.heap.size w ao len) (hstr : StrsAt w.heap.size w so slen) (hlen : len ≤ 1048576) (hslen : slen ≤ 1048576) :
    Calls Try.prog 23 #[.slice ao len cap, .slice so slen scap] w (PostE w.heap.size w) := by
  have HOPS : Hid (BytesAt w.heap.size w ao len) := hops
  have HSTR : Hid (StrsAt w.heap.size w so slen) := hstr
  clear hops hstr
  go_enter Try.func23, Try.ntmps23
  go_wp2
  go_loopg [5, 6, 7, 8, 9, 10] len (fun gk s5 s6 s7 s8 s9 s10 wr => RelE w.heap.size w len slen gk s5 s6 s7 s8 s9 s10 wr)
  case atStart => exact ⟨0, _, 0, 0, _, 0, 0, _, 0, 0, [], [], [], false, by omega, rfl, rfl, rfl, rfl, rfl, rfl, Nat.zero_le _, inv_start w, Good.start, by omega, by omega⟩
  case round =>
    obtain ⟨j, go, no, co, gs, ns, cs, gf, cf, nx, out, st, fl, done, hj, rfl, rfl, rfl, rfl, rfl, rfl, hnx, hinv, hgood, hno, hns⟩ := hrel
    have HJ : Hid (j + gk = len) := hj
    have HI : Hid (Inv w.heap.size w wr go no co gs ns cs gf cf out st fl) := hinv
    have HG : Hid (Good out st done) := hgood
    have hjl : j ≤ len := by omega
    clear hj hinv hgood
    by_cases hrun : j < len ∧ done = false
    · obtain ⟨hlt, hdn⟩ := hrun
      subst hdn
      obtain ⟨b, o, z, rfl, hbB, hcell, hz0, hz1⟩ := HOPS.out j hlt
      rw [← HI.out.bel.cell (p := ⟨b, o + j, none⟩) hbB] at hcell
      go_upto_if 45 with fail
      clear hcell HOPS
      generalize decide (128 ≤ z) = wd
      generalize (bits BinOp.and IntKind.u8 z 64 != 0) = tg
      generalize bits BinOp.and IntKind.u8 z 64 = bz
      obtain ⟨g', hg'⟩ : ∃ g', gk = g' + 1 := ⟨gk - 1, by have := HJ.out; omega⟩
      subst hg'
      obtain ⟨lo, ls, lf⟩ := HI.out.lens
      have HLO : Hid (out.length = no ∧ st.length = ns ∧ fl.length = ns) := ⟨lo, ls, lf⟩
      clear lo ls lf
      by_cases hk2 : z % 5 = 2
      · have hk2' : (z % 5 == 2) = true := beq_iff_eq.2 hk2
        rw [hk2']
        refine enc_if45 _ _ _ _ _ _ _ _ _ _ _ _ _ _ _ _ _ _ _ _ _ _ _ _ _ _ _ _ _ _ _ _ _ _ _ _ _ _ _ _ _ _ _ _ _ _ _ _ _ _ _ _ _ _ _ _ _ _ _ _ _ _ _ _ _ _ _ _ _ _ _ _ _ _ _ _ _ _ _ _ _ _ _ _ _ _ _ _ _ _ _ _ _ _ _ _ _ _ _ _ _ _ _ _ _ _ _ _ _ _ _ _ _ _ _ _ _ _ _ _ _ _ _ _ _ _ _ _ _ _ _ _ _ _ _ _ _ _ _ _ _ _ _ _ _ _ _ _ _ _ _ _ _ _ _ _ _ _ _ _ _ _ _ _ _ _ _ _ _ _ _ _ _ _ _ _ _ _ _ _ _ _ _ _ _ _ _ _ _ _ _ _ _ _ _ _ _ _ _ _ _ _ _ _ _ _ _ _ _ _ _ HJ hnx HI HG hno hns hlen ?_
        intro x15 x16 x17 x18 x23 x24 x25 x26 x27 x28 x29 x30 x31 x32 x33 x34 x35 x36 x37 x38 x39 x40 x41 x42 x43 x44 x45 x46 x47 x48 x49 x50 x51 x52 x53 x54 x55 x56 x57 x58 x59 x60 x61 x62 x63 x64 x65 x66 x67 x68 x69 x70 x71 x72 x73 x74 x75 x76 x77 x78 x79 x80 x81 x82 x83 x84 x85 x86 x87 x88 x89 x90 x91 x92 x93 x94 x95 x96 x97 x98 x99 x100 x101 x102 x103 x104 x105 x106 x107 x108 x109 x110 x111 x112 x113 x114 x115 x116 x117 x118 x119 x120 x121 x122 x123 x124 x125 x126 x127 x128 x129 x130 x131 x132 x133 x134 x135 x136 x137 x138 x139 x140 x141 x142 x143 x144 x145 x146 x147 x148 x149 x150 x151 x152 x153 x154 x155 x156 x157 x158 x159 x160 x161 x162 x163 x164 x165 x166 x167 x168 x169 x170 x171 x172 x173 s5 s6 s7 s8 s9 w9 hR
        have HR := hid hR
        clear hR
        go_wp2
        go_roundg g'
        case measure => omega
        case rel => exact HR.out
      · have hk2' : (z % 5 == 2) = false := beq_eq_false_iff_ne.2 hk2
        go_upto_if 74 with fail
        refine enc_if74 _ _ _ _ _ _ _ _ _ _ _ _ _ _ _ _ _ _ _ _ _ _ _ _ _ _ _ _ _ _ _ _ _ _ _ _ _ _ _ _ _ _ _ _ _ _ _ _ _ _ _ _ _ _ _ _ _ _ _ _ _ _ _ _ _ _ _ _ _ _ _ _ _ _ _ _ _ _ _ _ _ _ _ _ _ _ _ _ _ _ _ _ _ _ _ _ _ _ _ _ _ _ _ _ _ _ _ _ _ _ _ _ _ _ _ _ _ _ _ _ _ _ _ _ _ _ _ _ _ _ _ _ _ _ _ _ _ _ _ _ _ _ _ _ _ _ _ _ _ _ _ _ _ _ _ _ _ _ _ _ _ _ _ _ _ _ _ _ _ _ _ _ _ _ _ _ _ _ _ _ _ _ _ _ _ _ _ _ _ _ _ _ _ _ _ _ _ _ _ _ _ _ _ _ _ _ _ _ _ _ _ _ hnx HI HG hno hns hjl hlen hslen HSTR ?_
        intro x15 x16 x17 x18 x23 x24 x25 x26 x27 x28 x29 x30 x31 x32 x33 x34 x35 x36 x37 x38 x39 x40 x41 x42 x43 x44 x45 x46 x47 x48 x49 x50 x51 x52 x53 x54 x55 x56 x57 x58 x59 x60 x61 x62 x63 x64 x65 x66 x67 x68 x69 x70 x71 x72 x73 x74 x75 x76 x77 x78 x79 x80 x81 x82 x83 x84 x85 x86 x87 x88 x89 x90 x91 x92 x93 x94 x95 x96 x97 x98 x99 x100 x101 x102 x103 x104 x105 x106 x107 x108 x109 x110 x111 x112 x113 x114 x115 x116 x117 x118 x119 x120 x121 x122 x123 x124 x125 x126 x127 x128 x129 x130 x131 x132 x133 x134 x135 x136 x137 x138 x139 x140 x141 x142 x143 x144 x145 x146 x147 x148 x149 x150 x151 x152 x153 x154 x155 x156 x157 x158 x159 x160 x161 x162 x163 x164 x165 x166 x167 x168 x169 x170 x171 x172 x173 s5 s8 wc hP
        obtain ⟨g1, n1, c1, n8, out1, fl1, rfl, rfl, hn8, hI1, hG1, hn1⟩ := hP
        have HI1 := hid hI1
        have HG1 := hid hG1
        clear hI1 hG1 HI HG HLO hnx
        rcases (show z % 5 = 0 ∨ z % 5 = 1 ∨ z % 5 = 3 ∨ z % 5 = 4 from by omega) with hz | hz | hz | hz
        · clear hk2 hk2'
          go_upto_if 126 with fail
          refine enc_if126 _ _ _ _ _ _ _ _ _ _ _ _ _ _ _ _ _ _ _ _ _ _ _ _ _ _ _ _ _ _ _ _ _ _ _ _ _ _ _ _ _ _ _ _ _ _ _ _ _ _ _ _ _ _ _ _ _ _ _ _ _ _ _ _ _ _ _ _ _ _ _ _ _ _ _ _ _ _ _ _ _ _ _ _ _ _ _ _ _ _ _ _ _ _ _ _ _ _ _ _ _ _ _ _ _ _ _ _ _ _ _ _ _ _ _ _ _ _ _ _ _ _ _ _ _ _ _ _ _ _ _ _ _ _ _ _ _ _ _ _ _ _ _ _ _ _ _ _ _ _ _ _ _ _ _ _ _ _ _ _ _ _ _ _ _ _ _ _ _ _ _ _ _ _ _ _ _ _ _ _ _ _ _ _ _ _ _ _ _ _ _ _ _ _ _ _ _ _ _ _ _ _ _ _ _ _ _ _ _ _ _ _ _ HJ hn8 HI1 HG1 hno hn1 hns hlen ?_
          intro x15 x16 x17 x18 x23 x24 x25 x26 x27 x28 x29 x30 x31 x32 x33 x34 x35 x36 x37 x38 x39 x40 x41 x42 x43 x44 x45 x46 x47 x48 x49 x50 x51 x52 x53 x54 x55 x56 x57 x58 x59 x60 x61 x62 x63 x64 x65 x66 x67 x68 x69 x70 x71 x72 x73 x74 x75 x76 x77 x78 x79 x80 x81 x82 x83 x84 x85 x86 x87 x88 x89 x90 x91 x92 x93 x94 x95 x96 x97 x98 x99 x100 x101 x102 x103 x104 x105 x106 x107 x108 x109 x110 x111 x112 x113 x114 x115 x116 x117 x118 x119 x120 x121 x122 x123 x124 x125 x126 x127 x128 x129 x130 x131 x132 x133 x134 x135 x136 x137 x138 x139 x140 x141 x142 x143 x144 x145 x146 x147 x148 x149 x150 x151 x152 x153 x154 x155 x156 x157 x158 x159 x160 x161 x162 x163 x164 x165 x166 x167 x168 x169 x170 x171 x172 x173 s5 s6 s7 s8 s9 w9 hR
          have HR := hid hR
          clear hR
          go_wp2
          go_roundg g'
          case measure => omega
          case rel => exact HR.out
        · clear hk2 hk2'
          go_upto_if 141 with fail
          refine enc_if141 _ _ _ _ _ _ _ _ _ _ _ _ _ _ _ _ _ _ _ _ _ _ _ _ _ _ _ _ _ _ _ _ _ _ _ _ _ _ _ _ _ _ _ _ _ _ _ _ _ _ _ _ _ _ _ _ _ _ _ _ _ _ _ _ _ _ _ _ _ _ _ _ _ _ _ _ _ _ _ _ _ _ _ _ _ _ _ _ _ _ _ _ _ _ _ _ _ _ _ _ _ _ _ _ _ _ _ _ _ _ _ _ _ _ _ _ _ _ _ _ _ _ _ _ _ _ _ _ _ _ _ _ _ _ _ _ _ _ _ _ _ _ _ _ _ _ _ _ _ _ _ _ _ _ _ _ _ _ _ _ _ _ _ _ _ _ _ _ _ _ _ _ _ _ _ _ _ _ _ _ _ _ _ _ _ _ _ _ _ _ _ _ _ _ _ _ _ _ _ _ _ _ _ _ _ _ _ _ _ _ _ _ _ HJ hn8 HI1 HG1 hno hn1 hns hlen ?_
          intro x15 x16 x17 x18 x23 x24 x25 x26 x27 x28 x29 x30 x31 x32 x33 x34 x35 x36 x37 x38 x39 x40 x41 x42 x43 x44 x45 x46 x47 x48 x49 x50 x51 x52 x53 x54 x55 x56 x57 x58 x59 x60 x61 x62 x63 x64 x65 x66 x67 x68 x69 x70 x71 x72 x73 x74 x75 x76 x77 x78 x79 x80 x81 x82 x83 x84 x85 x86 x87 x88 x89 x90 x91 x92 x93 x94 x95 x96 x97 x98 x99 x100 x101 x102 x103 x104 x105 x106 x107 x108 x109 x110 x111 x112 x113 x114 x115 x116 x117 x118 x119 x120 x121 x122 x123 x124 x125 x126 x127 x128 x129 x130 x131 x132 x133 x134 x135 x136 x137 x138 x139 x140 x141 x142 x143 x144 x145 x146 x147 x148 x149 x150 x151 x152 x153 x154 x155 x156 x157 x158 x159 x160 x161 x162 x163 x164 x165 x166 x167 x168 x169 x170 x171 x172 x173 s5 s6 s7 s8 s9 w9 hR
          have HR := hid hR
          clear hR
          go_wp2
          go_roundg g'
          case measure => omega
          case rel => exact HR.out
        · clear hk2 hk2'
          go_upto_if 156 with fail
          refine enc_if156t _ _ _ _ _ _ _ _ _ _ _ _ _ _ _ _ _ _ _ _ _ _ _ _ _ _ _ _ _ _ _ _ _ _ _ _ _ _ _ _ _ _ _ _ _ _ _ _ _ _ _ _ _ _ _ _ _ _ _ _ _ _ _ _ _ _ _ _ _ _ _ _ _ _ _ _ _ _ _ _ _ _ _ _ _ _ _ _ _ _ _ _ _ _ _ _ _ _ _ _ _ _ _ _ _ _ _ _ _ _ _ _ _ _ _ _ _ _ _ _ _ _ _ _ _ _ _ _ _ _ _ _ _ _ _ _ _ _ _ _ _ _ _ _ _ _ _ _ _ _ _ _ _ _ _ _ _ _ _ _ _ _ _ _ _ _ _ _ _ _ _ _ _ _ _ _ _ _ _ _ _ _ _ _ _ _ _ _ _ _ _ _ _ _ _ _ _ _ _ _ _ _ _ _ _ _ _ _ _ _ _ _ _ HJ hn8 HI1 HG1 hno hn1 hns hlen hslen HSTR ?_
          intro x15 x16 x17 x18 x23 x24 x25 x26 x27 x28 x29 x30 x31 x32 x33 x34 x35 x36 x37 x38 x39 x40 x41 x42 x43 x44 x45 x46 x47 x48 x49 x50 x51 x52 x53 x54 x55 x56 x57 x58 x59 x60 x61 x62 x63 x64 x65 x66 x67 x68 x69 x70 x71 x72 x73 x74 x75 x76 x77 x78 x79 x80 x81 x82 x83 x84 x85 x86 x87 x88 x89 x90 x91 x92 x93 x94 x95 x96 x97 x98 x99 x100 x101 x102 x103 x104 x105 x106 x107 x108 x109 x110 x111 x112 x113 x114 x115 x116 x117 x118 x119 x120 x121 x122 x123 x124 x125 x126 x127 x128 x129 x130 x131 x132 x133 x134 x135 x136 x137 x138 x139 x140 x141 x142 x143 x144 x145 x146 x147 x148 x149 x150 x151 x152 x153 x154 x155 x156 x157 x158 x159 x160 x161 x162 x163 x164 x165 x166 x167 x168 x169 x170 x171 x172 x173 s5 s6 s7 s8 s9 w9 hR
          have HR := hid hR
          clear hR
          go_wp2
          go_roundg g'
          case measure => omega
          case rel => exact HR.out
        · clear hk2 hk2'
          go_upto_if 156 with fail
          refine enc_if156f _ _ _ _ _ _ _ _ _ _ _ _ _ _ _ _ _ _ _ _ _ _ _ _ _ _ _ _ _ _ _ _ _ _ _ _ _ _ _ _ _ _ _ _ _ _ _ _ _ _ _ _ _ _ _ _ _ _ _ _ _ _ _ _ _ _ _ _ _ _ _ _ _ _ _ _ _ _ _ _ _ _ _ _ _ _ _ _ _ _ _ _ _ _ _ _ _ _ _ _ _ _ _ _ _ _ _ _ _ _ _ _ _ _ _ _ _ _ _ _ _ _ _ _ _ _ _ _ _ _ _ _ _ _ _ _ _ _ _ _ _ _ _ _ _ _ _ _ _ _ _ _ _ _ _ _ _ _ _ _ _ _ _ _ _ _ _ _ _ _ _ _ _ _ _ _ _ _ _ _ _ _ _ _ _ _ _ _ _ _ _ _ _ _ _ _ _ _ _ _ _ _ _ _ _ _ _ _ _ _ _ _ _ HJ hn8 HI1 HG1 hno hn1 hns hlen hz0 hz1 ?_
          intro x15 x16 x17 x18 x23 x24 x25 x26 x27 x28 x29 x30 x31 x32 x33 x34 x35 x36 x37 x38 x39 x40 x41 x42 x43 x44 x45 x46 x47 x48 x49 x50 x51 x52 x53 x54 x55 x56 x57 x58 x59 x60 x61 x62 x63 x64 x65 x66 x67 x68 x69 x70 x71 x72 x73 x74 x75 x76 x77 x78 x79 x80 x81 x82 x83 x84 x85 x86 x87 x88 x89 x90 x91 x92 x93 x94 x95 x96 x97 x98 x99 x100 x101 x102 x103 x104 x105 x106 x107 x108 x109 x110 x111 x112 x113 x114 x115 x116 x117 x118 x119 x120 x121 x122 x123 x124 x125 x126 x127 x128 x129 x130 x131 x132 x133 x134 x135 x136 x137 x138 x139 x140 x141 x142 x143 x144 x145 x146 x147 x148 x149 x150 x151 x152 x153 x154 x155 x156 x157 x158 x159 x160 x161 x162 x163 x164 x165 x166 x167 x168 x169 x170 x171 x172 x173 s5 s6 s7 s8 s9 w9 hR
          have HR := hid hR
          clear hR
          go_wp2
          go_roundg g'
          case measure => omega
          case rel => exact HR.out
    · by_cases hno0 : no = 0
      · have hway : (done = true ∧ j < len) ∨ ¬ j < len := by
          cases done with
          | true => by_cases h : j < len
                    · exact .inl ⟨rfl, h⟩
                    · exact .inr h
          | false => exact .inr (fun h => hrun ⟨h, rfl⟩)
        subst hno0
        have HB : Hid (Below w.heap.size w wr) := HI.out.bel
        have HS : Hid (w.heap.size ≤ wr.heap.size) := HI.out.o.2
        clear hrun HG HI HOPS HSTR hno hnx
        have kc := fun (w : World) (C : Array Value) (n c : Nat) => Lib.run_convert_bytes_const (P := Try.prog) w 24 5 C n c Try.underlying24 Try.underlying5
        rcases hway with ⟨rfl, hlt⟩ | hlt
        all_goals
          go_wp2
          go_ret
          exact postE_null HB.out HS.out
      · have hne : ((no : Int) == 0) = false := by rw [beq_eq_false_iff_ne]; omega
        have HL : Hid (RelL w.heap.size w ns (.slice (some ⟨go, 0, none⟩) no co) (.slice (some ⟨gs, 0, none⟩) ns cs) wr) := by
          refine ⟨go, no, co, gs, cs, out, st, done, rfl, rfl, HI.out.two, HG.out, ⟨fun h => (HG.out.dn h).1, fun h => ?_⟩, by omega⟩
          cases done with
          | true => rfl
          | false =>
            have h1 := (HG.out.nd rfl).2.1 h
            have h2 := HI.out.lens.1
            rw [h1] at h2
            simp at h2
            omega
        have hway : (done = true ∧ j < len) ∨ ¬ j < len := by
          cases done with
          | true => by_cases h : j < len
                    · exact .inl ⟨rfl, h⟩
                    · exact .inr h
          | false => exact .inr (fun h => hrun ⟨h, rfl⟩)
        clear hrun HG HI HOPS HSTR hno hnx
        rcases hway with ⟨rfl, hlt⟩ | hlt
        all_goals
          go_wp2
          go_loopg [5, 6] ns (fun gk s5 s6 wr => RelL w.heap.size w gk s5 s6 wr)
          case atStart => exact HL.out
          case round =>
            obtain ⟨g1, n1, c1, gs1, cs1, out1, st1, dn1, rfl, rfl, hI1, hG1, hd1, hn1⟩ := hrel
            have HI1 := hid hI1
            have HG1 := hid hG1
            have HD1 := hid hd1
            clear hI1 hG1 hd1
            cases gk with
            | zero =>
              have hst0 : st1 = [] := List.eq_nil_of_length_eq_zero (by have := HI1.out.s.len; simpa using this)
              have HV : Hid (Js.IsVal out1) := (HG1.out.dn (HD1.out.2 hst0)).2
              clear hst0
              go_wp2
              go_ret
              exact postE_of HI1.out HV.out HG1.out.rg (by omega)
            | succ k =>
              obtain ⟨st2, x, hst⟩ := snoc_of (l := st1) (k := k) (by have := HI1.out.s.len; simpa using this)
              subst hst
              have HX : Hid (x = 91 ∨ x = 123) := HG1.out.stk x (by simp)
              have hcap1 : k + 1 ≤ cs1 := HI1.out.s.cap.1
              have hdf : dn1 = false := by
                cases dn1 with
                | true => have := HD1.out.1 rfl; simp at this
                | false => rfl
              subst hdf
              have hcx : wr.cell? ⟨gs1, k, none⟩ = some (.int .u8 x) := by
                have hl := HI1.out.s.len
                simp at hl
                rw [HI1.out.s.cell k (by omega), ← hl]; simp
              go_wp2_with (first | (go_at_call 32; refine (closer_any x _ HX.out).mono ?_; rintro e w' ⟨⟨cl, rfl, hcl⟩, rfl⟩) | (at_builtin; refine app_new Try.underlying24 Try.info5 rfl (by rfl) _ _ (by rfl) HI1.out.o (by rfl) (by rfl) (by rfl) (by omega) (by rfl) (by omega) ?_; intro g2 c2 w2 hr2 hg2))
              go_roundg k
              case measure => omega
              case rel => exact relL_close HI1.out HG1.out hr2 hg2 hcl hn1
end Go.Proofs.Qxb6000759a
