import PyProof.Rows.All
import Wide.All
import OpenK.AllK
import Wide.FinOn
import PySem.Challenge.RW_xg0057_01
open PySem PySem.W PyProof.Rows PySem.Calls PySem.Spec PySem.Challenge
set_option Elab.async false
set_option linter.unusedVariables false
set_option compiler.extract_closed false
set_option linter.unusedSimpArgs false
set_option bootstrap.genMatcherCode false
set_option genSizeOf false
namespace Mine
set_option maxRecDepth 100000
set_option maxHeartbeats 8000000
theorem qs (n : List Nat) (h : (n.map Char.ofNat).map Char.toNat = n) : Str.ofString (String.ofList (n.map Char.ofNat)) = ⟨⟨n⟩⟩ := by rw [PySem.W.Fast.ofString_ofList,h]
noncomputable abbrev qA := Str -> Str -> Str -> Str -> Str -> Str -> Str -> Str -> Str -> Str -> Str -> Str -> Str -> Str -> Str -> Str -> Str -> Str -> Str -> Str -> Str -> Str -> Str -> Str -> Str -> Str -> Str -> Str -> Str -> Str -> Str -> Str -> Str -> Str -> Str -> Str -> Str -> Str -> Str -> Str -> Str -> Str -> Str -> Str -> Str -> Str -> Str -> Str -> Str -> Str -> Str -> Str -> Str -> Str -> Str -> Str -> Str -> Str -> Str -> Str -> Str -> Str -> Str -> Str -> Str -> Str -> Str -> Str -> Str -> Str -> Str -> Str -> Str -> Str -> Str -> Str -> Str -> Str -> Str -> Str -> Str -> Str -> Str -> Str -> Str -> Str -> Str -> Str -> Str -> Str -> Str -> Str -> Str -> Str -> Str -> Str -> Str -> Str -> Str -> Str -> Str -> Str -> Str -> Str -> Str -> Str -> Str -> Str -> Str -> Str -> Str -> Str -> Str -> Str -> Str -> Str -> Str -> Str -> Str -> Str -> Str -> Str -> Str -> Str -> Str -> Str -> Str -> Str -> Str -> Str -> Str -> Str -> Str -> Str -> Str -> Str -> Str -> Str -> Str -> Program
set_option maxRecDepth 10000 in
noncomputable def qG : qA := by
 refine (?f : ∀ g : qA,(∀ T : Program -> Prop,(∀ x0 x1 x2 x3 x4 x5 x6 x7 x8 x9 x10 x11 x12 x13 x14 x15 x16 x17 x18 x19 x20 x21 x22 x23 x24 x25 x26 x27 x28 x29 x30 x31 x32 x33 x34 x35 x36 x37 x38 x39 x40 x41 x42 x43 x44 x45 x46 x47 x48 x49 x50 x51 x52 x53 x54 x55 x56 x57 x58 x59 x60 x61 x62 x63 x64 x65 x66 x67 x68 x69 x70 x71 x72 x73 x74 x75 x76 x77 x78 x79 x80 x81 x82 x83 x84 x85 x86 x87 x88 x89 x90 x91 x92 x93 x94 x95 x96 x97 x98 x99 x100 x101 x102 x103 x104 x105 x106 x107 x108 x109 x110 x111 x112 x113 x114 x115 x116 x117 x118 x119 x120 x121 x122 x123 x124 x125 x126 x127 x128 x129 x130 x131 x132 x133 x134 x135 x136 x137 x138,T (g x0 x1 x2 x3 x4 x5 x6 x7 x8 x9 x10 x11 x12 x13 x14 x15 x16 x17 x18 x19 x20 x21 x22 x23 x24 x25 x26 x27 x28 x29 x30 x31 x32 x33 x34 x35 x36 x37 x38 x39 x40 x41 x42 x43 x44 x45 x46 x47 x48 x49 x50 x51 x52 x53 x54 x55 x56 x57 x58 x59 x60 x61 x62 x63 x64 x65 x66 x67 x68 x69 x70 x71 x72 x73 x74 x75 x76 x77 x78 x79 x80 x81 x82 x83 x84 x85 x86 x87 x88 x89 x90 x91 x92 x93 x94 x95 x96 x97 x98 x99 x100 x101 x102 x103 x104 x105 x106 x107 x108 x109 x110 x111 x112 x113 x114 x115 x116 x117 x118 x119 x120 x121 x122 x123 x124 x125 x126 x127 x128 x129 x130 x131 x132 x133 x134 x135 x136 x137 x138)) -> T PySem.Challenge.pw_xg0057_01) -> qA) ?g ?h
 case f => exact fun g _ => g
 case h =>
  intro T k
  delta PySem.Challenge.pw_xg0057_01
  with_reducible (generalize Str.ofString _ = x0; generalize Str.ofString _ = x1; generalize Str.ofString _ = x2; generalize Str.ofString _ = x3; generalize Str.ofString _ = x4; generalize Str.ofString _ = x5; generalize Str.ofString _ = x6; generalize Str.ofString _ = x7; generalize Str.ofString _ = x8; generalize Str.ofString _ = x9; generalize Str.ofString _ = x10; generalize Str.ofString _ = x11; generalize Str.ofString _ = x12; generalize Str.ofString _ = x13; generalize Str.ofString _ = x14; generalize Str.ofString _ = x15; generalize Str.ofString _ = x16; generalize Str.ofString _ = x17; generalize Str.ofString _ = x18; generalize Str.ofString _ = x19; generalize Str.ofString _ = x20; generalize Str.ofString _ = x21; generalize Str.ofString _ = x22; generalize Str.ofString _ = x23; generalize Str.ofString _ = x24; generalize Str.ofString _ = x25; generalize Str.ofString _ = x26; generalize Str.ofString _ = x27; generalize Str.ofString _ = x28; generalize Str.ofString _ = x29; generalize Str.ofString _ = x30; generalize Str.ofString _ = x31; generalize Str.ofString _ = x32; generalize Str.ofString _ = x33; generalize Str.ofString _ = x34; generalize Str.ofString _ = x35; generalize Str.ofString _ = x36; generalize Str.ofString _ = x37; generalize Str.ofString _ = x38; generalize Str.ofString _ = x39; generalize Str.ofString _ = x40; generalize Str.ofString _ = x41; generalize Str.ofString _ = x42; generalize Str.ofString _ = x43; generalize Str.ofString _ = x44; generalize Str.ofString _ = x45; generalize Str.ofString _ = x46; generalize Str.ofString _ = x47; generalize Str.ofString _ = x48; generalize Str.ofString _ = x49; generalize Str.ofString _ = x50; generalize Str.ofString _ = x51; generalize Str.ofString _ = x52; generalize Str.ofString _ = x53; generalize Str.ofString _ = x54; generalize Str.ofString _ = x55; generalize Str.ofString _ = x56; generalize Str.ofString _ = x57; generalize Str.ofString _ = x58; generalize Str.ofString _ = x59; generalize Str.ofString _ = x60; generalize Str.ofString _ = x61; generalize Str.ofString _ = x62; generalize Str.ofString _ = x63; generalize Str.ofString _ = x64; generalize Str.ofString _ = x65; generalize Str.ofString _ = x66; generalize Str.ofString _ = x67; generalize Str.ofString _ = x68; generalize Str.ofString _ = x69; generalize Str.ofString _ = x70; generalize Str.ofString _ = x71; generalize Str.ofString _ = x72; generalize Str.ofString _ = x73; generalize Str.ofString _ = x74; generalize Str.ofString _ = x75; generalize Str.ofString _ = x76; generalize Str.ofString _ = x77; generalize Str.ofString _ = x78; generalize Str.ofString _ = x79; generalize Str.ofString _ = x80; generalize Str.ofString _ = x81; generalize Str.ofString _ = x82; generalize Str.ofString _ = x83; generalize Str.ofString _ = x84; generalize Str.ofString _ = x85; generalize Str.ofString _ = x86; generalize Str.ofString _ = x87; generalize Str.ofString _ = x88; generalize Str.ofString _ = x89; generalize Str.ofString _ = x90; generalize Str.ofString _ = x91; generalize Str.ofString _ = x92; generalize Str.ofString _ = x93; generalize Str.ofString _ = x94; generalize Str.ofString _ = x95; generalize Str.ofString _ = x96; generalize Str.ofString _ = x97; generalize Str.ofString _ = x98; generalize Str.ofString _ = x99; generalize Str.ofString _ = x100; generalize Str.ofString _ = x101; generalize Str.ofString _ = x102; generalize Str.ofString _ = x103; generalize Str.ofString _ = x104; generalize Str.ofString _ = x105; generalize Str.ofString _ = x106; generalize Str.ofString _ = x107; generalize Str.ofString _ = x108; generalize Str.ofString _ = x109; generalize Str.ofString _ = x110; generalize Str.ofString _ = x111; generalize Str.ofString _ = x112; generalize Str.ofString _ = x113; generalize Str.ofString _ = x114; generalize Str.ofString _ = x115; generalize Str.ofString _ = x116; generalize Str.ofString _ = x117; generalize Str.ofString _ = x118; generalize Str.ofString _ = x119; generalize Str.ofString _ = x120; generalize Str.ofString _ = x121; generalize Str.ofString _ = x122; generalize Str.ofString _ = x123; generalize Str.ofString _ = x124; generalize Str.ofString _ = x125; generalize Str.ofString _ = x126; generalize Str.ofString _ = x127; generalize Str.ofString _ = x128; generalize Str.ofString _ = x129; generalize Str.ofString _ = x130; generalize Str.ofString _ = x131; generalize Str.ofString _ = x132; generalize Str.ofString _ = x133; generalize Str.ofString _ = x134; generalize Str.ofString _ = x135; generalize Str.ofString _ = x136; generalize Str.ofString _ = x137; generalize Str.ofString _ = x138)
  exact k x0 x1 x2 x3 x4 x5 x6 x7 x8 x9 x10 x11 x12 x13 x14 x15 x16 x17 x18 x19 x20 x21 x22 x23 x24 x25 x26 x27 x28 x29 x30 x31 x32 x33 x34 x35 x36 x37 x38 x39 x40 x41 x42 x43 x44 x45 x46 x47 x48 x49 x50 x51 x52 x53 x54 x55 x56 x57 x58 x59 x60 x61 x62 x63 x64 x65 x66 x67 x68 x69 x70 x71 x72 x73 x74 x75 x76 x77 x78 x79 x80 x81 x82 x83 x84 x85 x86 x87 x88 x89 x90 x91 x92 x93 x94 x95 x96 x97 x98 x99 x100 x101 x102 x103 x104 x105 x106 x107 x108 x109 x110 x111 x112 x113 x114 x115 x116 x117 x118 x119 x120 x121 x122 x123 x124 x125 x126 x127 x128 x129 x130 x131 x132 x133 x134 x135 x136 x137 x138
set_option maxRecDepth 10000 in
noncomputable def q.tw1113667788480023328 : Program := qG ⟨⟨[95,115,114,101]⟩⟩ ⟨⟨[95,95,110,97,109,101,95,95]⟩⟩ ⟨⟨[99,112,121,51,49,51,46,104,116,116,112,46,99,111,111,107,105,101,106,97,114]⟩⟩ ⟨⟨[117,110,109,97,116,99,104,101,100]⟩⟩ ⟨⟨[109,97,116,99,104]⟩⟩ ⟨⟨[115,116,97,114,116]⟩⟩ ⟨⟨[101,110,100]⟩⟩ ⟨⟨[115,112,97,110]⟩⟩ ⟨⟨[115,116,114,105,110,103]⟩⟩ ⟨⟨[73,80,86,52,95,82,69]⟩⟩ ⟨⟨[99,111,109,112,105,108,101]⟩⟩ ⟨⟨[92,46,92,100,43,36]⟩⟩ ⟨⟨[105,115,95,72,68,78]⟩⟩ ⟨⟨[116,101,120,116]⟩⟩ ⟨⟨[115,101,97,114,99,104]⟩⟩ ⟨⟨[]⟩⟩ ⟨⟨[46]⟩⟩ ⟨⟨[100,111,109,97,105,110,95,109,97,116,99,104]⟩⟩ ⟨⟨[65]⟩⟩ ⟨⟨[66]⟩⟩ ⟨⟨[108,111,119,101,114]⟩⟩ ⟨⟨[105]⟩⟩ ⟨⟨[114,102,105,110,100]⟩⟩ ⟨⟨[115,116,97,114,116,115,119,105,116,104]⟩⟩ ⟨⟨[114,101,97,99,104]⟩⟩ ⟨⟨[104]⟩⟩ ⟨⟨[102,105,110,100]⟩⟩ ⟨⟨[98]⟩⟩ ⟨⟨[108,111,99,97,108]⟩⟩ ⟨⟨[99,112,121,51,49,51,46,99,111,108,111,114,115,121,115]⟩⟩ ⟨⟨[114,103,98,95,116,111,95,104,115,118]⟩⟩ ⟨⟨[114]⟩⟩ ⟨⟨[103]⟩⟩ ⟨⟨[109,97,120,99]⟩⟩ ⟨⟨[109,97,120]⟩⟩ ⟨⟨[109,105,110,99]⟩⟩ ⟨⟨[109,105,110]⟩⟩ ⟨⟨[114,97,110,103,101,99]⟩⟩ ⟨⟨[118]⟩⟩ ⟨⟨[115]⟩⟩ ⟨⟨[114,99]⟩⟩ ⟨⟨[103,99]⟩⟩ ⟨⟨[98,99]⟩⟩ ⟨⟨[104,115,118,95,116,111,95,114,103,98]⟩⟩ ⟨⟨[105,110,116]⟩⟩ ⟨⟨[102]⟩⟩ ⟨⟨[112]⟩⟩ ⟨⟨[113]⟩⟩ ⟨⟨[116]⟩⟩ ⟨⟨[99,112,121,51,49,51,46,110,101,116,114,99]⟩⟩ ⟨⟨[95,110,101,116,114,99,108,101,120]⟩⟩ ⟨⟨[95,95,105,110,105,116,95,95]⟩⟩ ⟨⟨[115,101,108,102]⟩⟩ ⟨⟨[102,112]⟩⟩ ⟨⟨[108,105,110,101,110,111]⟩⟩ ⟨⟨[105,110,115,116,114,101,97,109]⟩⟩ ⟨⟨[119,104,105,116,101,115,112,97,99,101]⟩⟩ ⟨⟨[10,9,13,32]⟩⟩ ⟨⟨[112,117,115,104,98,97,99,107]⟩⟩ ⟨⟨[95,114,101,97,100,95,99,104,97,114]⟩⟩ ⟨⟨[99,104]⟩⟩ ⟨⟨[114,101,97,100]⟩⟩ ⟨⟨[10]⟩⟩ ⟨⟨[103,101,116,95,116,111,107,101,110]⟩⟩ ⟨⟨[112,111,112]⟩⟩ ⟨⟨[116,111,107,101,110]⟩⟩ ⟨⟨[102,105,116,101,114]⟩⟩ ⟨⟨[105,116,101,114]⟩⟩ ⟨⟨[34]⟩⟩ ⟨⟨[92]⟩⟩ ⟨⟨[112,117,115,104,95,116,111,107,101,110]⟩⟩ ⟨⟨[97,112,112,101,110,100]⟩⟩ ⟨⟨[108,97,119,95,120,103,48,48,53,55,95,48,49]⟩⟩ ⟨⟨[95,108,97,119,95,110,117,109,98,101,114,115]⟩⟩ ⟨⟨[115,99,114,105,112,116]⟩⟩ ⟨⟨[110,117,109,98,101,114,115]⟩⟩ ⟨⟨[110,117,109,98,101,114]⟩⟩ ⟨⟨[46,48]⟩⟩ ⟨⟨[108,101,110]⟩⟩ ⟨⟨[102,97,115,116]⟩⟩ ⟨⟨[95,108,97,119,95,108,97,98,101,108,115]⟩⟩ ⟨⟨[108,101,97,115,116]⟩⟩ ⟨⟨[107,105,110,100,115]⟩⟩ ⟨⟨[107]⟩⟩ ⟨⟨[114,97,110,103,101]⟩⟩ ⟨⟨[95,108,97,119,95,104,111,115,116]⟩⟩ ⟨⟨[108,97,98,101,108,115]⟩⟩ ⟨⟨[106,111,105,110]⟩⟩ ⟨⟨[97]⟩⟩ ⟨⟨[55,48]⟩⟩ ⟨⟨[99]⟩⟩ ⟨⟨[108,97,98,101,108]⟩⟩ ⟨⟨[95,108,97,119,95,119,114,105,116,116,101,110]⟩⟩ ⟨⟨[119,111,114,100]⟩⟩ ⟨⟨[109,97,110,110,101,114]⟩⟩ ⟨⟨[115,105,103,110]⟩⟩ ⟨⟨[95,108,97,119,95,108,101,120,101,114]⟩⟩ ⟨⟨[115,112,111,116]⟩⟩ ⟨⟨[115,105,122,101]⟩⟩ ⟨⟨[115,116,114,101,97,109]⟩⟩ ⟨⟨[95,108,97,119,95,97,114,99]⟩⟩ ⟨⟨[95,108,97,119,95,99,111,108,111,117,114]⟩⟩ ⟨⟨[95,108,97,119,95,116,104,105,114,100]⟩⟩ ⟨⟨[104,117,101]⟩⟩ ⟨⟨[115,104,97,114,101]⟩⟩ ⟨⟨[95,108,97,119,95,110,101,120,116]⟩⟩ ⟨⟨[119,105,100,116,104]⟩⟩ ⟨⟨[95,108,97,119,95,111,114,98,105,116]⟩⟩ ⟨⟨[111,114,98,105,116]⟩⟩ ⟨⟨[114,101,100]⟩⟩ ⟨⟨[103,114,101,101,110]⟩⟩ ⟨⟨[98,108,117,101]⟩⟩ ⟨⟨[118,97,108,117,101]⟩⟩ ⟨⟨[95,108,97,119,95,114,111,119,115]⟩⟩ ⟨⟨[114,111,119,115]⟩⟩ ⟨⟨[108,97,119]⟩⟩ ⟨⟨[104,111,115,116,115]⟩⟩ ⟨⟨[32,10,9,13,10]⟩⟩ ⟨⟨[108,101,120,101,114]⟩⟩ ⟨⟨[119,111,114,100,115]⟩⟩ ⟨⟨[99,111,108,111,117,114,115]⟩⟩ ⟨⟨[116,111,108,100]⟩⟩ ⟨⟨[108,111,110,103]⟩⟩ ⟨⟨[115,104,111,114,116]⟩⟩ ⟨⟨[112,108,97,99,101]⟩⟩ ⟨⟨[109,101,116]⟩⟩ ⟨⟨[97,116]⟩⟩ ⟨⟨[102,105,110,101]⟩⟩ ⟨⟨[99,111,109,101,115]⟩⟩ ⟨⟨[114,117,110,115]⟩⟩ ⟨⟨[100,117,101]⟩⟩ ⟨⟨[117,112,112,101,114]⟩⟩ ⟨⟨[114,111,119]⟩⟩ ⟨⟨[112,108,97,105,110]⟩⟩ ⟨⟨[102,111,117,110,100]⟩⟩ ⟨⟨[117,112]⟩⟩ ⟨⟨[98,101,104,105,110,100]⟩⟩ ⟨⟨[97,102,116,101,114]⟩⟩ ⟨⟨[47,99,108,97,105,109,47,99,117,116,46,112,121]⟩⟩
set_option maxRecDepth 10000 in
theorem q.te1113667788480023328 : PySem.Challenge.pw_xg0057_01 = q.tw1113667788480023328 := by
 have h := (congr (congr (congr (congr (congr (congr (congr (congr (congr (congr (congr (congr (congr (congr (congr (congr (congr (congr (congr (congr (congr (congr (congr (congr (congr (congr (congr (congr (congr (congr (congr (congr (congr (congr (congr (congr (congr (congr (congr (congr (congr (congr (congr (congr (congr (congr (congr (congr (congr (congr (congr (congr (congr (congr (congr (congr (congr (congr (congr (congr (congr (congr (congr (congr (congr (congr (congr (congr (congr (congr (congr (congr (congr (congr (congr (congr (congr (congr (congr (congr (congr (congr (congr (congr (congr (congr (congr (congr (congr (congr (congr (congr (congr (congr (congr (congr (congr (congr (congr (congr (congr (congr (congr (congr (congr (congr (congr (congr (congr (congr (congr (congr (congr (congr (congr (congr (congr (congr (congr (congr (congr (congr (congr (congr (congr (congr (congr (congr (congr (congr (congr (congr (congr (congr (congr (congr (congr (congr (congr (Eq.refl qG) (qs [95,115,114,101] rfl)) (qs [95,95,110,97,109,101,95,95] rfl)) (qs [99,112,121,51,49,51,46,104,116,116,112,46,99,111,111,107,105,101,106,97,114] rfl)) (qs [117,110,109,97,116,99,104,101,100] rfl)) (qs [109,97,116,99,104] rfl)) (qs [115,116,97,114,116] rfl)) (qs [101,110,100] rfl)) (qs [115,112,97,110] rfl)) (qs [115,116,114,105,110,103] rfl)) (qs [73,80,86,52,95,82,69] rfl)) (qs [99,111,109,112,105,108,101] rfl)) (qs [92,46,92,100,43,36] rfl)) (qs [105,115,95,72,68,78] rfl)) (qs [116,101,120,116] rfl)) (qs [115,101,97,114,99,104] rfl)) (qs [] rfl)) (qs [46] rfl)) (qs [100,111,109,97,105,110,95,109,97,116,99,104] rfl)) (qs [65] rfl)) (qs [66] rfl)) (qs [108,111,119,101,114] rfl)) (qs [105] rfl)) (qs [114,102,105,110,100] rfl)) (qs [115,116,97,114,116,115,119,105,116,104] rfl)) (qs [114,101,97,99,104] rfl)) (qs [104] rfl)) (qs [102,105,110,100] rfl)) (qs [98] rfl)) (qs [108,111,99,97,108] rfl)) (qs [99,112,121,51,49,51,46,99,111,108,111,114,115,121,115] rfl)) (qs [114,103,98,95,116,111,95,104,115,118] rfl)) (qs [114] rfl)) (qs [103] rfl)) (qs [109,97,120,99] rfl)) (qs [109,97,120] rfl)) (qs [109,105,110,99] rfl)) (qs [109,105,110] rfl)) (qs [114,97,110,103,101,99] rfl)) (qs [118] rfl)) (qs [115] rfl)) (qs [114,99] rfl)) (qs [103,99] rfl)) (qs [98,99] rfl)) (qs [104,115,118,95,116,111,95,114,103,98] rfl)) (qs [105,110,116] rfl)) (qs [102] rfl)) (qs [112] rfl)) (qs [113] rfl)) (qs [116] rfl)) (qs [99,112,121,51,49,51,46,110,101,116,114,99] rfl)) (qs [95,110,101,116,114,99,108,101,120] rfl)) (qs [95,95,105,110,105,116,95,95] rfl)) (qs [115,101,108,102] rfl)) (qs [102,112] rfl)) (qs [108,105,110,101,110,111] rfl)) (qs [105,110,115,116,114,101,97,109] rfl)) (qs [119,104,105,116,101,115,112,97,99,101] rfl)) (qs [10,9,13,32] rfl)) (qs [112,117,115,104,98,97,99,107] rfl)) (qs [95,114,101,97,100,95,99,104,97,114] rfl)) (qs [99,104] rfl)) (qs [114,101,97,100] rfl)) (qs [10] rfl)) (qs [103,101,116,95,116,111,107,101,110] rfl)) (qs [112,111,112] rfl)) (qs [116,111,107,101,110] rfl)) (qs [102,105,116,101,114] rfl)) (qs [105,116,101,114] rfl)) (qs [34] rfl)) (qs [92] rfl)) (qs [112,117,115,104,95,116,111,107,101,110] rfl)) (qs [97,112,112,101,110,100] rfl)) (qs [108,97,119,95,120,103,48,48,53,55,95,48,49] rfl)) (qs [95,108,97,119,95,110,117,109,98,101,114,115] rfl)) (qs [115,99,114,105,112,116] rfl)) (qs [110,117,109,98,101,114,115] rfl)) (qs [110,117,109,98,101,114] rfl)) (qs [46,48] rfl)) (qs [108,101,110] rfl)) (qs [102,97,115,116] rfl)) (qs [95,108,97,119,95,108,97,98,101,108,115] rfl)) (qs [108,101,97,115,116] rfl)) (qs [107,105,110,100,115] rfl)) (qs [107] rfl)) (qs [114,97,110,103,101] rfl)) (qs [95,108,97,119,95,104,111,115,116] rfl)) (qs [108,97,98,101,108,115] rfl)) (qs [106,111,105,110] rfl)) (qs [97] rfl)) (qs [55,48] rfl)) (qs [99] rfl)) (qs [108,97,98,101,108] rfl)) (qs [95,108,97,119,95,119,114,105,116,116,101,110] rfl)) (qs [119,111,114,100] rfl)) (qs [109,97,110,110,101,114] rfl)) (qs [115,105,103,110] rfl)) (qs [95,108,97,119,95,108,101,120,101,114] rfl)) (qs [115,112,111,116] rfl)) (qs [115,105,122,101] rfl)) (qs [115,116,114,101,97,109] rfl)) (qs [95,108,97,119,95,97,114,99] rfl)) (qs [95,108,97,119,95,99,111,108,111,117,114] rfl)) (qs [95,108,97,119,95,116,104,105,114,100] rfl)) (qs [104,117,101] rfl)) (qs [115,104,97,114,101] rfl)) (qs [95,108,97,119,95,110,101,120,116] rfl)) (qs [119,105,100,116,104] rfl)) (qs [95,108,97,119,95,111,114,98,105,116] rfl)) (qs [111,114,98,105,116] rfl)) (qs [114,101,100] rfl)) (qs [103,114,101,101,110] rfl)) (qs [98,108,117,101] rfl)) (qs [118,97,108,117,101] rfl)) (qs [95,108,97,119,95,114,111,119,115] rfl)) (qs [114,111,119,115] rfl)) (qs [108,97,119] rfl)) (qs [104,111,115,116,115] rfl)) (qs [32,10,9,13,10] rfl)) (qs [108,101,120,101,114] rfl)) (qs [119,111,114,100,115] rfl)) (qs [99,111,108,111,117,114,115] rfl)) (qs [116,111,108,100] rfl)) (qs [108,111,110,103] rfl)) (qs [115,104,111,114,116] rfl)) (qs [112,108,97,99,101] rfl)) (qs [109,101,116] rfl)) (qs [97,116] rfl)) (qs [102,105,110,101] rfl)) (qs [99,111,109,101,115] rfl)) (qs [114,117,110,115] rfl)) (qs [100,117,101] rfl)) (qs [117,112,112,101,114] rfl)) (qs [114,111,119] rfl)) (qs [112,108,97,105,110] rfl)) (qs [102,111,117,110,100] rfl)) (qs [117,112] rfl)) (qs [98,101,104,105,110,100] rfl)) (qs [97,102,116,101,114] rfl)) (qs [47,99,108,97,105,109,47,99,117,116,46,112,121] rfl))
 exact Eq.trans rfl h
set_option Elab.async true in
theorem q : Nat.ble 0 PySem.Challenge.pw_xg0057_01.main.body.length = true := by k_qdec
#print axioms q
open_top hd for PySem.Challenge.rw_xg0057_01
noncomputable def Cln (T : Prop) : Prop := ∀ x : T,(∃ q : T,∀ B : T -> Prop,B x -> B q) -> T
local macro_rules | `(tactic| size_fits) => `(tactic| exact Nat.le_of_ble_eq_true rfl)
example : True := by w_top off; trivial

noncomputable def Ctr (w : World) (f : Addr) (args : List Value) (news : List (Addr × Obj)) (dep : Nat) (Post : Value -> List (Addr × Obj) -> Prop) : Prop :=
 ∀ (mean : ExcName -> Option Value) (mg mb : Str -> Option Value) (loose : List Str)
  (dp un : Nat) (gd : Option (List Code)) (cn : Str) (cs : Scope) (a : Addr) (ccd : Value) (cl : List (Str × Addr)) (outer : List Env) (A₀ : Around) (base h₀ : Heap) (L : Addr) (m : Str -> Option Value) (s : Shared) (Q E : Value -> Shared -> Prop),
  Below A₀ base outer h₀ -> Fr h₀ L s.heap m -> (hd.heap_39 w.params).In h₀ -> News h₀ L s.heap news -> Top topProg loose mean mg mb h₀ -> cs.kind = .function ->
  dp + dep < recursionLimit -> un + 8 * dep < cLine ->
  (∀ (r : Value) (new : List (Addr × Obj)) (h' : Heap) (tk' : Nat),Post r new -> Fr h₀ L h' m -> News h₀ L h' new -> Q r { s with heap := h',toks := tk' }) ->
  wpAny (model rw_xg0057_01.row.prog w) (ktrTop dp un gd cn cs L a ccd cl outer) (call (.ref f) args) Q E s
noncomputable abbrev tupO (vs : List Value) : Obj := { cls := .type "tuple", data := .seq vs.toArray }
theorem ctr_use {w : World} {f : Addr} {args : List Value} {news : List (Addr × Obj)} {dep : Nat} {Post : Value -> List (Addr × Obj) -> Prop} (C : Ctr w f args news dep Post)
  {mean : ExcName -> Option Value} {mg mb : Str -> Option Value} {loose : List Str}
  {dp un : Nat} {gd : Option (List Code)} {cn : Str} {cs : Scope} {a : Addr} {ccd : Value} {cl : List (Str × Addr)} {outer : List Env} {A₀ : Around} {base h₀ : Heap} {L : Addr} {m : Str -> Option Value} {s : Shared} {Q E : Value -> Shared -> Prop}
  (B : Below A₀ base outer h₀) (F : Fr h₀ L s.heap m) (X : (hd.heap_39 w.params).In h₀) (N : News h₀ L s.heap news) (T : Top topProg loose mean mg mb h₀) (hk : cs.kind = .function)
  (hd : dp + dep < recursionLimit) (hu : un + 8 * dep < cLine)
  (hret : ∀ (r : Value) (new : List (Addr × Obj)) (h' : Heap) (tk' : Nat),Post r new -> Fr h₀ L h' m -> News h₀ L h' new -> Q r { s with heap := h',toks := tk' }) :
  wpAny (model rw_xg0057_01.row.prog w) (ktrTop dp un gd cn cs L a ccd cl outer) (call (.ref f) args) Q E s :=
 C mean mg mb loose dp un gd cn cs a ccd cl outer A₀ base h₀ L m s Q E B F X N T hk hd hu hret
theorem allLt_to {d : Addr} : ∀ {l : List (Addr × Obj)},AllLt d l -> ∀ p ∈ l,p.1 < d
 | [],_,_,h => nomatch h
 | _ :: _,h,p,hp => by
  rcases List.mem_cons.mp hp with e | e
  ·exact e ▸ h.1
  ·exact allLt_to h.2 p e
theorem offNe {d : Addr} : ∀ {l : List (Addr × Obj)},LCg.Off1 d l -> ∀ p ∈ l,p.1 ≠ d
 | [],_,_,h => nomatch h
 | _ :: _,h,p,hp => by
  rcases List.mem_cons.mp hp with e | e
  ·exact e ▸ h.1
  ·exact offNe h.2 p e
theorem off3a {i c d : Addr} {l : List (Addr × Obj)} (h : LCg.Off3 i c d l) : ∀ p ∈ l,p.1 ≠ i := fun p hp => (h.mem p hp).1
theorem off3b {i c d : Addr} {l : List (Addr × Obj)} (h : LCg.Off3 i c d l) : ∀ p ∈ l,p.1 ≠ c := fun p hp => (h.mem p hp).2.1
theorem off3c {i c d : Addr} {l : List (Addr × Obj)} (h : LCg.Off3 i c d l) : ∀ p ∈ l,p.1 ≠ d := fun p hp => (h.mem p hp).2.2
theorem ltNe {d : Addr} {l : List (Addr × Obj)} (h : AllLt d l) : ∀ p ∈ l,p.1 ≠ d := fun p hp => Nat.ne_of_lt (allLt_to h p hp)
theorem ltNe1 {d : Addr} {l : List (Addr × Obj)} (h : AllLt d l) : ∀ p ∈ l,p.1 ≠ d + 1 := fun p hp => Nat.ne_of_lt (Nat.lt_succ_of_lt (allLt_to h p hp))
theorem allNe {d : Addr} {l : List (Addr × Obj)} (h : ∀ p ∈ l,p.1 < d) : ∀ p ∈ l,p.1 ≠ d := fun p hp => Nat.ne_of_lt (h p hp)
theorem ltNe2 {d : Addr} {l : List (Addr × Obj)} (h : AllLt d l) : ∀ p ∈ l,p.1 ≠ d + 1 + 1 := fun p hp => Nat.ne_of_lt (Nat.lt_succ_of_lt (Nat.lt_succ_of_lt (allLt_to h p hp)))
theorem allNe1 {d : Addr} {l : List (Addr × Obj)} (h : ∀ p ∈ l,p.1 < d) : ∀ p ∈ l,p.1 ≠ d + 1 := fun p hp => Nat.ne_of_lt (Nat.lt_succ_of_lt (h p hp))
theorem allNe2 {d : Addr} {l : List (Addr × Obj)} (h : ∀ p ∈ l,p.1 < d) : ∀ p ∈ l,p.1 ≠ d + 1 + 1 := fun p hp => Nat.ne_of_lt (Nat.lt_succ_of_lt (Nat.lt_succ_of_lt (h p hp)))
noncomputable def CtrC (w : World) (mg : Str -> Option Value) (f : Addr) (args : List Value) (news : List (Addr × Obj)) (dep : Nat) (Post : Value -> List (Addr × Obj) -> Prop) : Prop :=
 ∀ (mean : ExcName -> Option Value) (mb : Str -> Option Value) (loose : List Str)
  (dp un : Nat) (gd : Option (List Code)) (cn : Str) (cs : Scope) (a : Addr) (ccd : Value) (cl : List (Str × Addr)) (outer : List Env) (A₀ : Around) (base h₀ : Heap) (L : Addr) (m : Str -> Option Value) (s : Shared) (Q E : Value -> Shared -> Prop),
  CodeHd base 146 142 -> Below A₀ base outer h₀ -> Fr h₀ L s.heap m -> (hd.heap_39 w.params).In h₀ -> News h₀ L s.heap news -> Top topProg loose mean mg mb h₀ -> cs.kind = .function ->
  dp + dep < recursionLimit -> un + 8 * dep < cLine ->
  (∀ (r : Value) (new : List (Addr × Obj)) (h' : Heap) (tk' : Nat),Post r new -> Fr h₀ L h' m -> News h₀ L h' new -> Q r { s with heap := h',toks := tk' }) ->
  wpAny (model rw_xg0057_01.row.prog w) (ktrTop dp un gd cn cs L a ccd cl outer) (call (.ref f) args) Q E s
noncomputable def CodC (w : World) (mg : Str -> Option Value) (f : Addr) (args : List Value) (news : List (Addr × Obj)) (dep : Nat) (Post : Value -> List (Addr × Obj) -> Prop) : Prop :=
 ∀ (mean : ExcName -> Option Value) (mb : Str -> Option Value) (loose : List Str)
  (dp un : Nat) (gd : Option (List Code)) (cn : Str) (cs : Scope) (a : Addr) (ccd : Value) (cl : List (Str × Addr)) (outer : List Env) (A₀ : Around) (base h₀ : Heap) (L : Addr) (m : Str -> Option Value) (s : Shared) (Q E : Value -> Shared -> Prop),
  CodeHd base 146 142 -> Below A₀ base outer h₀ -> Fr h₀ L s.heap m -> (hd.heap_39 w.params).In h₀ -> News h₀ L s.heap news -> Top topProg loose mean mg mb h₀ -> cs.kind = .function ->
  dp + dep < recursionLimit -> un + 8 * dep < cLine ->
  (∀ (r : Value) (new : List (Addr × Obj)) (h' : Heap) (tk' : Nat),Post r new -> Fr h₀ L h' m -> News h₀ L h' new -> Q r { s with heap := h',toks := tk' }) ->
  codeAny (model rw_xg0057_01.row.prog w) (ktrTop dp un gd cn cs L a ccd cl outer) (.call (.ref f) ⟨args,[]⟩) (fun r s' => match r with | .ok (.ret v) => Q v s' | .ok _ => False | .error e => E e s') s
theorem q1 {a b : Prop} (h : a ∧ b) : a := h.1
theorem q2 {a b c : Prop} (h : c ∧ a ∧ b) : a := h.2.1
theorem q3 {a b c d : Prop} (h : c ∧ d ∧ a ∧ b) : a := h.2.2.1
theorem q4 {a b c d e : Prop} (h : c ∧ d ∧ e ∧ a ∧ b) : a := h.2.2.2.1
theorem q5 {a b c d e f : Prop} (h : c ∧ d ∧ e ∧ f ∧ a ∧ b) : a := h.2.2.2.2.1
theorem q6 {a b c d e f g : Prop} (h : c ∧ d ∧ e ∧ f ∧ g ∧ a ∧ b) : a := h.2.2.2.2.2.1
theorem q7 {a b c d e f g i : Prop} (h : c ∧ d ∧ e ∧ f ∧ g ∧ i ∧ a ∧ b) : a := h.2.2.2.2.2.2.1
theorem q8 {a b c d e f g i j : Prop} (h : c ∧ d ∧ e ∧ f ∧ g ∧ i ∧ j ∧ a ∧ b) : a := h.2.2.2.2.2.2.2.1
theorem q9 {a b c d e f g i j k : Prop} (h : c ∧ d ∧ e ∧ f ∧ g ∧ i ∧ j ∧ k ∧ a ∧ b) : a := h.2.2.2.2.2.2.2.2.1
theorem q10 {a b c d e f g i j k l : Prop} (h : c ∧ d ∧ e ∧ f ∧ g ∧ i ∧ j ∧ k ∧ l ∧ a ∧ b) : a := h.2.2.2.2.2.2.2.2.2.1
theorem q11 {a b c d e f g i j k l m : Prop} (h : c ∧ d ∧ e ∧ f ∧ g ∧ i ∧ j ∧ k ∧ l ∧ m ∧ a ∧ b) : a := h.2.2.2.2.2.2.2.2.2.2.1
theorem q12 {a b c d e f g i j k l m n : Prop} (h : c ∧ d ∧ e ∧ f ∧ g ∧ i ∧ j ∧ k ∧ l ∧ m ∧ n ∧ a ∧ b) : a := h.2.2.2.2.2.2.2.2.2.2.2.1
theorem nlt {a b : Nat} (h : @LT.lt Nat _ a b) : @Ne Nat a b := Nat.ne_of_lt h
theorem ngt {a b : Nat} (h : @LT.lt Nat _ b a) : @Ne Nat a b := Nat.ne_of_gt h
theorem slt {a b : Nat} (h : @LT.lt Nat _ a b) : @LT.lt Nat _ a (b + 1) := Nat.lt_succ_of_lt h
theorem slz {a : Nat} : @LT.lt Nat _ a (a + 1) := Nat.lt_succ_self a
theorem sb_nil {α : Type} {b : List α} : ∀ p ∈ ([] : List α),p ∈ b := fun _ h => nomatch h
theorem sb_refl {α : Type} {a : List α} : ∀ p ∈ a,p ∈ a := fun _ h => h
theorem sb_skip {α : Type} {x : α} {a b : List α} (h : ∀ p ∈ a,p ∈ b) : ∀ p ∈ a,p ∈ x :: b := fun p hp => .tail _ (h p hp)
theorem sb_keep {α : Type} {x : α} {a b : List α} (h : ∀ p ∈ a,p ∈ b) : ∀ p ∈ x :: a,p ∈ x :: b := List.forall_mem_cons.mpr ⟨.head _,sb_skip h⟩
theorem sb_mem {α : Type} {x : α} {a b : List α} (hx : x ∈ b) (h : ∀ p ∈ a,p ∈ b) : ∀ p ∈ x :: a,p ∈ b := List.forall_mem_cons.mpr ⟨hx,h⟩
theorem ap_pre {α : Type} {h h' pre r : List α} (H : ∀ y ∈ h,y ∈ h') : ∀ y ∈ h ++ (pre ++ r),y ∈ pre ++ (h' ++ r) := fun y hy => by
 rcases List.mem_append.mp hy with k | k
 ·exact List.mem_append_right _ (List.mem_append_left _ (H y k))
 ·rcases List.mem_append.mp k with k | k
  ·exact List.mem_append_left _ k
  ·exact List.mem_append_right _ (List.mem_append_right _ k)
theorem ap_erp {α : Type} {h h' pre r : List α} (H : ∀ y ∈ h,y ∈ h') : ∀ y ∈ pre ++ (h ++ r),y ∈ h' ++ (pre ++ r) := fun y hy => by
 rcases List.mem_append.mp hy with k | k
 ·exact List.mem_append_right _ (List.mem_append_left _ k)
 ·rcases List.mem_append.mp k with k | k
  ·exact List.mem_append_left _ (H y k)
  ·exact List.mem_append_right _ (List.mem_append_right _ k)
theorem ap_push {α : Type} {h r : List α} {w : α} : ∀ y ∈ h ++ (w :: r),y = w ∨ y ∈ h ++ r := fun y hy => by
 rcases List.mem_append.mp hy with k | k
 ·exact .inr (List.mem_append_left _ k)
 ·rcases List.mem_cons.mp k with k | k
  ·exact .inl k
  ·exact .inr (List.mem_append_right _ k)
theorem ap_mix {α : Type} {a h t r : List α} : ∀ y ∈ a ++ (h ++ (t ++ r)),y ∈ h ++ (t ++ (a ++ r)) := fun y hy => by
 rcases List.mem_append.mp hy with k | k
 ·exact List.mem_append_right _ (List.mem_append_right _ (List.mem_append_left _ k))
 ·rcases List.mem_append.mp k with k | k
  ·exact List.mem_append_left _ k
  ·rcases List.mem_append.mp k with k | k
   ·exact List.mem_append_right _ (List.mem_append_left _ k)
   ·exact List.mem_append_right _ (List.mem_append_right _ (List.mem_append_right _ k))
theorem ap_up {α : Type} {a h r : List α} {x : α} : ∀ y ∈ a ++ (h ++ (x :: r)),y ∈ x :: (a ++ (h ++ r)) := fun y hy => by
 rcases List.mem_append.mp hy with k | k
 ·exact .tail _ (List.mem_append_left _ k)
 ·rcases List.mem_append.mp k with k | k
  ·exact .tail _ (List.mem_append_right _ (List.mem_append_left _ k))
  ·rcases List.mem_cons.mp k with k | k
   ·exact k ▸ .head _
   ·exact .tail _ (List.mem_append_right _ (List.mem_append_right _ k))
theorem ap_all {α : Type} {P : α -> Prop} {h r : List α} (H : ∀ y ∈ h,P y) (R : ∀ y ∈ r,P y) : ∀ y ∈ h ++ r,P y := fun y hy => (List.mem_append.mp hy).elim (H y) (R y)
theorem map_all {P : Addr -> Prop} {z z' : List (Addr × Obj)} (e : z'.map Prod.fst = z.map Prod.fst) (k : ∀ y ∈ z,P y.1) : ∀ y ∈ z',P y.1 := fun y hy => by
 obtain ⟨x,hx,ex⟩ := List.mem_map.mp (e ▸ List.mem_map_of_mem (f := Prod.fst) hy)
 exact ex ▸ k x hx
theorem gen_tk {α : Type} {M : Model} {A : Around} {c : Sem α} {Q : α -> Shared -> Prop} {E : Value -> Shared -> Prop} {h : Heap} {g d o} {t k : Nat} (K : ∀ n,wpAny M A c Q E (Shared.mk h g d n o)) : wpAny M A c Q E (Shared.mk h g d (t + k) o) := K _
noncomputable abbrev Off6 (L : Addr) (z : List (Addr × Obj)) : Prop := (∀ b ∈ z,b.1 ≠ L+1) ∧ (∀ b ∈ z,b.1 ≠ L+1+1) ∧ (∀ b ∈ z,b.1 ≠ L+1+1+1) ∧ (∀ b ∈ z,b.1 ≠ L+1+1+1+1) ∧ (∀ b ∈ z,b.1 ≠ L+1+1+1+1+1) ∧ (∀ b ∈ z,b.1 ≠ L+1+1+1+1+1+1)
theorem off6_app {L : Addr} {a b : List (Addr × Obj)} (ha : Off6 L a) (hb : Off6 L b) : Off6 L (a ++ b) := ⟨ap_all ha.1 hb.1,ap_all ha.2.1 hb.2.1,ap_all ha.2.2.1 hb.2.2.1,ap_all ha.2.2.2.1 hb.2.2.2.1,ap_all ha.2.2.2.2.1 hb.2.2.2.2.1,ap_all ha.2.2.2.2.2 hb.2.2.2.2.2⟩
noncomputable abbrev Ne6 (a L : Addr) : Prop := (@Ne Nat a (L + 1)) ∧ (@Ne Nat a (L + 1 + 1)) ∧ (@Ne Nat a (L + 1 + 1 + 1)) ∧ (@Ne Nat a (L + 1 + 1 + 1 + 1)) ∧ (@Ne Nat a (L + 1 + 1 + 1 + 1 + 1)) ∧ (@Ne Nat a (L + 1 + 1 + 1 + 1 + 1 + 1))
theorem off6_cons {L : Addr} {x : Addr × Obj} {a : List (Addr × Obj)} (h : Ne6 x.1 L) (ha : Off6 L a) : Off6 L (x :: a) := ⟨List.forall_mem_cons.mpr ⟨h.1,ha.1⟩,List.forall_mem_cons.mpr ⟨h.2.1,ha.2.1⟩,List.forall_mem_cons.mpr ⟨h.2.2.1,ha.2.2.1⟩,List.forall_mem_cons.mpr ⟨h.2.2.2.1,ha.2.2.2.1⟩,List.forall_mem_cons.mpr ⟨h.2.2.2.2.1,ha.2.2.2.2.1⟩,List.forall_mem_cons.mpr ⟨h.2.2.2.2.2,ha.2.2.2.2.2⟩⟩
theorem ap_sl {α : Type} {a b : List α} : ∀ y ∈ a,y ∈ a ++ b := fun _ h => List.mem_append_left _ h
theorem ap_sr {α : Type} {a b : List α} : ∀ y ∈ b,y ∈ a ++ b := fun _ h => List.mem_append_right _ h
theorem ap_r {α : Type} {a b c : List α} (h : ∀ y ∈ a,y ∈ c) : ∀ y ∈ a,y ∈ b ++ c := fun y hy => List.mem_append_right _ (h y hy)
theorem fall_one {i n : Nat} (h : i < n) : n + 1 - (i + 1) < n + 1 - i := by
 rw [Nat.add_sub_add_right]
 exact Nat.lt_of_lt_of_eq (Nat.lt_succ_self _) (Nat.succ_sub (Nat.le_of_lt h)).symm
noncomputable def Stq (_ : String) (P : Prop) : Prop := P
noncomputable def stq_it (n : String) {P : Prop} (h : Stq n P) : P := h
noncomputable def stq_out (n : String) {P : Prop} (h : P) : Stq n P := h
noncomputable def TriPost (o : Option (UInt64 × UInt64 × UInt64)) (news : List (Addr × Obj)) (x : Value) (new : List (Addr × Obj)) : Prop :=
 ∀ G : Value -> List (Addr × Obj) -> Prop,(∀ (r g b : UInt64) (D : Addr) (t4 t5 t6 : Tok),o = some (r,g,b) -> (∀ p ∈ news,p.1 < D) -> G (.ref D) ((D,tupO [.float r t4,.float g t5,.float b t6]) :: news)) -> G x new
theorem triI {o : Option (UInt64 × UInt64 × UInt64)} {r g b : UInt64} {news : List (Addr × Obj)} {D : Addr} {t4 t5 t6 : Tok} (e : o = some (r,g,b)) (l : ∀ p ∈ news,p.1 < D) : TriPost o news (.ref D) ((D,tupO [.float r t4,.float g t5,.float b t6]) :: news) := fun _ k => k _ _ _ _ _ _ _ e l

local macro_rules | `(tactic| walk_at $s) => if ["call ref"].contains s.getString then `(tactic| refine stq_it $s ?_) else Lean.Macro.throwUnsupported


-- a contract is begun: the def is entered
-- a contract is used: the sides
set_option hygiene false in
local macro_rules | `(tactic| walk_at "my sides") => `(tactic| (
 (case k1 => k_asm); (case k2 => k_asm); (case k3 => k_asm); (case k4 => k_asm); (case k5 => k_asm);
 (case kK => first | exact rfl | assumption); (case kd => ktr_room); (case ku => ktr_units)))
local macro_rules | `(tactic| k_mem) => `(tactic| first | assumption | exact List.mem_cons_self .. | (refine List.mem_cons_of_mem _ ?_; k_mem))
local macro_rules | `(tactic| walk_at "my drop") => `(tactic| exact cb_drop (by assumption) (by intro p hp; k_mem))
local macro_rules | `(tactic| walk_at "my lt") => `(tactic| first | assumption | exact allLt_to (by first | assumption | exact And.right (by assumption) | exact And.right (And.right (by assumption)) | exact And.right (And.right (And.right (by assumption))) | exact And.right (And.right (And.right (And.right (by assumption))))))
local macro_rules | `(tactic| walk_at "my tl") => `(tactic| first | with_reducible assumption | (simp only [*]; done) | exact And.right (by assumption) | exact And.right (And.right (by assumption)) | exact And.right (And.right (And.right (by assumption))))
local macro_rules | `(tactic| k_all) => `(tactic| first | exact List.forall_mem_nil _ | (refine' List.forall_mem_cons.mpr ⟨?a, ?b⟩; (case a => k_ne); (case b => k_all)) | with_reducible (first | assumption | exact allNe (by assumption) | exact allNe1 (by assumption) | exact allNe2 (by assumption)) | exact ltNe (by walk_at "my tl") | exact offNe (by walk_at "my tl") | exact ltNe1 (by walk_at "my tl") | exact ltNe2 (by walk_at "my tl") | exact off3a (by walk_at "my tl") | exact off3b (by walk_at "my tl") | exact off3c (by walk_at "my tl"))
local macro_rules | `(tactic| walk_at "my sub") => `(tactic| first | exact sb_refl | (refine sb_mem (by k_mem) ?_; walk_at "my sub") | exact sb_nil | (refine sb_skip ?_; walk_at "my sub"))
local macro_rules | `(tactic| walk_at "my sub") => `(tactic| first | ((repeat (first | with_reducible exact sb_refl | with_reducible refine sb_keep ?_ | with_reducible refine sb_skip ?_)); done) | fail "no")
set_option hygiene false in
local macro_rules | `(tactic| walk_at "execs cons") => `(tactic| ((try dsimp only); (try (with_reducible refine gen_tk ?_; intro tk9)); (with_reducible refine wpAny_execs_cons ?_); (try k_fold); (try walk_at "my letm")))
set_option hygiene false in
local macro_rules | `(tactic| walk_at "my letm") => `(tactic| ((with_reducible rename Fr _ _ _ _ => kF7); (with_reducible refine (let m7 : Str -> Option Value := _; (fun (F7 : Fr _ _ _ m7) => ?_) kF7)); clear kF7))
local macro_rules | `(tactic| walk_at "my cj") => `(tactic| with_reducible first | assumption | exact q1 (by assumption) | exact q2 (by assumption) | exact q3 (by assumption) | exact q4 (by assumption) | exact q5 (by assumption) | exact q6 (by assumption) | exact q7 (by assumption) | exact q8 (by assumption) | exact q9 (by assumption) | exact q10 (by assumption) | exact q11 (by assumption) | exact q12 (by assumption))
local macro_rules | `(tactic| walk_at "my l9") => `(tactic| first | with_reducible exact slz | walk_at "my cj" | (with_reducible refine slt ?_; walk_at "my l9"))
local macro_rules | `(tactic| k_ne) => `(tactic| (refine neN ?_; (try dsimp only); first | with_reducible assumption | exact Ne.symm (by with_reducible assumption) | exact nlt (by walk_at "my l9") | exact ngt (by walk_at "my l9") | walk_at "my cj" | exact Ne.symm (by walk_at "my cj") | lia))

local macro_rules | `(tactic| walk_at "my item") => `(tactic| ((with_unfolding_all refine item_litK (News.isList (by k_asm) (by k_mem)) (by lia) (by lia) (by first | with_reducible assumption | assumption) ?_ (by with_unfolding_all rfl); k_whole)))

noncomputable def Hold (P : Prop) : Prop := P
theorem wp_app {M : Model} {Γ : PySem.Ctx} {env : Env} {Q : Flow -> Pos -> Shared -> Prop} {E : Value -> Pos -> Shared -> Prop} (rest : List Stmt) : ∀ (l : List Stmt) (p : Pos) (s : Shared),
  Sem.wp M Γ (execs l env) (fun f p' s' => match f with | .next => Sem.wp M Γ (execs rest env) Q E p' s' | f => Q f p' s') E p s -> Sem.wp M Γ (execs (l ++ rest) env) Q E p s
 | [],p,s,h => h
 | st :: l,p,s,h => by
  rw [List.cons_append,PySem.execs_cons,Sem.wp_bind']
  rw [PySem.execs_cons,Sem.wp_bind'] at h
  refine Sem.wp_mono M Γ _ (fun f p' s' h' => ?_) (fun _ _ _ h' => h') _ _ h
  cases f with
  | next => exact wp_app rest l p' s' h'
  | brk => exact h'
  | cont => exact h'
  | ret v => exact h'
theorem cut_at {M : Model} {A : Around} {env : Env} {Q : Flow -> Shared -> Prop} {E : Value -> Shared -> Prop} {s : Shared} {ss : List Stmt} (k : Nat)
  (h : wpAny M A (execs (ss.take k) env) (fun f s' => match f with | .next => Hold (wpAny M A (execs (ss.drop k) env) Q E s') | f => Q f s') E s) : wpAny M A (execs ss env) Q E s := fun Γ p hΓ => by
 rw [← List.take_append_drop k ss]
 refine wp_app _ _ p s (Sem.wp_mono M Γ _ (fun f p' s' h' => ?_) (fun _ _ _ h' => h') _ _ (h Γ p hΓ))
 cases f with
 | next => exact h' Γ p' hΓ
 | brk => exact h'
 | cont => exact h'
 | ret v => exact h'
theorem fr_has {h₀ h : Heap} {L : Addr} {m : Str -> Option Value} (F : Fr h₀ L h m) (x : Str) {v : Value} (e : m x = some v) : Fr h₀ L h (fun z => if z = x then some v else m z) :=
 (funext fun z => by by_cases q : z = x <;> simp [q,e] : m = fun z => if z = x then some v else m z) ▸ F
noncomputable def stmtsOf (fd : FuncData) : List Stmt := match fd.body with | .stmts b => b | _ => []
theorem fr_env {h₀ h : Heap} {n : Str} {sc : Scope} {L a : Addr} {cd : Value} {m : Str -> Option Value} (F : Fr h₀ (envOfC n sc L a cd).locals h m) : Fr h₀ L h m := F
theorem news_env {h₀ h : Heap} {n : Str} {sc : Scope} {L a : Addr} {cd : Value} {news : List (Addr × Obj)} (N : News h₀ (envOfC n sc L a cd).locals h news) : News h₀ L h news := N
theorem r3 {a0 a1 a2 X : Prop} (h : a0 ∧ a1 ∧ a2 ∧ X) : X := h.2.2.2
theorem r4 {a0 a1 a2 a3 X : Prop} (h : a0 ∧ a1 ∧ a2 ∧ a3 ∧ X) : X := h.2.2.2.2
theorem r5 {a0 a1 a2 a3 a4 X : Prop} (h : a0 ∧ a1 ∧ a2 ∧ a3 ∧ a4 ∧ X) : X := h.2.2.2.2.2
theorem r6 {a0 a1 a2 a3 a4 a5 X : Prop} (h : a0 ∧ a1 ∧ a2 ∧ a3 ∧ a4 ∧ a5 ∧ X) : X := h.2.2.2.2.2.2
theorem r7 {a0 a1 a2 a3 a4 a5 a6 X : Prop} (h : a0 ∧ a1 ∧ a2 ∧ a3 ∧ a4 ∧ a5 ∧ a6 ∧ X) : X := h.2.2.2.2.2.2.2
theorem r8 {a0 a1 a2 a3 a4 a5 a6 a7 X : Prop} (h : a0 ∧ a1 ∧ a2 ∧ a3 ∧ a4 ∧ a5 ∧ a6 ∧ a7 ∧ X) : X := h.2.2.2.2.2.2.2.2
theorem r9 {a0 a1 a2 a3 a4 a5 a6 a7 a8 X : Prop} (h : a0 ∧ a1 ∧ a2 ∧ a3 ∧ a4 ∧ a5 ∧ a6 ∧ a7 ∧ a8 ∧ X) : X := h.2.2.2.2.2.2.2.2.2
theorem r10 {a0 a1 a2 a3 a4 a5 a6 a7 a8 a9 X : Prop} (h : a0 ∧ a1 ∧ a2 ∧ a3 ∧ a4 ∧ a5 ∧ a6 ∧ a7 ∧ a8 ∧ a9 ∧ X) : X := h.2.2.2.2.2.2.2.2.2.2
theorem c6off {a0 a1 a2 a3 a4 a5 X Y : Prop} (h : a0 ∧ a1 ∧ a2 ∧ a3 ∧ a4 ∧ a5 ∧ X) (f : X -> Y) : a0 ∧ a1 ∧ a2 ∧ a3 ∧ a4 ∧ a5 ∧ Y := ⟨h.1,h.2.1,h.2.2.1,h.2.2.2.1,h.2.2.2.2.1,h.2.2.2.2.2.1,f (h.2.2.2.2.2.2)⟩
theorem r11 {a0 a1 a2 a3 a4 a5 a6 a7 a8 a9 a10 X : Prop} (h : a0 ∧ a1 ∧ a2 ∧ a3 ∧ a4 ∧ a5 ∧ a6 ∧ a7 ∧ a8 ∧ a9 ∧ a10 ∧ X) : X := h.2.2.2.2.2.2.2.2.2.2.2
theorem r12 {a0 a1 a2 a3 a4 a5 a6 a7 a8 a9 a10 a11 X : Prop} (h : a0 ∧ a1 ∧ a2 ∧ a3 ∧ a4 ∧ a5 ∧ a6 ∧ a7 ∧ a8 ∧ a9 ∧ a10 ∧ a11 ∧ X) : X := h.2.2.2.2.2.2.2.2.2.2.2.2
theorem r13 {a0 a1 a2 a3 a4 a5 a6 a7 a8 a9 a10 a11 a12 X : Prop} (h : a0 ∧ a1 ∧ a2 ∧ a3 ∧ a4 ∧ a5 ∧ a6 ∧ a7 ∧ a8 ∧ a9 ∧ a10 ∧ a11 ∧ a12 ∧ X) : X := h.2.2.2.2.2.2.2.2.2.2.2.2.2
theorem r14 {a0 a1 a2 a3 a4 a5 a6 a7 a8 a9 a10 a11 a12 a13 X : Prop} (h : a0 ∧ a1 ∧ a2 ∧ a3 ∧ a4 ∧ a5 ∧ a6 ∧ a7 ∧ a8 ∧ a9 ∧ a10 ∧ a11 ∧ a12 ∧ a13 ∧ X) : X := h.2.2.2.2.2.2.2.2.2.2.2.2.2.2
theorem r15 {a0 a1 a2 a3 a4 a5 a6 a7 a8 a9 a10 a11 a12 a13 a14 X : Prop} (h : a0 ∧ a1 ∧ a2 ∧ a3 ∧ a4 ∧ a5 ∧ a6 ∧ a7 ∧ a8 ∧ a9 ∧ a10 ∧ a11 ∧ a12 ∧ a13 ∧ a14 ∧ X) : X := h.2.2.2.2.2.2.2.2.2.2.2.2.2.2.2
theorem r16 {a0 a1 a2 a3 a4 a5 a6 a7 a8 a9 a10 a11 a12 a13 a14 a15 X : Prop} (h : a0 ∧ a1 ∧ a2 ∧ a3 ∧ a4 ∧ a5 ∧ a6 ∧ a7 ∧ a8 ∧ a9 ∧ a10 ∧ a11 ∧ a12 ∧ a13 ∧ a14 ∧ a15 ∧ X) : X := h.2.2.2.2.2.2.2.2.2.2.2.2.2.2.2.2
noncomputable def forBody : Stmt -> List Stmt
 | .For _ _ b _ _ => b
 | _ => []
noncomputable def bodyAt : Nat -> List Stmt -> List Stmt
 | _,[] => []
 | 0,s :: _ => forBody s
 | n + 1,_ :: r => bodyAt n r
noncomputable def pairB (fd : FuncData) : List Stmt := bodyAt 2 (bodyAt 10 (stmtsOf fd))
noncomputable def pairO (fd : FuncData) : List Stmt := bodyAt 10 (stmtsOf fd)
theorem ne_of_obj {g h : Heap} {L x y : Addr} {ox oy : Obj} {news : List (Addr × Obj)} (N : News g L h news) (hx : (x,ox) ∈ news) (hy : (y,oy) ∈ news) (hne : ox.data ≠ oy.data) : x ≠ y := fun e => by
 have a := (N _ hx).1
 have b := (N _ hy).1
 subst e
 have e2 : some ox = some oy := a.symm.trans b
 cases e2
 exact hne rfl

section
open PySem.Calls PyProof.Rows PyProof.Rows.LCg
variable {prog : Program} {w : World} {A : Around} {E : Value -> Shared -> Prop} {s : Shared} {h₀ : Heap} {L : Addr} {m : Str -> Option Value} {env : Env}
noncomputable abbrev testsOf (ifs : List Expr) (env : Env) : Sem Bool := forIn ifs true fun c r => if r = true then do let ok ← isTrue c env (eval c env); pure (ForInStep.yield ok) else pure (ForInStep.yield r)
theorem loop_G {elt target iter : Expr} {ifs : List Expr} {scope : Scope} {pos : Pos} {it acc : Value} {env : Env} {R : Result -> Shared -> Prop} (I : Nat -> Shared -> Prop)
  (turn : ∀ n s,I n s -> wpAny (model prog w) A (pyNext it) (fun r s₁ => match r with
   | none => R (.ok .next) s₁
   | some v => wpAny (model prog w) A (letOwnedTupleGo target it v) (fun _ s₁' => wpAny (model prog w) A (assign target env v) (fun _ s₂ =>
     wpAny (model prog w) A (testsOf ifs env) (fun ok s₃ =>
      if ok = true then wpAny (model prog w) A (eval elt env) (fun x s₄ =>
       wpAny (model prog w) A (call (.builtin "list.append") [acc, x]) (fun _ s₅ => ∃ m, m < n ∧ I m s₅) (notedBy (model prog w) A env fun e s' => R (.error e) s') s₄) (notedBy (model prog w) A env fun e s' => R (.error e) s') s₃
      else ∃ m,m < n ∧ I m s₃) (notedBy (model prog w) A env fun e s' => R (.error e) s') s₂) (notedBy (model prog w) A env fun e s' => R (.error e) s') s₁') (notedBy (model prog w) A env fun e s' => R (.error e) s') s₁) (notedBy (model prog w) A env fun e s' => R (.error e) s') s)
  (n : Nat) (h : I n s) : codeAny (model prog w) A (.compLoop (.ListComp elt [⟨target,iter,ifs,0⟩] scope pos) 0 it acc env) R s := by
 refine codeAny_loop rfl I (fun n s hI => ?_) n h
 show wpAny _ A ((compTurn (.ListComp elt [⟨target,iter,ifs,0⟩] scope pos) 0 it acc env).onRaise (fun x => do noteFrame x env; theTreesLotGoes x)) _ _ s
 refine wpAny_noted ?_
 rw [compTurn_list]
 refine wpAny_bind (wpAny_standAt (wpAny_bind (wpAny_mono (turn n s hI) (fun r s₁ h₁ => ?_) fun _ _ h' => h')))
 cases r with
 | none => exact wpAny_pure h₁
 | some v =>
  refine wpAny_bind (wpAny_mono h₁ (fun _ s₁' h₁' => ?_) fun _ _ h' => h')
  refine wpAny_bind (wpAny_mono h₁' (fun _ s₂ h₂ => wpAny_bind (wpAny_mono h₂ (fun ok s₃ h₃ => ?_) fun _ _ h' => h')) fun _ _ h' => h')
  cases ok with
  | false => exact wpAny_pure ⟨rfl,h₃⟩
  | true => exact wpAny_bind (wpAny_bind (wpAny_mono h₃ (fun x s₄ h₄ => wpAny_bind (wpAny_mono h₄ (fun _ s₅ h₅ => wpAny_pure (wpAny_pure ⟨rfl,h₅⟩)) fun _ _ h' => h')) fun _ _ h' => h'))
noncomputable def TurnEnd (h₀ : Heap) (L : Addr) (m : Str -> Option Value) (s₁ : Shared) (I : Addr) (oI : Obj) (C D : Addr) (oD : Obj) (S : List (Addr × Obj) -> Prop) (rest : List (Addr × Obj) -> Prop) (s₂ : Shared) : Prop :=
 ∀ X : Prop,(∀ (h' : Heap) (tk : Nat) (news' : List (Addr × Obj)) (oC : Obj) (m' : Str -> Option Value),s₂ = { s₁ with heap := h',toks := tk } -> Fr h₀ L h' m -> NsObj oC m' -> News h₀ L h' ((I,oI) :: (C,oC) :: (D,oD) :: news') -> Off3 I C D news' -> S news' -> rest news' -> X) -> X
noncomputable def TurnRest (prog : Program) (w : World) (A : Around) (h₀ : Heap) (L : Addr) (m : Str -> Option Value) (env : Env) (elt target : Expr) (ifs : List Expr) (scope : Scope) (cl : List (Str × Addr)) (s : Shared) (S : List (Addr × Obj) -> Prop) (P : Nat -> Value -> Prop) (Z : Heap -> Addr -> Prop)
  (Fin : List Value -> List (Addr × Obj) -> Prop) : Nat -> Nat -> List Value -> List (Addr × Obj) -> Prop
 | 0,_,ys,news => Fin ys news
 | k + 1,i,ys,news => ∀ v I oI C oC D m₂ h tk (E' : Value -> Shared -> Prop),P i v -> NsObj oC m₂ -> Z h I -> Fr h₀ L h m -> News h₀ L h ((I,oI) :: (C,oC) :: (D,lst ys) :: news) -> Off3 I C D news -> ((@Ne Nat I C) ∧ (@Ne Nat I D) ∧ (@Ne Nat C D)) ->
   wpAny (model prog w) A (letOwnedTupleGo target (.ref I) v) (fun _ s₁ => wpAny (model prog w) A (assign target (compEnvC scope cl C env) v) (fun _ s₂ => wpAny (model prog w) A (testsOf ifs (compEnvC scope cl C env)) (fun ok s₃ =>
    if ok = true then wpAny (model prog w) A (eval elt (compEnvC scope cl C env)) (fun y s₄ => TurnEnd h₀ L m { s with heap := h,toks := tk } I oI C D (lst ys) S (fun news' => TurnRest prog w A h₀ L m env elt target ifs scope cl s S P Z Fin k (i + 1) (ys ++ [y]) news') s₄) E' s₃
    else TurnEnd h₀ L m { s with heap := h,toks := tk } I oI C D (lst ys) S (fun news' => TurnRest prog w A h₀ L m env elt target ifs scope cl s S P Z Fin k (i + 1) ys news') s₃) E' s₂) E' s₁) E' { s with heap := h,toks := tk }
theorem block_G {elt target iter : Expr} {ifs : List Expr} {scope : Scope} {cl : List (Str × Addr)} {pos : Pos} {s₂ : Shared} {I : Addr} {fp : List Addr} {n : Nat} {P : Nat -> Value -> Prop} {St : Nat -> Heap -> Prop} {S : List (Addr × Obj) -> Prop} {Z : Heap -> Addr -> Prop} {news : List (Addr × Obj)}
  {Fin : List Value -> List (Addr × Obj) -> Prop} {RR : Value -> Addr -> Result -> Shared -> Prop} (W : Walks prog w A I fp [I] n P St) (hsz : n <= sizeLine) (hIo : ∀ i h,St i h -> ∃ o,h.get? I = some o) (hZ : ∀ i h,St i h -> Z h I)
  (hSt : ∀ i h h' o nw,St i h -> h.get? I = some o -> h'.get? I = some o -> (∀ b o,h₀.get? b = some o -> h'.get? b = some o) -> News h₀ L h' nw -> S nw -> St i h')
  (hcell : ∀ y ∈ scope.names,y.2 ≠ .cell) (hkind : scope.kind = .function) (hst : St 0 s₂.heap) (hfp : ∀ b ∈ fp,b < s₂.heap.objs.size)
  (F : Fr h₀ L s₂.heap m) (N : News h₀ L s₂.heap news) (hIL : L ≠ I) (hI₀ : h₀.get? I = none) (off : ∀ p ∈ news,p.1 ≠ I) (hS : S news)
  (R : TurnRest prog w A h₀ L m env elt target ifs scope cl s₂ S P Z Fin n 0 [] news)
  (hRR : ∀ D C h tk m' ys news',Fr h₀ L h m -> News h₀ L h ((D,lst ys) :: news') -> Off1 D news' -> h.Ns C m' -> h₀.get? C = none -> h₀.get? D = none -> C ≠ L -> D ≠ L -> C ≠ D -> (∀ p ∈ news',p.1 ≠ C) -> Fin ys news' -> RR (.ref D) C (.ok .next) { s₂ with heap := h,toks := tk }) :
  wpAny (model prog w) A (newList []) (fun acc s₃ => wpAny (model prog w) A (newFunctionEnv scope env.globals cl [] env.qual none .none (some env)) (fun cenv s₄ =>
   codeAny (model prog w) A (.compStart (.ListComp elt [⟨target,iter,ifs,0⟩] scope pos) 0 (.ref I) acc { cenv with scope := relabel scope env }) (RR acc cenv.locals) s₄) E s₃) E s₂ := by
 refine (?f : Cln _) ?p ⟨?q,fun B k => ?r⟩
 case f => exact fun x _ => x
 case q =>
  refine wpAny_newObj_type (wpAny_newFunctionEnv hcell (by intro y hy; simp at hy) (fun h₁ hns₁ hsb₁ => ?_) hkind)
  dsimp only at hns₁ hsb₁ ⊢
  generalize hH2 : s₂.heap.push { cls := .type "list", dict := none, data := .seq ([] : List Value).toArray } = H2 at hns₁ hsb₁ ⊢
  have hC : H2.objs.size = s₂.heap.objs.size + 1 := by rw [← hH2,Heap.size_push]
  have hDC : s₂.heap.objs.size ≠ H2.objs.size := by rw [hC]; exact Nat.ne_of_lt (Nat.lt_succ_self _)
  have below : ∀ b,b < s₂.heap.objs.size -> b ≠ H2.objs.size ∧ b ≠ s₂.heap.objs.size := fun b hb => ⟨by rw [hC]; exact Nat.ne_of_lt (Nat.lt_succ_of_lt hb),Nat.ne_of_lt hb⟩
  have old : ∀ b o,s₂.heap.get? b = some o -> h₁.get? b = some o := fun b o e => hsb₁.extBut b o (below b (Heap.lt_size e)).1 (Heap.get?_push_of_some _ (hH2 ▸ Heap.get?_push_of_some _ e))
  have hacc : h₁.get? s₂.heap.objs.size = some (lst []) := hsb₁.extBut _ _ hDC (Heap.get?_push_of_some _ (hH2 ▸ Heap.get?_push_size _ rfl))
  have hIf : I ∈ fp := W.sub I (List.mem_singleton.mpr rfl)
  have hIlt : I < s₂.heap.objs.size := hfp I hIf
  have hst₁ : St 0 h₁ := W.frame _ _ _ hst fun b _ o e => old b o e
  have fresh₀ : ∀ a,s₂.heap.objs.size <= a -> h₀.get? a = none := fun a ha => by
   cases e : h₀.get? a with
   | none => rfl
   | some o' => exact absurd (Heap.lt_size (F.keep a o' e)) (Nat.not_lt.mpr ha)
  have hD₀ : h₀.get? s₂.heap.objs.size = none := fresh₀ _ (Nat.le_refl _)
  have hC₀ : h₀.get? H2.objs.size = none := fresh₀ _ (by rw [hC]; exact Nat.le_succ _)
  have hLlt : L < s₂.heap.objs.size := F.ns.lt
  have hDL : s₂.heap.objs.size ≠ L := Ne.symm (below L hLlt).2
  have hCL : H2.objs.size ≠ L := Ne.symm (below L hLlt).1
  have hCI : I ≠ H2.objs.size := (below I hIlt).1
  have hDI : I ≠ s₂.heap.objs.size := (below I hIlt).2
  have hDf : s₂.heap.objs.size ∉ fp := fun hm => Nat.lt_irrefl _ (hfp _ hm)
  have hCf : H2.objs.size ∉ fp := fun hm => by have := hfp _ hm; rw [hC] at this; exact Nat.lt_irrefl _ (Nat.lt_of_succ_lt this)
  have off₀ : Off3 I H2.objs.size s₂.heap.objs.size news := Off3.of fun p hp => ⟨off p hp,(below _ (Heap.lt_size (N p hp).1)).1,(below _ (Heap.lt_size (N p hp).1)).2⟩
  have loop : ∀ s₃ : Shared,s₃ = { s₂ with heap := h₁,toks := s₂.toks + ([] : List (Str × Value)).length } ->
    codeAny (model prog w) A (.compLoop (.ListComp elt [⟨target,iter,ifs,0⟩] scope pos) 0 (.ref I) (.ref s₂.heap.objs.size) (compEnvC scope cl H2.objs.size env))
     (RR (.ref s₂.heap.objs.size) H2.objs.size) s₃ := by
   rintro s₃ rfl
   refine loop_G
    (fun k s' => ∀ X : Prop,(∀ (h' : Heap) (tk i : Nat) (ys : List Value) (m' : Str -> Option Value) (news' : List (Addr × Obj)),s' = { s₂ with heap := h',toks := tk } -> i <= n -> k = n + 1 - i -> ys.length <= i -> St i h' -> Fr h₀ L h' m -> h'.Ns H2.objs.size m' -> News h₀ L h' ((s₂.heap.objs.size,lst ys) :: news') ->
     Off3 I H2.objs.size s₂.heap.objs.size news' -> S news' -> TurnRest prog w A h₀ L m env elt target ifs scope cl s₂ S P Z Fin (n - i) i ys news' -> X) -> X) ?_ (n + 1)
    (fun X kk => kk h₁ _ 0 [] _ news rfl (Nat.zero_le _) rfl (Nat.le_refl _) hst₁ (F.keeps old) hns₁ (fun p hp => ?_) off₀ hS R)
   ·intro k s' hI
    refine hI _ fun h' tk i ys m' news' e1 hi e2 hyl hst' F' hn' N' off' hS' R' => ?_
    subst e1 e2
    clear hI
    by_cases hlt : i < n
    ·obtain ⟨j,hj⟩ : ∃ j,n - i = j + 1 := ⟨n - i - 1,by lia⟩
     rw [hj] at R'
     refine W.item i _ _ _ hlt hst' fun v h₂ tk₂ hPv hst₂ hk₂ => ?_
     have off3 := off'.mem
     have N₂ : News h₀ L h₂ ((s₂.heap.objs.size,lst ys) :: news') := news_but N' hk₂ fun p hp => by
      rcases List.mem_cons.mp hp with rfl | hp
      ·exact Ne.symm hDI
      ·exact (off3 p hp).1
     obtain ⟨oI,heI⟩ := hIo _ _ hst₂
     obtain ⟨oC,heC,hoC⟩ := ns_obj (hn'.at' fun o e => hk₂ _ o (by simpa using Ne.symm hCI) e)
     have F₂ : Fr h₀ L h₂ m := fr_but F' hk₂ hIL hI₀
     have N₃ : News h₀ L h₂ ((I,oI) :: (H2.objs.size,oC) :: (s₂.heap.objs.size,lst ys) :: news') := fun p hp => by
      rcases List.mem_cons.mp hp with rfl | hp
      ·exact ⟨heI,Ne.symm hIL,hI₀⟩
      ·rcases List.mem_cons.mp hp with rfl | hp
       ·exact ⟨heC,hCL,hC₀⟩
       ·exact N₂ p hp
     have keepI : ∀ (h₄ : Heap) (news₄ : List (Addr × Obj)),h₄.get? I = some oI -> (∀ b o,h₀.get? b = some o -> h₄.get? b = some o) -> News h₀ L h₄ news₄ -> S news₄ -> St (i + 1) h₄ := fun h₄ news₄ e k N S => hSt _ _ _ _ _ hst₂ heI e k N S
     refine wpAny_mono (R' v I oI H2.objs.size oC s₂.heap.objs.size _ h₂ _ _ hPv hoC (hZ _ _ hst₂) F₂ N₃ off' ⟨hCI,hDI,Ne.symm hDC⟩) (fun _ s₄ h₄ => ?_) fun _ _ e => e
     refine wpAny_mono h₄ (fun _ s₅ h₅ => ?_) fun _ _ e => e
     refine wpAny_mono h₅ (fun ok s₆ h₆ => ?_) fun _ _ e => e
     cases ok with
     | false =>
      rw [if_neg Bool.false_ne_true] at h₆ ⊢
      refine h₆ _ fun h₄ tk₄ news₄ oC₄ m₄ e₄ F₄ hoC₄ N₄ off₄ hS₄ R₄ => ?_
      subst e₄
      have zI := (N₄ (I,oI) List.mem_cons_self).1
      have zC := (N₄ (H2.objs.size,oC₄) (List.mem_cons_of_mem _ List.mem_cons_self)).1
      have N₄' : News h₀ L h₄ news₄ := fun p hp => N₄ p (List.mem_cons_of_mem _ (List.mem_cons_of_mem _ (List.mem_cons_of_mem _ hp)))
      refine ⟨n + 1 - (i + 1),by lia,fun X kk => kk h₄ tk₄ (i + 1) ys _ news₄ rfl hlt rfl (Nat.le_succ_of_le hyl) (keepI _ _ zI F₄.keep N₄' hS₄) F₄ (hoC₄.ns zC) (fun p hp => N₄ p (List.mem_cons_of_mem _ (List.mem_cons_of_mem _ hp))) off₄ hS₄ ?_⟩
      rw [show n - (i + 1) = j by lia]
      exact R₄
     | true =>
      rw [if_pos rfl] at h₆ ⊢
      refine wpAny_mono h₆ (fun y s₇ h₇ => ?_) fun _ _ e => e
      refine h₇ _ fun h₄ tk₄ news₄ oC₄ m₄ e₄ F₄ hoC₄ N₄ off₄ hS₄ R₄ => ?_
      subst e₄
      have zI := (N₄ (I,oI) List.mem_cons_self).1
      have zC := (N₄ (H2.objs.size,oC₄) (List.mem_cons_of_mem _ List.mem_cons_self)).1
      have zD := (N₄ (s₂.heap.objs.size,lst ys) (List.mem_cons_of_mem _ (List.mem_cons_of_mem _ List.mem_cons_self))).1
      have N₄' : News h₀ L h₄ news₄ := fun p hp => N₄ p (List.mem_cons_of_mem _ (List.mem_cons_of_mem _ (List.mem_cons_of_mem _ hp)))
      have hst₄ := keepI _ _ zI F₄.keep N₄' hS₄
      refine append_at (hsz := by show ys.toArray.size <= sizeLine; rw [List.size_toArray]; exact Nat.le_trans hyl (Nat.le_trans hi hsz)) zD fun h₅ hs₅ hD₅ => ?_
      have off4 := off₄.mem
      refine ⟨n + 1 - (i + 1),by lia,fun X kk => kk h₅ tk₄ (i + 1) (ys ++ [y]) _ news₄ rfl hlt rfl (by rw [List.length_append,List.length_singleton]; exact Nat.succ_le_succ hyl) (W.frame _ _ _ hst₄ fun b hb o e => hs₅.extBut b o (fun q => hDf (q ▸ hb)) e) (F₄.change hs₅ hDL hD₀)
       ((hoC₄.ns zC).sameBut hs₅ (Ne.symm hDC)) (fun p hp => ?_) off₄ hS₄ ?_⟩
      ·rcases List.mem_cons.mp hp with rfl | hp
       ·exact ⟨hD₅.trans (congrArg some (lst_snoc ys y)),hDL,hD₀⟩
       ·exact ⟨hs₅.extBut _ _ (off4 p hp).2.2 (N₄' p hp).1,(N₄' p hp).2⟩
      ·rw [show n - (i + 1) = j by lia]
       exact R₄
    ·obtain rfl : i = n := Nat.le_antisymm hi (Nat.not_lt.mp hlt)
     rw [Nat.sub_self] at R'
     refine W.done _ _ _ hst' fun h₂ tk₂ hk₂ => ?_
     have off3 := off'.mem
     exact hRR _ _ h₂ tk₂ _ ys news' (fr_but F' hk₂ hIL hI₀) (news_but N' hk₂ fun p hp => by
      rcases List.mem_cons.mp hp with rfl | hp
      ·exact Ne.symm hDI
      ·exact (off3 p hp).1) off'.one (hn'.at' fun o e => hk₂ _ o (by simpa using Ne.symm hCI) e) hC₀ hD₀ hCL hDL (Ne.symm hDC) (fun p hp => (off3 p hp).2.1) R'
   ·rcases List.mem_cons.mp hp with rfl | hp
    ·exact ⟨hacc,hDL,hD₀⟩
    ·exact ⟨old _ _ (N p hp).1,(N p hp).2⟩
  exact codeAny_compStart_list (loop _ rfl) (W.self 0 _ _ _ hst₁ (loop _ rfl))
 case r => delta id stq_it stq_out; exact k
noncomputable def SrcG (prog : Program) (w : World) (A : Around) (h₀ : Heap) (L : Addr) (m : Str -> Option Value) (env : Env) (elt target : Expr) (ifs : List Expr) (scope : Scope) (cl : List (Str × Addr)) (Fin : Shared -> List Value -> List (Addr × Obj) -> Prop) (xv : Value) (s₁ : Shared) : Prop :=
 ∃ ax its news,xv = .ref ax ∧ A.handled = none ∧ Fr h₀ L s₁.heap m ∧ News h₀ L s₁.heap news ∧ SrcAt h₀ ax its news ∧ its.size <= sizeLine ∧
  ∀ s₂ : Shared,(∃ h,s₂ = { s₁ with heap := h }) -> TurnRest prog w A h₀ L m env elt target ifs scope cl s₂ (SrcAt h₀ ax its) (fun i v => its[i]? = some v) (fun h I => ∃ l j,h.IsListIter I l j) (Fin s₂) its.size 0 [] news
theorem SrcG.ledger {elt target : Expr} {ifs : List Expr} {scope : Scope} {cl : List (Str × Addr)} {Fin : Shared -> List Value -> List (Addr × Obj) -> Prop} {ax : Addr} {its : Array Value} {k : Nat} {news : List (Addr × Obj)} {s₁ : Shared}
  (hh : A.handled = none) (F : Fr h₀ L s₁.heap m) (N : News h₀ L s₁.heap news) (hm : (ax, ({ cls := .type "list", data := .seq its k } : Obj)) ∈ news) (hsz : its.size <= sizeLine)
  (h : ∀ g,TurnRest prog w A h₀ L m env elt target ifs scope cl { s₁ with heap := g } (SrcAt h₀ ax its) (fun i v => its[i]? = some v) (fun h I => ∃ l j,h.IsListIter I l j) (Fin { s₁ with heap := g }) its.size 0 [] news) :
  SrcG prog w A h₀ L m env elt target ifs scope cl Fin (.ref ax) s₁ := ⟨ax,its,news,rfl,hh,F,N,.inr ⟨_,hm,rfl,_,rfl⟩,hsz,fun _ ⟨g,e⟩ => e ▸ h g⟩
theorem Assign_G {elt target iter : Expr} {ifs : List Expr} {y : Str} {py : Pos} {scope : Scope} {cl : List (Str × Addr)} {pos spos : Pos} {Q : Flow -> Shared -> Prop} (F₀ : Fr h₀ L s.heap m) (hLe : env.locals = L)
  (hsw : swapsWith (.ListComp elt [⟨target,iter,ifs,0⟩] scope pos) (some (.Name y py)) spos.line env = pure true)
  (hclos : closureFor scope env = pure cl) (hcell : ∀ z ∈ scope.names,z.2 ≠ .cell) (hkind : scope.kind = .function)
  (hnames : ∀ z ∈ scope.names,z.2 = .local -> scope.names.lookup z.1 = some .local)
  (hy : env.kindOf y = some .local) (hp : (env.scope.kind == .class || (env.scope.kind == .module && env.locals != env.globals)) = false)
  (h : wpAny (model prog w) A (eval iter env) (SrcG prog w A h₀ L m env elt target ifs scope cl (fun s₂ => FinA h₀ L m s₂ y Q)) E s)
  (hs : ∀ x,foldedSetIterable iter env x = pure x := by intro _; rfl) :
  wpAny (model prog w) A (exec (.Assign [.Name y py] (.ListComp elt [⟨target,iter,ifs,0⟩] scope pos) spos) env) Q E s := by
 subst hLe
 rw [exec_Assign_Name_used _ _ _ _ hsw]
 refine wpAny_bind (wpAny_standAt (wpAny_bind ?_))
 show wpAny _ A (do let _ ← comprehension (.ListComp elt [⟨target,iter,ifs,0⟩] scope pos) scope env _ (newList []) false (eval iter env) (some (assign (.Name y py) env))) _ _ s
 refine wpAny_bind (wpAny_mono (wpAny_comprehension_free (use := some (assign (.Name y py) env)) (Q := fun _ s' => Q .next s') rfl hs hclos hkind hnames
  (wpAny_mono h (fun xv s₁ h₁ => ?_) fun _ _ e => e)) (fun _ s' hq => wpAny_pure (wpAny_pure hq)) fun _ _ e => e)
 obtain ⟨ax,its,news,rfl,hh,F,N,S,hsz,R⟩ := h₁
 have hl := S.list F.keep N
 have hlt : ax < s₁.heap.objs.size := by obtain ⟨_,e,_⟩ := hl; exact Heap.lt_size e
 refine wpAny_pyIter_list hl ?_
 have up : ∀ b o, s₁.heap.get? b = some o -> (s₁.heap.push { cls := .type "list_iterator", data := .fields #[.ref ax, .int 0 0] }).get? b = some o := fun b o e => Heap.get?_push_of_some _ e
 refine block_G (Walks.list hh s₁.heap.objs.size ax (Nat.ne_of_lt hlt) its) hsz (fun i h st => by obtain ⟨o,e,_⟩ := st.1; exact ⟨o,e⟩) (fun i h st => ⟨_,_,st.1⟩) list_st hcell hkind ⟨⟨_,Heap.get?_push_size _ rfl,rfl,rfl⟩,hl.push _⟩ (fun b hb => ?_)
  (F.keeps up) (N.grown up) (Nat.ne_of_lt F.ns.lt) (next_is_new F) (fun p hp => Nat.ne_of_lt (Heap.lt_size (N p hp).1)) S (R _ ⟨_,rfl⟩) ?_
 ·show b < (s₁.heap.push _).objs.size
  rw [Heap.size_push]
  rcases List.mem_cons.mp hb with rfl | hb
  ·exact Nat.lt_succ_self _
  ·rw [List.mem_singleton.mp hb]; exact Nat.lt_succ_of_lt hlt
 ·intro D C h' tk m' ys news' F' N' o1 hn hC₀ hD₀ hCL hDL hCD offC fin
  show wpAny _ A (assign (.Name y py) env (.ref D)) _ _ _
  refine wpAny_assign_Name (wpAny_storeName_local hy F'.ns (fun h₂ hn₂ hs₂ => ?_) hp)
  have hL₀ : h₀.get? env.locals = none := Heap.get?_none_of_le F'.above
  have F₂ : Fr h₀ env.locals h₂ (fun z => if z = y then some (.ref D) else m z) := ⟨hn₂,fun b o e => hs₂.extBut b o (fun q => by rw [q,hL₀] at e; cases e) (F'.keep b o e),F'.above⟩
  refine ⟨m',hn.sameBut hs₂ hCL,fun h'' hs'' => fin D h'' _ (F₂.change hs'' hCL hC₀) (fun p hp => ?_) o1⟩
  have z : h₂.get? p.1 = some p.2 := hs₂.extBut _ _ (N' p hp).2.1 (N' p hp).1
  refine ⟨hs''.extBut _ _ ?_ z,(N' p hp).2⟩
  rcases List.mem_cons.mp hp with rfl | hp
  ·exact Ne.symm hCD
  ·exact offC p hp
theorem turn3 {a b c : Str} {pa pb pc tp : Pos} {kk : Nat} {scope : Scope} {cl : List (Str × Addr)} {I C D T : Addr} {oI oC oD : Obj} {m₂ : Str -> Option Value} {news : List (Addr × Obj)} {v1 v2 v3 : Value} {Q : Unit -> Shared -> Prop} (hh : A.handled = none)
  (F : Fr h₀ L s.heap m) (N : News h₀ L s.heap ((I,oI) :: (C,oC) :: (D,oD) :: news)) (hC : NsObj oC m₂) (hit : ∃ l j,s.heap.IsListIter I l j) (off : Off3 I C D news) (ne : (@Ne Nat I C) ∧ (@Ne Nat I D) ∧ (@Ne Nat C D))
  (ht : (T,tupO [v1,v2,v3]) ∈ news) (ha : scope.names.lookup a = some .local) (hb : scope.names.lookup b = some .local) (hc : scope.names.lookup c = some .local) (hkind : scope.kind = .function) (hab : a ≠ b) (hac : a ≠ c) (hbc : b ≠ c)
  (k : ∀ oC' m' h' tk',NsObj oC' m' -> m' a = some v1 -> m' b = some v2 -> m' c = some v3 -> Fr h₀ L h' m -> News h₀ L h' ((I,oI) :: (C,oC') :: (D,oD) :: news) -> Q () { s with heap := h',toks := tk' }) :
  wpAny (model prog w) A (letOwnedTupleGo (.Tuple [.Name a pa,.Name b pb,.Name c pc] kk tp) (.ref I) (.ref T)) (fun _ s₁ => wpAny (model prog w) A (assign (.Tuple [.Name a pa,.Name b pb,.Name c pc] kk tp) (compEnvC scope cl C env) (.ref T)) Q E s₁) E s := by
 obtain ⟨lI,jI,hLi⟩ := hit
 refine wpAny_letOwnedTupleGo_listiter hLi ?_
 have nC := (N (C,oC) (.tail _ (.head _)))
 have ht' : IsTup s.heap T #[v1,v2,v3] := ⟨_,(N _ (.tail _ (.tail _ (.tail _ ht)))).1,rfl,_,rfl⟩
 refine assign_Tuple_tuple hh ht' rfl rfl fun h₅ he => ?_
 have he' : ∀ b o,s.heap.get? b = some o -> h₅.get? b = some o := fun b o e => he b o (Nat.ne_of_lt (Heap.lt_size e)) e
 refine assignInOrder_cons (wpAny_assign_Name (wpAny_storeName_local (lookup_relabel_local ha) ((hC.ns nC.1).at' fun o e => he' _ o e) (fun h₆ hn₆ hs₆ => ?_) (by simp [compEnvC,relabel,hkind])))
 refine assignInOrder_cons (wpAny_assign_Name (wpAny_storeName_local (lookup_relabel_local hb) hn₆ (fun h₇ hn₇ hs₇ => ?_) (by simp [compEnvC,relabel,hkind])))
 refine assignInOrder_cons (wpAny_assign_Name (wpAny_storeName_local (lookup_relabel_local hc) hn₇ (fun h₃ hn₃ hs₃ => ?_) (by simp [compEnvC,relabel,hkind])))
 refine assignInOrder_nil ?_
 have old3 : ∀ b o,b ≠ C -> s.heap.get? b = some o -> h₃.get? b = some o := fun b o hb e => hs₃.extBut b o hb (hs₇.extBut b o hb (hs₆.extBut b o hb (he' b o e)))
 obtain ⟨oC',heC,hoC⟩ := ns_obj hn₃
 have o3 := off.mem
 refine k oC' _ h₃ _ hoC (by simp [hab,hac]) (by simp [hbc]) (by simp) ((((F.keeps he').change hs₆ nC.2.1 nC.2.2).change hs₇ nC.2.1 nC.2.2).change hs₃ nC.2.1 nC.2.2) fun p hp => ?_
 rcases List.mem_cons.mp hp with rfl | hp
 ·have z := N (I,oI) (.head _); exact ⟨old3 _ _ ne.1 z.1,z.2⟩
 ·rcases List.mem_cons.mp hp with rfl | hp
  ·exact ⟨heC,nC.2⟩
  ·rcases List.mem_cons.mp hp with rfl | hp
   ·have z := N (D,oD) (.tail _ (.tail _ (.head _))); exact ⟨old3 _ _ (Ne.symm ne.2.2) z.1,z.2⟩
   ·have z := N p (.tail _ (.tail _ (.tail _ hp))); exact ⟨old3 _ _ (o3 p hp).2.1 z.1,z.2⟩
theorem turn2 {a b : Str} {pa pb tp : Pos} {kk : Nat} {scope : Scope} {cl : List (Str × Addr)} {I C D T : Addr} {oI oC oD : Obj} {m₂ : Str -> Option Value} {news : List (Addr × Obj)} {v1 v2 : Value} {Q : Unit -> Shared -> Prop} (hh : A.handled = none)
  (F : Fr h₀ L s.heap m) (N : News h₀ L s.heap ((I,oI) :: (C,oC) :: (D,oD) :: news)) (hC : NsObj oC m₂) (hit : ∃ l j,s.heap.IsListIter I l j) (off : Off3 I C D news) (ne : (@Ne Nat I C) ∧ (@Ne Nat I D) ∧ (@Ne Nat C D))
  (ht : (T,tupO [v1,v2]) ∈ news) (ha : scope.names.lookup a = some .local) (hb : scope.names.lookup b = some .local) (hkind : scope.kind = .function) (hab : a ≠ b)
  (k : ∀ oC' m' h' tk',NsObj oC' m' -> m' a = some v1 -> m' b = some v2 -> Fr h₀ L h' m -> News h₀ L h' ((I,oI) :: (C,oC') :: (D,oD) :: news) -> Q () { s with heap := h',toks := tk' }) :
  wpAny (model prog w) A (letOwnedTupleGo (.Tuple [.Name a pa,.Name b pb] kk tp) (.ref I) (.ref T)) (fun _ s₁ => wpAny (model prog w) A (assign (.Tuple [.Name a pa,.Name b pb] kk tp) (compEnvC scope cl C env) (.ref T)) Q E s₁) E s := by
 obtain ⟨lI,jI,hLi⟩ := hit
 refine wpAny_letOwnedTupleGo_listiter hLi ?_
 have nC := (N (C,oC) (.tail _ (.head _)))
 have ht' : IsTup s.heap T #[v1,v2] := ⟨_,(N _ (.tail _ (.tail _ (.tail _ ht)))).1,rfl,_,rfl⟩
 refine assign_Tuple_tuple hh ht' rfl rfl fun h₅ he => ?_
 have he' : ∀ b o,s.heap.get? b = some o -> h₅.get? b = some o := fun b o e => he b o (Nat.ne_of_lt (Heap.lt_size e)) e
 refine assignInOrder_cons (wpAny_assign_Name (wpAny_storeName_local (lookup_relabel_local ha) ((hC.ns nC.1).at' fun o e => he' _ o e) (fun h₆ hn₆ hs₆ => ?_) (by simp [compEnvC,relabel,hkind])))
 refine assignInOrder_cons (wpAny_assign_Name (wpAny_storeName_local (lookup_relabel_local hb) hn₆ (fun h₃ hn₃ hs₃ => ?_) (by simp [compEnvC,relabel,hkind])))
 refine assignInOrder_nil ?_
 have old3 : ∀ b o,b ≠ C -> s.heap.get? b = some o -> h₃.get? b = some o := fun b o hb e => hs₃.extBut b o hb (hs₆.extBut b o hb (he' b o e))
 obtain ⟨oC',heC,hoC⟩ := ns_obj hn₃
 have o3 := off.mem
 refine k oC' _ h₃ _ hoC (by simp [hab]) (by simp) (((F.keeps he').change hs₆ nC.2.1 nC.2.2).change hs₃ nC.2.1 nC.2.2) fun p hp => ?_
 rcases List.mem_cons.mp hp with rfl | hp
 ·have z := N (I,oI) (.head _); exact ⟨old3 _ _ ne.1 z.1,z.2⟩
 ·rcases List.mem_cons.mp hp with rfl | hp
  ·exact ⟨heC,nC.2⟩
  ·rcases List.mem_cons.mp hp with rfl | hp
   ·have z := N (D,oD) (.tail _ (.tail _ (.head _))); exact ⟨old3 _ _ (Ne.symm ne.2.2) z.1,z.2⟩
   ·have z := N p (.tail _ (.tail _ (.tail _ hp))); exact ⟨old3 _ _ (o3 p hp).2.1 z.1,z.2⟩
theorem TurnEnd.intro {I C D : Addr} {oI oC oD : Obj} {S : List (Addr × Obj) -> Prop} {rest : List (Addr × Obj) -> Prop} {s₁ : Shared} {h' : Heap} {tk : Nat} {m' : Str -> Option Value} {t : List (Addr × Obj)} (F : Fr h₀ L h' m) (hC : NsObj oC m') (N : News h₀ L h' ((I,oI) :: (C,oC) :: (D,oD) :: t)) (off : Off3 I C D t) (hS : S t) (r : rest t) :
  TurnEnd h₀ L m s₁ I oI C D oD S rest { s₁ with heap := h',toks := tk } := fun _ k => k h' tk t oC m' rfl F hC N off hS r
theorem TurnEnd.intro1 {I C D : Addr} {oI oC oD : Obj} {S : List (Addr × Obj) -> Prop} {rest : List (Addr × Obj) -> Prop} {s₁ : Shared} {h' : Heap} {tk : Nat} {m' : Str -> Option Value} {a : Addr × Obj} {t : List (Addr × Obj)} (F : Fr h₀ L h' m) (hC : NsObj oC m') (N : News h₀ L h' (a :: (I,oI) :: (C,oC) :: (D,oD) :: t)) (off : Off3 I C D (a :: t)) (hS : S (a :: t)) (r : rest (a :: t)) :
  TurnEnd h₀ L m s₁ I oI C D oD S rest { s₁ with heap := h',toks := tk } := fun _ k => k h' tk (a :: t) oC m' rfl F hC (cb_drop N (sb_mem (.tail _ (.head _)) (sb_mem (.tail _ (.tail _ (.head _))) (sb_mem (.tail _ (.tail _ (.tail _ (.head _)))) (sb_keep (sb_skip (sb_skip (sb_skip sb_refl)))))))) off hS r
theorem TurnEnd.introD {I C D : Addr} {oI oC oD : Obj} {S : List (Addr × Obj) -> Prop} {rest : List (Addr × Obj) -> Prop} {s₁ : Shared} {h' : Heap} {tk : Nat} {m' : Str -> Option Value} {a : Addr × Obj} {t : List (Addr × Obj)} (F : Fr h₀ L h' m) (hC : NsObj oC m') (N : News h₀ L h' (a :: (I,oI) :: (C,oC) :: (D,oD) :: t)) (off : Off3 I C D t) (hS : S t) (r : rest t) :
  TurnEnd h₀ L m s₁ I oI C D oD S rest { s₁ with heap := h',toks := tk } := fun _ k => k h' tk t oC m' rfl F hC (fun p h => N p (.tail _ h)) off hS r
theorem testsOf_nil {env : Env} {Q : Bool -> Shared -> Prop} (h : Q true s) : wpAny (model prog w) A (testsOf [] env) Q E s := wpAny_tests_nil h
theorem testsOf_one {env : Env} {c : Expr} {Q : Bool -> Shared -> Prop} (h : wpAny (model prog w) A (isTrue c env (eval c env)) Q E s) : wpAny (model prog w) A (testsOf [c] env) Q E s := wpAny_tests_one h
theorem TurnRest.succ {elt target : Expr} {ifs : List Expr} {scope : Scope} {cl : List (Str × Addr)} {S : List (Addr × Obj) -> Prop} {P : Nat -> Value -> Prop} {Z : Heap -> Addr -> Prop} {Fin : List Value -> List (Addr × Obj) -> Prop} {k i : Nat} {ys : List Value} {news : List (Addr × Obj)}
  (h : ∀ v I oI C oC D m₂ h tk (E' : Value -> Shared -> Prop),P i v -> NsObj oC m₂ -> Z h I -> Fr h₀ L h m -> News h₀ L h ((I,oI) :: (C,oC) :: (D,lst ys) :: news) -> Off3 I C D news -> ((@Ne Nat I C) ∧ (@Ne Nat I D) ∧ (@Ne Nat C D)) ->
   wpAny (model prog w) A (letOwnedTupleGo target (.ref I) v) (fun _ s₁ => wpAny (model prog w) A (assign target (compEnvC scope cl C env) v) (fun _ s₂ => wpAny (model prog w) A (testsOf ifs (compEnvC scope cl C env)) (fun ok s₃ =>
    if ok = true then wpAny (model prog w) A (eval elt (compEnvC scope cl C env)) (fun y s₄ => TurnEnd h₀ L m { s with heap := h,toks := tk } I oI C D (lst ys) S (fun news' => TurnRest prog w A h₀ L m env elt target ifs scope cl s S P Z Fin k (i + 1) (ys ++ [y]) news') s₄) E' s₃
    else TurnEnd h₀ L m { s with heap := h,toks := tk } I oI C D (lst ys) S (fun news' => TurnRest prog w A h₀ L m env elt target ifs scope cl s S P Z Fin k (i + 1) ys news') s₃) E' s₂) E' s₁) E' { s with heap := h,toks := tk }) :
  TurnRest prog w A h₀ L m env elt target ifs scope cl s S P Z Fin (k + 1) i ys news := h
theorem TurnRest.zero {elt target : Expr} {ifs : List Expr} {scope : Scope} {cl : List (Str × Addr)} {S : List (Addr × Obj) -> Prop} {P : Nat -> Value -> Prop} {Z : Heap -> Addr -> Prop} {Fin : List Value -> List (Addr × Obj) -> Prop} {i : Nat} {ys : List Value} {news : List (Addr × Obj)} (h : Fin ys news) :
  TurnRest prog w A h₀ L m env elt target ifs scope cl s S P Z Fin 0 i ys news := h
theorem TurnEnd.mono {I C D : Addr} {oI oD : Obj} {S : List (Addr × Obj) -> Prop} {rest rest' : List (Addr × Obj) -> Prop} {s₁ s₂ : Shared} (h : TurnEnd h₀ L m s₁ I oI C D oD S rest s₂) (k : ∀ n,rest n -> rest' n) : TurnEnd h₀ L m s₁ I oI C D oD S rest' s₂ :=
 fun X kk => h X fun h' tk n oC m' e F hC N o hS r => kk h' tk n oC m' e F hC N o hS (k n r)
theorem turns_grow {elt target : Expr} {ifs : List Expr} {scope : Scope} {cl : List (Str × Addr)} {S : List (Addr × Obj) -> Prop} {Fin : List Value -> List (Addr × Obj) -> Prop} {n : Nat} {P : Nat -> Value -> Prop} {Z : Heap -> Addr -> Prop} {news : List (Addr × Obj)} (Inv : Nat -> List Value -> List (Addr × Obj) -> Prop) (h0 : Inv 0 [] news) (hend : ∀ ys nw,Inv n ys nw -> Fin ys nw)
  (step : ∀ i ys nw v I oI C oC D m₂ h tk (E' : Value -> Shared -> Prop),i < n -> P i v -> Inv i ys nw -> LCg.NsObj oC m₂ -> Z h I -> Fr h₀ L h m -> News h₀ L h ((I,oI) :: (C,oC) :: (D,LCg.lst ys) :: nw) -> LCg.Off3 I C D nw -> ((@Ne Nat I C) ∧ (@Ne Nat I D) ∧ (@Ne Nat C D)) ->
   wpAny (model prog w) A (letOwnedTupleGo target (.ref I) v) (fun _ s₁ => wpAny (model prog w) A (assign target (compEnvC scope cl C env) v) (fun _ s₂ => wpAny (model prog w) A (testsOf ifs (compEnvC scope cl C env)) (fun ok s₃ =>
    if ok = true then wpAny (model prog w) A (eval elt (compEnvC scope cl C env)) (fun y s₄ => TurnEnd h₀ L m { s with heap := h,toks := tk } I oI C D (LCg.lst ys) S (fun news' => Inv (i + 1) (ys ++ [y]) news') s₄) E' s₃
    else TurnEnd h₀ L m { s with heap := h,toks := tk } I oI C D (LCg.lst ys) S (fun news' => Inv (i + 1) ys news') s₃) E' s₂) E' s₁) E' { s with heap := h,toks := tk }) :
  TurnRest prog w A h₀ L m env elt target ifs scope cl s S P Z Fin n 0 [] news := by
 have key : ∀ k i ys nw,k + i = n -> Inv i ys nw -> TurnRest prog w A h₀ L m env elt target ifs scope cl s S P Z Fin k i ys nw := by
  intro k
  induction k with
  | zero => intro i ys nw e hI; obtain rfl : i = n := by lia
            exact hend ys nw hI
  | succ k ih =>
   intro i ys nw e hI
   refine TurnRest.succ ?_
   intro v I oI C oC D m₂ h tk E' hv hC hz F N off ne
   refine wpAny_mono (step i ys nw v I oI C oC D m₂ h tk E' (by lia) hv hI hC hz F N off ne) (fun _ s₁ h₁ => ?_) fun _ _ e => e
   refine wpAny_mono h₁ (fun _ s₂ h₂ => ?_) fun _ _ e => e
   refine wpAny_mono h₂ (fun ok s₃ h₃ => ?_) fun _ _ e => e
   by_cases hb : ok = true
   ·rw [if_pos hb] at h₃ ⊢
    exact wpAny_mono h₃ (fun y s₄ h₄ => h₄.mono fun nw' hI' => ih _ _ _ (by lia) hI') fun _ _ e => e
   ·rw [if_neg hb] at h₃ ⊢
    exact h₃.mono fun nw' hI' => ih _ _ _ (by lia) hI'
 exact key n 0 [] news (by lia) h0
theorem turns_ind {elt target : Expr} {ifs : List Expr} {scope : Scope} {cl : List (Str × Addr)} {S : List (Addr × Obj) -> Prop} {Fin : List Value -> List (Addr × Obj) -> Prop} {n : Nat} {P : Nat -> Value -> Prop} {Z : Heap -> Addr -> Prop} {news : List (Addr × Obj)} (Inv : Nat -> List Value -> Prop) (h0 : Inv 0 []) (hend : ∀ ys,Inv n ys -> Fin ys news)
  (step : ∀ i ys v I oI C oC D m₂ h tk (E' : Value -> Shared -> Prop),i < n -> P i v -> Inv i ys -> NsObj oC m₂ -> Z h I -> Fr h₀ L h m -> News h₀ L h ((I,oI) :: (C,oC) :: (D,lst ys) :: news) -> Off3 I C D news -> ((@Ne Nat I C) ∧ (@Ne Nat I D) ∧ (@Ne Nat C D)) ->
   wpAny (model prog w) A (letOwnedTupleGo target (.ref I) v) (fun _ s₁ => wpAny (model prog w) A (assign target (compEnvC scope cl C env) v) (fun _ s₂ => wpAny (model prog w) A (testsOf ifs (compEnvC scope cl C env)) (fun ok s₃ =>
    if ok = true then wpAny (model prog w) A (eval elt (compEnvC scope cl C env)) (fun y s₄ => TurnEnd h₀ L m { s with heap := h,toks := tk } I oI C D (lst ys) S (fun news' => news' = news ∧ Inv (i + 1) (ys ++ [y])) s₄) E' s₃
    else TurnEnd h₀ L m { s with heap := h,toks := tk } I oI C D (lst ys) S (fun news' => news' = news ∧ Inv (i + 1) ys) s₃) E' s₂) E' s₁) E' { s with heap := h,toks := tk }) :
  TurnRest prog w A h₀ L m env elt target ifs scope cl s S P Z Fin n 0 [] news :=
 turns_grow (fun i ys nw => nw = news ∧ Inv i ys) ⟨rfl,h0⟩ (fun ys nw h => h.1 ▸ hend ys h.2) (fun i ys nw v I oI C oC D m₂ h tk E' hi hv hI hC hz F N off ne => by
  obtain ⟨rfl,hI⟩ := hI
  exact step i ys v I oI C oC D m₂ h tk E' hi hv hI hC hz F N off ne)
noncomputable def SrcGR (prog : Program) (w : World) (A : Around) (h₀ : Heap) (L : Addr) (m : Str -> Option Value) (env : Env) (elt target : Expr) (ifs : List Expr) (scope : Scope) (cl : List (Str × Addr)) (Fin : Shared -> List Value -> List (Addr × Obj) -> Prop) (xv : Value) (s₁ : Shared) : Prop :=
 ∃ r a b t u v n news,xv = .ref r ∧ A.handled = none ∧ Fr h₀ L s₁.heap m ∧ News h₀ L s₁.heap news ∧ IsRange s₁.heap r a b 1 t u v ∧ Builtin.Range.small a b 1 = true ∧ Builtin.Range.rangeSize a b 1 = ((n : Nat) : Int) ∧ n <= sizeLine ∧
  ∀ s₂ : Shared,(∃ h,s₂ = { s₁ with heap := h }) -> TurnRest prog w A h₀ L m env elt target ifs scope cl s₂ (fun _ => True) (fun i v => ∃ t,v = .int (a + (i : Int)) t) (fun _ _ => True) (Fin s₂) n 0 [] news
theorem SrcGR.intro {elt target : Expr} {ifs : List Expr} {scope : Scope} {cl : List (Str × Addr)} {Fin : Shared -> List Value -> List (Addr × Obj) -> Prop} {r : Addr} {a b : Int} {t u v : Tok} {n : Nat} {news : List (Addr × Obj)} {s₁ : Shared}
  (hh : A.handled = none) (F : Fr h₀ L s₁.heap m) (N : News h₀ L s₁.heap news) (hr : IsRange s₁.heap r a b 1 t u v) (hsm : Builtin.Range.small a b 1 = true) (hn : Builtin.Range.rangeSize a b 1 = ((n : Nat) : Int)) (hsz : n <= sizeLine)
  (h : ∀ g,TurnRest prog w A h₀ L m env elt target ifs scope cl { s₁ with heap := g } (fun _ => True) (fun i v => ∃ t,v = .int (a + (i : Int)) t) (fun _ _ => True) (Fin { s₁ with heap := g }) n 0 [] news) :
  SrcGR prog w A h₀ L m env elt target ifs scope cl Fin (.ref r) s₁ := ⟨r,a,b,t,u,v,n,news,rfl,hh,F,N,hr,hsm,hn,hsz,fun _ ⟨g,e⟩ => e ▸ h g⟩
theorem Assign_GR {elt target iter : Expr} {ifs : List Expr} {y : Str} {py : Pos} {scope : Scope} {cl : List (Str × Addr)} {pos spos : Pos} {Q : Flow -> Shared -> Prop} (F₀ : Fr h₀ L s.heap m) (hLe : env.locals = L)
  (hsw : swapsWith (.ListComp elt [⟨target,iter,ifs,0⟩] scope pos) (some (.Name y py)) spos.line env = pure true)
  (hclos : closureFor scope env = pure cl) (hcell : ∀ z ∈ scope.names,z.2 ≠ .cell) (hkind : scope.kind = .function)
  (hnames : ∀ z ∈ scope.names,z.2 = .local -> scope.names.lookup z.1 = some .local)
  (hy : env.kindOf y = some .local) (hp : (env.scope.kind == .class || (env.scope.kind == .module && env.locals != env.globals)) = false)
  (h : wpAny (model prog w) A (eval iter env) (SrcGR prog w A h₀ L m env elt target ifs scope cl (fun s₂ => FinA h₀ L m s₂ y Q)) E s)
  (hs : ∀ x,foldedSetIterable iter env x = pure x := by intro _; rfl) :
  wpAny (model prog w) A (exec (.Assign [.Name y py] (.ListComp elt [⟨target,iter,ifs,0⟩] scope pos) spos) env) Q E s := by
 subst hLe
 rw [exec_Assign_Name_used _ _ _ _ hsw]
 refine wpAny_bind (wpAny_standAt (wpAny_bind ?_))
 show wpAny _ A (do let _ ← comprehension (.ListComp elt [⟨target,iter,ifs,0⟩] scope pos) scope env _ (newList []) false (eval iter env) (some (assign (.Name y py) env))) _ _ s
 refine wpAny_bind (wpAny_mono (wpAny_comprehension_free (use := some (assign (.Name y py) env)) (Q := fun _ s' => Q .next s') rfl hs hclos hkind hnames
  (wpAny_mono h (fun xv s₁ h₁ => ?_) fun _ _ e => e)) (fun _ s' hq => wpAny_pure (wpAny_pure hq)) fun _ _ e => e)
 obtain ⟨r,a,b,t,u,v,n,news,rfl,hh,F,N,hr,hsm,hn,hsz,R⟩ := h₁
 refine wpAny_pyIter_range hr hsm ?_
 refine block_G (range_walks hh a n) hsz (fun i h st => ⟨_,st⟩) (fun _ _ _ => trivial) range_st hcell hkind (by show IsRangeIter _ _ _ _ _; rw [hn]; simpa using Heap.get?_push_size _ rfl) (fun b hb => ?_)
  (F.keeps fun _ _ e => Heap.get?_push_of_some _ e) (N.grown fun _ _ e => Heap.get?_push_of_some _ e) (Nat.ne_of_lt F.ns.lt) (next_is_new F) (fun p hp => Nat.ne_of_lt (Heap.lt_size (N p hp).1)) trivial (R _ ⟨_,rfl⟩) ?_
 ·rw [List.mem_singleton.mp hb]
  show s₁.heap.objs.size < (s₁.heap.push _).objs.size
  rw [Heap.size_push]; exact Nat.lt_succ_self _
 ·intro D C h' tk m' ys news' F' N' o1 hn hC₀ hD₀ hCL hDL hCD offC fin
  show wpAny _ A (assign (.Name y py) env (.ref D)) _ _ _
  refine wpAny_assign_Name (wpAny_storeName_local hy F'.ns (fun h₂ hn₂ hs₂ => ?_) hp)
  have hL₀ : h₀.get? env.locals = none := Heap.get?_none_of_le F'.above
  have F₂ : Fr h₀ env.locals h₂ (fun z => if z = y then some (.ref D) else m z) := ⟨hn₂,fun b o e => hs₂.extBut b o (fun q => by rw [q,hL₀] at e; cases e) (F'.keep b o e),F'.above⟩
  refine ⟨m',hn.sameBut hs₂ hCL,fun h'' hs'' => fin D h'' _ (F₂.change hs'' hCL hC₀) (fun p hp => ?_) o1⟩
  have z : h₂.get? p.1 = some p.2 := hs₂.extBut _ _ (N' p hp).2.1 (N' p hp).1
  refine ⟨hs''.extBut _ _ ?_ z,(N' p hp).2⟩
  rcases List.mem_cons.mp hp with rfl | hp
  ·exact Ne.symm hCD
  ·exact offC p hp
theorem turn1 {a : Str} {pa : Pos} {scope : Scope} {cl : List (Str × Addr)} {I C D : Addr} {oI oC oD : Obj} {m₂ : Str -> Option Value} {news : List (Addr × Obj)} {v : Value} {Q : Unit -> Shared -> Prop}
  (F : Fr h₀ L s.heap m) (N : News h₀ L s.heap ((I,oI) :: (C,oC) :: (D,oD) :: news)) (hC : NsObj oC m₂) (off : Off3 I C D news) (ne : (@Ne Nat I C) ∧ (@Ne Nat I D) ∧ (@Ne Nat C D))
  (ha : scope.names.lookup a = some .local) (hkind : scope.kind = .function)
  (k : ∀ oC' m' h' tk',NsObj oC' m' -> m' a = some v -> Fr h₀ L h' m -> News h₀ L h' ((I,oI) :: (C,oC') :: (D,oD) :: news) -> Q () { s with heap := h',toks := tk' }) :
  wpAny (model prog w) A (letOwnedTupleGo (.Name a pa) (.ref I) v) (fun _ s₁ => wpAny (model prog w) A (assign (.Name a pa) (compEnvC scope cl C env) v) Q E s₁) E s := by
 refine (?f : Cln _) ?p ⟨?q,fun B k => ?r⟩
 case f => exact fun x _ => x
 case q =>
  have nC := (N (C,oC) (.tail _ (.head _)))
  refine wpAny_of_eq rfl ?_
  refine wpAny_assign_Name (wpAny_storeName_local (lookup_relabel_local ha) (hC.ns nC.1) (fun h₃ hn₃ hs₃ => ?_) (by simp [compEnvC,relabel,hkind]))
  obtain ⟨oC',heC,hoC⟩ := ns_obj hn₃
  have o3 := off.mem
  refine k oC' _ h₃ _ hoC (by simp) (F.change hs₃ nC.2.1 nC.2.2) fun p hp => ?_
  rcases List.mem_cons.mp hp with rfl | hp
  ·have z := N (I,oI) (.head _); exact ⟨hs₃.extBut _ _ ne.1 z.1,z.2⟩
  ·rcases List.mem_cons.mp hp with rfl | hp
   ·exact ⟨heC,nC.2⟩
   ·rcases List.mem_cons.mp hp with rfl | hp
    ·have z := N (D,oD) (.tail _ (.tail _ (.head _))); exact ⟨hs₃.extBut _ _ (Ne.symm ne.2.2) z.1,z.2⟩
    ·have z := N p (.tail _ (.tail _ (.tail _ hp))); exact ⟨hs₃.extBut _ _ (o3 p hp).2.1 z.1,z.2⟩
 case r => (try delta id); (conv => zeta); exact k
end

theorem lx_dummy : True := trivial

section
variable {prog : Program} {w : World} {A : Around} {E : Value -> Shared -> Prop} {s : Shared}
theorem slot_citer_next : Slot "callable_iterator" "__next__" "callable_iterator.__next__" :=
 .of (owner := "callable_iterator") (n := "__next__") (by rw [typeLookup_type, builtinLookup_eq_fast]; kernel_rfl) (by decide +kernel) (by decide +kernel) (by decide +kernel)
  (by first | exact .inl (by decide +kernel) | exact .inr (by decide +kernel)) (by rw [isSubtype_type]; kernel_rfl)
theorem slot_citer_iter : Slot "callable_iterator" "__iter__" "callable_iterator.__iter__" :=
 .of (owner := "callable_iterator") (n := "__iter__") (by rw [typeLookup_type, builtinLookup_eq_fast]; kernel_rfl) (by decide +kernel) (by decide +kernel) (by decide +kernel)
  (by first | exact .inl (by decide +kernel) | exact .inr (by decide +kernel)) (by rw [isSubtype_type]; kernel_rfl)
theorem slot_method_call : Slot "method" "__call__" "method.__call__" :=
 .of (owner := "method") (n := "__call__") (by rw [typeLookup_type, builtinLookup_eq_fast]; kernel_rfl) (by decide +kernel) (by decide +kernel) (by decide +kernel)
  (by first | exact .inl (by decide +kernel) | exact .inr (by decide +kernel)) (by rw [isSubtype_type]; kernel_rfl)
theorem entry_citer_next : entryFor table "callable_iterator.__next__" = some Builtin.«callable_iterator.__next__» := entryFor_of_fast (by kernel_rfl)
theorem entry_citer_iter : entryFor table "callable_iterator.__iter__" = some Builtin.«dict_keyiterator.__iter__» :=
 entryFor_alias (id' := "dict_keyiterator.__iter__") (by kernel_rfl) rfl (by decide +kernel) (by kernel_rfl)
theorem entry_iter2 : entryFor table "iter" = some Builtin.«iter» := entryFor_of_fast (by kernel_rfl)
theorem args_citer_next (a : Value) : argsOk "callable_iterator.__next__" ⟨[a], []⟩ := by unfold argsOk; kernel_rfl
theorem args_citer_iter (a : Value) : argsOk "callable_iterator.__iter__" ⟨[a], []⟩ := by unfold argsOk; kernel_rfl
theorem args_iter2 (a b : Value) : argsOk "iter" ⟨[a, b], []⟩ := by unfold argsOk; kernel_rfl
noncomputable abbrev citO (f sent : Value) : Obj := { cls := .type "callable_iterator", data := .fields #[f, sent, .bool false] }
theorem iter_two {q : Addr} {f self sent : Value} {Q : Value -> Shared -> Prop} (hq : s.heap.get? q = some (methodObj f self))
  (h : Q (.ref s.heap.objs.size) { s with heap := s.heap.push (citO (.ref q) sent) }) :
  wpAny (model prog w) A (call (.builtin "iter") [.ref q, sent]) Q E s := by
 refine (?f : Cln _) ?p ⟨?q,fun B k => ?r⟩
 case f => exact fun x _ => x
 case q =>
  refine call_function_entry (by decide +kernel) (by decide +kernel) entry_iter2 (args_iter2 _ _) ?_
  unfold Builtin.«iter»
  refine wpAny_bind (m := someArgs "iter" 1 2 _) (wpAny_of_eq (a := [Value.ref q, sent]) (by first | rfl | kernel_rfl!) ?_)
  dsimp only
  refine wpAny_bind (wpAny_specialOf (name := Str.ofString "__call__") (T := "method") ⟨_, hq, rfl⟩ slot_method_call.lookup ?_)
  refine wpAny_ite_split (fun hab => absurd hab (by decide)) (fun _ => ?_)
  refine wpAny_bind (wpAny_rule ?_)
  simp only [newFields]
  refine wpAny_bind (wpAny_newObj_type ?_ (by size_fits))
  exact wpAny_pure ⟨_,rfl,h⟩
 case r => delta id stq_it stq_out; exact k
theorem pyIter_citer {it : Addr} {f sent : Value} {Q : Value -> Shared -> Prop} (hit : s.heap.get? it = some (citO f sent)) (h : Q (.ref it) s) :
  wpAny (model prog w) A (pyIter (.ref it)) Q E s := by
 have hT : s.TypeIs (.ref it) "callable_iterator" := ⟨_, hit, rfl⟩
 refine wpAny_pyIter_slot hT slot_citer_iter (wpAny_call_entry slot_citer_iter hT entry_citer_iter ?_ (args_citer_iter _))
 show wpAny _ _ (ret (.ref it)) _ _ s
 exact wpAny_pure ⟨_, rfl, "callable_iterator", _, hT, slot_citer_next.lookup, h⟩
theorem callBorrowed_of {f : Value} {pos : List Value} {Q : Value -> Shared -> Prop} (h : wpAny (model prog w) A (call f pos) Q E s) : wpAny (model prog w) A (callBorrowed f pos) Q E s := fun Γ p hΓ => by
 have := h Γ p hΓ
 rw [Sem.wp_cmd_call] at this
 unfold callBorrowed
 rw [Sem.wp_call]
 refine Eq.mp ?_ this
 congr 1
 funext r s'
 cases r with
 | error e => rfl
 | ok f => cases f <;> rfl
end

section
variable {prog : Program} {w : World} {A : Around} {E : Value -> Shared -> Prop} {s : Shared}
theorem borrows_method {q fa : Addr} {self : Value} {o : Obj} {fd : FuncData} {Q : Bool -> Shared -> Prop} (hq : s.heap.get? q = some (methodObj (.ref fa) self)) (ho : s.heap.get? fa = some o) (hd : o.data = .func fd) (h : Q true s) :
  wpAny (model prog w) A (borrowsExactly (.ref q)) Q E s := by
 refine (?f : Cln _) ?p ⟨?q,fun B k => ?r⟩
 case f => exact fun x _ => x
 case q =>
  unfold borrowsExactly
  dsimp only
  refine wpAny_bind (wpAny_load hq ?_)
  dsimp only
  rw [if_pos (by decide)]
  show wpAny _ _ (load fa >>= _) _ _ s
  refine wpAny_bind (wpAny_load ho ?_)
  rw [hd]
  exact wpAny_pure h
 case r => delta id stq_it stq_out; exact k
theorem pyNext_citer {it q fa : Addr} {self : Value} {t : Tok} {Q : Option Value -> Shared -> Prop} (hh : A.handled = none)
  (hit : s.heap.get? it = some (citO (.ref q) (.str (Str.ofString "") t))) (hq : s.heap.get? q = some (methodObj (.ref fa) self)) {o : Obj} {fd : FuncData} (ho : s.heap.get? fa = some o) (hd : o.data = .func fd)
  (h : wpAny (model prog w) A.in1 (call (.ref q) []) (fun r s₁ => ∃ y ty, r = .str y ty ∧ s₁.heap.get? it = some (citO (.ref q) (.str (Str.ofString "") t)) ∧ s₁.heap.get? q = some (methodObj (.ref fa) self) ∧ s₁.heap.get? fa = some o ∧
   (y ≠ Str.ofString "" -> Q (some r) s₁) ∧ (y = Str.ofString "" -> ∀ h', Heap.ExtBut it s₁.heap h' -> Q none { s₁ with heap := h' })) (fun _ _ => False) s) :
  wpAny (model prog w) A (pyNext (.ref it)) Q E s := by
 refine (?f : Cln _) ?p ⟨?q,fun B k => ?r⟩
 case f => exact fun x _ => x
 case q =>
  have hT : s.TypeIs (.ref it) "callable_iterator" := ⟨_, hit, rfl⟩
  unfold pyNext
  refine wpAny_bind (wpAny_attempt (wpAny_callSpecial?_slot (name := Str.ofString "__next__") hT slot_citer_next
   (wpAny_call_entry slot_citer_next hT entry_citer_next ?_ (args_citer_next _))))
  unfold Builtin.«callable_iterator.__next__»
  show wpAny _ _ (field (.ref it) 2 >>= _) _ _ s
  refine wpAny_bind (wpAny_field hit rfl (x := .bool false) rfl ?_)
  refine wpAny_ite_split (fun hab => absurd hab (by decide)) (fun _ => ?_)
  show wpAny _ _ (field (.ref it) 0 >>= _) _ _ s
  refine wpAny_bind (wpAny_field hit rfl (x := .ref q) rfl ?_)
  refine wpAny_bind (wpAny_attempt ?_)
  unfold callOutOfASlot
  refine wpAny_bind (borrows_method hq ho hd ?_)
  rw [if_pos rfl]
  refine callBorrowed_of (wpAny_mono h (fun r s₁ hr => ?_) fun e s₁ hf => hf.elim)
  obtain ⟨y,ty,rfl,hit₁,hq₁,ho₁,hne,heq⟩ := hr
  dsimp only
  refine wpAny_bind (wpAny_field hit₁ rfl (x := .bool false) rfl ?_)
  refine wpAny_ite_split (fun hab => absurd hab (by decide)) (fun _ => ?_)
  refine wpAny_bind (wpAny_field hit₁ rfl (x := .str (Str.ofString "") t) rfl ?_)
  refine wpAny_bind (wpAny_holding (wpAny_eqBool_str ?_))
  by_cases hy : y = Str.ofString ""
  ·subst hy
   refine wpAny_ite_split (fun hab => absurd hab (by decide)) (fun _ => ?_)
   refine wpAny_bind (wpAny_rule (wpAny_bind ?_))
   show wpAny _ _ (field (.ref it) 0 >>= fun old => slotLetsGo "callable_iterator.__next__" old _ >>= fun _ => setField (.ref it) 0 .none >>= fun _ => setField (.ref it) 1 .none >>= fun _ => setField (.ref it) 2 (.bool true)) _ _ _
   refine wpAny_bind (wpAny_field hit₁ rfl (x := .ref q) rfl ?_)
   refine wpAny_bind ?_
   unfold slotLetsGo
   dsimp only
   refine wpAny_bind (borrows_method hq₁ ho₁ hd ?_)
   rw [if_pos rfl]
   refine wpAny_pure ?_
   refine wpAny_bind (wpAny_setField hit₁ rfl (by simp) ?_)
   have h1 := Heap.get?_update_self (h := s₁.heap) (a := it) (f := Obj.mapFields (·.setIfInBounds 0 Value.none)) hit₁ rfl
   refine wpAny_bind (wpAny_setField h1 rfl (by simp) ?_)
   have h2 := Heap.get?_update_self (a := it) (f := Obj.mapFields (·.setIfInBounds 1 Value.none)) h1 rfl
   refine wpAny_setField h2 rfl (by simp) ?_
   generalize hH : Heap.update (Heap.update (Heap.update s₁.heap it (Obj.mapFields (·.setIfInBounds 0 Value.none))) it (Obj.mapFields (·.setIfInBounds 1 Value.none))) it (Obj.mapFields (·.setIfInBounds 2 (Value.bool true))) = H
   have hE : Heap.ExtBut it s₁.heap H := by
    subst hH
    exact (((Heap.SameBut.update ..).trans (Heap.SameBut.update ..)).trans (Heap.SameBut.update ..)).extBut
   show wpAny _ _ (newExc (.type "StopIteration") [] >>= _) _ _ _
   refine wpAny_bind ?_
   simp only [newExc,newTuple]
   refine wpAny_bind (wpAny_newObj_type ?_ (by size_fits))
   refine wpAny_bind (m := firstArgMember _ _) (wpAny_of_eq (a := Value.none) (by first | rfl | (simp only [firstArgMember]; rfl)) ?_)
   refine wpAny_newObj_type ?_ (by size_fits)
   simp only [raiseNew]
   refine wpAny_bind (wpAny_handled ?_)
   rw [show A.in1.handled = none from hh]
   refine wpAny_bind (wpAny_pure (wpAny_throw ?_))
   refine wpAny_bind (wpAny_isInstance (T := "StopIteration") (b := true) ⟨_, Heap.get?_push_size _ rfl, rfl⟩ isSubtype_stop ?_)
   exact wpAny_pure (heq rfl _ ((hE.push _).push _))
  ·refine wpAny_ite_split (fun _ => ?_) (fun hab => absurd (by simp [Ne.symm hy]) hab)
   exact wpAny_pure ⟨_,rfl,wpAny_pure (hne hy)⟩
 case r => delta id stq_it stq_out; exact k
end

noncomputable def ReadC (w : World) (mg : Str -> Option Value) (x : Str) (f c sp sc tc : Addr) (fo co so to : Obj) : Prop :=
 ∀ (p : Nat) (t1 tp : Tok) (n : Nat) (news : List (Addr × Obj)),(∀ q ∈ news,q.1 ≠ sp) -> p <= 100000 ->
  CtrC w mg f [.int 1 t1] ((sp,W.listOf #[.int (p : Int) tp] n) :: (f,fo) :: (c,co) :: (sc,so) :: (tc,to) :: news) 2
   (fun v new => ∃ tv tp' n',v = .str (Txt.slice x (some (p : Int)) (some ((p : Int) + 1))) tv ∧ new = (sp,W.listOf #[.int ((p : Int) + 1) tp'] n') :: (f,fo) :: (c,co) :: (sc,so) :: (tc,to) :: news)
noncomputable abbrev dEnt (w : World) (k : String) (t : Tok) (v : Value) : DictEntry := { hash := PyData.keyHash w.params (Str.ofString k),key := .str (Str.ofString k) t,val := v }
noncomputable abbrev lexE (w : World) (n : Int) (tn k0 k1 k2 k3 tw : Tok) (st : Value) (l : Addr) : List DictEntry :=
 [dEnt w "lineno" k0 (.int n tn), dEnt w "instream" k1 st, dEnt w "whitespace" k2 (.str (Str.ofString "\n\t\x0d ") tw), dEnt w "pushback" k3 (.ref l)]
noncomputable abbrev strE (w : World) (n : Int) (tn k0 k1 k2 k3 tw k4 : Tok) (st : Value) (l f : Addr) : List DictEntry :=
 [dEnt w "lineno" k0 (.int n tn), dEnt w "instream" k1 st, dEnt w "whitespace" k2 (.str (Str.ofString "\n\t\x0d ") tw), dEnt w "pushback" k3 (.ref l), dEnt w "read" k4 (.ref f)]
set_option genInjectivity false in
structure Lx (w : World) (mg : Str -> Option Value) (x : Str) where
 (l xl d x2 d2 f c sp sc tc l2 : Addr) (co so to : Obj) (oc0 : Value) (od0 : Option Addr) (fd : FuncData) (sl : Array (Option Value)) (k0 k1 k2 k3 tw tn2 j0 j1 j2 j3 tw2 j4 : Tok)
 RD : ReadC w mg x f c sp sc tc ⟨oc0,od0,.func fd,sl⟩ co so to
 dec : @LT.lt Nat _ d xl ∧ @LT.lt Nat _ x2 d ∧ @LT.lt Nat _ d2 x2 ∧ @LT.lt Nat _ f d2 ∧ @LT.lt Nat _ c f ∧ @LT.lt Nat _ sp c ∧ @LT.lt Nat _ sc sp ∧ @LT.lt Nat _ tc sc
 hl : @LT.lt Nat _ xl l
section
variable {w : World} {mg : Str -> Option Value} {x : Str}
noncomputable def Lx.news (q : Lx w mg x) (p : Int) (tp : Tok) (nn : Nat) (n : Int) (tn : Tok) (its : Array Value) (nl : Nat) (rest : List (Addr × Obj)) : List (Addr × Obj) :=
 ((q.sp,W.listOf #[.int p tp] nn) :: (q.f,⟨q.oc0,q.od0,.func q.fd,q.sl⟩) :: (q.c,q.co) :: (q.sc,q.so) :: (q.tc,q.to) :: (q.d,dictOf (lexE w n tn q.k0 q.k1 q.k2 q.k3 q.tw (.ref q.x2) q.l) 4) :: (q.xl,instObj 116 q.d) :: (q.x2,instObj 116 q.d2) :: (q.d2,dictOf (strE w 1 q.tn2 q.j0 q.j1 q.j2 q.j3 q.tw2 q.j4 .none q.l2 q.f) 5) :: (q.l,W.listOf its nl) :: rest)
noncomputable def Lx.hds (q : Lx w mg x) (p : Int) (tp : Tok) (nn : Nat) (n : Int) (tn : Tok) (its : Array Value) (nl : Nat) : List (Addr × Obj) := [(q.sp,W.listOf #[.int p tp] nn),(q.f,⟨q.oc0,q.od0,.func q.fd,q.sl⟩),(q.c,q.co),(q.sc,q.so),(q.tc,q.to),(q.d,dictOf (lexE w n tn q.k0 q.k1 q.k2 q.k3 q.tw (.ref q.x2) q.l) 4),(q.xl,instObj 116 q.d),(q.x2,instObj 116 q.d2),(q.d2,dictOf (strE w 1 q.tn2 q.j0 q.j1 q.j2 q.j3 q.tw2 q.j4 .none q.l2 q.f) 5),(q.l,W.listOf its nl)]
variable {q : Lx w mg x} {p p' n n' : Int} {tp tp' tn tn' : Tok} {nn nn' nl nl' : Nat} {its its' : Array Value} {rest zz zz' : List (Addr × Obj)}
theorem Lx.mem_s (h : zz = q.news p tp nn n tn its nl rest) : (q.sp,W.listOf #[.int p tp] nn) ∈ zz := by subst h; exact .head _
theorem Lx.mem_x (h : zz = q.news p tp nn n tn its nl rest) : (q.xl,instObj 116 q.d) ∈ zz := by subst h; unfold Lx.news; k_mem
theorem Lx.mem_d (h : zz = q.news p tp nn n tn its nl rest) : (q.d,dictOf (lexE w n tn q.k0 q.k1 q.k2 q.k3 q.tw (.ref q.x2) q.l) 4) ∈ zz := by subst h; unfold Lx.news; k_mem
theorem Lx.mem_l (h : zz = q.news p tp nn n tn its nl rest) : (q.l,W.listOf its nl) ∈ zz := by subst h; unfold Lx.news; k_mem
theorem Lx.mem_r (h : zz = q.news p tp nn n tn its nl rest) {y : Addr × Obj} (hy : y ∈ rest) : y ∈ zz := h ▸ List.mem_append_right (q.hds p tp nn n tn its nl) hy
theorem Lx.off (h : zz = q.news p tp nn n tn its nl rest) (h' : zz' = q.news p' tp' nn' n' tn' its' nl' rest) (a : Addr) (k : ∀ y ∈ zz,y.1 ≠ a) : ∀ y ∈ zz',y.1 ≠ a := by
 subst h h'
 exact map_all (P := fun b => b ≠ a) (z := q.news p tp nn n tn its nl rest) (z' := q.news p' tp' nn' n' tn' its' nl' rest) rfl k
theorem Lx.off3 (h : zz = q.news p tp nn n tn its nl rest) (h' : zz' = q.news p' tp' nn' n' tn' its' nl' rest) (a b c : Addr) (k : LCg.Off3 a b c zz) : LCg.Off3 a b c zz' := by
 subst h h'
 exact k
theorem Lx.pre (pre : List (Addr × Obj)) {r : List (Addr × Obj)} : ∀ y ∈ q.news p tp nn n tn its nl (pre ++ r),y ∈ pre ++ q.news p tp nn n tn its nl r := ap_pre (h := q.hds p tp nn n tn its nl) sb_refl
theorem Lx.erp (pre : List (Addr × Obj)) {r : List (Addr × Obj)} : ∀ y ∈ pre ++ q.news p tp nn n tn its nl r,y ∈ q.news p tp nn n tn its nl (pre ++ r) := ap_erp (h := q.hds p tp nn n tn its nl) sb_refl
end
theorem Lx.above {w : World} {mg : Str -> Option Value} {x : Str} (q : Lx w mg x) {p n : Int} {tp tn : Tok} {nn nl : Nat} {its : Array Value} {a : Addr} (h : @LT.lt Nat _ a q.tc) : ∀ y ∈ q.hds p tp nn n tn its nl,y.1 ≠ a := by
 refine (?f : Cln _) ?p ⟨?q,fun B k => ?r⟩
 case f => exact fun x _ => x
 case q =>
  obtain ⟨d1,d2,d3,d4,d5,d6,d7,d8⟩ := q.dec
  have e1 := Nat.lt_trans h d8
  have e2 := Nat.lt_trans e1 d7
  have e3 := Nat.lt_trans e2 d6
  have e4 := Nat.lt_trans e3 d5
  have e5 := Nat.lt_trans e4 d4
  have e6 := Nat.lt_trans e5 d3
  have e7 := Nat.lt_trans e6 d2
  have e8 := Nat.lt_trans e7 d1
  exact List.forall_mem_cons.mpr ⟨Nat.ne_of_gt e2,List.forall_mem_cons.mpr ⟨Nat.ne_of_gt e4,List.forall_mem_cons.mpr ⟨Nat.ne_of_gt e3,List.forall_mem_cons.mpr ⟨Nat.ne_of_gt e1,List.forall_mem_cons.mpr ⟨Nat.ne_of_gt h,List.forall_mem_cons.mpr ⟨Nat.ne_of_gt e7,List.forall_mem_cons.mpr ⟨Nat.ne_of_gt e8,List.forall_mem_cons.mpr ⟨Nat.ne_of_gt e6,List.forall_mem_cons.mpr ⟨Nat.ne_of_gt e5,List.forall_mem_cons.mpr ⟨Nat.ne_of_gt (Nat.lt_trans e8 q.hl),List.forall_mem_nil _⟩⟩⟩⟩⟩⟩⟩⟩⟩⟩
 case r => (try delta id); (conv => zeta); exact k
noncomputable def LexPost (w : World) (mg : Str -> Option Value) (x : Str) (news : List (Addr × Obj)) (v : Value) (new : List (Addr × Obj)) : Prop :=
 ∀ G : Prop,(∀ (q : Lx w mg x) (tp tn : Tok) (ps : Array Value) (n2 : Nat),v = .ref q.xl -> (∀ y ∈ q.news 0 tp 0 1 tn #[] 0 ((q.l2,W.listOf #[] n2) :: (142,tabObj ps) :: news),y ∈ new) -> (∀ b ∈ (q.l2,W.listOf #[] n2) :: (142,tabObj ps) :: news,b.1 ≠ q.sp ∧ b.1 ≠ q.d ∧ b.1 ≠ q.l) -> (∀ b ∈ news,@LT.lt Nat _ b.1 q.tc) -> @LT.lt Nat _ q.x2 q.l2 -> @LT.lt Nat _ 142 q.tc -> G) -> G
theorem lex_made {w : World} {mg : Str -> Option Value} {x : Str} {news : List (Addr × Obj)} {l xl d l2 x2 d2 f c sp sc tc : Addr} {co so to : Obj} {oc0 : Value} {od0 : Option Addr} {fd : FuncData} {sl : Array (Option Value)} {ps : Array Value} {tn k0 k1 k2 k3 tw tn' j0 j1 j2 j3 tw' j4 tp : Tok}
  (RD : ReadC w mg x f c sp sc tc ⟨oc0,od0,.func fd,sl⟩ co so to) (a1 : @LT.lt Nat _ xl l) (a2 : @LT.lt Nat _ d xl) (a3 : @LT.lt Nat _ l2 d) (a4 : @LT.lt Nat _ x2 l2) (a5 : @LT.lt Nat _ d2 x2) (a6 : @LT.lt Nat _ f d2) (a7 : @LT.lt Nat _ c f) (a8 : @LT.lt Nat _ sp c) (a9 : @LT.lt Nat _ sc sp) (a10 : @LT.lt Nat _ tc sc) (a11 : @LT.lt Nat _ 142 tc) (hlt : ∀ q ∈ news,@LT.lt Nat _ q.1 tc) :
  LexPost w mg x news (.ref xl) ((l,W.listOf #[] 0) :: (xl,instObj 116 d) :: (d,dictOf (lexE w 1 tn k0 k1 k2 k3 tw (.ref x2) l) 4) :: (l2,W.listOf #[] 0) :: (x2,instObj 116 d2) :: (d2,dictOf (strE w 1 tn' j0 j1 j2 j3 tw' j4 .none l2 f) 5) :: (f,⟨oc0,od0,.func fd,sl⟩) :: (c,co) :: (sp,W.listOf #[.int 0 tp] 0) :: (sc,so) :: (tc,to) :: (142,tabObj ps) :: news) := fun G k => by
 have s1 : @LT.lt Nat _ sp l2 := Nat.lt_trans a8 (Nat.lt_trans a7 (Nat.lt_trans a6 (Nat.lt_trans a5 a4)))
 have t1 : @LT.lt Nat _ tc sp := Nat.lt_trans a10 a9
 have t2 : @LT.lt Nat _ tc d := Nat.lt_trans t1 (Nat.lt_trans s1 a3)
 have t3 : @LT.lt Nat _ tc l := Nat.lt_trans t2 (Nat.lt_trans a2 a1)
 have lo : ∀ b : Nat,@LT.lt Nat _ b tc -> @Ne Nat b sp ∧ @Ne Nat b d ∧ @Ne Nat b l := fun b h => ⟨nlt (Nat.lt_trans h t1),nlt (Nat.lt_trans h t2),nlt (Nat.lt_trans h t3)⟩
 refine k ⟨l,xl,d,x2,d2,f,c,sp,sc,tc,l2,co,so,to,oc0,od0,fd,sl,k0,k1,k2,k3,tw,tn',j0,j1,j2,j3,tw',j4,RD,⟨a2,Nat.lt_trans a4 a3,a5,a6,a7,a8,a9,a10⟩,a1⟩ tp tn ps 0 rfl ?_ (List.forall_mem_cons.mpr ⟨⟨ngt s1,nlt a3,nlt (Nat.lt_trans a3 (Nat.lt_trans a2 a1))⟩,List.forall_mem_cons.mpr ⟨lo 142 a11,fun b hb => lo b.1 (hlt b hb)⟩⟩) hlt a4 a11
 unfold Lx.news
 walk_at "my sub"
theorem ctr_lexer (w : World) (mg : Str -> Option Value) (x : Str) (t : Tok) (news : List (Addr × Obj)) (hne : ∀ p ∈ news,p.1 ≠ 142) (hx : x.length <= 1000) :
  CtrC w mg 147 [.str x t] ((142,tabObj #[]) :: news) 3 (LexPost w mg x news) := by
 refine (?f : Cln _) ?p ⟨?q,fun B k => ?r⟩
 case f => exact fun x _ => x
 case q =>
  ((
  unfold CtrC
  intro mean mb loose dp un gd cn cs a ccd cl outer A₀ base h₀ L m s Q E CH B F KX N T hk hd hu hret
  revert KX; k_fill; intro KX
  refine wpAny_call ?_
  k_dflt ((first
  | cell_enter
  | (refine' code_defC ?k1 ?k2 ?k3 ?k4 ?k5 ?kA ?kF ?kK ?k6 ?k7 ?k8 ?k9 ?kB ?kD ?_ ?c2 ?c3 ?c4; (case kA => exact rfl); (case kF => exact rfl); (case kK => assumption); (case k1 => k_asm); (case k2 => k_asm); (case k3 => k_asm); (case k4 => k_asm); (case k5 => k_asm); (case k6 => k_is); (case k7 => k_is); (case k8 => ktr_room); (case k9 => exact BindsTo.of_eq rfl); (case kB => exact rfl); (case kD => decide +kernel); (case c2 => exact rfl); (case c3 => exact rfl); (case c4 => exact rfl); k_whole; intro g' L' h' tk' cells' FG' F' N' Y' B' X' T' l1; (try k_lt l1); k_cells Y'; (try simp only [List.cons_append,List.nil_append] at N'); (try dsimp only); (try k_lift B'); (try k_fold))))))
  (k_steps; repeat' ((first | (refine stq_out "call ref" ?_; (k_here; k_dflt (first
  | (refine' call_cls ?k1 ?k2 ?k3 ?k4 ?k5 ?k6 ?_; (case k1 => k_asm); (case k2 => k_asm); (case k3 => k_asm); (case k4 => k_is); (case k5 => k_is); (case k6 => k_is); k_whole; intro x' d' h' F' N' l1 l2; (try k_lt l1); (try k_lt2 l2); (try k_sweep); ((
  refine' code_def ?k1 ?k2 ?k3 ?k4 ?k5 ?kA ?kF ?kK ?k6 ?k7 ?k8 ?k9 ?kB ?_ ?c2 ?c3 ?c4 ?c5; (case kA => exact rfl); (case kF => exact rfl); (case kK => first | exact rfl | assumption)
  (case k1 => k_asm); (case k2 => k_asm); (case k3 => k_asm); (case k4 => k_asm); (case k5 => k_asm); (case k6 => k_is); (case k7 => k_is); (case k8 => ktr_room); (case k9 => exact BindsTo.of_eq rfl); (case c5 => decide); (case kB => exact locs rfl)
  (case c2 => exact rfl); (case c3 => exact rfl); (case c4 => exact rfl); k_whole; intro g' L' h' FG' F' N' B' X' T'; (try dsimp only); (try k_lift B'); (try k_fold))))
  | (refine' call_meth ?k1 ?k2 ?_; (case k1 => k_asm); (case k2 => k_mem); k_whole; ((
  refine' code_def ?k1 ?k2 ?k3 ?k4 ?k5 ?kA ?kF ?kK ?k6 ?k7 ?k8 ?k9 ?kB ?_ ?c2 ?c3 ?c4 ?c5; (case kA => exact rfl); (case kF => exact rfl); (case kK => first | exact rfl | assumption)
  (case k1 => k_asm); (case k2 => k_asm); (case k3 => k_asm); (case k4 => k_asm); (case k5 => k_asm); (case k6 => k_is); (case k7 => k_is); (case k8 => ktr_room); (case k9 => exact BindsTo.of_eq rfl); (case c5 => decide); (case kB => exact locs rfl)
  (case c2 => exact rfl); (case c3 => exact rfl); (case c4 => exact rfl); k_whole; intro g' L' h' FG' F' N' B' X' T'; (try dsimp only); (try k_lift B'); (try k_fold))))))) | fail) <;> k_steps))
  rename News _ _ _ _ => N9
  refine' hret _ _ _ _ (lex_made ?rd ?ap ?ap2 ?ap3 ?ap4 ?ap5 ?ap6 ?ap7 ?ap8 ?ap9 ?ap10 ?ap11 ?hlt9) ?qf N9
  case qf => k_asm
  case hlt9 => exact fun q hq => Nat.lt_succ_of_lt (allLt_to (by walk_at "my tl") q hq)
  case' ap => skip
  any_goals (clear CH B KX T hret; omega)
  case rd =>
   clear N9
   intro p t1 tp n news hsp hp mean mb loose dp un gd cn cs a ccd cl outer A₀ base h₀ L m s Q E CH B F KX N T hk hd hu hret
   refine wpAny_call ?_
   k_dflt (((
  refine' code_nest ?k1 ?k2 ?k3 ?k4 ?k5 ?kA ?kF ?kK ?k6 ?k7 ?k8 ?k9 ?kB ?_ ?c2 ?c3 ?c4 ?c5; (case kA => exact rfl); (case kF => exact rfl); (case kK => first | exact rfl | assumption)
  (case k1 => k_asm); (case k2 => k_asm); (case k3 => k_asm); (case k4 => k_asm); (case k5 => k_asm); (case k6 => k_mem); (case k7 => exact codeRec_news (by k_asm) (by k_mem) (by assumption) (by assumption)); (case k8 => ktr_room); (case k9 => exact BindsTo.of_eq rfl); (case c5 => decide); (case kB => exact locs rfl); (case c2 => exact rfl); (case c3 => exact rfl); (case c4 => exact rfl)
  k_whole; intro g' L' h' FG' F' N' B' X' T'; (try dsimp only); (try k_lift B'); (try k_fold))))
   (k_steps; repeat' ((first | (refine stq_out "call ref" ?_; (k_here; k_dflt (first
  | (refine' call_cls ?k1 ?k2 ?k3 ?k4 ?k5 ?k6 ?_; (case k1 => k_asm); (case k2 => k_asm); (case k3 => k_asm); (case k4 => k_is); (case k5 => k_is); (case k6 => k_is); k_whole; intro x' d' h' F' N' l1 l2; (try k_lt l1); (try k_lt2 l2); (try k_sweep); ((
  refine' code_def ?k1 ?k2 ?k3 ?k4 ?k5 ?kA ?kF ?kK ?k6 ?k7 ?k8 ?k9 ?kB ?_ ?c2 ?c3 ?c4 ?c5; (case kA => exact rfl); (case kF => exact rfl); (case kK => first | exact rfl | assumption)
  (case k1 => k_asm); (case k2 => k_asm); (case k3 => k_asm); (case k4 => k_asm); (case k5 => k_asm); (case k6 => k_is); (case k7 => k_is); (case k8 => ktr_room); (case k9 => exact BindsTo.of_eq rfl); (case c5 => decide); (case kB => exact locs rfl)
  (case c2 => exact rfl); (case c3 => exact rfl); (case c4 => exact rfl); k_whole; intro g' L' h' FG' F' N' B' X' T'; (try dsimp only); (try k_lift B'); (try k_fold))))
  | (refine' call_meth ?k1 ?k2 ?_; (case k1 => k_asm); (case k2 => k_mem); k_whole; ((
  refine' code_def ?k1 ?k2 ?k3 ?k4 ?k5 ?kA ?kF ?kK ?k6 ?k7 ?k8 ?k9 ?kB ?_ ?c2 ?c3 ?c4 ?c5; (case kA => exact rfl); (case kF => exact rfl); (case kK => first | exact rfl | assumption)
  (case k1 => k_asm); (case k2 => k_asm); (case k3 => k_asm); (case k4 => k_asm); (case k5 => k_asm); (case k6 => k_is); (case k7 => k_is); (case k8 => ktr_room); (case k9 => exact BindsTo.of_eq rfl); (case c5 => decide); (case kB => exact locs rfl)
  (case c2 => exact rfl); (case c3 => exact rfl); (case c4 => exact rfl); k_whole; intro g' L' h' FG' F' N' B' X' T'; (try dsimp only); (try k_lift B'); (try k_fold))))))) | fail) <;> k_steps))
   all_goals (
    rename News _ _ _ _ => N9
    refine' hret _ _ _ _ ⟨_,_,_,?ev,rfl⟩ ?qf (cb_drop N9 ?qd)
    case ev =>
     show Value.str (Txt.slice x (some ((p : Int) + 1 - 1)) (some ((p : Int) + 1))) _ = _
     rw [Int.add_sub_cancel]
    case qf => k_asm
    case qd => (intro p hp; first | exact hp | exact .tail _ hp | exact .tail _ (.tail _ hp)))
 case r => delta id stq_it stq_out; exact k
theorem use_read {w : World} {mg : Str -> Option Value} {x : Str} {f c sp sc tc : Addr} {fo co so to : Obj} (RD : ReadC w mg x f c sp sc tc fo co so to) {p : Nat} {t1 tp : Tok} {n : Nat} {news : List (Addr × Obj)} (h1 : ∀ q ∈ news,q.1 ≠ sp) (hp : p <= 100000)
  {mean : ExcName -> Option Value} {mb : Str -> Option Value} {loose : List Str}
  {dp un : Nat} {gd : Option (List Code)} {cn : Str} {cs : Scope} {a : Addr} {ccd : Value} {cl : List (Str × Addr)} {outer : List Env} {A₀ : Around} {base h₀ : Heap} {L : Addr} {m : Str -> Option Value} {s : Shared} {Q E : Value -> Shared -> Prop}
  (CH : CodeHd base 146 142) (B : Below A₀ base outer h₀) (F : Fr h₀ L s.heap m) (X : (hd.heap_39 w.params).In h₀) (N : News h₀ L s.heap ((sp,W.listOf #[.int (p : Int) tp] n) :: (f,fo) :: (c,co) :: (sc,so) :: (tc,to) :: news)) (T : Top topProg loose mean mg mb h₀) (hk : cs.kind = .function) (hd : dp + 2 < recursionLimit) (hu : un + 8 * 2 < cLine)
  (hret : ∀ (tv tp' : Tok) (n' : Nat) (h' : Heap) (tk' : Nat),Fr h₀ L h' m -> News h₀ L h' ((sp,W.listOf #[.int ((p : Int) + 1) tp'] n') :: (f,fo) :: (c,co) :: (sc,so) :: (tc,to) :: news) -> Q (.str (Txt.slice x (some (p : Int)) (some ((p : Int) + 1))) tv) { s with heap := h',toks := tk' }) :
  wpAny (model rw_xg0057_01.row.prog w) (ktrTop dp un gd cn cs L a ccd cl outer) (call (.ref f) [.int 1 t1]) Q E s :=
 RD p t1 tp n news h1 hp mean mb loose dp un gd cn cs a ccd cl outer A₀ base h₀ L m s Q E CH B F X N T hk hd hu (fun r new h' tk' hpp F' N' => by
  obtain ⟨tv,tp',n',rfl,rfl⟩ := hpp
  exact hret _ _ _ _ _ F' N')

noncomputable abbrev chF (x : Str) (p : Nat) : Str := Txt.slice x (some (p : Int)) (some ((p : Int) + 1))
noncomputable def lineUp (y : Str) : Int := if (y == Str.ofString "\n") = true then 1 else 0
theorem lineUp_yes {y : Str} (h : (y == Str.ofString "\n") = true) : lineUp y = 1 := if_pos h
theorem lineUp_no {y : Str} (h : (y == Str.ofString "\n") = false) : lineUp y = 0 := if_neg (h ▸ Bool.false_ne_true)
theorem cod_rc (w : World) (mg : Str -> Option Value) (x : Str) (l xl d x2 d2 f c sp sc tc l2 : Addr) (co so to : Obj) (oc0 : Value) (od0 : Option Addr) (fd : FuncData) (sl : Array (Option Value)) (RD : ReadC w mg x f c sp sc tc ⟨oc0,od0,.func fd,sl⟩ co so to)
  (p : Nat) (hp : p <= 100000) (n : Int) (hn : 0 <= n ∧ n <= 1000) (nn : Nat) (tn k0 k1 k2 k3 tw tn2 j0 j1 j2 j3 tw2 j4 tp : Tok) (rest : List (Addr × Obj))
  (hdec : @LT.lt Nat _ d xl ∧ @LT.lt Nat _ x2 d ∧ @LT.lt Nat _ d2 x2 ∧ @LT.lt Nat _ f d2 ∧ @LT.lt Nat _ c f ∧ @LT.lt Nat _ sp c ∧ @LT.lt Nat _ sc sp ∧ @LT.lt Nat _ tc sc) (hr1 : ∀ q ∈ rest,q.1 ≠ sp) (hr2 : ∀ q ∈ rest,q.1 ≠ d) :
  CodC w mg 99 [.ref xl] ((sp,W.listOf #[.int (p : Int) tp] nn) :: (f,⟨oc0,od0,.func fd,sl⟩) :: (c,co) :: (sc,so) :: (tc,to) :: (d,dictOf (lexE w n tn k0 k1 k2 k3 tw (.ref x2) l) 4) :: (xl,instObj 116 d) :: (x2,instObj 116 d2) :: (d2,dictOf (strE w 1 tn2 j0 j1 j2 j3 tw2 j4 .none l2 f) 5) :: rest) 3 (fun v new => ∀ G : Prop,(∀ (tv tp' : Tok) (nn' : Nat) (tn' : Tok),v = .str (chF x p) tv -> new = ((sp,W.listOf #[.int ((p + 1 : Nat) : Int) tp'] nn') :: (f,⟨oc0,od0,.func fd,sl⟩) :: (c,co) :: (sc,so) :: (tc,to) :: (d,dictOf (lexE w (n + lineUp (chF x p)) tn' k0 k1 k2 k3 tw (.ref x2) l) 4) :: (xl,instObj 116 d) :: (x2,instObj 116 d2) :: (d2,dictOf (strE w 1 tn2 j0 j1 j2 j3 tw2 j4 .none l2 f) 5) :: rest) -> G) -> G) := by
 refine (?f : Cln _) ?p ⟨?q,fun B k => ?r⟩
 case f => exact fun x _ => x
 case q =>
  ((
  unfold CodC
  intro mean mb loose dp un gd cn cs a ccd cl outer A₀ base h₀ L m s Q E CH B F KX N T hk hd hu hret
  revert KX; k_fill; intro KX
  k_dflt ((first
  | cell_enter
  | (refine' code_defC ?k1 ?k2 ?k3 ?k4 ?k5 ?kA ?kF ?kK ?k6 ?k7 ?k8 ?k9 ?kB ?kD ?_ ?c2 ?c3 ?c4; (case kA => exact rfl); (case kF => exact rfl); (case kK => assumption); (case k1 => k_asm); (case k2 => k_asm); (case k3 => k_asm); (case k4 => k_asm); (case k5 => k_asm); (case k6 => k_is); (case k7 => k_is); (case k8 => ktr_room); (case k9 => exact BindsTo.of_eq rfl); (case kB => exact rfl); (case kD => decide +kernel); (case c2 => exact rfl); (case c3 => exact rfl); (case c4 => exact rfl); k_whole; intro g' L' h' tk' cells' FG' F' N' Y' B' X' T' l1; (try k_lt l1); k_cells Y'; (try simp only [List.cons_append,List.nil_append] at N'); (try dsimp only); (try k_lift B'); (try k_fold))))))
  (k_steps; repeat' ((first | (refine stq_out "call ref" ?_; (k_here; (with_reducible show wpAny _ _ (call (Value.ref _) [Value.int 1 _]) _ _ _); k_dflt (refine' use_read ?qa ?qb ?qc ?k0 ?k1 ?k2 ?k3 ?k4 ?k5 ?kK ?kd ?ku ?_); (case qa => assumption); (case k0 => assumption); walk_at "my sides"; (case qb => k_all); (case qc => omega); intro tv' tp' n' h' tk' F' N'; (try dsimp only))) | fail) <;> k_steps))
  ·refine' hret _ _ _ _ ?pp9 (by k_asm) (by k_asm)
   exact fun G k => k _ _ _ _ rfl (by rw [lineUp_yes (by assumption)]; rfl)
  ·refine' hret _ _ _ _ ?pp8 (by k_asm) (by k_asm)
   exact fun G k => k _ _ _ _ rfl (by rw [lineUp_no (by assumption),Int.add_zero]; rfl)
 case r => delta id stq_it stq_out; exact k
theorem Lx.lsp {w : World} {mg : Str -> Option Value} {x : Str} (q : Lx w mg x) : @Ne Nat q.l q.sp := by
 obtain ⟨d1,d2,d3,d4,d5,d6,_⟩ := q.dec
 exact ngt (Nat.lt_trans d6 (Nat.lt_trans d5 (Nat.lt_trans d4 (Nat.lt_trans d3 (Nat.lt_trans d2 (Nat.lt_trans d1 q.hl))))))
theorem Lx.ld {w : World} {mg : Str -> Option Value} {x : Str} (q : Lx w mg x) : @Ne Nat q.l q.d := ngt (Nat.lt_trans q.dec.1 q.hl)
noncomputable def RcPost (w : World) (mg : Str -> Option Value) (x : Str) (q : Lx w mg x) (p : Nat) (n : Int) (its : Array Value) (nl : Nat) (rest : List (Addr × Obj)) (v : Value) (new : List (Addr × Obj)) : Prop :=
 ∀ G : Prop,(∀ (tv tp' : Tok) (nn' : Nat) (tn' : Tok),v = .str (chF x p) tv -> new = q.news ((p + 1 : Nat) : Int) tp' nn' (n + lineUp (chF x p)) tn' its nl rest -> G) -> G
theorem cod_q {w : World} {mg : Str -> Option Value} {x : Str} (q : Lx w mg x) (p : Nat) (hp : p <= 100000) (n : Int) (hn : 0 <= n ∧ n <= 1000) (nn : Nat) (tn tp : Tok) (its : Array Value) (nl : Nat) (rest : List (Addr × Obj)) (hr : ∀ b ∈ rest,b.1 ≠ q.sp ∧ b.1 ≠ q.d) :
  CodC w mg 99 [.ref q.xl] (q.news (p : Int) tp nn n tn its nl rest) 3 (RcPost w mg x q p n its nl rest) :=
 cod_rc w mg x q.l q.xl q.d q.x2 q.d2 q.f q.c q.sp q.sc q.tc q.l2 q.co q.so q.to q.oc0 q.od0 q.fd q.sl q.RD p hp n hn nn tn q.k0 q.k1 q.k2 q.k3 q.tw q.tn2 q.j0 q.j1 q.j2 q.j3 q.tw2 q.j4 tp ((q.l,W.listOf its nl) :: rest) q.dec (List.forall_mem_cons.mpr ⟨q.lsp,fun b hb => (hr b hb).1⟩) (List.forall_mem_cons.mpr ⟨q.ld,fun b hb => (hr b hb).2⟩)
noncomputable def LxAt {w : World} {mg : Str -> Option Value} {x : Str} (q : Lx w mg x) (zz : List (Addr × Obj)) (p : Nat) (n : Int) (its : Array Value) (nl : Nat) (rest : List (Addr × Obj)) : Prop := ∃ tp nn tn,zz = q.news (p : Int) tp nn n tn its nl rest
theorem code_rcq {w : World} {mg : Str -> Option Value} {x : Str} {q : Lx w mg x} {p : Nat} (hp : p <= 100000) {n : Int} (hn : 0 <= n ∧ n <= 1000) {its : Array Value} {nl : Nat} {zz rest pre : List (Addr × Obj)} (hz : LxAt q zz p n its nl rest) (hr : ∀ b ∈ pre ++ rest,b.1 ≠ q.sp ∧ b.1 ≠ q.d)
  {mean : ExcName -> Option Value} {mb : Str -> Option Value} {loose : List Str}
  {dp un : Nat} {gd : Option (List Code)} {cn : Str} {cs : Scope} {a : Addr} {ccd : Value} {cl : List (Str × Addr)} {outer : List Env} {A₀ : Around} {base h₀ : Heap} {L : Addr} {m : Str -> Option Value} {s : Shared} {Q E : Value -> Shared -> Prop}
  (CH : CodeHd base 146 142) (B : Below A₀ base outer h₀) (F : Fr h₀ L s.heap m) (X : (hd.heap_39 w.params).In h₀) (N : News h₀ L s.heap (pre ++ zz)) (T : Top topProg loose mean mg mb h₀) (hk : cs.kind = .function) (hd : dp + 3 < recursionLimit) (hu : un + 8 * 3 < cLine)
  (hret : ∀ (tv : Tok) (h' : Heap) (tk' : Nat) (zz' : List (Addr × Obj)),LxAt q zz' (p + 1) (n + lineUp (chF x p)) its nl rest -> Fr h₀ L h' m -> News h₀ L h' (pre ++ zz') -> Q (.str (chF x p) tv) { s with heap := h',toks := tk' }) :
  codeAny (model rw_xg0057_01.row.prog w) (ktrTop dp un gd cn cs L a ccd cl outer) (.call (.ref 99) ⟨[.ref q.xl],[]⟩) (fun r s' => match r with | .ok (.ret v) => Q v s' | .ok _ => False | .error e => E e s') s := by
 obtain ⟨tp,nn,tn,rfl⟩ := hz
 exact cod_q q p hp n hn nn tn tp its nl (pre ++ rest) hr mean mb loose dp un gd cn cs a ccd cl outer A₀ base h₀ L m s Q E CH B F X (cb_drop N (Lx.pre pre)) T hk hd hu fun r new h' tk' hpp F' N' => hpp _ fun tv tp' nn' tn' ev en => by
  subst ev en
  exact hret tv h' tk' _ ⟨_,_,_,rfl⟩ F' (cb_drop N' (Lx.erp pre))

theorem fn99 {w : World} {h₀ : Heap} (X : (hd.heap_39 w.params).In h₀) : ∃ o,h₀.get? 99 = some o ∧ ∃ fd,o.data = .func fd := by
 have key : rw_xg0057_01.row.prog = rw_xg0057_01.row.prog -> (hd.heap_39 w.params).In h₀ -> ∃ o,h₀.get? 99 = some o ∧ ∃ fd,o.data = .func fd := by
  k_fill
  intro _ X
  have h := X 99 _ (by k_is)
  exact ⟨_,h,_,rfl⟩
 exact key rfl X
theorem Lx.below {w : World} {mg : Str -> Option Value} {x : Str} (q : Lx w mg x) {p n : Int} {tp tn : Tok} {nn nl : Nat} {its : Array Value} {a : Addr} (h : @LT.lt Nat _ q.xl a) (h2 : @Ne Nat q.l a) : ∀ y ∈ q.hds p tp nn n tn its nl,y.1 ≠ a := by
 refine (?f : Cln _) ?p ⟨?q,fun B k => ?r⟩
 case f => exact fun x _ => x
 case q =>
  obtain ⟨d1,d2,d3,d4,d5,d6,d7,d8⟩ := q.dec
  have e1 := Nat.lt_trans d1 h
  have e2 := Nat.lt_trans d2 e1
  have e3 := Nat.lt_trans d3 e2
  have e4 := Nat.lt_trans d4 e3
  have e5 := Nat.lt_trans d5 e4
  have e6 := Nat.lt_trans d6 e5
  have e7 := Nat.lt_trans d7 e6
  have e8 := Nat.lt_trans d8 e7
  exact List.forall_mem_cons.mpr ⟨Nat.ne_of_lt e6,List.forall_mem_cons.mpr ⟨Nat.ne_of_lt e4,List.forall_mem_cons.mpr ⟨Nat.ne_of_lt e5,List.forall_mem_cons.mpr ⟨Nat.ne_of_lt e7,List.forall_mem_cons.mpr ⟨Nat.ne_of_lt e8,List.forall_mem_cons.mpr ⟨Nat.ne_of_lt e1,List.forall_mem_cons.mpr ⟨Nat.ne_of_lt h,List.forall_mem_cons.mpr ⟨Nat.ne_of_lt e2,List.forall_mem_cons.mpr ⟨Nat.ne_of_lt e3,List.forall_mem_cons.mpr ⟨h2,List.forall_mem_nil _⟩⟩⟩⟩⟩⟩⟩⟩⟩⟩
 case r => (try delta id); (conv => zeta); exact k
theorem nx_q {w : World} {mg : Str -> Option Value} {x : Str} {q : Lx w mg x} {p : Nat} (hp : p <= 100000) {n : Int} (hn : 0 <= n ∧ n <= 1000) {nl : Nat} {ti : Tok} {it qq : Addr} {zz rest : List (Addr × Obj)} (hz : LxAt q zz p n #[] nl rest)
  (hr : ∀ b ∈ [(it, citO (.ref qq) (.str (Str.ofString "") ti)), (qq, methodObj (.ref 99) (.ref q.xl))] ++ rest, b.1 ≠ q.sp ∧ b.1 ≠ q.d) (hit : ∀ b ∈ (qq, methodObj (.ref 99) (.ref q.xl)) :: rest, b.1 ≠ it) (hxl : @LT.lt Nat _ q.xl it) (hll : @Ne Nat q.l it)
  {mean : ExcName -> Option Value} {mb : Str -> Option Value} {loose : List Str}
  {dp un : Nat} {gd : Option (List Code)} {cn : Str} {cs : Scope} {a : Addr} {ccd : Value} {cl : List (Str × Addr)} {outer : List Env} {A₀ : Around} {base h₀ : Heap} {L : Addr} {m : Str -> Option Value} {s : Shared} {Q : Option Value -> Shared -> Prop} {E : Value -> Shared -> Prop}
  (CH : CodeHd base 146 142) (B : Below A₀ base outer h₀) (F : Fr h₀ L s.heap m) (X : (hd.heap_39 w.params).In h₀) (N : News h₀ L s.heap ((it, citO (.ref qq) (.str (Str.ofString "") ti)) :: (qq, methodObj (.ref 99) (.ref q.xl)) :: zz)) (T : Top topProg loose mean mg mb h₀) (hk : cs.kind = .function) (hd : dp + 5 < recursionLimit) (hu : un + 8 * 5 < cLine)
  (h1 : chF x p ≠ Str.ofString "" -> ∀ (tv : Tok) (h' : Heap) (tk' : Nat) (zz' : List (Addr × Obj)), LxAt q zz' (p + 1) (n + lineUp (chF x p)) #[] nl rest -> Fr h₀ L h' m -> News h₀ L h' ((it, citO (.ref qq) (.str (Str.ofString "") ti)) :: (qq, methodObj (.ref 99) (.ref q.xl)) :: zz') -> Q (some (.str (chF x p) tv)) { s with heap := h', toks := tk' })
  (h2 : chF x p = Str.ofString "" -> ∀ (h' : Heap) (tk' : Nat) (zz' : List (Addr × Obj)), LxAt q zz' (p + 1) (n + lineUp (chF x p)) #[] nl rest -> Fr h₀ L h' m -> News h₀ L h' ((qq, methodObj (.ref 99) (.ref q.xl)) :: zz') -> Q none { s with heap := h', toks := tk' }) :
  wpAny (model rw_xg0057_01.row.prog w) (ktrTop dp un gd cn cs L a ccd cl outer) (pyNext (.ref it)) Q E s := by
 refine (?f : Cln _) ?p ⟨?q,fun B k => ?r⟩
 case f => exact fun x _ => x
 case q =>
  have hmi : s.heap.get? it = some (citO (.ref qq) (.str (Str.ofString "") ti)) := (N (it, _) (.head _)).1
  have hmq : s.heap.get? qq = some (methodObj (.ref 99) (.ref q.xl)) := (N (qq,_) (.tail _ (.head _))).1
  obtain ⟨o99,e99,fd99,hd99⟩ := fn99 X
  refine pyNext_citer rfl hmi hmq (F.keep _ _ e99) hd99 (call_meth N (.tail _ (.head _)) ?_)
  refine code_rcq (pre := [(it, citO (.ref qq) (.str (Str.ofString "") ti)), (qq, methodObj (.ref 99) (.ref q.xl))]) hp hn hz hr (cn := cn) (cs := cs) (a := a) (ccd := ccd) (cl := cl) CH B F X N T hk ?kd ?ku ?_
  case kd => ktr_room
  case ku => ktr_units
  intro tv h' tk' zz' hz' F' N'
  have e1 := N' _ (.head _)
  refine ⟨_,_,rfl,e1.1,(N' _ (.tail _ (.head _))).1,F'.keep _ _ e99,fun hne => h1 hne _ _ _ _ hz' F' N',fun he h'' hx => h2 he _ _ zz' hz' (LCg.fr_but F' (fun b o hb e => hx b o (by simpa using hb) e) (Ne.symm e1.2.1) e1.2.2) (LCg.news_but (cb_drop N' (sb_skip sb_refl)) (fun b o hb e => hx b o (by simpa using hb) e) ?_)⟩
  refine List.forall_mem_cons.mpr ⟨hit _ (.head _),?_⟩
  obtain ⟨tp,nn,tn,rfl⟩ := hz'
  exact ap_all (h := q.hds _ tp nn _ tn #[] nl) (q.below hxl hll) fun b hb => hit b (.tail _ hb)
 case r => (try delta id); (conv => zeta); exact k
section
variable {prog : Program} {w : World} {A : Around} {E : Value -> Shared -> Prop} {s : Shared} {env : Env}
noncomputable def ForRest (prog : Program) (w : World) (A : Around) (E : Value -> Shared -> Prop) (env : Env) (target : Expr) (it : Value) (body orelse : List Stmt) (Q : Flow -> Shared -> Prop) (s : Shared) : Prop :=
 codeAny (model prog w) A (.forLoop target it body orelse env) (fun r s' => match r with | .ok f => Q f s' | .error e => cameBackBy (model prog w) A env E e s') s
theorem for_start {target iter : Expr} {body orelse : List Stmt} {pos : Pos} {Q : Flow -> Shared -> Prop}
  (h : wpAny (model prog w) A (eval iter env) (fun x s₁ => wpAny (model prog w) A (pyIter x) (fun it s₂ => ForRest prog w A E env target it body orelse Q s₂) E s₁) E s)
  (hs : ∀ x,foldedSetIterable iter env x = pure x := by intro _; rfl) :
  wpAny (model prog w) A (exec (.For target iter body orelse pos) env) Q E s := wpAny_For h hs
noncomputable def Again (I : Nat -> Shared -> Prop) (n : Nat) (s : Shared) : Prop := ∃ m,m < n ∧ I m s
theorem for_inv {target : Expr} {it : Value} {body orelse : List Stmt} {Q : Flow -> Shared -> Prop} (hE : PassesOwn (model prog w) A env E) (I : Nat -> Shared -> Prop)
  (turn : ∀ n s,I n s -> wpAny (model prog w) A (pyNext it) (fun r s₁ => match r with
   | none => wpAny (model prog w) A (execs orelse env) Q E s₁
   | some v => wpAny (model prog w) A (assign target env v) (fun _ s₂ => wpAny (model prog w) A (execs body env) (fun f s₃ => match f with
     | .next | .cont => Again I n s₃
     | .brk => Q .next s₃
     | .ret v => Q (.ret v) s₃) E s₂) E s₁) E s)
  (n : Nat) (h : I n s) (ht : ∀ v,letOwnedTupleGo target it v = pure () := by intro _; rfl) :
  ForRest prog w A E env target it body orelse Q s := by
 refine codeAny_forLoop I (fun n s hI => wpAny_mono (turn n s hI) (fun r s₁ h₁ => ?_) hE) n h ht
 cases r with
 | none => exact wpAny_mono h₁ (fun _ _ q => q) hE
 | some v => exact wpAny_mono h₁ (fun _ s₂ h₂ => wpAny_mono h₂ (fun f s₃ h₃ => by cases f <;> exact h₃) hE) hE
theorem pyIter_citK {h₀ : Heap} {L : Addr} {news : List (Addr × Obj)} {it : Addr} {f sent : Value} {Q : Value -> Shared -> Prop} (N : News h₀ L s.heap news) (hm : (it,citO f sent) ∈ news) (h : Q (.ref it) s) :
  wpAny (model prog w) A (pyIter (.ref it)) Q E s := pyIter_citer (N _ hm).1 h
theorem iter_K {h₀ : Heap} {L : Addr} {m : Str -> Option Value} {news : List (Addr × Obj)} {q : Addr} {f self sent : Value} {Q : Value -> Shared -> Prop}
  (F : Fr h₀ L s.heap m) (N : News h₀ L s.heap news) (hm : (q,methodObj f self) ∈ news)
  (h : ∀ it h',Fr h₀ L h' m -> News h₀ L h' ((it,citO (.ref q) sent) :: news) -> (∀ p ∈ news,p.1 < it) -> Q (.ref it) { s with heap := h' }) :
  wpAny (model prog w) A (call (.builtin "iter") [.ref q, sent]) Q E s := by
 refine iter_two (N _ hm).1 (h _ _ ?_ ?_ ?_)
 ·exact F.keeps fun b o e => Heap.get?_push_of_some _ e
 ·intro p hp
  rcases List.mem_cons.mp hp with e | e
  ·exact e ▸ ⟨Heap.get?_push_size _ rfl,Ne.symm (Nat.ne_of_lt F.ns.lt),next_is_new F⟩
  ·exact ⟨Heap.get?_push_of_some _ (N p e).1,(N p e).2⟩
 ·intro p hp
  exact Heap.lt_size (N p hp).1
end

noncomputable def isWs (y : Str) : Bool := !(PySem.Builtin.Str.occurrences (Str.ofString "\n\t\x0d ") y 0 (Str.ofString "\n\t\x0d ").length 1).isEmpty
noncomputable def scanB (x : Str) : Nat -> Nat -> Int -> Str -> Option (Str × Nat × Int)
 | 0,_,_,_ => none
 | k + 1,p,n,tok =>
  if chF x p = Str.ofString "" then none
  else if isWs (chF x p) = true then some (tok,p + 1,n + lineUp (chF x p))
  else if (chF x p == Str.ofString "\\") = true then scanB x k (p + 2) (n + lineUp (chF x p) + lineUp (chF x (p + 1))) (tok ++ chF x (p + 1))
  else scanB x k (p + 1) (n + lineUp (chF x p)) (tok ++ chF x p)
noncomputable def scanA (x : Str) : Nat -> Nat -> Int -> Str -> Option (Str × Nat × Int)
 | 0,_,_,_ => none
 | k + 1,p,n,tok =>
  if chF x p = Str.ofString "" then none
  else if (chF x p == Str.ofString "\"") = true then some (tok, p + 1, n + lineUp (chF x p))
  else if (chF x p == Str.ofString "\\") = true then scanA x k (p + 2) (n + lineUp (chF x p) + lineUp (chF x (p + 1))) (tok ++ chF x (p + 1))
  else scanA x k (p + 1) (n + lineUp (chF x p)) (tok ++ chF x p)
noncomputable def scanO (x : Str) : Nat -> Nat -> Int -> Option (Str × Nat × Int)
 | 0,_,_ => none
 | k + 1,p,n =>
  if chF x p = Str.ofString "" then some (Str.ofString "", p + 1, n + lineUp (chF x p))
  else if isWs (chF x p) = true then scanO x k (p + 1) (n + lineUp (chF x p))
  else if (chF x p == Str.ofString "\"") = true then scanA x k (p + 1) (n + lineUp (chF x p)) (Str.ofString "")
  else if (chF x p == Str.ofString "\\") = true then scanB x k (p + 2) (n + lineUp (chF x p) + lineUp (chF x (p + 1))) (Str.ofString "" ++ chF x (p + 1))
  else scanB x k (p + 1) (n + lineUp (chF x p)) (Str.ofString "" ++ chF x p)
noncomputable abbrev canonM (xl it : Addr) (tok : Str) (tt : Tok) (och : Option Value) : Str -> Option Value :=
 fun z => if z = Str.ofString "token" then some (.str tok tt) else if z = Str.ofString "ch" then och else if z = Str.ofString "fiter" then some (.ref it) else if z = Str.ofString "self" then some (.ref xl) else none
theorem canon_ch (xl it : Addr) (tok : Str) (tt : Tok) (och : Option Value) (v : Value) : (fun z => if z = Str.ofString "ch" then some v else canonM xl it tok tt och z) = canonM xl it tok tt (some v) := by
 funext z
 by_cases h : z = Str.ofString "ch"
 ·subst h
  rw [if_pos rfl,canonM,if_neg (by decide),if_pos rfl]
 ·rw [if_neg h]
  simp only [canonM,if_neg h]
theorem canon_tok (xl it : Addr) (tok tok' : Str) (tt tt' : Tok) (och : Option Value) : (fun z => if z = Str.ofString "token" then some (.str tok' tt') else canonM xl it tok tt och z) = canonM xl it tok' tt' och := by
 funext z
 by_cases h : z = Str.ofString "token"
 ·simp only [canonM,if_pos h]
 ·simp only [canonM,if_neg h]
theorem fr_eq {h₀ h : Heap} {L : Addr} {m m' : Str -> Option Value} (F : Fr h₀ L h m) (e : ∀ z,m z = m' z) : Fr h₀ L h m' := (funext e : m = m') ▸ F
theorem lineUp_le (y : Str) : lineUp y <= 1 := by unfold lineUp; split <;> lia
theorem lineUp_ge (y : Str) : 0 <= lineUp y := by unfold lineUp; split <;> lia
theorem chF_len (x : Str) (p : Nat) : (chF x p).length <= 1 := by
 refine (?f : Cln _) ?p ⟨?q,fun B k => ?r⟩
 case f => exact fun x _ => x
 case q =>
  by_cases h : p + 1 <= x.length
  ·show (StrLaws.sliceText x (some (p : Int)) (some (p + 1 : Int))).length <= 1
   rw [show (p : Int) + 1 = ((p + 1 : Nat) : Int) from rfl,StrLaws.sliceText_nat x (Nat.le_succ p) h]
   simp [Str.length]
   lia
  ·have e : chF x p = StrLaws.sliceText x (some (x.length : Int)) (some (x.length : Int)) := by
    show StrLaws.sliceText x (some (p : Int)) (some (p + 1 : Int)) = _
    unfold StrLaws.sliceText
    have i1 : PySem.Builtin.Str.strSliceIndices (some (p : Int)) (some ((p : Int) + 1)) 1 x.length = PySem.Builtin.Str.strSliceIndices (some (x.length : Int)) (some (x.length : Int)) 1 x.length := by
     have a1 : ¬ (p : Int) < 0 := by lia
     have a2 : ¬ ((x.length : Int) < 0) := by lia
     have a3 : ¬ (p : Int) + 1 < 0 := by lia
     have e1 : max (0 : Int) (min (p : Int) (x.length : Int)) = x.length := by lia
     have e3 : max (0 : Int) (min ((p : Int) + 1) (x.length : Int)) = x.length := by lia
     have e2 : max (0 : Int) (min (x.length : Int) (x.length : Int)) = x.length := by lia
     simp [PySem.Builtin.Str.strSliceIndices,a1,a2,a3,e1,e2,e3]
    rw [i1]
   rw [e,StrLaws.sliceText_nat x (Nat.le_refl _) (Nat.le_refl _)]
   simp [Str.length]
 case r => delta id stq_it stq_out; (conv => zeta); exact k
theorem LxAt.mem_x {w : World} {mg : Str -> Option Value} {x : Str} {q : Lx w mg x} {zz : List (Addr × Obj)} {p : Nat} {n : Int} {its : Array Value} {nl : Nat} {rest : List (Addr × Obj)} (h : LxAt q zz p n its nl rest) : (q.xl,instObj 116 q.d) ∈ zz := by
 obtain ⟨_,_,_,h⟩ := h
 exact Lx.mem_x h
theorem LxAt.mem_l {w : World} {mg : Str -> Option Value} {x : Str} {q : Lx w mg x} {zz : List (Addr × Obj)} {p : Nat} {n : Int} {its : Array Value} {nl : Nat} {rest : List (Addr × Obj)} (h : LxAt q zz p n its nl rest) : (q.l,W.listOf its nl) ∈ zz := by
 obtain ⟨_,_,_,h⟩ := h
 exact Lx.mem_l h
theorem LxAt.mem_d {w : World} {mg : Str -> Option Value} {x : Str} {q : Lx w mg x} {zz : List (Addr × Obj)} {p : Nat} {n : Int} {its : Array Value} {nl : Nat} {rest : List (Addr × Obj)} (h : LxAt q zz p n its nl rest) : ∃ tn,(q.d,dictOf (lexE w n tn q.k0 q.k1 q.k2 q.k3 q.tw (.ref q.x2) q.l) 4) ∈ zz := by
 obtain ⟨_,_,tn,h⟩ := h
 exact ⟨tn,Lx.mem_d h⟩
noncomputable def TokI {w : World} {mg : Str -> Option Value} {x : Str} (q : Lx w mg x) (g : Heap) (L : Addr) (s : Shared) (it qq : Addr) (ti : Tok) (nl : Nat) (rest : List (Addr × Obj)) (P : Str -> Prop) (scan : Nat -> Nat -> Int -> Str -> Option (Str × Nat × Int)) (R : Str × Nat × Int) (k : Nat) (s' : Shared) : Prop :=
 ∀ G : Prop,(∀ (p : Nat) (n : Int) (tok : Str) (tt : Tok) (och : Option Value) (zz : List (Addr × Obj)) (h' : Heap) (tk' : Nat),s' = { s with heap := h',toks := tk' } -> p + 2 * k <= 100000 -> 0 <= n -> n + 2 * (k : Int) <= 1000 -> tok.length + k <= 2000 -> P tok -> Fr g L h' (canonM q.xl it tok tt och) ->
  News g L h' ((it, citO (.ref qq) (.str (Str.ofString "") ti)) :: (qq, methodObj (.ref 99) (.ref q.xl)) :: zz) -> LxAt q zz p n #[] nl rest -> scan k p n tok = some R -> G) -> G
theorem fr_c {g h : Heap} {L xl it : Addr} {tok : Str} {tt : Tok} {och : Option Value} {v : Value} (F : Fr g L h (fun z => if z = Str.ofString "ch" then some v else canonM xl it tok tt och z)) : Fr g L h (canonM xl it tok tt (some v)) := canon_ch xl it tok tt och v ▸ F
theorem fr_tc {g h : Heap} {L xl it : Addr} {tok tok' : Str} {tt tt' : Tok} {och : Option Value} {v : Value} (F : Fr g L h (fun z => if z = Str.ofString "token" then some (.str tok' tt') else if z = Str.ofString "ch" then some v else canonM xl it tok tt och z)) : Fr g L h (canonM xl it tok' tt' (some v)) :=
 fr_eq F fun z => (congrFun (canon_tok xl it tok tok' tt tt' (some v)) z).symm ▸ (by rw [← canon_ch xl it tok tt och v])
theorem fr_tcc {g h : Heap} {L xl it : Addr} {tok tok' : Str} {tt tt' : Tok} {och : Option Value} {v u : Value} (F : Fr g L h (fun z => if z = Str.ofString "token" then some (.str tok' tt') else if z = Str.ofString "ch" then some v else if z = Str.ofString "ch" then some u else canonM xl it tok tt och z)) : Fr g L h (canonM xl it tok' tt' (some v)) :=
 fr_tc (och := some u) (fr_eq F fun z => by rw [← canon_ch xl it tok tt och u])
theorem nums1 {p k u c : Nat} {n l : Int} (a1 : p + 2 * (k + 1) <= 100000) (a2 : 0 <= n) (a3 : n + 2 * ((k + 1 : Nat) : Int) <= 1000) (a4 : u + (k + 1) <= 2000) (c1 : c <= 1) (l1 : l <= 1) (l0 : 0 <= l) : p + 1 + 2 * k <= 100000 ∧ 0 <= n + l ∧ n + l + 2 * (k : Int) <= 1000 ∧ u + c + k <= 2000 := by lia
theorem nums2 {p k u c : Nat} {n l l' : Int} (a1 : p + 2 * (k + 1) <= 100000) (a2 : 0 <= n) (a3 : n + 2 * ((k + 1 : Nat) : Int) <= 1000) (a4 : u + (k + 1) <= 2000) (c1 : c <= 1) (l1 : l <= 1) (l0 : 0 <= l) (m1 : l' <= 1) (m0 : 0 <= l') : p + 1 + 1 + 2 * k <= 100000 ∧ 0 <= n + l + l' ∧ n + l + l' + 2 * (k : Int) <= 1000 ∧ u + c + k <= 2000 := by lia
theorem nums_rc {p k : Nat} {n l : Int} (a1 : p + 2 * (k + 1) <= 100000) (a2 : 0 <= n) (a3 : n + 2 * ((k + 1 : Nat) : Int) <= 1000) (l1 : l <= 1) (l0 : 0 <= l) : (p <= 100000 ∧ 0 <= n ∧ n <= 1000) ∧ p + 1 <= 100000 ∧ 0 <= n + l ∧ n + l <= 1000 := by lia
section
variable {w : World} {mg : Str -> Option Value} {x : Str} {q : Lx w mg x} {g h' : Heap} {L it qq : Addr} {s : Shared} {ti : Tok} {nl k p tk' : Nat} {n : Int} {rest zz : List (Addr × Obj)} {P : Str -> Prop} {scan : Nat -> Nat -> Int -> Str -> Option (Str × Nat × Int)} {R : Str × Nat × Int} {tok tok' : Str} {tt : Tok} {och : Option Value}
 (a1 : p + 2 * (k + 1) <= 100000) (a2 : 0 <= n) (a3 : n + 2 * ((k + 1 : Nat) : Int) <= 1000) (a4 : tok.length + (k + 1) <= 2000)
 (N : News g L h' ((it, citO (.ref qq) (.str (Str.ofString "") ti)) :: (qq, methodObj (.ref 99) (.ref q.xl)) :: zz))
include a1 a2 a3 a4 N
theorem TokI.stay (hP : P tok) (F : Fr g L h' (canonM q.xl it tok tt och)) (hz : LxAt q zz (p + 1) (n + lineUp (chF x p)) #[] nl rest) (hS : scan k (p + 1) (n + lineUp (chF x p)) tok = some R) : TokI q g L s it qq ti nl rest P scan R k { s with heap := h',toks := tk' } := by
 obtain ⟨b1,b2,b3,b4⟩ := nums1 (c := 0) a1 a2 a3 a4 (Nat.zero_le 1) (lineUp_le (chF x p)) (lineUp_ge (chF x p))
 exact fun G kk => kk (p + 1) _ tok tt och zz h' tk' rfl b1 b2 b3 b4 hP F N hz hS
theorem TokI.step1 (hP : P (tok ++ chF x p)) (F : Fr g L h' (canonM q.xl it (tok ++ chF x p) tt och)) (hz : LxAt q zz (p + 1) (n + lineUp (chF x p)) #[] nl rest) (hS : scan k (p + 1) (n + lineUp (chF x p)) (tok ++ chF x p) = some R) : TokI q g L s it qq ti nl rest P scan R k { s with heap := h',toks := tk' } := by
 obtain ⟨b1,b2,b3,b4⟩ := nums1 a1 a2 a3 a4 (chF_len x p) (lineUp_le (chF x p)) (lineUp_ge (chF x p))
 exact fun G kk => kk (p + 1) _ (tok ++ chF x p) tt och zz h' tk' rfl b1 b2 b3 (Str.length_append tok (chF x p) ▸ b4) hP F N hz hS
theorem TokI.step2 (hP : P (tok ++ chF x (p + 1))) (F : Fr g L h' (canonM q.xl it (tok ++ chF x (p + 1)) tt och)) (hz : LxAt q zz (p + 1 + 1) (n + lineUp (chF x p) + lineUp (chF x (p + 1))) #[] nl rest) (hS : scan k (p + 1 + 1) (n + lineUp (chF x p) + lineUp (chF x (p + 1))) (tok ++ chF x (p + 1)) = some R) : TokI q g L s it qq ti nl rest P scan R k { s with heap := h',toks := tk' } := by
 obtain ⟨b1,b2,b3,b4⟩ := nums2 a1 a2 a3 a4 (chF_len x (p + 1)) (lineUp_le (chF x p)) (lineUp_ge (chF x p)) (lineUp_le (chF x (p + 1))) (lineUp_ge (chF x (p + 1)))
 exact fun G kk => kk (p + 1 + 1) _ (tok ++ chF x (p + 1)) tt och zz h' tk' rfl b1 b2 b3 (Str.length_append tok (chF x (p + 1)) ▸ b4) hP F N hz hS
end
section
variable {x : Str} {k p : Nat} {n : Int} {tok : Str} {R : Str × Nat × Int}
theorem gB_end (hS : scanB x (k + 1) p n tok = some R) (he : chF x p = Str.ofString "") : False := by
 rw [scanB,if_pos he] at hS; cases hS
theorem gA_end (hS : scanA x (k + 1) p n tok = some R) (he : chF x p = Str.ofString "") : False := by
 rw [scanA,if_pos he] at hS; cases hS
theorem gO_end (hS : scanO x (k + 1) p n = some R) (he : chF x p = Str.ofString "") : (Str.ofString "", p + 1, n + lineUp (chF x p)) = R := by
 rw [scanO,if_pos he] at hS; exact Option.some.inj hS
theorem ws_yes {y : Str} (h : (PySem.Builtin.Str.occurrences (Str.ofString "\n\t\x0d ") y 0 (Str.ofString "\n\t\x0d ").length 1).isEmpty = false) : isWs y = true := by unfold isWs; rw [h]; rfl
theorem ws_no {y : Str} (h : (PySem.Builtin.Str.occurrences (Str.ofString "\n\t\x0d ") y 0 (Str.ofString "\n\t\x0d ").length 1).isEmpty = true) : ¬ isWs y = true := by unfold isWs; rw [h]; decide
theorem ff {b : Bool} (h : b = false) : ¬ b = true := h ▸ Bool.false_ne_true
theorem gB_ws (hS : scanB x (k + 1) p n tok = some R) (hne : ¬ chF x p = Str.ofString "") (h : isWs (chF x p) = true) : (tok, p + 1, n + lineUp (chF x p)) = R := by
 rw [scanB,if_neg hne,if_pos h] at hS; exact Option.some.inj hS
theorem gB_esc (hS : scanB x (k + 1) p n tok = some R) (hne : ¬ chF x p = Str.ofString "") (h : ¬ isWs (chF x p) = true) (h2 : (chF x p == Str.ofString "\\") = true) : scanB x k (p + 1 + 1) (n + lineUp (chF x p) + lineUp (chF x (p + 1))) (tok ++ chF x (p + 1)) = some R := by
 rw [scanB,if_neg hne,if_neg h,if_pos h2] at hS; exact hS
theorem gB_go (hS : scanB x (k + 1) p n tok = some R) (hne : ¬ chF x p = Str.ofString "") (h : ¬ isWs (chF x p) = true) (h2 : (chF x p == Str.ofString "\\") = false) : scanB x k (p + 1) (n + lineUp (chF x p)) (tok ++ chF x p) = some R := by
 rw [scanB,if_neg hne,if_neg h,if_neg (ff h2)] at hS; exact hS
theorem gA_q (hS : scanA x (k + 1) p n tok = some R) (hne : ¬ chF x p = Str.ofString "") (h : (chF x p == Str.ofString "\"") = true) : (tok, p + 1, n + lineUp (chF x p)) = R := by
 rw [scanA,if_neg hne,if_pos h] at hS; exact Option.some.inj hS
theorem gA_esc (hS : scanA x (k + 1) p n tok = some R) (hne : ¬ chF x p = Str.ofString "") (h : (chF x p == Str.ofString "\"") = false) (h2 : (chF x p == Str.ofString "\\") = true) : scanA x k (p + 1 + 1) (n + lineUp (chF x p) + lineUp (chF x (p + 1))) (tok ++ chF x (p + 1)) = some R := by
 rw [scanA,if_neg hne,if_neg (ff h),if_pos h2] at hS; exact hS
theorem gA_go (hS : scanA x (k + 1) p n tok = some R) (hne : ¬ chF x p = Str.ofString "") (h : (chF x p == Str.ofString "\"") = false) (h2 : (chF x p == Str.ofString "\\") = false) : scanA x k (p + 1) (n + lineUp (chF x p)) (tok ++ chF x p) = some R := by
 rw [scanA,if_neg hne,if_neg (ff h),if_neg (ff h2)] at hS; exact hS
theorem gO_ws (hS : scanO x (k + 1) p n = some R) (hne : ¬ chF x p = Str.ofString "") (h : isWs (chF x p) = true) : scanO x k (p + 1) (n + lineUp (chF x p)) = some R := by
 rw [scanO,if_neg hne,if_pos h] at hS; exact hS
theorem gO_q (hS : scanO x (k + 1) p n = some R) (hne : ¬ chF x p = Str.ofString "") (h : ¬ isWs (chF x p) = true) (h1 : (chF x p == Str.ofString "\"") = true) : scanA x k (p + 1) (n + lineUp (chF x p)) (Str.ofString "") = some R := by
 rw [scanO,if_neg hne,if_neg h,if_pos h1] at hS; exact hS
theorem gO_esc (hS : scanO x (k + 1) p n = some R) (hne : ¬ chF x p = Str.ofString "") (h : ¬ isWs (chF x p) = true) (h1 : (chF x p == Str.ofString "\"") = false) (h2 : (chF x p == Str.ofString "\\") = true) : scanB x k (p + 1 + 1) (n + lineUp (chF x p) + lineUp (chF x (p + 1))) (Str.ofString "" ++ chF x (p + 1)) = some R := by
 rw [scanO,if_neg hne,if_neg h,if_neg (ff h1),if_pos h2] at hS; exact hS
theorem gO_go (hS : scanO x (k + 1) p n = some R) (hne : ¬ chF x p = Str.ofString "") (h : ¬ isWs (chF x p) = true) (h1 : (chF x p == Str.ofString "\"") = false) (h2 : (chF x p == Str.ofString "\\") = false) : scanB x k (p + 1) (n + lineUp (chF x p)) (Str.ofString "" ++ chF x p) = some R := by
 rw [scanO,if_neg hne,if_neg h,if_neg (ff h1),if_neg (ff h2)] at hS; exact hS
end

section

local macro_rules | `(tactic| walk_at "exec For Name Name cons nil") => `(tactic| (k_dflt (refine for_start ?_)))
local macro_rules | `(tactic| walk_at "pyIter ref") => `(tactic| (k_dflt (refine pyIter_citK (by k_asm) (by k_mem) ?_)))

section
local macro_rules | `(tactic| walk_at $s) => if ["call builtin:iter","inplaceOp Add str str","truthy ref"].contains s.getString then `(tactic| refine stq_it $s ?_) else Lean.Macro.throwUnsupported
local macro_rules | `(tactic| walk_at "callWith ref") => `(tactic| (k_dflt (refine @callWith_K0 _ _ _ _ _ _ _ _ _ _ (by k_in) (by k_is) ?_; k_whole)))
local macro_rules | `(tactic| walk_at "my letm") => `(tactic| skip)
local macro_rules | `(tactic| walk_at "assign Name") => `(tactic| (k_dflt (refine wpAny_assign_Name ?_)))
theorem no_list {w : World} {A : Around} {E : Value -> Shared -> Prop} {s : Shared} {l : Addr} {Q : Bool -> Shared -> Prop} (hl : s.heap.IsList l #[]) (h : Q false { s with toks := s.toks + 1 + 1 }) : wpAny (model rw_xg0057_01.row.prog w) A (truthy (.ref l)) Q E s := wpAny_truthy_list hl (by decide) h
noncomputable def GtPost {w : World} {mg : Str -> Option Value} {x : Str} (q : Lx w mg x) (R : Str × Nat × Int) (nl : Nat) (rest : List (Addr × Obj)) (v : Value) (new : List (Addr × Obj)) : Prop :=
 ∀ G : Prop,(∀ (tv : Tok),v = .str R.1 tv -> LxAt q new R.2.1 R.2.2 #[] nl rest -> G) -> G
theorem fr_init {g h : Heap} {L xl it : Addr} {tok : Str} {tt : Tok} (F : Fr g L h (fun z => if z = Str.ofString "fiter" then some (.ref it) else if z = Str.ofString "token" then some (.str tok tt) else List.lookup z [(Str.ofString "self", Value.ref xl)])) : Fr g L h (canonM xl it tok tt none) :=
 fr_eq F fun z => by
  by_cases h1 : z = Str.ofString "token"
  ·subst h1; rfl
  ·by_cases h2 : z = Str.ofString "fiter"
   ·subst h2; rfl
   ·by_cases h3 : z = Str.ofString "self"
    ·subst h3; rfl
    ·simp only [canonM,if_neg h1,if_neg h2,if_neg h3,ite_self]
     unfold List.lookup
     rw [show (z == Str.ofString "self") = false from by simpa using h3]
     rfl
theorem gt_facts {w : World} {mg : Str -> Option Value} {x : Str} {q : Lx w mg x} {p : Nat} {n : Int} {nl : Nat} {rest zz : List (Addr × Obj)} {it qq L : Addr} {ti : Tok} {g h : Heap} {G : Prop} (N : News g L h ((it, citO (.ref qq) (.str (Str.ofString "") ti)) :: (qq, methodObj (.ref 99) (.ref q.xl)) :: zz)) (hz : LxAt q zz p n #[] nl rest) (hr : ∀ b ∈ rest, b.1 ≠ q.sp ∧ b.1 ≠ q.d) (l1 : ∀ b ∈ zz, b.1 < qq) (l2 : qq < it ∧ AllLt it zz)
  (k : ∀ (qq : Addr) (ti : Tok), News g L h ((it, citO (.ref qq) (.str (Str.ofString "") ti)) :: (qq, methodObj (.ref 99) (.ref q.xl)) :: zz) -> (∀ b ∈ [(it, citO (.ref qq) (.str (Str.ofString "") ti)), (qq, methodObj (.ref 99) (.ref q.xl))] ++ rest, b.1 ≠ q.sp ∧ b.1 ≠ q.d) -> (∀ b ∈ (qq, methodObj (.ref 99) (.ref q.xl)) :: rest, b.1 ≠ it) -> @LT.lt Nat _ q.xl it -> @Ne Nat q.l it -> G) : G := by
 refine (?f : Cln _) ?p ⟨?q,fun B k => ?r⟩
 case f => exact fun x _ => x
 case q =>
  obtain ⟨tp,nn,tn,rfl⟩ := hz
  have l3 := allLt_to l2.2
  have hs : (q.sp,W.listOf #[.int (p : Int) tp] nn) ∈ q.news (p : Int) tp nn n tn #[] nl rest := .head _
  have hd := Lx.mem_d (q := q) (p := (p : Int)) (tp := tp) (nn := nn) (n := n) (tn := tn) (its := #[]) (nl := nl) (rest := rest) rfl
  exact k qq ti N (List.forall_mem_cons.mpr ⟨⟨ngt (l3 _ hs),ngt (l3 _ hd)⟩,List.forall_mem_cons.mpr ⟨⟨ngt (l1 _ hs),ngt (l1 _ hd)⟩,hr⟩⟩) (List.forall_mem_cons.mpr ⟨nlt l2.1,fun b hb => nlt (l3 b (Lx.mem_r rfl hb))⟩) (l3 _ (Lx.mem_x rfl)) (nlt (l3 _ (Lx.mem_l rfl)))
 case r => (try delta id); (conv => zeta); exact k
theorem init_len {fuel : Nat} {n : Int} (h : 0 <= n ∧ n + 2 * (fuel : Int) <= 1000) : (Str.ofString "").length + fuel <= 2000 := by
 have : (Str.ofString "").length = 0 := by decide
 lia
theorem cut_fin {M : Model} {A : Around} {env : Env} {Q : Flow -> Shared -> Prop} {E : Value -> Shared -> Prop} {s : Shared} {ss : List Stmt} (k : Nat) (P : Shared -> Prop)
  (fin : ∀ s',P s' -> wpAny M A (execs (ss.drop k) env) Q E s')
  (h : wpAny M A (execs (ss.take k) env) (fun f s' => match f with | .next => P s' | f => Q f s') E s) : wpAny M A (execs ss env) Q E s := fun Γ p hΓ => by
 rw [← List.take_append_drop k ss]
 refine wp_app _ _ p s (Sem.wp_mono M Γ _ (fun f p' s' h' => ?_) (fun _ _ _ h' => h') _ _ (h Γ p hΓ))
 cases f with
 | next => exact fin s' h' Γ p' hΓ
 | brk => exact h'
 | cont => exact h'
 | ret v => exact h'
theorem hold_it {P : Prop} (h : Hold P) : P := h
local macro_rules | `(tactic| walk_at "execs cons") => `(tactic| ((with_reducible show wpAny _ _ (execs [Stmt.If _ _ [] _, Stmt.AugAssign _ _ _ _, Stmt.For _ _ _ _ _] _) _ _ _); refine hold_it ?_))
theorem fr_cc {g h : Heap} {L xl it : Addr} {tok : Str} {tt : Tok} {och : Option Value} {v u : Value} (F : Fr g L h (fun z => if z = Str.ofString "ch" then some v else if z = Str.ofString "ch" then some u else canonM xl it tok tt och z)) : Fr g L h (canonM xl it tok tt (some v)) :=
 fr_c (och := some u) (fr_eq F fun z => by rw [← canon_ch xl it tok tt och u])
theorem fr_t {g h : Heap} {L xl it : Addr} {tok tok' : Str} {tt tt' : Tok} {och : Option Value} (F : Fr g L h (fun z => if z = Str.ofString "token" then some (.str tok' tt') else canonM xl it tok tt och z)) : Fr g L h (canonM xl it tok' tt' och) := canon_tok xl it tok tok' tt tt' och ▸ F
theorem sg_len {n : Int} {k : Nat} {y : Str} (h : 0 <= n) (h2 : n + 2 * (k : Int) <= 1000) (hy : y.length <= 1) : (Str.ofString "" ++ y).length + k <= 2000 := by
 rw [Str.length_append]
 have : (Str.ofString "").length = 0 := by decide
 lia
noncomputable def SgI {w : World} {mg : Str -> Option Value} {x : Str} (q : Lx w mg x) (g : Heap) (L : Addr) (s : Shared) (it qq : Addr) (ti : Tok) (nl : Nat) (rest : List (Addr × Obj)) (R : Str × Nat × Int) (k : Nat) (s' : Shared) : Prop :=
 ∀ G : Prop, (∀ (p : Nat) (n : Int) (y : Str) (ty tt : Tok) (zz : List (Addr × Obj)) (h' : Heap) (tk' : Nat), s' = { s with heap := h', toks := tk' } -> p + 2 * k <= 100000 -> 0 <= n -> n + 2 * (k : Int) <= 1000 -> y.length <= 1 -> Fr g L h' (canonM q.xl it (Str.ofString "") tt (some (.str y ty))) ->
  News g L h' ((it, citO (.ref qq) (.str (Str.ofString "") ti)) :: (qq, methodObj (.ref 99) (.ref q.xl)) :: zz) -> LxAt q zz p n #[] nl rest -> scanB x k p n (Str.ofString "" ++ y) = some R -> G) -> G
theorem room_add {u k c : Nat} (h : u + (k + 1) <= 2000) (hc : c <= 1) : u + c <= sizeLine := by rw [PySem.sizeLine_eq]; lia
theorem room_one {c : Nat} (hc : c <= 1) : (Str.ofString "").length + c <= sizeLine := Nat.le_trans (Nat.add_le_add_left hc _) (by decide)
theorem ctr_gt {w : World} {mg : Str -> Option Value} {x : Str} (q : Lx w mg x) (p fuel : Nat) (hp : p + 2 * fuel <= 100000) (n : Int) (hn : 0 <= n ∧ n + 2 * (fuel : Int) <= 1000) (nl : Nat) (rest zz : List (Addr × Obj)) (hz : LxAt q zz p n #[] nl rest) (hr : ∀ b ∈ rest,b.1 ≠ q.sp ∧ b.1 ≠ q.d) (R : Str × Nat × Int) (hR : scanO x fuel p n = some R) :
  CtrC w mg 106 [.ref q.xl] zz 6 (GtPost q R nl rest) := by
 refine (?f : Cln _) ?p ⟨?q,fun B k => ?r⟩
 case f => exact fun x _ => x
 case q =>
  have mx := hz.mem_x
  have ml := hz.mem_l
  obtain ⟨tn,md⟩ := hz.mem_d
  unfold CtrC
  intro mean mb loose dp un gd cn cs a ccd cl outer A₀ base h₀ L m s Q E CH B F KX N T hk hd hu hret
  revert KX; k_fill; intro KX
  refine wpAny_call ?_
  k_dflt (((
  refine' code_def ?k1 ?k2 ?k3 ?k4 ?k5 ?kA ?kF ?kK ?k6 ?k7 ?k8 ?k9 ?kB ?_ ?c2 ?c3 ?c4 ?c5; (case kA => exact rfl); (case kF => exact rfl); (case kK => first | exact rfl | assumption)
  (case k1 => k_asm); (case k2 => k_asm); (case k3 => k_asm); (case k4 => k_asm); (case k5 => k_asm); (case k6 => k_is); (case k7 => k_is); (case k8 => ktr_room); (case k9 => exact BindsTo.of_eq rfl); (case c5 => decide); (case kB => exact locs rfl)
  (case c2 => exact rfl); (case c3 => exact rfl); (case c4 => exact rfl); k_whole; intro g' L' h' FG' F' N' B' X' T'; (try dsimp only); (try k_lift B'); (try k_fold))))
  (k_steps; repeat' ((first | (refine stq_out "inplaceOp Add str str" ?_; (k_here; (with_reducible refine SBL.iadd ?_ ?hsz); (case hsz => first | exact room_add a4 (chF_len _ _) | exact room_one hy); intro _ _ _)) | (refine stq_out "call ref" ?_; (k_here; k_dflt (refine' wpAny_call (code_rcq (q := q) (p := p + 1) (pre := [_, _]) b2.1 b2.2 hz' r1 ?k0 ?k1 ?k2 ?k3 ?k4 ?k5 ?kK ?kd ?ku ?_)); (case k0 => assumption); (case k4 => k_asm); (case k2 => k_asm); (case k1 => k_asm); (case k3 => k_asm); (case k5 => k_asm); (case kK => first | exact rfl | assumption); (case kd => ktr_room); (case ku => ktr_units); k_whole; intro tv' h' tk' zz2 hz2 F' N'; (try dsimp only [List.cons_append, List.nil_append] at N'); (try dsimp only))) | (refine stq_out "truthy ref" ?_; (k_here; k_dflt (refine no_list (News.isList (by k_asm) (by k_mem)) ?_))) | (refine stq_out "call builtin:iter" ?_; (k_here; (with_reducible show wpAny _ _ (call (Value.builtin "iter") [Value.ref _, Value.str _ _]) _ _ _); k_dflt (refine' iter_K ?k1 ?k2 ?k3 ?_; (case k1 => k_asm); (case k2 => k_asm); (case k3 => k_mem)); intro it' h' F' N' l1; (try k_lt l1))) | fail) <;> k_steps))
  rename Fr _ _ _ _ => F9
  rename News _ _ _ _ => N9
  refine gt_facts N9 hz hr (by assumption) (by assumption) fun qq ti N8 r1 r2 r3 r4 => ?_
  refine for_inv (by first | passes_own | with_unfolding_all passes_own) (TokI q g' L' s it' qq ti nl rest (· = Str.ofString "") (fun k p n _ => scanO x k p n) R) ?turn fuel (fun G k => k p n _ _ _ zz _ _ rfl hp hn.1 hn.2 (init_len hn) rfl (fr_init F9) N8 hz hR)
  clear hp hn hz hR mx ml md F9 N9 N8
  ((
  intro k s' hI;
  refine hI _ (fun p n tok tt och zz h' tk' es a1 a2 a3 a4 hP F' N' hz hS => ?_);
  subst es;
  rcases k with _ | k;
  (case zero => cases hS);
  obtain ⟨b1,b2⟩ := nums_rc a1 a2 a3 (lineUp_le (chF x p)) (lineUp_ge (chF x p));
  k_dflt (refine' nx_q b1.1 b1.2 hz r1 r2 r3 r4 ?k0 ?k1 ?k2 ?k3 ?k4 ?k5 ?kK ?kd ?ku ?h1 ?h2);
  (case k0 => assumption); (case k2 => exact F'); (case k4 => exact N'); (case k1 => k_asm); (case k3 => k_asm); (case k5 => k_asm); (case kK => first | exact rfl | assumption); (case kd => ktr_room); (case ku => ktr_units)))
  case h2 =>
   intro he h' tk' zz' hz' F' N'
   have e9 := gO_end hS he
   subst e9 hP
   (k_steps; repeat' ((first | (refine stq_out "inplaceOp Add str str" ?_; (k_here; (with_reducible refine SBL.iadd ?_ ?hsz); (case hsz => first | exact room_add a4 (chF_len _ _) | exact room_one hy); intro _ _ _)) | (refine stq_out "call ref" ?_; (k_here; k_dflt (refine' wpAny_call (code_rcq (q := q) (p := p + 1) (pre := [_, _]) b2.1 b2.2 hz' r1 ?k0 ?k1 ?k2 ?k3 ?k4 ?k5 ?kK ?kd ?ku ?_)); (case k0 => assumption); (case k4 => k_asm); (case k2 => k_asm); (case k1 => k_asm); (case k3 => k_asm); (case k5 => k_asm); (case kK => first | exact rfl | assumption); (case kd => ktr_room); (case ku => ktr_units); k_whole; intro tv' h' tk' zz2 hz2 F' N'; (try dsimp only [List.cons_append, List.nil_append] at N'); (try dsimp only))) | (refine stq_out "truthy ref" ?_; (k_here; k_dflt (refine no_list (News.isList (by k_asm) (by k_mem)) ?_))) | (refine stq_out "call builtin:iter" ?_; (k_here; (with_reducible show wpAny _ _ (call (Value.builtin "iter") [Value.ref _, Value.str _ _]) _ _ _); k_dflt (refine' iter_K ?k1 ?k2 ?k3 ?_; (case k1 => k_asm); (case k2 => k_asm); (case k3 => k_mem)); intro it' h' F' N' l1; (try k_lt l1))) | fail) <;> k_steps))
   exact hret _ _ _ _ (fun G k => k _ rfl hz') (by k_asm) (cb_drop (by k_asm) (sb_skip sb_refl))
  case h1 =>
   ((
  intro hne tv h' tk' zz' hz' F' N';
  have mx := hz'.mem_x;
  obtain ⟨tn,md⟩ := hz'.mem_d;
  (try dsimp only)))
   subst hP
   (k_steps; repeat' ((first | (refine stq_out "inplaceOp Add str str" ?_; (k_here; (with_reducible refine SBL.iadd ?_ ?hsz); (case hsz => first | exact room_add a4 (chF_len _ _) | exact room_one hy); intro _ _ _)) | (refine stq_out "call ref" ?_; (k_here; k_dflt (refine' wpAny_call (code_rcq (q := q) (p := p + 1) (pre := [_, _]) b2.1 b2.2 hz' r1 ?k0 ?k1 ?k2 ?k3 ?k4 ?k5 ?kK ?kd ?ku ?_)); (case k0 => assumption); (case k4 => k_asm); (case k2 => k_asm); (case k1 => k_asm); (case k3 => k_asm); (case k5 => k_asm); (case kK => first | exact rfl | assumption); (case kd => ktr_room); (case ku => ktr_units); k_whole; intro tv' h' tk' zz2 hz2 F' N'; (try dsimp only [List.cons_append, List.nil_append] at N'); (try dsimp only))) | (refine stq_out "truthy ref" ?_; (k_here; k_dflt (refine no_list (News.isList (by k_asm) (by k_mem)) ?_))) | (refine stq_out "call builtin:iter" ?_; (k_here; (with_reducible show wpAny _ _ (call (Value.builtin "iter") [Value.ref _, Value.str _ _]) _ _ _); k_dflt (refine' iter_K ?k1 ?k2 ?k3 ?_; (case k1 => k_asm); (case k2 => k_asm); (case k3 => k_mem)); intro it' h' F' N' l1; (try k_lt l1))) | fail) <;> k_steps))
   ·rename (PySem.Builtin.Str.occurrences _ _ _ _ _).isEmpty = _ => hw
    rename (chF x p == Str.ofString "\"") = true => hq
    rename Fr _ _ _ _ => F9
    rename News _ _ _ _ => N9
    refine for_inv (by first | passes_own | with_unfolding_all passes_own) (TokI q g' L' s it' qq ti nl rest (fun _ => True) (scanA x) R) ?turnA k (TokI.stay a1 a2 a3 a4 N9 trivial (fr_c F9) hz' (gO_q hS hne (ws_no hw) hq))
    clear F9 N9 hw hq hS hz hz' hne mx md a1 a2 a3 a4 b1 b2 hI
    ((
  intro k s' hI;
  refine hI _ (fun p n tok tt och zz h' tk' es a1 a2 a3 a4 hP F' N' hz hS => ?_);
  subst es;
  rcases k with _ | k;
  (case zero => cases hS);
  obtain ⟨b1,b2⟩ := nums_rc a1 a2 a3 (lineUp_le (chF x p)) (lineUp_ge (chF x p));
  k_dflt (refine' nx_q b1.1 b1.2 hz r1 r2 r3 r4 ?k0 ?k1 ?k2 ?k3 ?k4 ?k5 ?kK ?kd ?ku ?h1 ?h2);
  (case k0 => assumption); (case k2 => exact F'); (case k4 => exact N'); (case k1 => k_asm); (case k3 => k_asm); (case k5 => k_asm); (case kK => first | exact rfl | assumption); (case kd => ktr_room); (case ku => ktr_units)))
    case h2 => exact fun he => (gA_end hS he).elim
    case h1 =>
     ((
  intro hne tv h' tk' zz' hz' F' N';
  have mx := hz'.mem_x;
  obtain ⟨tn,md⟩ := hz'.mem_d;
  (try dsimp only)))
     (k_steps; repeat' ((first | (refine stq_out "inplaceOp Add str str" ?_; (k_here; (with_reducible refine SBL.iadd ?_ ?hsz); (case hsz => first | exact room_add a4 (chF_len _ _) | exact room_one hy); intro _ _ _)) | (refine stq_out "call ref" ?_; (k_here; k_dflt (refine' wpAny_call (code_rcq (q := q) (p := p + 1) (pre := [_, _]) b2.1 b2.2 hz' r1 ?k0 ?k1 ?k2 ?k3 ?k4 ?k5 ?kK ?kd ?ku ?_)); (case k0 => assumption); (case k4 => k_asm); (case k2 => k_asm); (case k1 => k_asm); (case k3 => k_asm); (case k5 => k_asm); (case kK => first | exact rfl | assumption); (case kd => ktr_room); (case ku => ktr_units); k_whole; intro tv' h' tk' zz2 hz2 F' N'; (try dsimp only [List.cons_append, List.nil_append] at N'); (try dsimp only))) | (refine stq_out "truthy ref" ?_; (k_here; k_dflt (refine no_list (News.isList (by k_asm) (by k_mem)) ?_))) | (refine stq_out "call builtin:iter" ?_; (k_here; (with_reducible show wpAny _ _ (call (Value.builtin "iter") [Value.ref _, Value.str _ _]) _ _ _); k_dflt (refine' iter_K ?k1 ?k2 ?k3 ?_; (case k1 => k_asm); (case k2 => k_asm); (case k3 => k_mem)); intro it' h' F' N' l1; (try k_lt l1))) | fail) <;> k_steps))
     ·rename (chF x p == Str.ofString "\"") = true => hq
      have e9 := gA_q hS hne hq
      subst e9
      exact hret _ _ _ _ (fun G k => k _ rfl hz') (by k_asm) (cb_drop (by k_asm) (sb_skip (sb_skip sb_refl)))
     ·rename (chF x p == Str.ofString "\"") = false => hq
      rename (chF x p == Str.ofString "\\") = true => hb
      rename Fr _ _ _ _ => F9
      rename News _ _ _ _ => N9
      exact ⟨k,Nat.lt_succ_self k,TokI.step2 a1 a2 a3 a4 N9 trivial (fr_tcc F9) hz2 (gA_esc hS hne hq hb)⟩
     ·rename (chF x p == Str.ofString "\"") = false => hq
      rename (chF x p == Str.ofString "\\") = false => hb
      rename Fr _ _ _ _ => F9
      rename News _ _ _ _ => N9
      exact ⟨k,Nat.lt_succ_self k,TokI.step1 a1 a2 a3 a4 N9 trivial (fr_tc F9) hz' (gA_go hS hne hq hb)⟩
   ·rename (PySem.Builtin.Str.occurrences _ _ _ _ _).isEmpty = _ => hw
    rename (chF x p == Str.ofString "\"") = false => hq
    refine cut_fin 1 (SgI q g' L' s it' qq ti nl rest R k) ?fin9 ?hd9
    case hd9 =>
     dsimp only [List.take]
     (k_steps; repeat' ((first | (refine stq_out "inplaceOp Add str str" ?_; (k_here; (with_reducible refine SBL.iadd ?_ ?hsz); (case hsz => first | exact room_add a4 (chF_len _ _) | exact room_one hy); intro _ _ _)) | (refine stq_out "call ref" ?_; (k_here; k_dflt (refine' wpAny_call (code_rcq (q := q) (p := p + 1) (pre := [_, _]) b2.1 b2.2 hz' r1 ?k0 ?k1 ?k2 ?k3 ?k4 ?k5 ?kK ?kd ?ku ?_)); (case k0 => assumption); (case k4 => k_asm); (case k2 => k_asm); (case k1 => k_asm); (case k3 => k_asm); (case k5 => k_asm); (case kK => first | exact rfl | assumption); (case kd => ktr_room); (case ku => ktr_units); k_whole; intro tv' h' tk' zz2 hz2 F' N'; (try dsimp only [List.cons_append, List.nil_append] at N'); (try dsimp only))) | (refine stq_out "truthy ref" ?_; (k_here; k_dflt (refine no_list (News.isList (by k_asm) (by k_mem)) ?_))) | (refine stq_out "call builtin:iter" ?_; (k_here; (with_reducible show wpAny _ _ (call (Value.builtin "iter") [Value.ref _, Value.str _ _]) _ _ _); k_dflt (refine' iter_K ?k1 ?k2 ?k3 ?_; (case k1 => k_asm); (case k2 => k_asm); (case k3 => k_mem)); intro it' h' F' N' l1; (try k_lt l1))) | fail) <;> k_steps))
     all_goals (
      dsimp only
      rename Fr _ _ _ _ => F9
      rename News _ _ _ _ => N9)
     ·obtain ⟨d1,d2,d3,_⟩ := nums2 (c := 0) a1 a2 a3 a4 (Nat.zero_le 1) (lineUp_le (chF x p)) (lineUp_ge (chF x p)) (lineUp_le (chF x (p + 1))) (lineUp_ge (chF x (p + 1)))
      exact fun G kk => kk (p + 1 + 1) _ _ _ _ zz2 _ _ rfl d1 d2 d3 (chF_len x (p + 1)) (fr_cc F9) N9 hz2 (gO_esc hS hne (ws_no hw) hq (by assumption))
     ·obtain ⟨d1,d2,d3,_⟩ := nums1 (c := 0) a1 a2 a3 a4 (Nat.zero_le 1) (lineUp_le (chF x p)) (lineUp_ge (chF x p))
      exact fun G kk => kk (p + 1) _ _ _ _ zz' _ _ rfl d1 d2 d3 (chF_len x p) (fr_c F9) N9 hz' (gO_go hS hne (ws_no hw) hq (by assumption))
    case fin9 =>
     clear hS hz hz' hne mx md a1 a2 a3 a4 b1 b2 hI hw hq
     intro s' hI
     refine hI _ (fun p n y ty tt zz h' tk' es a1 a2 a3 hy F' N' hz hS => ?_)
     subst es
     dsimp only [List.drop]
     (k_steps; repeat' ((first | (refine stq_out "inplaceOp Add str str" ?_; (k_here; (with_reducible refine SBL.iadd ?_ ?hsz); (case hsz => first | exact room_add a4 (chF_len _ _) | exact room_one hy); intro _ _ _)) | (refine stq_out "call ref" ?_; (k_here; k_dflt (refine' wpAny_call (code_rcq (q := q) (p := p + 1) (pre := [_, _]) b2.1 b2.2 hz' r1 ?k0 ?k1 ?k2 ?k3 ?k4 ?k5 ?kK ?kd ?ku ?_)); (case k0 => assumption); (case k4 => k_asm); (case k2 => k_asm); (case k1 => k_asm); (case k3 => k_asm); (case k5 => k_asm); (case kK => first | exact rfl | assumption); (case kd => ktr_room); (case ku => ktr_units); k_whole; intro tv' h' tk' zz2 hz2 F' N'; (try dsimp only [List.cons_append, List.nil_append] at N'); (try dsimp only))) | (refine stq_out "truthy ref" ?_; (k_here; k_dflt (refine no_list (News.isList (by k_asm) (by k_mem)) ?_))) | (refine stq_out "call builtin:iter" ?_; (k_here; (with_reducible show wpAny _ _ (call (Value.builtin "iter") [Value.ref _, Value.str _ _]) _ _ _); k_dflt (refine' iter_K ?k1 ?k2 ?k3 ?_; (case k1 => k_asm); (case k2 => k_asm); (case k3 => k_mem)); intro it' h' F' N' l1; (try k_lt l1))) | fail) <;> k_steps))
     rename Fr _ _ _ _ => F9
     rename News _ _ _ _ => N9
     refine for_inv (by first | passes_own | with_unfolding_all passes_own) (TokI q g' L' s it' qq ti nl rest (fun _ => True) (scanB x) R) ?turnB k (fun G kk => kk p n _ _ _ zz _ _ rfl a1 a2 a3 (sg_len a2 a3 hy) trivial (fr_t F9) N9 hz hS)
     clear F9 N9 hS hz hI a1 a2 a3 hy
     ((
  intro k s' hI;
  refine hI _ (fun p n tok tt och zz h' tk' es a1 a2 a3 a4 hP F' N' hz hS => ?_);
  subst es;
  rcases k with _ | k;
  (case zero => cases hS);
  obtain ⟨b1,b2⟩ := nums_rc a1 a2 a3 (lineUp_le (chF x p)) (lineUp_ge (chF x p));
  k_dflt (refine' nx_q b1.1 b1.2 hz r1 r2 r3 r4 ?k0 ?k1 ?k2 ?k3 ?k4 ?k5 ?kK ?kd ?ku ?h1 ?h2);
  (case k0 => assumption); (case k2 => exact F'); (case k4 => exact N'); (case k1 => k_asm); (case k3 => k_asm); (case k5 => k_asm); (case kK => first | exact rfl | assumption); (case kd => ktr_room); (case ku => ktr_units)))
     case h2 => exact fun he => (gB_end hS he).elim
     case h1 =>
      ((
  intro hne tv h' tk' zz' hz' F' N';
  have mx := hz'.mem_x;
  obtain ⟨tn,md⟩ := hz'.mem_d;
  (try dsimp only)))
      (k_steps; repeat' ((first | (refine stq_out "inplaceOp Add str str" ?_; (k_here; (with_reducible refine SBL.iadd ?_ ?hsz); (case hsz => first | exact room_add a4 (chF_len _ _) | exact room_one hy); intro _ _ _)) | (refine stq_out "call ref" ?_; (k_here; k_dflt (refine' wpAny_call (code_rcq (q := q) (p := p + 1) (pre := [_, _]) b2.1 b2.2 hz' r1 ?k0 ?k1 ?k2 ?k3 ?k4 ?k5 ?kK ?kd ?ku ?_)); (case k0 => assumption); (case k4 => k_asm); (case k2 => k_asm); (case k1 => k_asm); (case k3 => k_asm); (case k5 => k_asm); (case kK => first | exact rfl | assumption); (case kd => ktr_room); (case ku => ktr_units); k_whole; intro tv' h' tk' zz2 hz2 F' N'; (try dsimp only [List.cons_append, List.nil_append] at N'); (try dsimp only))) | (refine stq_out "truthy ref" ?_; (k_here; k_dflt (refine no_list (News.isList (by k_asm) (by k_mem)) ?_))) | (refine stq_out "call builtin:iter" ?_; (k_here; (with_reducible show wpAny _ _ (call (Value.builtin "iter") [Value.ref _, Value.str _ _]) _ _ _); k_dflt (refine' iter_K ?k1 ?k2 ?k3 ?_; (case k1 => k_asm); (case k2 => k_asm); (case k3 => k_mem)); intro it' h' F' N' l1; (try k_lt l1))) | fail) <;> k_steps))
      all_goals (
       rename (PySem.Builtin.Str.occurrences _ _ _ _ _).isEmpty = _ => hw
       (try rename Fr _ _ _ _ => F9)
       (try rename News _ _ _ _ => N9))
      ·exact ⟨k,Nat.lt_succ_self k,TokI.step2 a1 a2 a3 a4 N9 trivial (fr_tcc F9) hz2 (gB_esc hS hne (ws_no hw) (by assumption))⟩
      ·exact ⟨k,Nat.lt_succ_self k,TokI.step1 a1 a2 a3 a4 N9 trivial (fr_tc F9) hz' (gB_go hS hne (ws_no hw) (by assumption))⟩
      ·have e9 := gB_ws hS hne (ws_yes hw)
       subst e9
       exact hret _ _ _ _ (fun G k => k _ rfl hz') (by k_asm) (cb_drop (by k_asm) (sb_skip (sb_skip sb_refl)))
   ·rename (PySem.Builtin.Str.occurrences _ _ _ _ _).isEmpty = _ => hw
    rename Fr _ _ _ _ => F9
    rename News _ _ _ _ => N9
    exact ⟨k,Nat.lt_succ_self k,TokI.stay a1 a2 a3 a4 N9 rfl (fr_c F9) hz' (gO_ws hS hne (ws_yes hw))⟩
 case r => delta id stq_it stq_out; exact k
end

example {M : Model} {A : Around} {env : Env} {Q : Flow -> Shared -> Prop} {E : Value -> Shared -> Prop} {s : Shared} (h : Q .next s) : wpAny M A (execs [] env) Q E s := by first | (walk1; exact h) | exact wpAny_execs_nil h

end

example {M : Model} {A : Around} {env : Env} {Q : Flow -> Shared -> Prop} {E : Value -> Shared -> Prop} {s : Shared} (h : Q .next s) : wpAny M A (execs [] env) Q E s := by first | (walk1; exact h) | exact wpAny_execs_nil h

section
local macro_rules | `(tactic| walk_at $s) => if ["call builtin:list.pop"].contains s.getString then `(tactic| refine stq_it $s ?_) else Lean.Macro.throwUnsupported
theorem ctr_push (w : World) (l xl d : Addr) (n : Int) (tn k0 k1 k2 k3 tw : Tok) (st : Value) (its : Array Value) (hits : its.size <= 1000) (nl : Nat) (y : Str) (t : Tok) (rest : List (Addr × Obj)) (hr : ∀ q ∈ rest,q.1 ≠ l) (hl : @Ne Nat l d ∧ @Ne Nat l xl) :
  Ctr w 113 [.ref xl,.str y t] ((l,W.listOf its nl) :: (d,dictOf (lexE w n tn k0 k1 k2 k3 tw st l) 4) :: (xl,instObj 116 d) :: rest) 3 (fun v new => ∃ nl',new = (l,W.listOf (its.push (.str y t)) nl') :: (d,dictOf (lexE w n tn k0 k1 k2 k3 tw st l) 4) :: (xl,instObj 116 d) :: rest) := by
 refine (?f : Cln _) ?p ⟨?q,fun B k => ?r⟩
 case f => exact fun x _ => x
 case q =>
  ((
  unfold Ctr
  intro mean mg mb loose dp un gd cn cs a ccd cl outer A₀ base h₀ L m s Q E B F KX N T hk hd hu hret
  revert KX; k_fill; intro KX
  refine wpAny_call ?_
  k_dflt ((first
  | cell_enter
  | (refine' code_defC ?k1 ?k2 ?k3 ?k4 ?k5 ?kA ?kF ?kK ?k6 ?k7 ?k8 ?k9 ?kB ?kD ?_ ?c2 ?c3 ?c4; (case kA => exact rfl); (case kF => exact rfl); (case kK => assumption); (case k1 => k_asm); (case k2 => k_asm); (case k3 => k_asm); (case k4 => k_asm); (case k5 => k_asm); (case k6 => k_is); (case k7 => k_is); (case k8 => ktr_room); (case k9 => exact BindsTo.of_eq rfl); (case kB => exact rfl); (case kD => decide +kernel); (case c2 => exact rfl); (case c3 => exact rfl); (case c4 => exact rfl); k_whole; intro g' L' h' tk' cells' FG' F' N' Y' B' X' T' l1; (try k_lt l1); k_cells Y'; (try simp only [List.cons_append,List.nil_append] at N'); (try dsimp only); (try k_lift B'); (try k_fold))))))
  (k_steps; repeat' ((first | (refine stq_out "call builtin:list.pop" ?_; (k_here; k_dflt (refine' kl_popAt ?F ?N ?f ?k ?e ?U ?z ?_; (case F => k_asm); (case N => k_asm); (case U => k_upd); (case f => rfl); (case k => exact idx0 _); (case e => rfl); (case z => (rw [PySem.sizeLine_eq]; simp only [List.length_cons]; omega))); kl_rest)) | fail) <;> k_steps))
  exact hret _ _ _ _ ⟨_,rfl⟩ (by k_asm) (by k_asm)
 case r => delta id stq_it stq_out; exact k
theorem idx0 (n : Nat) : seqIndex? 0 (n + 1) = some 0 := by
 unfold seqIndex?
 simp
theorem ctr_pop (w : World) (mg : Str -> Option Value) (l xl d : Addr) (n : Int) (tn k0 k1 k2 k3 tw : Tok) (st : Value) (y : Str) (t : Tok) (ys : List Value) (hits : ys.length <= 1000) (nl : Nat) (rest : List (Addr × Obj)) (hr : ∀ q ∈ rest,q.1 ≠ l) (hl : @Ne Nat l d ∧ @Ne Nat l xl) :
  Ctr w 106 [.ref xl] ((l,W.listOf (.str y t :: ys).toArray nl) :: (d,dictOf (lexE w n tn k0 k1 k2 k3 tw st l) 4) :: (xl,instObj 116 d) :: rest) 3 (fun v new => v = .str y t ∧ ∃ nl',new = (l,W.listOf ys.toArray nl') :: (d,dictOf (lexE w n tn k0 k1 k2 k3 tw st l) 4) :: (xl,instObj 116 d) :: rest) := by
 refine (?f : Cln _) ?p ⟨?q,fun B k => ?r⟩
 case f => exact fun x _ => x
 case q =>
  ((
  unfold Ctr
  intro mean mg mb loose dp un gd cn cs a ccd cl outer A₀ base h₀ L m s Q E B F KX N T hk hd hu hret
  revert KX; k_fill; intro KX
  refine wpAny_call ?_
  k_dflt ((first
  | cell_enter
  | (refine' code_defC ?k1 ?k2 ?k3 ?k4 ?k5 ?kA ?kF ?kK ?k6 ?k7 ?k8 ?k9 ?kB ?kD ?_ ?c2 ?c3 ?c4; (case kA => exact rfl); (case kF => exact rfl); (case kK => assumption); (case k1 => k_asm); (case k2 => k_asm); (case k3 => k_asm); (case k4 => k_asm); (case k5 => k_asm); (case k6 => k_is); (case k7 => k_is); (case k8 => ktr_room); (case k9 => exact BindsTo.of_eq rfl); (case kB => exact rfl); (case kD => decide +kernel); (case c2 => exact rfl); (case c3 => exact rfl); (case c4 => exact rfl); k_whole; intro g' L' h' tk' cells' FG' F' N' Y' B' X' T' l1; (try k_lt l1); k_cells Y'; (try simp only [List.cons_append,List.nil_append] at N'); (try dsimp only); (try k_lift B'); (try k_fold))))))
  (k_steps; repeat' ((first | (refine stq_out "call builtin:list.pop" ?_; (k_here; k_dflt (refine' kl_popAt ?F ?N ?f ?k ?e ?U ?z ?_; (case F => k_asm); (case N => k_asm); (case U => k_upd); (case f => rfl); (case k => exact idx0 _); (case e => rfl); (case z => (rw [PySem.sizeLine_eq]; simp only [List.length_cons]; omega))); kl_rest)) | fail) <;> k_steps))
  exact hret _ _ _ _ ⟨rfl,_,rfl⟩ (by k_asm) (by k_asm)
 case r => delta id stq_it stq_out; exact k
end

example {M : Model} {A : Around} {env : Env} {Q : Flow -> Shared -> Prop} {E : Value -> Shared -> Prop} {s : Shared} (h : Q .next s) : wpAny M A (execs [] env) Q E s := by first | (walk1; exact h) | exact wpAny_execs_nil h

theorem Lx.addr_sp {w : World} {mg : Str -> Option Value} {x : Str} {q : Lx w mg x} {p n : Int} {tp tn : Tok} {nn nl : Nat} {its : Array Value} {rest zz : List (Addr × Obj)} (h : zz = q.news p tp nn n tn its nl rest) {W : Addr} (hw : ∀ b ∈ zz,b.1 ≠ W) : W ≠ q.sp := fun e => hw (q.sp,PySem.W.listOf #[.int p tp] nn) (by subst h; unfold Lx.news; k_mem) e.symm
theorem Lx.push {w : World} {mg : Str -> Option Value} {x : Str} {q : Lx w mg x} {p n : Int} {tp tn : Tok} {nn nl : Nat} {its : Array Value} {rest zz : List (Addr × Obj)} (h : zz = q.news p tp nn n tn its nl rest) {W : Addr} (o : Obj) (hw : ∀ b ∈ zz,b.1 ≠ W) (hr : ∀ b ∈ rest,b.1 ≠ q.sp ∧ b.1 ≠ q.d ∧ b.1 ≠ q.l) :
  (∀ b ∈ (W,o) :: rest,b.1 ≠ q.sp ∧ b.1 ≠ q.d ∧ b.1 ≠ q.l) ∧ (∀ y ∈ q.news p tp nn n tn its nl ((W,o) :: rest),y = (W,o) ∨ y ∈ zz) := by
 refine ⟨List.forall_mem_cons.mpr ⟨⟨Lx.addr_sp h hw,fun e => hw _ (Lx.mem_d h) e.symm,fun e => hw _ (Lx.mem_l h) e.symm⟩,hr⟩,?_⟩
 subst h
 exact ap_push (h := q.hds p tp nn n tn its nl)
theorem push_off {x : Addr × Obj} {z z2 : List (Addr × Obj)} (h : ∀ y ∈ z2,y = x ∨ y ∈ z) {a : Addr} (hx : x.1 ≠ a) (hz : ∀ y ∈ z,y.1 ≠ a) : ∀ y ∈ z2,y.1 ≠ a := fun y hy => by
 rcases h y hy with rfl | k
 ·exact hx
 ·exact hz y k
inductive Spl : List (Addr × Obj) -> List (Addr × Obj) -> List (Addr × Obj) -> Prop
 | nil {zz} : Spl zz [] zz
 | cons {a t pre zz} : Spl t pre zz -> Spl (a :: t) (a :: pre) zz
theorem Spl.eq {n p z : List (Addr × Obj)} (h : Spl n p z) : n = p ++ z := by
 induction h with
 | nil => rfl
 | cons _ ih => rw [ih]; rfl
theorem use_gtq {w : World} {mg : Str -> Option Value} {x : Str} (q : Lx w mg x) {p fuel : Nat} {n : Int} {R : Str × Nat × Int} (hR : scanO x fuel p n = some R) (hp : p + 2 * fuel <= 100000) (hn : 0 <= n ∧ n + 2 * (fuel : Int) <= 1000)
  {tp tn : Tok} {nn nl : Nat} {rest zz news pre : List (Addr × Obj)} (hsp : Spl news pre zz) (hz : zz = q.news (p : Int) tp nn n tn #[] nl rest) (hoff : ∀ a ∈ pre,∀ b ∈ zz,b.1 ≠ a.1) (hrest : ∀ b ∈ rest,b.1 ≠ q.sp ∧ b.1 ≠ q.d) {zb : List (Addr × Obj)} (hb : ∀ a : Addr,(∀ y ∈ zb,y.1 ≠ a) -> ∀ y ∈ zz,y.1 ≠ a)
  {mean : ExcName -> Option Value} {mb : Str -> Option Value} {loose : List Str}
  {dp un : Nat} {gd : Option (List Code)} {cn : Str} {cs : Scope} {a : Addr} {ccd : Value} {cl : List (Str × Addr)} {outer : List Env} {A₀ : Around} {base h₀ : Heap} {L : Addr} {m : Str -> Option Value} {s : Shared} {Q E : Value -> Shared -> Prop}
  (CH : CodeHd base 146 142) (B : Below A₀ base outer h₀) (F : Fr h₀ L s.heap m) (X : (hd.heap_39 w.params).In h₀) (N : News h₀ L s.heap news) (T : Top topProg loose mean mg mb h₀) (hk : cs.kind = .function) (hd : dp + 6 < recursionLimit) (hu : un + 8 * 6 < cLine)
  (hret : ∀ (tv tp' : Tok) (nn' : Nat) (tn' : Tok) (h' : Heap) (tk' : Nat) (zz' : List (Addr × Obj)),zz' = q.news (R.2.1 : Int) tp' nn' R.2.2 tn' #[] nl rest -> (q.xl,instObj 116 q.d) ∈ zz' -> (q.d,dictOf (lexE w R.2.2 tn' q.k0 q.k1 q.k2 q.k3 q.tw (.ref q.x2) q.l) 4) ∈ zz' -> (∀ a : Addr,(∀ y ∈ zb,y.1 ≠ a) -> ∀ y ∈ zz',y.1 ≠ a) -> (∀ a b c : Addr,LCg.Off3 a b c zz -> LCg.Off3 a b c zz') -> Fr h₀ L h' m -> News h₀ L h' (pre ++ zz') -> Q (.str R.1 tv) { s with heap := h',toks := tk' }) :
  wpAny (model rw_xg0057_01.row.prog w) (ktrTop dp un gd cn cs L a ccd cl outer) (call (.ref 106) [.ref q.xl]) Q E s := by
 have hne := hsp.eq
 subst hne
 have o : ∀ b ∈ pre ++ rest,b.1 ≠ q.sp ∧ b.1 ≠ q.d := ap_all (fun b h => ⟨fun e => hoff b h _ (Lx.mem_s hz) e.symm,fun e => hoff b h _ (Lx.mem_d hz) e.symm⟩) hrest
 subst hz
 exact ctr_gt q p fuel hp n hn nl (pre ++ rest) _ ⟨_,_,_,rfl⟩ o R hR mean mb loose dp un gd cn cs a ccd cl outer A₀ base h₀ L m s Q E CH B F X (cb_drop N (Lx.pre pre)) T hk hd hu fun r new h' tk' hpp F' N' => hpp _ fun tv ev en => by
  subst ev
  obtain ⟨tp',nn',tn',rfl⟩ := en
  exact hret tv tp' nn' tn' h' tk' _ rfl (Lx.mem_x rfl) (Lx.mem_d rfl) (fun a k => Lx.off rfl rfl a (hb a k)) (fun a b c k => Lx.off3 rfl rfl a b c k) F' (cb_drop N' (Lx.erp pre))

theorem use_pushq {w : World} {mg : Str -> Option Value} {x : Str} (q : Lx w mg x) {p n : Int} {its : Array Value} (hits : its.size <= 1000) {y : Str} {t : Tok}
  {tp tn : Tok} {nn nl : Nat} {rest zz news pre : List (Addr × Obj)} (hsp : Spl news pre zz) (hz : zz = q.news p tp nn n tn its nl rest) (hoff : ∀ a ∈ pre,∀ b ∈ zz,b.1 ≠ a.1) (hrest : ∀ b ∈ rest,b.1 ≠ q.sp ∧ b.1 ≠ q.d ∧ b.1 ≠ q.l) {zb : List (Addr × Obj)} (hb : ∀ a : Addr,(∀ y ∈ zb,y.1 ≠ a) -> ∀ y ∈ zz,y.1 ≠ a)
  {mean : ExcName -> Option Value} {mb : Str -> Option Value} {loose : List Str}
  {dp un : Nat} {gd : Option (List Code)} {cn : Str} {cs : Scope} {a : Addr} {ccd : Value} {cl : List (Str × Addr)} {outer : List Env} {A₀ : Around} {base h₀ : Heap} {L : Addr} {m : Str -> Option Value} {s : Shared} {Q E : Value -> Shared -> Prop}
  (B : Below A₀ base outer h₀) (F : Fr h₀ L s.heap m) (X : (hd.heap_39 w.params).In h₀) (N : News h₀ L s.heap news) (T : Top topProg loose mean mg mb h₀) (hk : cs.kind = .function) (hd : dp + 3 < recursionLimit) (hu : un + 8 * 3 < cLine)
  (hret : ∀ (nl' : Nat) (h' : Heap) (tk' : Nat) (zz' : List (Addr × Obj)),zz' = q.news p tp nn n tn (its.push (.str y t)) nl' rest -> (q.xl,instObj 116 q.d) ∈ zz' -> (q.d,dictOf (lexE w n tn q.k0 q.k1 q.k2 q.k3 q.tw (.ref q.x2) q.l) 4) ∈ zz' -> (∀ a : Addr,(∀ y ∈ zb,y.1 ≠ a) -> ∀ y ∈ zz',y.1 ≠ a) -> Fr h₀ L h' m -> News h₀ L h' (pre ++ zz') -> ∀ r,Q r { s with heap := h',toks := tk' }) :
  wpAny (model rw_xg0057_01.row.prog w) (ktrTop dp un gd cn cs L a ccd cl outer) (call (.ref 113) [.ref q.xl,.str y t]) Q E s := by
 refine (?f : Cln _) ?p ⟨?q,fun B k => ?r⟩
 case f => exact fun x _ => x
 case q =>
  have hne := hsp.eq
  subst hne
  have dc := q.dec
  have hl := q.hl
  have ol : ∀ b ∈ ((q.sp,PySem.W.listOf #[.int p tp] nn) :: (q.f,⟨q.oc0,q.od0,.func q.fd,q.sl⟩) :: (q.c,q.co) :: (q.sc,q.so) :: (q.tc,q.to) :: (q.x2,instObj 116 q.d2) :: (q.d2,dictOf (strE w 1 q.tn2 q.j0 q.j1 q.j2 q.j3 q.tw2 q.j4 .none q.l2 q.f) 5) :: (pre ++ rest)),b.1 ≠ q.l := by
   refine List.forall_mem_cons.mpr ⟨?_,List.forall_mem_cons.mpr ⟨?_,List.forall_mem_cons.mpr ⟨?_,List.forall_mem_cons.mpr ⟨?_,List.forall_mem_cons.mpr ⟨?_,List.forall_mem_cons.mpr ⟨?_,List.forall_mem_cons.mpr ⟨?_,fun b hb => ?_⟩⟩⟩⟩⟩⟩⟩
   ·show @Ne Nat _ _; dsimp only; omega
   ·show @Ne Nat _ _; dsimp only; omega
   ·show @Ne Nat _ _; dsimp only; omega
   ·show @Ne Nat _ _; dsimp only; omega
   ·show @Ne Nat _ _; dsimp only; omega
   ·show @Ne Nat _ _; dsimp only; omega
   ·show @Ne Nat _ _; dsimp only; omega
   ·rcases List.mem_append.mp hb with h | h
    ·exact fun e => hoff b h _ (Lx.mem_l hz) e.symm
    ·exact (hrest b h).2.2
  have N2 : News h₀ L s.heap ((q.l,PySem.W.listOf its nl) :: (q.d,dictOf (lexE w n tn q.k0 q.k1 q.k2 q.k3 q.tw (.ref q.x2) q.l) 4) :: (q.xl,instObj 116 q.d) :: ((q.sp,PySem.W.listOf #[.int p tp] nn) :: (q.f,⟨q.oc0,q.od0,.func q.fd,q.sl⟩) :: (q.c,q.co) :: (q.sc,q.so) :: (q.tc,q.to) :: (q.x2,instObj 116 q.d2) :: (q.d2,dictOf (strE w 1 q.tn2 q.j0 q.j1 q.j2 q.j3 q.tw2 q.j4 .none q.l2 q.f) 5) :: (pre ++ rest))) := by
   rw [hz] at N
   exact cb_drop N (ap_pre (h := [(q.l, PySem.W.listOf its nl), (q.d, dictOf (lexE w n tn q.k0 q.k1 q.k2 q.k3 q.tw (.ref q.x2) q.l) 4), (q.xl, instObj 116 q.d), (q.sp, PySem.W.listOf #[.int p tp] nn), (q.f, ⟨q.oc0, q.od0, .func q.fd, q.sl⟩), (q.c, q.co), (q.sc, q.so), (q.tc, q.to), (q.x2, instObj 116 q.d2), (q.d2, dictOf (strE w 1 q.tn2 q.j0 q.j1 q.j2 q.j3 q.tw2 q.j4 .none q.l2 q.f) 5)]) (h' := q.hds p tp nn n tn its nl) (by unfold Lx.hds; walk_at "my sub"))
  refine ctr_push w q.l q.xl q.d n tn q.k0 q.k1 q.k2 q.k3 q.tw (.ref q.x2) its hits nl y t _ ol ?_ mean mg mb loose dp un gd cn cs a ccd cl outer A₀ base h₀ L m s Q E B F X N2 T hk hd hu (fun r new h' tk' hpp F' N' => ?_)
  ·constructor
   ·show @Ne Nat _ _; omega
   ·show @Ne Nat _ _; omega
  obtain ⟨nl',rfl⟩ := hpp
  refine hret nl' h' tk' _ rfl (Lx.mem_x rfl) (Lx.mem_d rfl) (fun a k => Lx.off hz rfl a (hb a k)) F' (cb_drop N' (ap_erp (h := q.hds p tp nn n tn (its.push (.str y t)) nl') (h' := [(q.l, PySem.W.listOf (its.push (.str y t)) nl'), (q.d, dictOf (lexE w n tn q.k0 q.k1 q.k2 q.k3 q.tw (.ref q.x2) q.l) 4), (q.xl, instObj 116 q.d), (q.sp, PySem.W.listOf #[.int p tp] nn), (q.f, ⟨q.oc0, q.od0, .func q.fd, q.sl⟩), (q.c, q.co), (q.sc, q.so), (q.tc, q.to), (q.x2, instObj 116 q.d2), (q.d2, dictOf (strE w 1 q.tn2 q.j0 q.j1 q.j2 q.j3 q.tw2 q.j4 .none q.l2 q.f) 5)]) (by unfold Lx.hds; walk_at "my sub"))) _
 case r => delta id stq_it stq_out; (conv => zeta); exact k
theorem use_popq {w : World} {mg : Str -> Option Value} {x : Str} (q : Lx w mg x) {p n : Int} {ys : List Value} (hits : ys.length <= 1000) {y : Str} {t : Tok}
  {tp tn : Tok} {nn nl : Nat} {rest zz news pre : List (Addr × Obj)} (hsp : Spl news pre zz) (hz : zz = q.news p tp nn n tn (Value.str y t :: ys).toArray nl rest) (hoff : ∀ a ∈ pre,∀ b ∈ zz,b.1 ≠ a.1) (hrest : ∀ b ∈ rest,b.1 ≠ q.sp ∧ b.1 ≠ q.d ∧ b.1 ≠ q.l) {zb : List (Addr × Obj)} (hb : ∀ a : Addr,(∀ y ∈ zb,y.1 ≠ a) -> ∀ y ∈ zz,y.1 ≠ a)
  {mean : ExcName -> Option Value} {mb : Str -> Option Value} {loose : List Str}
  {dp un : Nat} {gd : Option (List Code)} {cn : Str} {cs : Scope} {a : Addr} {ccd : Value} {cl : List (Str × Addr)} {outer : List Env} {A₀ : Around} {base h₀ : Heap} {L : Addr} {m : Str -> Option Value} {s : Shared} {Q E : Value -> Shared -> Prop}
  (B : Below A₀ base outer h₀) (F : Fr h₀ L s.heap m) (X : (hd.heap_39 w.params).In h₀) (N : News h₀ L s.heap news) (T : Top topProg loose mean mg mb h₀) (hk : cs.kind = .function) (hd : dp + 3 < recursionLimit) (hu : un + 8 * 3 < cLine)
  (hret : ∀ (nl' : Nat) (h' : Heap) (tk' : Nat) (zz' : List (Addr × Obj)),zz' = q.news p tp nn n tn ys.toArray nl' rest -> (q.xl,instObj 116 q.d) ∈ zz' -> (q.d,dictOf (lexE w n tn q.k0 q.k1 q.k2 q.k3 q.tw (.ref q.x2) q.l) 4) ∈ zz' -> (∀ a : Addr,(∀ y ∈ zb,y.1 ≠ a) -> ∀ y ∈ zz',y.1 ≠ a) -> Fr h₀ L h' m -> News h₀ L h' (pre ++ zz') -> Q (.str y t) { s with heap := h',toks := tk' }) :
  wpAny (model rw_xg0057_01.row.prog w) (ktrTop dp un gd cn cs L a ccd cl outer) (call (.ref 106) [.ref q.xl]) Q E s := by
 refine (?f : Cln _) ?p ⟨?q,fun B k => ?r⟩
 case f => exact fun x _ => x
 case q =>
  have hne := hsp.eq
  subst hne
  have dc := q.dec
  have hl := q.hl
  have ol : ∀ b ∈ ((q.sp,PySem.W.listOf #[.int p tp] nn) :: (q.f,⟨q.oc0,q.od0,.func q.fd,q.sl⟩) :: (q.c,q.co) :: (q.sc,q.so) :: (q.tc,q.to) :: (q.x2,instObj 116 q.d2) :: (q.d2,dictOf (strE w 1 q.tn2 q.j0 q.j1 q.j2 q.j3 q.tw2 q.j4 .none q.l2 q.f) 5) :: (pre ++ rest)),b.1 ≠ q.l := by
   refine List.forall_mem_cons.mpr ⟨?_,List.forall_mem_cons.mpr ⟨?_,List.forall_mem_cons.mpr ⟨?_,List.forall_mem_cons.mpr ⟨?_,List.forall_mem_cons.mpr ⟨?_,List.forall_mem_cons.mpr ⟨?_,List.forall_mem_cons.mpr ⟨?_,fun b hb => ?_⟩⟩⟩⟩⟩⟩⟩
   ·show @Ne Nat _ _; dsimp only; omega
   ·show @Ne Nat _ _; dsimp only; omega
   ·show @Ne Nat _ _; dsimp only; omega
   ·show @Ne Nat _ _; dsimp only; omega
   ·show @Ne Nat _ _; dsimp only; omega
   ·show @Ne Nat _ _; dsimp only; omega
   ·show @Ne Nat _ _; dsimp only; omega
   ·rcases List.mem_append.mp hb with h | h
    ·exact fun e => hoff b h _ (Lx.mem_l hz) e.symm
    ·exact (hrest b h).2.2
  have N2 : News h₀ L s.heap ((q.l,PySem.W.listOf (Value.str y t :: ys).toArray nl) :: (q.d,dictOf (lexE w n tn q.k0 q.k1 q.k2 q.k3 q.tw (.ref q.x2) q.l) 4) :: (q.xl,instObj 116 q.d) :: ((q.sp,PySem.W.listOf #[.int p tp] nn) :: (q.f,⟨q.oc0,q.od0,.func q.fd,q.sl⟩) :: (q.c,q.co) :: (q.sc,q.so) :: (q.tc,q.to) :: (q.x2,instObj 116 q.d2) :: (q.d2,dictOf (strE w 1 q.tn2 q.j0 q.j1 q.j2 q.j3 q.tw2 q.j4 .none q.l2 q.f) 5) :: (pre ++ rest))) := by
   rw [hz] at N
   exact cb_drop N (ap_pre (h := [(q.l, PySem.W.listOf (Value.str y t :: ys).toArray nl), (q.d, dictOf (lexE w n tn q.k0 q.k1 q.k2 q.k3 q.tw (.ref q.x2) q.l) 4), (q.xl, instObj 116 q.d), (q.sp, PySem.W.listOf #[.int p tp] nn), (q.f, ⟨q.oc0, q.od0, .func q.fd, q.sl⟩), (q.c, q.co), (q.sc, q.so), (q.tc, q.to), (q.x2, instObj 116 q.d2), (q.d2, dictOf (strE w 1 q.tn2 q.j0 q.j1 q.j2 q.j3 q.tw2 q.j4 .none q.l2 q.f) 5)]) (h' := q.hds p tp nn n tn (Value.str y t :: ys).toArray nl) (by unfold Lx.hds; walk_at "my sub"))
  refine ctr_pop w mg q.l q.xl q.d n tn q.k0 q.k1 q.k2 q.k3 q.tw (.ref q.x2) y t ys hits nl _ ol ?_ mean mg mb loose dp un gd cn cs a ccd cl outer A₀ base h₀ L m s Q E B F X N2 T hk hd hu (fun r new h' tk' hpp F' N' => ?_)
  ·constructor
   ·show @Ne Nat _ _; omega
   ·show @Ne Nat _ _; omega
  obtain ⟨rfl,nl',rfl⟩ := hpp
  refine hret nl' h' tk' _ rfl (Lx.mem_x rfl) (Lx.mem_d rfl) (fun a k => Lx.off hz rfl a (hb a k)) F' (cb_drop N' (ap_erp (h := q.hds p tp nn n tn ys.toArray nl') (h' := [(q.l, PySem.W.listOf ys.toArray nl'), (q.d, dictOf (lexE w n tn q.k0 q.k1 q.k2 q.k3 q.tw (.ref q.x2) q.l) 4), (q.xl, instObj 116 q.d), (q.sp, PySem.W.listOf #[.int p tp] nn), (q.f, ⟨q.oc0, q.od0, .func q.fd, q.sl⟩), (q.c, q.co), (q.sc, q.so), (q.tc, q.to), (q.x2, instObj 116 q.d2), (q.d2, dictOf (strE w 1 q.tn2 q.j0 q.j1 q.j2 q.j3 q.tw2 q.j4 .none q.l2 q.f) 5)]) (by unfold Lx.hds; walk_at "my sub")))
 case r => delta id stq_it stq_out; (conv => zeta); exact k
section
open PyProof.Rows.LCg
variable {prog : Program} {w : World} {A : Around} {E : Value -> Shared -> Prop} {s : Shared} {env : Env} {h₀ : Heap}
noncomputable def LEnd (h₀ : Heap) (L : Addr) (s : Shared) (It : Addr) (oIt : Obj) (lp : Addr × Obj) (I : Nat -> (Str -> Option Value) -> List (Addr × Obj) -> Prop) (i : Nat) (s₃ : Shared) : Prop :=
 ∀ X : Prop,(∀ (h : Heap) (tk : Nat) (m' : Str -> Option Value) (news' : List (Addr × Obj)),s₃ = { s with heap := h,toks := tk } -> Fr h₀ L h m' -> News h₀ L h ((It,oIt) :: news') -> (∀ p ∈ news',p.1 ≠ It) -> lp ∈ news' -> I (i + 1) m' news' -> X) -> X
theorem LEnd.intro {L It : Addr} {oIt : Obj} {lp : Addr × Obj} {I : Nat -> (Str -> Option Value) -> List (Addr × Obj) -> Prop} {i : Nat} {h : Heap} {tk : Nat} {m' : Str -> Option Value} {news' : List (Addr × Obj)} (F : Fr h₀ L h m') (N : News h₀ L h ((It,oIt) :: news')) (off : ∀ p ∈ news',p.1 ≠ It) (hl : lp ∈ news') (hI : I (i + 1) m' news') :
  LEnd h₀ L s It oIt lp I i { s with heap := h,toks := tk } := fun _ k => k h tk m' news' rfl F N off hl hI
noncomputable def ForI (h₀ : Heap) (L : Addr) (s : Shared) (It ax : Addr) (n : Nat) (lp : Addr × Obj) (I : Nat -> (Str -> Option Value) -> List (Addr × Obj) -> Prop) (kk : Nat) (s' : Shared) : Prop :=
 ∀ X : Prop,(∀ (i : Nat) (h' : Heap) (tk : Nat) (m' : Str -> Option Value) (news' : List (Addr × Obj)) (oIt : Obj),s' = { s with heap := h',toks := tk } -> i <= n -> kk = n + 1 - i -> h'.IsListIter It ax i -> Fr h₀ L h' m' -> News h₀ L h' ((It,oIt) :: news') -> (∀ p ∈ news',p.1 ≠ It) -> lp ∈ news' -> I i m' news' -> X) -> X
theorem for_list {x : Str} {px : Pos} {body : List Stmt} {ax : Addr} {lo : Obj} {its : Array Value} {kk : Nat} {m₀ : Str -> Option Value} {news₀ : List (Addr × Obj)} {Q : Flow -> Shared -> Prop} (hh : A.handled = none) (hE : PassesOwn (model prog w) A env E)
  (hx : env.kindOf x = some .local) (hp : (env.scope.kind == .class || (env.scope.kind == .module && env.locals != env.globals)) = false)
  (F : Fr h₀ env.locals s.heap m₀) (N : News h₀ env.locals s.heap news₀) (hm : (ax, lo) ∈ news₀) (hc : lo.cls = .type "list") (hd : lo.data = .seq its kk)
  (I : Nat -> (Str -> Option Value) -> List (Addr × Obj) -> Prop) (hI : I 0 m₀ news₀)
  (step : ∀ i m' news' h tk v It oIt,its[i]? = some v -> I i m' news' -> (ax,lo) ∈ news' -> Fr h₀ env.locals h (fun y => if y = x then some v else m' y) -> News h₀ env.locals h ((It,oIt) :: news') -> (∀ p ∈ news',p.1 ≠ It) ->
   wpAny (model prog w) A (execs body env) (fun f s₃ => match f with | .next | .cont => LEnd h₀ env.locals s It oIt (ax,lo) I i s₃ | .brk => Q .next s₃ | .ret v => Q (.ret v) s₃) E { s with heap := h,toks := tk })
  (fin : ∀ m' news' h tk,I its.size m' news' -> Fr h₀ env.locals h m' -> News h₀ env.locals h news' -> Q .next { s with heap := h,toks := tk }) :
  wpAny (model prog w) A (pyIter (.ref ax)) (fun it s₂ => ForRest prog w A E env (.Name x px) it body [] Q s₂) E s := by
 have lst₀ : s.heap.IsList ax its := ⟨lo,(N _ hm).1,hc,kk,hd⟩
 refine wpAny_pyIter_list lst₀ ?_
 have hItL : s.heap.objs.size ≠ env.locals := Ne.symm (Nat.ne_of_lt F.ns.lt)
 have hIt₀ : h₀.get? s.heap.objs.size = none := next_is_new F
 have up : ∀ b o, s.heap.get? b = some o -> (s.heap.push { cls := .type "list_iterator", data := .fields #[.ref ax, .int 0 0] }).get? b = some o := fun b o e => Heap.get?_push_of_some _ e
 have hL₀ : h₀.get? env.locals = none := Heap.get?_none_of_le F.above
 refine for_inv hE (ForI h₀ env.locals s s.heap.objs.size ax its.size (ax,lo) I) ?_ (its.size + 1)
  (fun X kk => kk 0 _ _ m₀ news₀ { cls := .type "list_iterator", data := .fields #[.ref ax, .int 0 0] } rfl (Nat.zero_le _) rfl ⟨_, Heap.get?_push_size _ rfl, rfl, rfl⟩ (F.keeps up) (fun p hp => ?_) (fun p hp => Nat.ne_of_lt (Heap.lt_size (N p hp).1)) hm hI)
 ·intro k s' hJ
  refine hJ _ fun i h' tk m' news' oIt e1 hi e2 hit F' N' off hl hI' => ?_
  subst e1 e2
  clear hJ
  have lst' : h'.IsList ax its := ⟨lo,(N' _ (.tail _ hl)).1,hc,kk,hd⟩
  by_cases hlt : i < its.size
  ·obtain ⟨v,hv⟩ : ∃ v,its[i]? = some v := ⟨its[i],by simp [hlt]⟩
   refine wpAny_pyNext_list_item hit lst' hv fun h₂ hit₂ hs₂ => ?_
   have F₂ : Fr h₀ env.locals h₂ m' := F'.change hs₂ hItL hIt₀
   obtain ⟨oIt₂,heI,hcI,hdI⟩ := id hit₂
   have N₂ : News h₀ env.locals h₂ ((s.heap.objs.size,oIt₂) :: news') := fun p hp => by
    rcases List.mem_cons.mp hp with rfl | hp
    ·exact ⟨heI,hItL,hIt₀⟩
    ·have z := N' p (.tail _ hp); exact ⟨hs₂.extBut _ _ (off p hp) z.1,z.2⟩
   refine wpAny_assign_Name (wpAny_storeName_local hx F₂.ns (fun h₃ hn₃ hs₃ => ?_) hp)
   have F₃ : Fr h₀ env.locals h₃ (fun z => if z = x then some v else m' z) := ⟨hn₃,fun b o e => hs₃.extBut b o (fun q => by rw [q,hL₀] at e; cases e) (F₂.keep b o e),F₂.above⟩
   have N₃ : News h₀ env.locals h₃ ((s.heap.objs.size,oIt₂) :: news') := fun p hp => ⟨hs₃.extBut _ _ (N₂ p hp).2.1 (N₂ p hp).1,(N₂ p hp).2⟩
   refine wpAny_mono (step i m' news' h₃ _ v _ _ hv hI' hl F₃ N₃ off) (fun f s₃ h₃ => ?_) fun _ _ e => e
   have done : LEnd h₀ env.locals s s.heap.objs.size oIt₂ (ax,lo) I i s₃ -> Again (ForI h₀ env.locals s s.heap.objs.size ax its.size (ax,lo) I) (its.size + 1 - i) s₃ := by
    intro hE₃
    exact hE₃ _ fun h₄ tk₄ m₄ news₄ e₄ F₄ N₄ off₄ hl₄ hI₄ => ⟨its.size + 1 - (i + 1),fall_one hlt,fun X kk => kk (i + 1) h₄ tk₄ m₄ news₄ oIt₂ e₄ hlt rfl ⟨oIt₂,(N₄ _ (.head _)).1,hcI,hdI⟩ F₄ N₄ off₄ hl₄ hI₄⟩
   cases f with
   | next => exact done h₃
   | cont => exact done h₃
   | brk => exact h₃
   | ret v => exact h₃
  ·obtain rfl : i = its.size := Nat.le_antisymm hi (Nat.not_lt.mp hlt)
   refine wpAny_pyNext_list_end hh hit lst' (by simp) fun h₂ he => ?_
   refine wpAny_pure (fin m' news' h₂ _ hI' ?_ ?_)
   ·exact ⟨F'.ns.at' fun o e => he _ o (Ne.symm hItL) e,fun b o e => he b o (fun q => by rw [q,hIt₀] at e; cases e) (F'.keep b o e),F'.above⟩
   ·exact fun p hp => ⟨he _ _ (off p hp) (N' p (.tail _ hp)).1,(N' p (.tail _ hp)).2⟩
 ·rcases List.mem_cons.mp hp with rfl | hp
  ·exact ⟨Heap.get?_push_size _ rfl,hItL,hIt₀⟩
  ·exact ⟨up _ _ (N p hp).1,(N p hp).2⟩
end

noncomputable def one (c : Nat) : Str := ⟨#[c]⟩
theorem str_ext {a b : Str} (h : a.cps = b.cps) : a = b := by cases a; cases b; cases h; rfl
theorem chF_at {x : Str} {p c : Nat} {l : List Nat} (h : x.cps.toList.drop p = c :: l) : chF x p = one c := by
 have hl : p + 1 <= x.length := by
  have := congrArg List.length h
  simp [Str.length] at this ⊢
  omega
 show StrLaws.sliceText x (some (p : Int)) (some (p + 1 : Int)) = _
 rw [show (p : Int) + 1 = ((p + 1 : Nat) : Int) from rfl,StrLaws.sliceText_nat x (Nat.le_succ p) hl,h]
 unfold one
 simp
theorem drop_succ {x : Str} {p c : Nat} {l : List Nat} (h : x.cps.toList.drop p = c :: l) : x.cps.toList.drop (p + 1) = l := by
 rw [← List.drop_drop,h]; rfl
theorem chF_end {x : Str} {p : Nat} (h : x.cps.toList.drop p = []) : chF x p = Str.ofString "" := by
 refine (?f : Cln _) ?p ⟨?q,fun B k => ?r⟩
 case f => exact fun x _ => x
 case q =>
  have hp : x.length <= p := by
   have := congrArg List.length h
   simp [Str.length] at this ⊢
   lia
  have e : chF x p = StrLaws.sliceText x (some (x.length : Int)) (some (x.length : Int)) := by
   show StrLaws.sliceText x (some (p : Int)) (some (p + 1 : Int)) = _
   unfold StrLaws.sliceText
   have i1 : PySem.Builtin.Str.strSliceIndices (some (p : Int)) (some ((p : Int) + 1)) 1 x.length = PySem.Builtin.Str.strSliceIndices (some (x.length : Int)) (some (x.length : Int)) 1 x.length := by
    have a1 : ¬ (p : Int) < 0 := by lia
    have a2 : ¬ ((x.length : Int) < 0) := by lia
    have a3 : ¬ (p : Int) + 1 < 0 := by lia
    have e1 : max (0 : Int) (min (p : Int) (x.length : Int)) = x.length := by lia
    have e3 : max (0 : Int) (min ((p : Int) + 1) (x.length : Int)) = x.length := by lia
    simp [PySem.Builtin.Str.strSliceIndices,a1,a2,a3,e1,e3]
   rw [i1]
  rw [e,StrLaws.sliceText_nat x (Nat.le_refl _) (Nat.le_refl _)]
  simp
  rfl
 case r => (try delta id); (conv => zeta); exact k
noncomputable def PlainC (c : Nat) : Prop := isWs (one c) = false ∧ (one c == Str.ofString "\"") = false ∧ (one c == Str.ofString "\\") = false ∧ lineUp (one c) = 0 ∧ one c ≠ Str.ofString ""
theorem app_one (tok : Str) (c : Nat) (w : List Nat) : (tok ++ one c) ++ (⟨w.toArray⟩ : Str) = tok ++ (⟨(c :: w).toArray⟩ : Str) := by
 apply str_ext
 simp [one,Str.cps_append]
theorem scanB_plain {x : Str} (w : List Nat) : ∀ (k p : Nat) (n : Int) (tok : Str) (c : Nat) (post : List Nat), (∀ a ∈ w, PlainC a) -> isWs (one c) = true -> one c ≠ Str.ofString "" -> x.cps.toList.drop p = w ++ c :: post -> w.length < k ->
  scanB x k p n tok = some (tok ++ ⟨w.toArray⟩,p + w.length + 1,n + lineUp (one c)) := by
 refine (?f : Cln _) ?p ⟨?q,fun B k => ?r⟩
 case f => exact fun x _ => x
 case q =>
  induction w with
  | nil =>
   intro k p n tok c post _ hc hc0 h hk0
   cases k with
   | zero => exact absurd hk0 (Nat.not_lt_zero _)
   | succ k =>
    have e := chF_at h
    rw [scanB,e]
    rw [if_neg (show ¬ one c = Str.ofString "" from hc0), if_pos hc]
    have : tok ++ (⟨([] : List Nat).toArray⟩ : Str) = tok := by apply str_ext; simp [Str.cps_append]
    rw [this]; rfl
  | cons a w ih =>
   intro k p n tok c post hw hc hc0 h hk
   cases k with
   | zero => exact absurd hk (Nat.not_lt_zero _)
   | succ k =>
    have e := chF_at (l := w ++ c :: post) (by simpa using h)
    obtain ⟨h1,h2,h3,h4,h5⟩ := hw a (.head _)
    rw [scanB,e]
    rw [if_neg (show ¬ one a = Str.ofString "" from h5), if_neg (show ¬ isWs (one a) = true from by rw [h1]; exact Bool.false_ne_true), if_neg (show ¬ (one a == Str.ofString "\\") = true from by rw [h3]; exact Bool.false_ne_true)]
    have ih := ih k (p + 1) (n + lineUp (one a)) (tok ++ one a) c post (fun b hb => hw b (.tail _ hb)) hc hc0 (drop_succ (by simpa using h)) (by simpa using hk)
    show scanB x k (p + 1) (n + lineUp (one a)) (tok ++ one a) = _
    rw [ih,app_one,h4,Int.add_zero,List.length_cons]
    have : p + 1 + w.length + 1 = p + (w.length + 1) + 1 := by lia
    rw [this]
 case r => delta id stq_it stq_out; (conv => zeta); exact k
theorem scanA_plain {x : Str} (w : List Nat) : ∀ (k p : Nat) (n : Int) (tok : Str) (post : List Nat),(∀ a ∈ w,PlainC a) -> x.cps.toList.drop p = w ++ 34 :: post -> w.length < k ->
  scanA x k p n tok = some (tok ++ ⟨w.toArray⟩,p + w.length + 1,n) := by
 refine (?f : Cln _) ?p ⟨?q,fun B k => ?r⟩
 case f => exact fun x _ => x
 case q =>
  induction w with
  | nil =>
   intro k p n tok post _ h hk0
   cases k with
   | zero => exact absurd hk0 (Nat.not_lt_zero _)
   | succ k =>
    have e := chF_at h
    rw [scanA,e]
    rw [if_neg (show ¬ one 34 = Str.ofString "" from by decide), if_pos (show (one 34 == Str.ofString "\"") = true from by decide)]
    have : tok ++ (⟨([] : List Nat).toArray⟩ : Str) = tok := by apply str_ext; simp [Str.cps_append]
    have l0 : lineUp (one 34) = 0 := by decide
    rw [this,l0,Int.add_zero]; rfl
  | cons a w ih =>
   intro k p n tok post hw h hk
   cases k with
   | zero => exact absurd hk (Nat.not_lt_zero _)
   | succ k =>
    have e := chF_at (l := w ++ 34 :: post) (by simpa using h)
    obtain ⟨h1,h2,h3,h4,h5⟩ := hw a (.head _)
    rw [scanA,e]
    rw [if_neg (show ¬ one a = Str.ofString "" from h5), if_neg (show ¬ (one a == Str.ofString "\"") = true from by rw [h2]; exact Bool.false_ne_true), if_neg (show ¬ (one a == Str.ofString "\\") = true from by rw [h3]; exact Bool.false_ne_true)]
    have ih := ih k (p + 1) (n + lineUp (one a)) (tok ++ one a) post (fun b hb => hw b (.tail _ hb)) (drop_succ (by simpa using h)) (by simpa using hk)
    show scanA x k (p + 1) (n + lineUp (one a)) (tok ++ one a) = _
    rw [ih,app_one,h4,Int.add_zero,List.length_cons]
    have : p + 1 + w.length + 1 = p + (w.length + 1) + 1 := by lia
    rw [this]
 case r => delta id stq_it stq_out; (conv => zeta); exact k
theorem scanB_esc {x : Str} (w : List Nat) : ∀ (k p : Nat) (n : Int) (tok : Str) (c : Nat) (post : List Nat), (∀ a ∈ w, PlainC a) -> isWs (one c) = true -> one c ≠ Str.ofString "" -> x.cps.toList.drop p = (w.flatMap fun a => [92, a]) ++ c :: post -> w.length < k ->
  scanB x k p n tok = some (tok ++ ⟨w.toArray⟩,p + 2 * w.length + 1,n + lineUp (one c)) := by
 refine (?f : Cln _) ?p ⟨?q,fun B k => ?r⟩
 case f => exact fun x _ => x
 case q =>
  induction w with
  | nil =>
   intro k p n tok c post _ hc hc0 h hk0
   cases k with
   | zero => exact absurd hk0 (Nat.not_lt_zero _)
   | succ k =>
    have e := chF_at h
    rw [scanB,e]
    rw [if_neg (show ¬ one c = Str.ofString "" from hc0), if_pos hc]
    have : tok ++ (⟨([] : List Nat).toArray⟩ : Str) = tok := by apply str_ext; simp [Str.cps_append]
    rw [this]; rfl
  | cons a w ih =>
   intro k p n tok c post hw hc hc0 h hk
   cases k with
   | zero => exact absurd hk (Nat.not_lt_zero _)
   | succ k =>
    have h92 : x.cps.toList.drop p = 92 :: a :: ((w.flatMap fun a => [92,a]) ++ c :: post) := by simpa using h
    have e := chF_at h92
    have e2 := chF_at (drop_succ h92)
    obtain ⟨h1,h2,h3,h4,h5⟩ := hw a (.head _)
    rw [scanB,e,e2]
    rw [if_neg (show ¬ one 92 = Str.ofString "" from by decide), if_neg (show ¬ isWs (one 92) = true from by decide +kernel), if_pos (show (one 92 == Str.ofString "\\") = true from by decide)]
    have ih := ih k (p + 2) (n + lineUp (one 92) + lineUp (one a)) (tok ++ one a) c post (fun b hb => hw b (.tail _ hb)) hc hc0 (drop_succ (drop_succ h92)) (by simpa using hk)
    have l0 : lineUp (one 92) = 0 := by decide
    rw [ih,app_one,h4,l0,Int.add_zero,Int.add_zero,List.length_cons]
    have : p + 2 + 2 * w.length + 1 = p + 2 * (w.length + 1) + 1 := by lia
    rw [this]
 case r => delta id stq_it stq_out; (conv => zeta); exact k
theorem empty_app (y : Str) : Str.ofString "" ++ y = y := by
 apply str_ext
 have e : (Str.ofString "").cps = #[] := by decide
 rw [Str.cps_append,e]; simp
theorem one_app (a : Nat) (w : List Nat) : Str.ofString "" ++ one a ++ (⟨w.toArray⟩ : Str) = ⟨(a :: w).toArray⟩ := by
 rw [empty_app]
 apply str_ext
 simp [one,Str.cps_append]
theorem scanO_ws {x : Str} {k p c : Nat} {n : Int} {l : List Nat} (h : x.cps.toList.drop p = c :: l) (hc : isWs (one c) = true) (hc0 : one c ≠ Str.ofString "") : scanO x (k + 1) p n = scanO x k (p + 1) (n + lineUp (one c)) := by
 have e := chF_at h
 rw [scanO,e,if_neg hc0,if_pos hc]
theorem scanO_end {x : Str} {k p : Nat} {n : Int} (h : x.cps.toList.drop p = []) : scanO x (k + 1) p n = some (Str.ofString "", p + 1, n) := by
 have e := chF_end h
 have l0 : lineUp (Str.ofString "") = 0 := by decide
 rw [scanO,e,if_pos rfl,l0,Int.add_zero]
theorem scanO_plain {x : Str} {k p a c : Nat} {n : Int} {w post : List Nat} (hw : ∀ b ∈ a :: w, PlainC b) (hc : isWs (one c) = true) (hc0 : one c ≠ Str.ofString "") (h : x.cps.toList.drop p = a :: (w ++ c :: post)) (hk : w.length < k) :
  scanO x (k + 1) p n = some (⟨(a :: w).toArray⟩,p + w.length + 2,n + lineUp (one c)) := by
 refine (?f : Cln _) ?p ⟨?q,fun B k => ?r⟩
 case f => exact fun x _ => x
 case q =>
  have e := chF_at h
  obtain ⟨h1,h2,h3,h4,h5⟩ := hw a (.head _)
  rw [scanO, e, if_neg h5, if_neg (show ¬ isWs (one a) = true from by rw [h1]; exact Bool.false_ne_true), if_neg (show ¬ (one a == Str.ofString "\"") = true from by rw [h2]; exact Bool.false_ne_true), if_neg (show ¬ (one a == Str.ofString "\\") = true from by rw [h3]; exact Bool.false_ne_true)]
  rw [scanB_plain w k (p + 1) _ _ c post (fun b hb => hw b (.tail _ hb)) hc hc0 (drop_succ h) hk,one_app,h4,Int.add_zero]
  have : p + 1 + w.length + 1 = p + w.length + 2 := by lia
  rw [this]
 case r => delta id stq_it stq_out; exact k
theorem scanO_quote {x : Str} {k p : Nat} {n : Int} {w post : List Nat} (hw : ∀ b ∈ w,PlainC b) (h : x.cps.toList.drop p = 34 :: (w ++ 34 :: post)) (hk : w.length < k) :
  scanO x (k + 1) p n = some (⟨w.toArray⟩,p + w.length + 2,n) := by
 refine (?f : Cln _) ?p ⟨?q,fun B k => ?r⟩
 case f => exact fun x _ => x
 case q =>
  have e := chF_at h
  have l0 : lineUp (one 34) = 0 := by decide
  rw [scanO, e, if_neg (show ¬ one 34 = Str.ofString "" from by decide), if_neg (show ¬ isWs (one 34) = true from by decide +kernel), if_pos (show (one 34 == Str.ofString "\"") = true from by decide)]
  rw [scanA_plain w k (p + 1) _ _ post hw (drop_succ h) hk,empty_app,l0,Int.add_zero]
  have : p + 1 + w.length + 1 = p + w.length + 2 := by lia
  rw [this]
 case r => delta id stq_it stq_out; exact k
theorem scanO_esc {x : Str} {k p a c : Nat} {n : Int} {w post : List Nat} (hw : ∀ b ∈ a :: w, PlainC b) (hc : isWs (one c) = true) (hc0 : one c ≠ Str.ofString "") (h : x.cps.toList.drop p = ((a :: w).flatMap fun a => [92, a]) ++ c :: post) (hk : w.length < k) :
  scanO x (k + 1) p n = some (⟨(a :: w).toArray⟩,p + 2 * w.length + 3,n + lineUp (one c)) := by
 refine (?f : Cln _) ?p ⟨?q,fun B k => ?r⟩
 case f => exact fun x _ => x
 case q =>
  have h92 : x.cps.toList.drop p = 92 :: a :: ((w.flatMap fun a => [92,a]) ++ c :: post) := by simpa using h
  have e := chF_at h92
  have e2 := chF_at (drop_succ h92)
  obtain ⟨h1,h2,h3,h4,h5⟩ := hw a (.head _)
  have l0 : lineUp (one 92) = 0 := by decide
  rw [scanO, e, e2, if_neg (show ¬ one 92 = Str.ofString "" from by decide), if_neg (show ¬ isWs (one 92) = true from by decide +kernel), if_neg (show ¬ (one 92 == Str.ofString "\"") = true from by decide), if_pos (show (one 92 == Str.ofString "\\") = true from by decide)]
  rw [scanB_esc w k (p + 2) _ _ c post (fun b hb => hw b (.tail _ hb)) hc hc0 (drop_succ (drop_succ h92)) hk,one_app,h4,l0,Int.add_zero,Int.add_zero]
  have : p + 2 + 2 * w.length + 1 = p + 2 * w.length + 3 := by lia
  rw [this]
 case r => delta id stq_it stq_out; (conv => zeta); exact k
noncomputable def WsC (c : Nat) : Prop := isWs (one c) = true ∧ one c ≠ Str.ofString "" ∧ (0 <= lineUp (one c) ∧ lineUp (one c) <= 1)
noncomputable def Pend (x : Str) (p : Nat) (n : Int) (rest : List Nat) (N : Int) : Prop :=
 (x.cps.toList.drop p = rest ∧ n = N) ∨ (∃ c,WsC c ∧ x.cps.toList.drop p = c :: rest ∧ n + lineUp (one c) = N)
noncomputable def wrL (y : Int) (W : List Nat) : List Nat := if y = 0 then W else if y = 1 then 34 :: (W ++ [34]) else W.flatMap fun a => [92,a]
theorem tok_here {x : Str} {p c k : Nat} {n : Int} {W rest : List Nat} {y : Int} (hy : y = 0 ∨ y = 1 ∨ y = 2) (hw : ∀ b ∈ W,PlainC b) (hne : W ≠ []) (hlen : W.length <= 14) (hk : 20 <= k) (hc : WsC c) (h : x.cps.toList.drop p = wrL y W ++ c :: rest) :
  ∃ p' n',scanO x k p n = some (⟨W.toArray⟩,p',n') ∧ Pend x p' n' rest (n + lineUp (one c)) ∧ p' <= p + 60 ∧ n <= n' ∧ n' <= n + 1 := by
 refine (?f : Cln _) ?p ⟨?q,fun B k => ?r⟩
 case f => exact fun x _ => x
 case q =>
  obtain ⟨k,rfl⟩ : ∃ j,k = j + 1 := ⟨k - 1,by lia⟩
  obtain ⟨a,w,rfl⟩ : ∃ a w,W = a :: w := by
   cases W with
   | nil => exact absurd rfl hne
   | cons a w => exact ⟨a,w,rfl⟩
  have hl : w.length <= 13 := by simpa using hlen
  obtain ⟨h1,h2,h3⟩ := hc
  have dr : ∀ j,x.cps.toList.drop (p + j) = (x.cps.toList.drop p).drop j := fun j => by rw [List.drop_drop]
  rcases hy with rfl | rfl | rfl
  ·have h' : x.cps.toList.drop p = a :: (w ++ c :: rest) := by simpa [wrL] using h
   refine ⟨_,_,scanO_plain hw h1 h2 h' (by lia),.inl ⟨?_,rfl⟩,by lia,by lia,by lia⟩
   have e : p + w.length + 2 = p + ((a :: (w ++ [c])).length) := by simp; lia
   rw [e,dr,h',show a :: (w ++ c :: rest) = (a :: (w ++ [c])) ++ rest by simp,List.drop_left]
  ·have h' : x.cps.toList.drop p = 34 :: ((a :: w) ++ 34 :: (c :: rest)) := by simpa [wrL] using h
   refine ⟨_,_,scanO_quote hw h' (by simp; lia),.inr ⟨c,⟨h1,h2,h3⟩,?_,rfl⟩,by simp; lia,by lia,by lia⟩
   have e : p + (a :: w).length + 2 = p + ((34 :: ((a :: w) ++ [34])).length) := by simp; lia
   rw [e,dr,h',show (34 :: ((a :: w) ++ 34 :: (c :: rest)) : List Nat) = (34 :: ((a :: w) ++ [34])) ++ (c :: rest) by simp,List.drop_left]
  ·have h' : x.cps.toList.drop p = ((a :: w).flatMap fun a => [92,a]) ++ c :: rest := by simpa [wrL] using h
   refine ⟨_,_,scanO_esc hw h1 h2 h' (by lia),.inl ⟨?_,rfl⟩,by lia,by lia,by lia⟩
   have fl : ∀ l : List Nat,(l.flatMap fun a => [92,a]).length = 2 * l.length := fun l => by
    induction l with
    | nil => rfl
    | cons a l ih => simp only [List.flatMap_cons,List.length_append,List.length_cons,List.length_nil,ih]; lia
   have e : p + 2 * w.length + 3 = p + ((((a :: w).flatMap fun a => [92,a]) ++ [c]).length) := by
    rw [List.length_append,fl]; simp; lia
   rw [e,dr,h',show (((a :: w).flatMap fun a => [92,a]) ++ c :: rest : List Nat) = (((a :: w).flatMap fun a => [92,a]) ++ [c]) ++ rest by simp,List.drop_left]
 case r => delta id stq_it stq_out; (conv => zeta); exact k
theorem tok_step {x : Str} {p c : Nat} {n N : Int} {W rest : List Nat} {y : Int} (hy : y = 0 ∨ y = 1 ∨ y = 2) (hw : ∀ b ∈ W,PlainC b) (hne : W ≠ []) (hlen : W.length <= 14) (hc : WsC c) (h : Pend x p n (wrL y W ++ c :: rest) N) :
  ∃ p' n',scanO x 100 p n = some (⟨W.toArray⟩,p',n') ∧ Pend x p' n' rest (N + lineUp (one c)) ∧ p' <= p + 61 ∧ n <= n' ∧ n' <= n + 2 := by
 rcases h with ⟨h,rfl⟩ | ⟨c',⟨g1,g2,g3⟩,h,rfl⟩
 ·obtain ⟨p',n',e,P,b1,b2,b3⟩ := tok_here (n := n) (k := 100) hy hw hne hlen (by decide) hc h
  exact ⟨p',n',e,P,by lia,b2,by lia⟩
 ·obtain ⟨p',n',e,P,b1,b2,b3⟩ := tok_here (n := n + lineUp (one c')) (k := 99) hy hw hne hlen (by decide) hc (drop_succ h)
  exact ⟨p',n',by rw [scanO_ws h g1 g2]; exact e,P,by lia,by lia,by lia⟩
theorem end_step {x : Str} {p : Nat} {n N : Int} (h : Pend x p n [] N) : ∃ p', scanO x 100 p n = some (Str.ofString "", p', N) ∧ Pend x p' N [] N ∧ p' <= p + 2 := by
 rcases h with ⟨h,rfl⟩ | ⟨c',⟨g1,g2,g3⟩,h,rfl⟩
 ·exact ⟨p + 1,scanO_end h,.inl ⟨by rw [← List.drop_drop,h]; rfl,rfl⟩,by lia⟩
 ·have h2 := drop_succ h
  exact ⟨p + 1 + 1,by rw [scanO_ws h g1 g2]; exact scanO_end h2,.inl ⟨by rw [← List.drop_drop,h2]; rfl,rfl⟩,by lia⟩

noncomputable def maxF (a b : UInt64) : UInt64 := if (Float64.cmp a b == some Ordering.lt) = true then b else a
noncomputable def minF (a b : UInt64) : UInt64 := if (Float64.cmp b a == some Ordering.lt) = true then b else a
theorem max_three_f {prog : Program} {w : World} {A : Around} {E : Value -> Shared -> Prop} {s : Shared} {Q : Value -> Shared -> Prop} {a b c : UInt64} {t u x : Tok} {h₀ : Heap} {L : Addr} {m : Str -> Option Value} {news : List (Addr × Obj)}
  (hh : A.handled = none) (F : Fr h₀ L s.heap m) (N : News h₀ L s.heap news)
  (h : ∀ h' tk v,Fr h₀ L h' m -> News h₀ L h' news -> Q (.float (maxF (maxF a b) c) v) { s with heap := h',toks := tk }) :
  wpAny (model prog w) A (call (.builtin "max") [.float a t, .float b u, .float c x]) Q E s := by
 refine (?f : Cln _) ?p ⟨?q,fun B k => ?r⟩
 case f => exact fun x _ => x
 case q =>
  have hT : (s.heap.push { cls := .type "tuple", data := .seq #[.float a t, .float b u, .float c x] }).IsTuple s.heap.objs.size #[.float a t, .float b u, .float c x] := ⟨_, Heap.get?_push_size _ rfl, rfl, 0, rfl⟩
  refine call_max_three (wpAny_pyIter_tuple hT ?_)
  have hsz : (s.heap.push { cls := .type "tuple", data := .seq #[.float a t, .float b u, .float c x] }).objs.size = s.heap.objs.size + 1 := Heap.size_push ..
  refine ⟨_,[_,s.heap.objs.size],[_],_,_,_,_,rfl,Walks.tuple (A := A.in1) hh _ s.heap.objs.size (by rw [hsz]; exact Nat.ne_of_lt (Nat.lt_succ_self _)) #[.float a t,.float b u,.float c x],
   ⟨⟨_,Heap.get?_push_size _ rfl,rfl,rfl⟩,hT.push _⟩,fun d hd => ?_,by simp,Flt.cmpOf_gt #[.float a t,.float b u,.float c x] (by simp [Flt.NumV.float]),fun v h' tk hP hk => ?_⟩
  ·show d < ((s.heap.push _).push _).objs.size
   rw [Heap.size_push,hsz]
   rcases List.mem_cons.mp hd with rfl | hd
   ·rw [hsz]; exact Nat.lt_succ_self _
   ·rcases List.mem_cons.mp hd with rfl | hd
    ·exact Nat.lt_succ_of_lt (Nat.lt_succ_self _)
    ·cases hd
  ·have hold : ∀ d o,s.heap.get? d = some o -> h'.get? d = some o := fun d o e => by
    refine hk d o (fun hm => ?_) (Heap.get?_push_of_some _ (Heap.get?_push_of_some _ e))
    rcases List.mem_cons.mp hm with e1 | hm
    ·have := Heap.lt_size e; rw [e1,hsz] at this; exact Nat.lt_irrefl _ (Nat.lt_of_succ_lt this)
    ·cases hm
   have key : ∃ k,v = .float (maxF (maxF a b) c) k := by
    have hP' : (#[Value.float a t,.float b u,.float c x] : Array Value)[argBest (fun i j => Flt.ltV ((#[Value.float a t,.float b u,.float c x] : Array Value).getD j .none) ((#[Value.float a t,.float b u,.float c x] : Array Value).getD i .none)) 2]? = some v := hP
    unfold maxF
    cases hab : (Float64.cmp a b == some Ordering.lt) <;> cases hac : (Float64.cmp a c == some Ordering.lt) <;> cases hbc : (Float64.cmp b c == some Ordering.lt) <;>
     (simp [argBest,Flt.ltV,hab,hac,hbc] at hP'; subst hP'; first | (refine ⟨t,?_⟩; simp [hac,hbc]; done) | (refine ⟨u,?_⟩; simp [hac,hbc]; done) | (refine ⟨x,?_⟩; simp [hac,hbc]; done))
   obtain ⟨k,rfl⟩ := key
   exact h h' tk k (F.grownK hold) (N.grown hold)
 case r => (try delta id); (conv => zeta); exact k
theorem min_three_f {prog : Program} {w : World} {A : Around} {E : Value -> Shared -> Prop} {s : Shared} {Q : Value -> Shared -> Prop} {a b c : UInt64} {t u x : Tok} {h₀ : Heap} {L : Addr} {m : Str -> Option Value} {news : List (Addr × Obj)}
  (hh : A.handled = none) (F : Fr h₀ L s.heap m) (N : News h₀ L s.heap news)
  (h : ∀ h' tk v,Fr h₀ L h' m -> News h₀ L h' news -> Q (.float (minF (minF a b) c) v) { s with heap := h',toks := tk }) :
  wpAny (model prog w) A (call (.builtin "min") [.float a t, .float b u, .float c x]) Q E s := by
 refine (?f : Cln _) ?p ⟨?q,fun B k => ?r⟩
 case f => exact fun x _ => x
 case q =>
  have hT : (s.heap.push { cls := .type "tuple", data := .seq #[.float a t, .float b u, .float c x] }).IsTuple s.heap.objs.size #[.float a t, .float b u, .float c x] := ⟨_, Heap.get?_push_size _ rfl, rfl, 0, rfl⟩
  refine call_min_three (wpAny_pyIter_tuple hT ?_)
  have hsz : (s.heap.push { cls := .type "tuple", data := .seq #[.float a t, .float b u, .float c x] }).objs.size = s.heap.objs.size + 1 := Heap.size_push ..
  refine ⟨_,[_,s.heap.objs.size],[_],_,_,_,_,rfl,Walks.tuple (A := A.in1) hh _ s.heap.objs.size (by rw [hsz]; exact Nat.ne_of_lt (Nat.lt_succ_self _)) #[.float a t,.float b u,.float c x],
   ⟨⟨_,Heap.get?_push_size _ rfl,rfl,rfl⟩,hT.push _⟩,fun d hd => ?_,by simp,Flt.cmpOf_lt #[.float a t,.float b u,.float c x] (by simp [Flt.NumV.float]),fun v h' tk hP hk => ?_⟩
  ·show d < ((s.heap.push _).push _).objs.size
   rw [Heap.size_push,hsz]
   rcases List.mem_cons.mp hd with rfl | hd
   ·rw [hsz]; exact Nat.lt_succ_self _
   ·rcases List.mem_cons.mp hd with rfl | hd
    ·exact Nat.lt_succ_of_lt (Nat.lt_succ_self _)
    ·cases hd
  ·have hold : ∀ d o,s.heap.get? d = some o -> h'.get? d = some o := fun d o e => by
    refine hk d o (fun hm => ?_) (Heap.get?_push_of_some _ (Heap.get?_push_of_some _ e))
    rcases List.mem_cons.mp hm with e1 | hm
    ·have := Heap.lt_size e; rw [e1,hsz] at this; exact Nat.lt_irrefl _ (Nat.lt_of_succ_lt this)
    ·cases hm
   have key : ∃ k,v = .float (minF (minF a b) c) k := by
    have hP' : (#[Value.float a t,.float b u,.float c x] : Array Value)[argBest (fun i j => Flt.ltV ((#[Value.float a t,.float b u,.float c x] : Array Value).getD i .none) ((#[Value.float a t,.float b u,.float c x] : Array Value).getD j .none)) 2]? = some v := hP
    unfold minF
    cases hab : (Float64.cmp b a == some Ordering.lt) <;> cases hac : (Float64.cmp c a == some Ordering.lt) <;> cases hbc : (Float64.cmp c b == some Ordering.lt) <;>
     (simp [argBest,Flt.ltV,hab,hac,hbc] at hP'; subst hP'; first | (refine ⟨t,?_⟩; simp [hac,hbc]; done) | (refine ⟨u,?_⟩; simp [hac,hbc]; done) | (refine ⟨x,?_⟩; simp [hac,hbc]; done))
   obtain ⟨k,rfl⟩ := key
   exact h h' tk k (F.grownK hold) (N.grown hold)
 case r => (try delta id); (conv => zeta); exact k
noncomputable def thirdF (h s : UInt64) : Bool :=
 if (Float64.cmp s 4602678819172646912 == some Ordering.lt) = true then
  (if (Float64.cmp 4602678819172646912 h == some Ordering.lt || Float64.cmp 4602678819172646912 h == some Ordering.eq) = true then Float64.cmp h 4604930618986332160 == some Ordering.lt else false)
 else false
theorem ctr_third (w : World) (h sa : UInt64) (t1 t2 : Tok) (news : List (Addr × Obj)) :
  Ctr w 168 [.float h t1,.float sa t2] news 1 (fun r new => new = news ∧ r = .bool (thirdF h sa)) := by
 refine (?f : Cln _) ?p ⟨?q,fun B k => ?r⟩
 case f => exact fun x _ => x
 case q =>
  ((
  unfold Ctr
  intro mean mg mb loose dp un gd cn cs a ccd cl outer A₀ base h₀ L m s Q E B F KX N T hk hd hu hret
  revert KX; k_fill; intro KX
  refine wpAny_call ?_
  k_dflt ((first
  | cell_enter
  | (refine' code_defC ?k1 ?k2 ?k3 ?k4 ?k5 ?kA ?kF ?kK ?k6 ?k7 ?k8 ?k9 ?kB ?kD ?_ ?c2 ?c3 ?c4; (case kA => exact rfl); (case kF => exact rfl); (case kK => assumption); (case k1 => k_asm); (case k2 => k_asm); (case k3 => k_asm); (case k4 => k_asm); (case k5 => k_asm); (case k6 => k_is); (case k7 => k_is); (case k8 => ktr_room); (case k9 => exact BindsTo.of_eq rfl); (case kB => exact rfl); (case kD => decide +kernel); (case c2 => exact rfl); (case c3 => exact rfl); (case c4 => exact rfl); k_whole; intro g' L' h' tk' cells' FG' F' N' Y' B' X' T' l1; (try k_lt l1); k_cells Y'; (try simp only [List.cons_append,List.nil_append] at N'); (try dsimp only); (try k_lift B'); (try k_fold))))))
  k_steps
  all_goals (
   have hv : thirdF h sa = thirdF h sa := rfl
   conv at hv => rhs; unfold thirdF
   simp only [*,if_true,if_false,Bool.false_eq_true] at hv
   refine hret _ _ _ _ ⟨rfl,?_⟩ (by k_asm) (by k_asm)
   first | exact congrArg Value.bool hv.symm | (refine congrArg Value.bool ?_; simp only [*]; done) | fail "end")
 case r => delta id stq_it stq_out; exact k
theorem use_third {w : World} {hue sa : UInt64} {t1 t2 : Tok} {news : List (Addr × Obj)} {mean : ExcName -> Option Value} {mg mb : Str -> Option Value} {loose : List Str}
  {dp un : Nat} {gd : Option (List Code)} {cn : Str} {cs : Scope} {a : Addr} {ccd : Value} {cl : List (Str × Addr)} {outer : List Env} {A₀ : Around} {base h₀ : Heap} {L : Addr} {m : Str -> Option Value} {s : Shared} {Q E : Value -> Shared -> Prop}
  (B : Below A₀ base outer h₀) (F : Fr h₀ L s.heap m) (X : (hd.heap_39 w.params).In h₀) (N : News h₀ L s.heap news) (T : Top topProg loose mean mg mb h₀) (hk : cs.kind = .function) (hd : dp + 1 < recursionLimit) (hu : un + 8 * 1 < cLine)
  (hret : ∀ (h' : Heap) (tk' : Nat),Fr h₀ L h' m -> News h₀ L h' news -> Q (.bool (thirdF hue sa)) { s with heap := h',toks := tk' }) :
  wpAny (model rw_xg0057_01.row.prog w) (ktrTop dp un gd cn cs L a ccd cl outer) (call (.ref 168) [.float hue t1,.float sa t2]) Q E s :=
 ctr_use (ctr_third w hue sa t1 t2 news) B F X N T hk hd hu (fun r new h' tk' hp F' N' => by
  obtain ⟨rfl,rfl⟩ := hp
  exact hret _ _ F' N')

set_option hygiene false in
local macro_rules | `(tactic| walk_at "call ref") => `(tactic| ((with_reducible show wpAny _ _ (call (Value.ref 168) [Value.float _ _, Value.float _ _]) _ _ _); k_dflt (refine' use_third ?k1 ?k2 ?k3 ?k4 ?k5 ?kK ?kd ?ku ?_); walk_at "my sides"; intro h' tk' F' N'; (try dsimp only)))

noncomputable def hsvF (h s v : UInt64) : Option (UInt64 × UInt64 × UInt64) :=
 if (Float64.cmp s 0 == some Ordering.eq) = true then some (v,v,v)
 else if Float64.isFinite (Float64.mul h 4618441417868443648) = true then
  if (Flt.toInt Float64.truncOf (Float64.mul h 4618441417868443648)).natAbs < 2^1024 - 2^970 then
   let x := Float64.mul h 4618441417868443648
   let i := Flt.toInt Float64.truncOf x
   let f := Float64.sub x (Float64.ofInt i)
   let p := Float64.mul v (Float64.sub 4607182418800017408 s)
   let q := Float64.mul v (Float64.sub 4607182418800017408 (Float64.mul s f))
   let t := Float64.mul v (Float64.sub 4607182418800017408 (Float64.mul s (Float64.sub 4607182418800017408 f)))
   if i.fmod 6 = 0 then some (v,t,p)
   else if i.fmod 6 = 1 then some (q,v,p)
   else if i.fmod 6 = 2 then some (p,v,t)
   else if i.fmod 6 = 3 then some (p,q,v)
   else if i.fmod 6 = 4 then some (t,p,v)
   else if i.fmod 6 = 5 then some (v,p,q)
   else none
  else none
 else none
theorem hsvT {h s v : UInt64} (a : (Float64.cmp s 0 == some Ordering.eq) = false) (b : Float64.isFinite (Float64.mul h 4618441417868443648) = true) (c : (Flt.toInt Float64.truncOf (Float64.mul h 4618441417868443648)).natAbs < 2^1024 - 2^970) : hsvF h s v = (if (Flt.toInt Float64.truncOf (Float64.mul h 4618441417868443648)).fmod 6 = 0 then some (v,(Float64.mul v (Float64.sub 4607182418800017408 (Float64.mul s (Float64.sub 4607182418800017408 (Float64.sub (Float64.mul h 4618441417868443648) (Float64.ofInt (Flt.toInt Float64.truncOf (Float64.mul h 4618441417868443648)))))))),(Float64.mul v (Float64.sub 4607182418800017408 s))) else if (Flt.toInt Float64.truncOf (Float64.mul h 4618441417868443648)).fmod 6 = 1 then some ((Float64.mul v (Float64.sub 4607182418800017408 (Float64.mul s (Float64.sub (Float64.mul h 4618441417868443648) (Float64.ofInt (Flt.toInt Float64.truncOf (Float64.mul h 4618441417868443648))))))),v,(Float64.mul v (Float64.sub 4607182418800017408 s))) else if (Flt.toInt Float64.truncOf (Float64.mul h 4618441417868443648)).fmod 6 = 2 then some ((Float64.mul v (Float64.sub 4607182418800017408 s)),v,(Float64.mul v (Float64.sub 4607182418800017408 (Float64.mul s (Float64.sub 4607182418800017408 (Float64.sub (Float64.mul h 4618441417868443648) (Float64.ofInt (Flt.toInt Float64.truncOf (Float64.mul h 4618441417868443648))))))))) else if (Flt.toInt Float64.truncOf (Float64.mul h 4618441417868443648)).fmod 6 = 3 then some ((Float64.mul v (Float64.sub 4607182418800017408 s)),(Float64.mul v (Float64.sub 4607182418800017408 (Float64.mul s (Float64.sub (Float64.mul h 4618441417868443648) (Float64.ofInt (Flt.toInt Float64.truncOf (Float64.mul h 4618441417868443648))))))),v) else if (Flt.toInt Float64.truncOf (Float64.mul h 4618441417868443648)).fmod 6 = 4 then some ((Float64.mul v (Float64.sub 4607182418800017408 (Float64.mul s (Float64.sub 4607182418800017408 (Float64.sub (Float64.mul h 4618441417868443648) (Float64.ofInt (Flt.toInt Float64.truncOf (Float64.mul h 4618441417868443648)))))))),(Float64.mul v (Float64.sub 4607182418800017408 s)),v) else if (Flt.toInt Float64.truncOf (Float64.mul h 4618441417868443648)).fmod 6 = 5 then some (v,(Float64.mul v (Float64.sub 4607182418800017408 s)),(Float64.mul v (Float64.sub 4607182418800017408 (Float64.mul s (Float64.sub (Float64.mul h 4618441417868443648) (Float64.ofInt (Flt.toInt Float64.truncOf (Float64.mul h 4618441417868443648)))))))) else none) :=
 (if_neg (by rw [a]; decide)).trans ((if_pos b).trans (if_pos c))
theorem hsvA {h s v : UInt64} (a : (Float64.cmp s 0 == some Ordering.eq) = true) : hsvF h s v = some (v,v,v) := if_pos a
theorem hsvN {h s v : UInt64} (hf : (hsvF h s v).isSome = true) (a : (Float64.cmp s 0 == some Ordering.eq) = false) (b : Float64.isFinite (Float64.mul h 4618441417868443648) = false) : False := by
 refine (?f : Cln _) ?p ⟨?q,fun B k => ?r⟩
 case f => exact fun x _ => x
 case q =>
  rw [show hsvF h s v = none from (if_neg (by rw [a]; decide)).trans (if_neg (by rw [b]; decide))] at hf; cases hf
 case r => delta id stq_it stq_out; exact k
theorem hsvBig {h s v : UInt64} (hf : (hsvF h s v).isSome = true) (a : (Float64.cmp s 0 == some Ordering.eq) = false) (b : Float64.isFinite (Float64.mul h 4618441417868443648) = true) (c : 2^1024 - 2^970 <= (Flt.toInt Float64.truncOf (Float64.mul h 4618441417868443648)).natAbs) : False := by
 rw [show hsvF h s v = none from (if_neg (by rw [a]; decide)).trans ((if_pos b).trans (if_neg (Nat.not_lt.mpr c)))] at hf; cases hf
theorem hsv0 {h s v : UInt64} (a : (Float64.cmp s 0 == some Ordering.eq) = false) (b : Float64.isFinite (Float64.mul h 4618441417868443648) = true) (c : (Flt.toInt Float64.truncOf (Float64.mul h 4618441417868443648)).natAbs < 2^1024 - 2^970) (e : (Flt.toInt Float64.truncOf (Float64.mul h 4618441417868443648)).fmod 6 = 0) : hsvF h s v = some (v,(Float64.mul v (Float64.sub 4607182418800017408 (Float64.mul s (Float64.sub 4607182418800017408 (Float64.sub (Float64.mul h 4618441417868443648) (Float64.ofInt (Flt.toInt Float64.truncOf (Float64.mul h 4618441417868443648)))))))),(Float64.mul v (Float64.sub 4607182418800017408 s))) := (hsvT a b c).trans (if_pos e)
theorem hsv1 {h s v : UInt64} (a : (Float64.cmp s 0 == some Ordering.eq) = false) (b : Float64.isFinite (Float64.mul h 4618441417868443648) = true) (c : (Flt.toInt Float64.truncOf (Float64.mul h 4618441417868443648)).natAbs < 2^1024 - 2^970) (n0 : (Flt.toInt Float64.truncOf (Float64.mul h 4618441417868443648)).fmod 6 ≠ 0) (e : (Flt.toInt Float64.truncOf (Float64.mul h 4618441417868443648)).fmod 6 = 1) : hsvF h s v = some ((Float64.mul v (Float64.sub 4607182418800017408 (Float64.mul s (Float64.sub (Float64.mul h 4618441417868443648) (Float64.ofInt (Flt.toInt Float64.truncOf (Float64.mul h 4618441417868443648))))))),v,(Float64.mul v (Float64.sub 4607182418800017408 s))) := (hsvT a b c).trans ((if_neg n0).trans (if_pos e))
theorem hsv2 {h s v : UInt64} (a : (Float64.cmp s 0 == some Ordering.eq) = false) (b : Float64.isFinite (Float64.mul h 4618441417868443648) = true) (c : (Flt.toInt Float64.truncOf (Float64.mul h 4618441417868443648)).natAbs < 2^1024 - 2^970) (n0 : (Flt.toInt Float64.truncOf (Float64.mul h 4618441417868443648)).fmod 6 ≠ 0) (n1 : (Flt.toInt Float64.truncOf (Float64.mul h 4618441417868443648)).fmod 6 ≠ 1) (e : (Flt.toInt Float64.truncOf (Float64.mul h 4618441417868443648)).fmod 6 = 2) : hsvF h s v = some ((Float64.mul v (Float64.sub 4607182418800017408 s)),v,(Float64.mul v (Float64.sub 4607182418800017408 (Float64.mul s (Float64.sub 4607182418800017408 (Float64.sub (Float64.mul h 4618441417868443648) (Float64.ofInt (Flt.toInt Float64.truncOf (Float64.mul h 4618441417868443648))))))))) := (hsvT a b c).trans ((if_neg n0).trans ((if_neg n1).trans (if_pos e)))
theorem hsv3 {h s v : UInt64} (a : (Float64.cmp s 0 == some Ordering.eq) = false) (b : Float64.isFinite (Float64.mul h 4618441417868443648) = true) (c : (Flt.toInt Float64.truncOf (Float64.mul h 4618441417868443648)).natAbs < 2^1024 - 2^970) (n0 : (Flt.toInt Float64.truncOf (Float64.mul h 4618441417868443648)).fmod 6 ≠ 0) (n1 : (Flt.toInt Float64.truncOf (Float64.mul h 4618441417868443648)).fmod 6 ≠ 1) (n2 : (Flt.toInt Float64.truncOf (Float64.mul h 4618441417868443648)).fmod 6 ≠ 2) (e : (Flt.toInt Float64.truncOf (Float64.mul h 4618441417868443648)).fmod 6 = 3) : hsvF h s v = some ((Float64.mul v (Float64.sub 4607182418800017408 s)),(Float64.mul v (Float64.sub 4607182418800017408 (Float64.mul s (Float64.sub (Float64.mul h 4618441417868443648) (Float64.ofInt (Flt.toInt Float64.truncOf (Float64.mul h 4618441417868443648))))))),v) := (hsvT a b c).trans ((if_neg n0).trans ((if_neg n1).trans ((if_neg n2).trans (if_pos e))))
theorem hsv4 {h s v : UInt64} (a : (Float64.cmp s 0 == some Ordering.eq) = false) (b : Float64.isFinite (Float64.mul h 4618441417868443648) = true) (c : (Flt.toInt Float64.truncOf (Float64.mul h 4618441417868443648)).natAbs < 2^1024 - 2^970) (n0 : (Flt.toInt Float64.truncOf (Float64.mul h 4618441417868443648)).fmod 6 ≠ 0) (n1 : (Flt.toInt Float64.truncOf (Float64.mul h 4618441417868443648)).fmod 6 ≠ 1) (n2 : (Flt.toInt Float64.truncOf (Float64.mul h 4618441417868443648)).fmod 6 ≠ 2) (n3 : (Flt.toInt Float64.truncOf (Float64.mul h 4618441417868443648)).fmod 6 ≠ 3) (e : (Flt.toInt Float64.truncOf (Float64.mul h 4618441417868443648)).fmod 6 = 4) : hsvF h s v = some ((Float64.mul v (Float64.sub 4607182418800017408 (Float64.mul s (Float64.sub 4607182418800017408 (Float64.sub (Float64.mul h 4618441417868443648) (Float64.ofInt (Flt.toInt Float64.truncOf (Float64.mul h 4618441417868443648)))))))),(Float64.mul v (Float64.sub 4607182418800017408 s)),v) := (hsvT a b c).trans ((if_neg n0).trans ((if_neg n1).trans ((if_neg n2).trans ((if_neg n3).trans (if_pos e)))))
theorem hsv5 {h s v : UInt64} (a : (Float64.cmp s 0 == some Ordering.eq) = false) (b : Float64.isFinite (Float64.mul h 4618441417868443648) = true) (c : (Flt.toInt Float64.truncOf (Float64.mul h 4618441417868443648)).natAbs < 2^1024 - 2^970) (n0 : (Flt.toInt Float64.truncOf (Float64.mul h 4618441417868443648)).fmod 6 ≠ 0) (n1 : (Flt.toInt Float64.truncOf (Float64.mul h 4618441417868443648)).fmod 6 ≠ 1) (n2 : (Flt.toInt Float64.truncOf (Float64.mul h 4618441417868443648)).fmod 6 ≠ 2) (n3 : (Flt.toInt Float64.truncOf (Float64.mul h 4618441417868443648)).fmod 6 ≠ 3) (n4 : (Flt.toInt Float64.truncOf (Float64.mul h 4618441417868443648)).fmod 6 ≠ 4) (e : (Flt.toInt Float64.truncOf (Float64.mul h 4618441417868443648)).fmod 6 = 5) : hsvF h s v = some (v,(Float64.mul v (Float64.sub 4607182418800017408 s)),(Float64.mul v (Float64.sub 4607182418800017408 (Float64.mul s (Float64.sub (Float64.mul h 4618441417868443648) (Float64.ofInt (Flt.toInt Float64.truncOf (Float64.mul h 4618441417868443648)))))))) := (hsvT a b c).trans ((if_neg n0).trans ((if_neg n1).trans ((if_neg n2).trans ((if_neg n3).trans ((if_neg n4).trans (if_pos e))))))
theorem hsv6 {h s v : UInt64} (hf : (hsvF h s v).isSome = true) (a : (Float64.cmp s 0 == some Ordering.eq) = false) (b : Float64.isFinite (Float64.mul h 4618441417868443648) = true) (c : (Flt.toInt Float64.truncOf (Float64.mul h 4618441417868443648)).natAbs < 2^1024 - 2^970) (n0 : (Flt.toInt Float64.truncOf (Float64.mul h 4618441417868443648)).fmod 6 ≠ 0) (n1 : (Flt.toInt Float64.truncOf (Float64.mul h 4618441417868443648)).fmod 6 ≠ 1) (n2 : (Flt.toInt Float64.truncOf (Float64.mul h 4618441417868443648)).fmod 6 ≠ 2) (n3 : (Flt.toInt Float64.truncOf (Float64.mul h 4618441417868443648)).fmod 6 ≠ 3) (n4 : (Flt.toInt Float64.truncOf (Float64.mul h 4618441417868443648)).fmod 6 ≠ 4) (n5 : (Flt.toInt Float64.truncOf (Float64.mul h 4618441417868443648)).fmod 6 ≠ 5) : False := by
 rw [(hsvT a b c).trans ((if_neg n0).trans ((if_neg n1).trans ((if_neg n2).trans ((if_neg n3).trans ((if_neg n4).trans (if_neg n5))))))] at hf; cases hf
theorem ctr_hsv (w : World) (h sa v : UInt64) (t1 t2 t3 : Tok) (hf : (hsvF h sa v).isSome = true) (news : List (Addr × Obj)) :
  Ctr w 78 [.float h t1,.float sa t2,.float v t3] news 1 (TriPost (hsvF h sa v) news) := by
 refine (?f : Cln _) ?p ⟨?q,fun B k => ?r⟩
 case f => exact fun x _ => x
 case q =>
  ((
  unfold Ctr
  intro mean mg mb loose dp un gd cn cs a ccd cl outer A₀ base h₀ L m s Q E B F KX N T hk hd hu hret
  revert KX; k_fill; intro KX
  refine wpAny_call ?_
  k_dflt ((first
  | cell_enter
  | (refine' code_defC ?k1 ?k2 ?k3 ?k4 ?k5 ?kA ?kF ?kK ?k6 ?k7 ?k8 ?k9 ?kB ?kD ?_ ?c2 ?c3 ?c4; (case kA => exact rfl); (case kF => exact rfl); (case kK => assumption); (case k1 => k_asm); (case k2 => k_asm); (case k3 => k_asm); (case k4 => k_asm); (case k5 => k_asm); (case k6 => k_is); (case k7 => k_is); (case k8 => ktr_room); (case k9 => exact BindsTo.of_eq rfl); (case kB => exact rfl); (case kD => decide +kernel); (case c2 => exact rfl); (case c3 => exact rfl); (case c4 => exact rfl); k_whole; intro g' L' h' tk' cells' FG' F' N' Y' B' X' T' l1; (try k_lt l1); k_cells Y'; (try simp only [List.cons_append,List.nil_append] at N'); (try dsimp only); (try k_lift B'); (try k_fold))))))
  k_steps
  all_goals first
   | exact hret _ _ _ _ (triI (hsvA (by assumption)) (by assumption)) (by k_asm) (by k_asm)
   | exact hret _ _ _ _ (triI (hsv0 (by assumption) (by assumption) (by assumption) (by assumption)) (by assumption)) (by k_asm) (by k_asm)
   | exact hret _ _ _ _ (triI (hsv1 (by assumption) (by assumption) (by assumption) (by assumption) (by assumption)) (by assumption)) (by k_asm) (by k_asm)
   | exact hret _ _ _ _ (triI (hsv2 (by assumption) (by assumption) (by assumption) (by assumption) (by assumption) (by assumption)) (by assumption)) (by k_asm) (by k_asm)
   | exact hret _ _ _ _ (triI (hsv3 (by assumption) (by assumption) (by assumption) (by assumption) (by assumption) (by assumption) (by assumption)) (by assumption)) (by k_asm) (by k_asm)
   | exact hret _ _ _ _ (triI (hsv4 (by assumption) (by assumption) (by assumption) (by assumption) (by assumption) (by assumption) (by assumption) (by assumption)) (by assumption)) (by k_asm) (by k_asm)
   | exact hret _ _ _ _ (triI (hsv5 (by assumption) (by assumption) (by assumption) (by assumption) (by assumption) (by assumption) (by assumption) (by assumption) (by assumption)) (by assumption)) (by k_asm) (by k_asm)
   | exact (hsvN hf (by assumption) (Flt.not_finite_of_nan (by assumption))).elim
   | exact (hsvN hf (by assumption) (Flt.not_finite_of_inf (by assumption))).elim
   | exact (hsvBig hf (by assumption) (by assumption) (by assumption)).elim
   | exact (hsv6 hf (by assumption) (by assumption) (by assumption) (by assumption) (by assumption) (by assumption) (by assumption) (by assumption) (by assumption)).elim
 case r => delta id stq_it stq_out; exact k
theorem use_hsv {w : World} {hue sa v : UInt64} {t1 t2 t3 : Tok} (hf : (hsvF hue sa v).isSome = true) {news : List (Addr × Obj)} {mean : ExcName -> Option Value} {mg mb : Str -> Option Value} {loose : List Str}
  {dp un : Nat} {gd : Option (List Code)} {cn : Str} {cs : Scope} {a : Addr} {ccd : Value} {cl : List (Str × Addr)} {outer : List Env} {A₀ : Around} {base h₀ : Heap} {L : Addr} {m : Str -> Option Value} {s : Shared} {Q E : Value -> Shared -> Prop}
  (B : Below A₀ base outer h₀) (F : Fr h₀ L s.heap m) (X : (hd.heap_39 w.params).In h₀) (N : News h₀ L s.heap news) (T : Top topProg loose mean mg mb h₀) (hk : cs.kind = .function) (hd : dp + 1 < recursionLimit) (hu : un + 8 * 1 < cLine)
  (hret : ∀ (c1 c2 c3 : UInt64) (D : Addr) (t4 t5 t6 : Tok) (h' : Heap) (tk' : Nat),hsvF hue sa v = some (c1,c2,c3) -> Fr h₀ L h' m -> News h₀ L h' ((D,tupO [.float c1 t4,.float c2 t5,.float c3 t6]) :: news) -> (∀ p ∈ news,p.1 < D) -> Q (.ref D) { s with heap := h',toks := tk' }) :
  wpAny (model rw_xg0057_01.row.prog w) (ktrTop dp un gd cn cs L a ccd cl outer) (call (.ref 78) [.float hue t1,.float sa t2,.float v t3]) Q E s :=
 ctr_use (ctr_hsv w hue sa v t1 t2 t3 hf news) B F X N T hk hd hu (fun r new h' tk' hp F' N' =>
  hp (fun r new => News h₀ L h' new -> Q r { s with heap := h',toks := tk' }) (fun _ _ _ _ _ _ _ hq l1 N' => hret _ _ _ _ _ _ _ _ _ hq F' N' l1) N')

section
local macro_rules | `(tactic| walk_at $s) => if ["call builtin:max","call builtin:min"].contains s.getString then `(tactic| refine stq_it $s ?_) else Lean.Macro.throwUnsupported
noncomputable def rgbF (r g b : UInt64) : Option (UInt64 × UInt64 × UInt64) :=
 let maxc := maxF (maxF r g) b
 let minc := minF (minF r g) b
 let rangec := Float64.sub maxc minc
 let rc := Float64.div (Float64.sub maxc r) rangec
 let gc := Float64.div (Float64.sub maxc g) rangec
 let bc := Float64.div (Float64.sub maxc b) rangec
 let s := Float64.div rangec maxc
 let fin (h : UInt64) : UInt64 := (Float64.divmod (Float64.div h 4618441417868443648) 4607182418800017408).2
 if (Float64.cmp minc maxc == some Ordering.eq) = true then some (0,0,maxc)
 else if Float64.isZero maxc = true then none
 else if Float64.isZero rangec = true then none
 else if (Float64.cmp r maxc == some Ordering.eq) = true then some (fin (Float64.sub bc gc),s,maxc)
 else if (Float64.cmp g maxc == some Ordering.eq) = true then some (fin (Float64.sub (Float64.add 4611686018427387904 rc) bc),s,maxc)
 else some (fin (Float64.sub (Float64.add 4616189618054758400 gc) rc),s,maxc)
theorem rgbT {r g b : UInt64} (a : (Float64.cmp (minF (minF r g) b) (maxF (maxF r g) b) == some Ordering.eq) = false) (b1 : ¬Float64.isZero (maxF (maxF r g) b) = true) (b2 : ¬Float64.isZero (Float64.sub (maxF (maxF r g) b) (minF (minF r g) b)) = true) : rgbF r g b = (if (Float64.cmp r (maxF (maxF r g) b) == some Ordering.eq) = true then some ((Float64.divmod (Float64.div (Float64.sub (Float64.div (Float64.sub (maxF (maxF r g) b) b) (Float64.sub (maxF (maxF r g) b) (minF (minF r g) b))) (Float64.div (Float64.sub (maxF (maxF r g) b) g) (Float64.sub (maxF (maxF r g) b) (minF (minF r g) b)))) 4618441417868443648) 4607182418800017408).2,(Float64.div (Float64.sub (maxF (maxF r g) b) (minF (minF r g) b)) (maxF (maxF r g) b)),(maxF (maxF r g) b)) else if (Float64.cmp g (maxF (maxF r g) b) == some Ordering.eq) = true then some ((Float64.divmod (Float64.div (Float64.sub (Float64.add 4611686018427387904 (Float64.div (Float64.sub (maxF (maxF r g) b) r) (Float64.sub (maxF (maxF r g) b) (minF (minF r g) b)))) (Float64.div (Float64.sub (maxF (maxF r g) b) b) (Float64.sub (maxF (maxF r g) b) (minF (minF r g) b)))) 4618441417868443648) 4607182418800017408).2,(Float64.div (Float64.sub (maxF (maxF r g) b) (minF (minF r g) b)) (maxF (maxF r g) b)),(maxF (maxF r g) b)) else some ((Float64.divmod (Float64.div (Float64.sub (Float64.add 4616189618054758400 (Float64.div (Float64.sub (maxF (maxF r g) b) g) (Float64.sub (maxF (maxF r g) b) (minF (minF r g) b)))) (Float64.div (Float64.sub (maxF (maxF r g) b) r) (Float64.sub (maxF (maxF r g) b) (minF (minF r g) b)))) 4618441417868443648) 4607182418800017408).2,(Float64.div (Float64.sub (maxF (maxF r g) b) (minF (minF r g) b)) (maxF (maxF r g) b)),(maxF (maxF r g) b))) :=
 (if_neg (by rw [a]; decide)).trans ((if_neg b1).trans (if_neg b2))
theorem rgbA {r g b : UInt64} (a : (Float64.cmp (minF (minF r g) b) (maxF (maxF r g) b) == some Ordering.eq) = true) : rgbF r g b = some (0,0,(maxF (maxF r g) b)) := if_pos a
theorem rgb1 {r g b : UInt64} (a : (Float64.cmp (minF (minF r g) b) (maxF (maxF r g) b) == some Ordering.eq) = false) (b1 : ¬Float64.isZero (maxF (maxF r g) b) = true) (b2 : ¬Float64.isZero (Float64.sub (maxF (maxF r g) b) (minF (minF r g) b)) = true) (c : (Float64.cmp r (maxF (maxF r g) b) == some Ordering.eq) = true) : rgbF r g b = some ((Float64.divmod (Float64.div (Float64.sub (Float64.div (Float64.sub (maxF (maxF r g) b) b) (Float64.sub (maxF (maxF r g) b) (minF (minF r g) b))) (Float64.div (Float64.sub (maxF (maxF r g) b) g) (Float64.sub (maxF (maxF r g) b) (minF (minF r g) b)))) 4618441417868443648) 4607182418800017408).2,(Float64.div (Float64.sub (maxF (maxF r g) b) (minF (minF r g) b)) (maxF (maxF r g) b)),(maxF (maxF r g) b)) := (rgbT a b1 b2).trans (if_pos c)
theorem rgb2 {r g b : UInt64} (a : (Float64.cmp (minF (minF r g) b) (maxF (maxF r g) b) == some Ordering.eq) = false) (b1 : ¬Float64.isZero (maxF (maxF r g) b) = true) (b2 : ¬Float64.isZero (Float64.sub (maxF (maxF r g) b) (minF (minF r g) b)) = true) (c : (Float64.cmp r (maxF (maxF r g) b) == some Ordering.eq) = false) (d : (Float64.cmp g (maxF (maxF r g) b) == some Ordering.eq) = true) : rgbF r g b = some ((Float64.divmod (Float64.div (Float64.sub (Float64.add 4611686018427387904 (Float64.div (Float64.sub (maxF (maxF r g) b) r) (Float64.sub (maxF (maxF r g) b) (minF (minF r g) b)))) (Float64.div (Float64.sub (maxF (maxF r g) b) b) (Float64.sub (maxF (maxF r g) b) (minF (minF r g) b)))) 4618441417868443648) 4607182418800017408).2,(Float64.div (Float64.sub (maxF (maxF r g) b) (minF (minF r g) b)) (maxF (maxF r g) b)),(maxF (maxF r g) b)) := (rgbT a b1 b2).trans ((if_neg (by rw [c]; decide)).trans (if_pos d))
theorem rgb3 {r g b : UInt64} (a : (Float64.cmp (minF (minF r g) b) (maxF (maxF r g) b) == some Ordering.eq) = false) (b1 : ¬Float64.isZero (maxF (maxF r g) b) = true) (b2 : ¬Float64.isZero (Float64.sub (maxF (maxF r g) b) (minF (minF r g) b)) = true) (c : (Float64.cmp r (maxF (maxF r g) b) == some Ordering.eq) = false) (d : (Float64.cmp g (maxF (maxF r g) b) == some Ordering.eq) = false) : rgbF r g b = some ((Float64.divmod (Float64.div (Float64.sub (Float64.add 4616189618054758400 (Float64.div (Float64.sub (maxF (maxF r g) b) g) (Float64.sub (maxF (maxF r g) b) (minF (minF r g) b)))) (Float64.div (Float64.sub (maxF (maxF r g) b) r) (Float64.sub (maxF (maxF r g) b) (minF (minF r g) b)))) 4618441417868443648) 4607182418800017408).2,(Float64.div (Float64.sub (maxF (maxF r g) b) (minF (minF r g) b)) (maxF (maxF r g) b)),(maxF (maxF r g) b)) := (rgbT a b1 b2).trans ((if_neg (by rw [c]; decide)).trans (if_neg (by rw [d]; decide)))
theorem rgbZ {r g b : UInt64} (hf : (rgbF r g b).isSome = true) (a : (Float64.cmp (minF (minF r g) b) (maxF (maxF r g) b) == some Ordering.eq) = false) (b1 : Float64.isZero (maxF (maxF r g) b) = true) : False := by
 rw [show rgbF r g b = none from (if_neg (by rw [a]; decide)).trans (if_pos b1)] at hf; cases hf
theorem rgbY {r g b : UInt64} (hf : (rgbF r g b).isSome = true) (a : (Float64.cmp (minF (minF r g) b) (maxF (maxF r g) b) == some Ordering.eq) = false) (b2 : Float64.isZero (Float64.sub (maxF (maxF r g) b) (minF (minF r g) b)) = true) : False := by
 have e : rgbF r g b = none := by
  refine (if_neg (by rw [a]; decide)).trans ?_
  by_cases b1 : Float64.isZero (maxF (maxF r g) b) = true
  ·exact if_pos b1
  ·exact (if_neg b1).trans (if_pos b2)
 rw [e] at hf; cases hf
theorem ctr_rgb (w : World) (r g b : UInt64) (t1 t2 t3 : Tok) (hf : (rgbF r g b).isSome = true) (news : List (Addr × Obj)) :
  Ctr w 71 [.float r t1,.float g t2,.float b t3] news 1 (TriPost (rgbF r g b) news) := by
 refine (?f : Cln _) ?p ⟨?q,fun B k => ?r⟩
 case f => exact fun x _ => x
 case q =>
  ((
  unfold Ctr
  intro mean mg mb loose dp un gd cn cs a ccd cl outer A₀ base h₀ L m s Q E B F KX N T hk hd hu hret
  revert KX; k_fill; intro KX
  refine wpAny_call ?_
  k_dflt ((first
  | cell_enter
  | (refine' code_defC ?k1 ?k2 ?k3 ?k4 ?k5 ?kA ?kF ?kK ?k6 ?k7 ?k8 ?k9 ?kB ?kD ?_ ?c2 ?c3 ?c4; (case kA => exact rfl); (case kF => exact rfl); (case kK => assumption); (case k1 => k_asm); (case k2 => k_asm); (case k3 => k_asm); (case k4 => k_asm); (case k5 => k_asm); (case k6 => k_is); (case k7 => k_is); (case k8 => ktr_room); (case k9 => exact BindsTo.of_eq rfl); (case kB => exact rfl); (case kD => decide +kernel); (case c2 => exact rfl); (case c3 => exact rfl); (case c4 => exact rfl); k_whole; intro g' L' h' tk' cells' FG' F' N' Y' B' X' T' l1; (try k_lt l1); k_cells Y'; (try simp only [List.cons_append,List.nil_append] at N'); (try dsimp only); (try k_lift B'); (try k_fold))))))
  (k_steps; repeat' ((first | (refine stq_out "call builtin:min" ?_; ((with_reducible show wpAny _ _ (call _ [Value.float _ _, Value.float _ _, Value.float _ _]) _ _ _); (rename News _ _ _ _ => N'); (rename Fr _ _ _ _ => F'); refine min_three_f rfl F' N' ?_; clear N'; intro h' tk' v' F' N'; (try dsimp only))) | (refine stq_out "call builtin:max" ?_; ((with_reducible show wpAny _ _ (call _ [Value.float _ _, Value.float _ _, Value.float _ _]) _ _ _); (rename News _ _ _ _ => N'); (rename Fr _ _ _ _ => F'); refine max_three_f rfl F' N' ?_; clear N'; intro h' tk' v' F' N'; (try dsimp only))) | fail) <;> k_steps))
  all_goals first
   | exact hret _ _ _ _ (triI (rgbA (by assumption)) (by assumption)) (by k_asm) (by k_asm)
   | exact hret _ _ _ _ (triI (rgb1 (by assumption) (by assumption) (by assumption) (by assumption)) (by assumption)) (by k_asm) (by k_asm)
   | exact hret _ _ _ _ (triI (rgb2 (by assumption) (by assumption) (by assumption) (by assumption) (by assumption)) (by assumption)) (by k_asm) (by k_asm)
   | exact hret _ _ _ _ (triI (rgb3 (by assumption) (by assumption) (by assumption) (by assumption) (by assumption)) (by assumption)) (by k_asm) (by k_asm)
   | exact absurd (show Float64.isZero 4618441417868443648 = true by assumption) (by decide)
   | exact absurd (show Float64.isZero 4607182418800017408 = true by assumption) (by decide)
   | exact (rgbZ hf (by assumption) (by assumption)).elim
   | exact (rgbY hf (by assumption) (by assumption)).elim
 case r => delta id stq_it stq_out; exact k
theorem use_rgb {w : World} {r g b : UInt64} {t1 t2 t3 : Tok} (hf : (rgbF r g b).isSome = true) {news : List (Addr × Obj)} {mean : ExcName -> Option Value} {mg mb : Str -> Option Value} {loose : List Str}
  {dp un : Nat} {gd : Option (List Code)} {cn : Str} {cs : Scope} {a : Addr} {ccd : Value} {cl : List (Str × Addr)} {outer : List Env} {A₀ : Around} {base h₀ : Heap} {L : Addr} {m : Str -> Option Value} {s : Shared} {Q E : Value -> Shared -> Prop}
  (B : Below A₀ base outer h₀) (F : Fr h₀ L s.heap m) (X : (hd.heap_39 w.params).In h₀) (N : News h₀ L s.heap news) (T : Top topProg loose mean mg mb h₀) (hk : cs.kind = .function) (hd : dp + 1 < recursionLimit) (hu : un + 8 * 1 < cLine)
  (hret : ∀ (c1 c2 c3 : UInt64) (D : Addr) (t4 t5 t6 : Tok) (h' : Heap) (tk' : Nat),rgbF r g b = some (c1,c2,c3) -> Fr h₀ L h' m -> News h₀ L h' ((D,tupO [.float c1 t4,.float c2 t5,.float c3 t6]) :: news) -> (∀ p ∈ news,p.1 < D) -> Q (.ref D) { s with heap := h',toks := tk' }) :
  wpAny (model rw_xg0057_01.row.prog w) (ktrTop dp un gd cn cs L a ccd cl outer) (call (.ref 71) [.float r t1,.float g t2,.float b t3]) Q E s :=
 ctr_use (ctr_rgb w r g b t1 t2 t3 hf news) B F X N T hk hd hu (fun r new h' tk' hp F' N' =>
  hp (fun r new => News h₀ L h' new -> Q r { s with heap := h',toks := tk' }) (fun _ _ _ _ _ _ _ hq l1 N' => hret _ _ _ _ _ _ _ _ _ hq F' N' l1) N')
end

example {M : Model} {A : Around} {env : Env} {Q : Flow -> Shared -> Prop} {E : Value -> Shared -> Prop} {s : Shared} (h : Q .next s) : wpAny M A (execs [] env) Q E s := by first | (walk1; exact h) | exact wpAny_execs_nil h

section
noncomputable def nextF (hue sa : UInt64) : Option (Option (UInt64 × UInt64 × UInt64)) :=
 if thirdF hue sa = true then (hsvF (Float64.mul (Float64.ofInt 4) hue) (Float64.mul (Float64.ofInt 2) sa) 4607182418800017408).map some
 else if (Float64.cmp sa 4598175219545276416 == some Ordering.lt) = true then
  let width := Float64.mul (Float64.mul (Float64.ofInt 4) sa) sa
  let x := Float64.div hue width
  if Float64.isZero width = true then none
  else if Float64.isFinite x = true then
   if (Flt.toInt Float64.truncOf x).natAbs < 2^1024 - 2^970 then
    (hsvF (Float64.mul (Float64.add (Float64.ofInt (Flt.toInt Float64.truncOf x)) 4602678819172646912) width) (Float64.mul (Float64.ofInt 2) sa) 4607182418800017408).map some
   else none
  else none
 else some none
theorem nextA {hue sa : UInt64} (a : thirdF hue sa = true) : nextF hue sa = (hsvF (Float64.mul (Float64.ofInt 4) hue) (Float64.mul (Float64.ofInt 2) sa) 4607182418800017408).map some := if_pos a
theorem nextB {hue sa : UInt64} (a : thirdF hue sa = false) (b : (Float64.cmp sa 4598175219545276416 == some Ordering.lt) = true) (z : ¬Float64.isZero (Float64.mul (Float64.mul (Float64.ofInt 4) sa) sa) = true) (f : Float64.isFinite (Float64.div hue (Float64.mul (Float64.mul (Float64.ofInt 4) sa) sa)) = true) (n : (Flt.toInt Float64.truncOf (Float64.div hue (Float64.mul (Float64.mul (Float64.ofInt 4) sa) sa))).natAbs < 2^1024 - 2^970) : nextF hue sa = (hsvF (Float64.mul (Float64.add (Float64.ofInt (Flt.toInt Float64.truncOf (Float64.div hue (Float64.mul (Float64.mul (Float64.ofInt 4) sa) sa)))) 4602678819172646912) (Float64.mul (Float64.mul (Float64.ofInt 4) sa) sa)) (Float64.mul (Float64.ofInt 2) sa) 4607182418800017408).map some :=
 (if_neg (by rw [a]; decide)).trans ((if_pos b).trans ((if_neg z).trans ((if_pos f).trans (if_pos n))))
theorem nextC {hue sa : UInt64} (a : thirdF hue sa = false) (b : (Float64.cmp sa 4598175219545276416 == some Ordering.lt) = false) : nextF hue sa = some none := (if_neg (by rw [a]; decide)).trans (if_neg (by rw [b]; decide))
theorem nextZ {hue sa : UInt64} (hf : (nextF hue sa).isSome = true) (a : thirdF hue sa = false) (b : (Float64.cmp sa 4598175219545276416 == some Ordering.lt) = true) (z : Float64.isZero (Float64.mul (Float64.mul (Float64.ofInt 4) sa) sa) = true) : False := by
 refine (?f : Cln _) ?p ⟨?q,fun B k => ?r⟩
 case f => exact fun x _ => x
 case q =>
  rw [show nextF hue sa = none from (if_neg (by rw [a]; decide)).trans ((if_pos b).trans (if_pos z))] at hf; cases hf
 case r => (try delta id); (conv => zeta); exact k
theorem nextN {hue sa : UInt64} (hf : (nextF hue sa).isSome = true) (a : thirdF hue sa = false) (b : (Float64.cmp sa 4598175219545276416 == some Ordering.lt) = true) (z : ¬Float64.isZero (Float64.mul (Float64.mul (Float64.ofInt 4) sa) sa) = true) (f : Float64.isFinite (Float64.div hue (Float64.mul (Float64.mul (Float64.ofInt 4) sa) sa)) = false) : False := by
 refine (?f : Cln _) ?p ⟨?q,fun B k => ?r⟩
 case f => exact fun x _ => x
 case q =>
  rw [show nextF hue sa = none from (if_neg (by rw [a]; decide)).trans ((if_pos b).trans ((if_neg z).trans (if_neg (by rw [f]; decide))))] at hf; cases hf
 case r => (try delta id); (conv => zeta); exact k
theorem nextV {hue sa : UInt64} (hf : (nextF hue sa).isSome = true) (a : thirdF hue sa = false) (b : (Float64.cmp sa 4598175219545276416 == some Ordering.lt) = true) (z : ¬Float64.isZero (Float64.mul (Float64.mul (Float64.ofInt 4) sa) sa) = true) (f : Float64.isFinite (Float64.div hue (Float64.mul (Float64.mul (Float64.ofInt 4) sa) sa)) = true) (n : 2^1024 - 2^970 <= (Flt.toInt Float64.truncOf (Float64.div hue (Float64.mul (Float64.mul (Float64.ofInt 4) sa) sa))).natAbs) : False := by
 refine (?f : Cln _) ?p ⟨?q,fun B k => ?r⟩
 case f => exact fun x _ => x
 case q =>
  rw [show nextF hue sa = none from (if_neg (by rw [a]; decide)).trans ((if_pos b).trans ((if_neg z).trans ((if_pos f).trans (if_neg (Nat.not_lt.mpr n)))))] at hf; cases hf
 case r => (try delta id); (conv => zeta); exact k
theorem map_is {α β : Type} {o : Option α} {f : α -> β} {x : Option β} (h : x.isSome = true) (e : x = o.map f) : o.isSome = true := by
 rw [e,Option.isSome_map] at h; exact h
theorem map_at {α β : Type} {o : Option α} {f : α -> β} {x : Option β} {c : α} (e : x = o.map f) (h : o = some c) : x = some (f c) := by rw [e,h]; rfl
set_option hygiene false in
local macro_rules | `(tactic| walk_at "my hyp") => `(tactic| first | exact map_is hf (nextA (by assumption)) | exact map_is hf (nextB (by assumption) (by assumption) (by assumption) (by assumption) (by assumption)))
noncomputable def NextPost (o : Option (Option (UInt64 × UInt64 × UInt64))) (news : List (Addr × Obj)) (x : Value) (new : List (Addr × Obj)) : Prop :=
 ∀ G : Value -> List (Addr × Obj) -> Prop,(∀ D,o = some none -> (∀ p ∈ news,p.1 < D) -> G (.ref D) ((D,tupO []) :: news)) -> (∀ (c1 c2 c3 : UInt64) (D : Addr) (t4 t5 t6 : Tok),o = some (some (c1,c2,c3)) -> (∀ p ∈ news,p.1 < D) -> G (.ref D) ((D,tupO [.float c1 t4,.float c2 t5,.float c3 t6]) :: news)) -> G x new
theorem nextI0 {o : Option (Option (UInt64 × UInt64 × UInt64))} {news : List (Addr × Obj)} {D : Addr} (e : o = some none) (l : ∀ p ∈ news,p.1 < D) : NextPost o news (.ref D) ((D,tupO []) :: news) := fun _ k _ => k _ e l
theorem nextI1 {o : Option (Option (UInt64 × UInt64 × UInt64))} {c1 c2 c3 : UInt64} {news : List (Addr × Obj)} {D : Addr} {t4 t5 t6 : Tok} (e : o = some (some (c1,c2,c3))) (l : ∀ p ∈ news,p.1 < D) : NextPost o news (.ref D) ((D,tupO [.float c1 t4,.float c2 t5,.float c3 t6]) :: news) := fun _ _ k => k _ _ _ _ _ _ _ e l
theorem ctr_next (w : World) (hue sa : UInt64) (t1 t2 : Tok) (hf : (nextF hue sa).isSome = true) (news : List (Addr × Obj)) :
  Ctr w 175 [.float hue t1,.float sa t2] news 3 (NextPost (nextF hue sa) news) := by
 refine (?f : Cln _) ?p ⟨?q,fun B k => ?r⟩
 case f => exact fun x _ => x
 case q =>
  ((
  unfold Ctr
  intro mean mg mb loose dp un gd cn cs a ccd cl outer A₀ base h₀ L m s Q E B F KX N T hk hd hu hret
  revert KX; k_fill; intro KX
  refine wpAny_call ?_
  k_dflt ((first
  | cell_enter
  | (refine' code_defC ?k1 ?k2 ?k3 ?k4 ?k5 ?kA ?kF ?kK ?k6 ?k7 ?k8 ?k9 ?kB ?kD ?_ ?c2 ?c3 ?c4; (case kA => exact rfl); (case kF => exact rfl); (case kK => assumption); (case k1 => k_asm); (case k2 => k_asm); (case k3 => k_asm); (case k4 => k_asm); (case k5 => k_asm); (case k6 => k_is); (case k7 => k_is); (case k8 => ktr_room); (case k9 => exact BindsTo.of_eq rfl); (case kB => exact rfl); (case kD => decide +kernel); (case c2 => exact rfl); (case c3 => exact rfl); (case c4 => exact rfl); k_whole; intro g' L' h' tk' cells' FG' F' N' Y' B' X' T' l1; (try k_lt l1); k_cells Y'; (try simp only [List.cons_append,List.nil_append] at N'); (try dsimp only); (try k_lift B'); (try k_fold))))))
  (k_steps; repeat' ((first | (refine stq_out "call ref" ?_; (k_here; (with_reducible show wpAny _ _ (call (Value.ref 78) [Value.float _ _, Value.float _ _, Value.float _ _]) _ _ _); k_dflt (refine' use_hsv ?hf ?k1 ?k2 ?k3 ?k4 ?k5 ?kK ?kd ?ku ?_); (case hf => walk_at "my hyp"); walk_at "my sides"; intro c1 c2 c3 D' u1 u2 u3 h' tk' hq' F' N' l1; (try k_lt l1); (try dsimp only))) | fail) <;> k_steps))
  all_goals first
   | exact hret _ _ _ _ (nextI0 (nextC (by assumption) (by assumption)) (by assumption)) (by k_asm) (by k_asm)
   | exact hret _ _ _ _ (nextI1 (map_at (nextA (by assumption)) (by assumption)) (by first | assumption | exact allLt_to (by assumption))) (by k_asm) (by k_asm)
   | exact hret _ _ _ _ (nextI1 (map_at (nextB (by assumption) (by assumption) (by assumption) (by assumption) (by assumption)) (by assumption)) (by first | assumption | exact allLt_to (by assumption))) (by k_asm) (by k_asm)
   | exact (nextZ hf (by assumption) (by assumption) (by assumption)).elim
   | exact (nextN hf (by assumption) (by assumption) (by assumption) (Flt.not_finite_of_nan (by assumption))).elim
   | exact (nextN hf (by assumption) (by assumption) (by assumption) (Flt.not_finite_of_inf (by assumption))).elim
   | exact (nextV hf (by assumption) (by assumption) (by assumption) (by assumption) (by assumption)).elim
 case r => delta id stq_it stq_out; exact k
theorem use_next0 {w : World} {hue sa : UInt64} {t1 t2 : Tok} {news : List (Addr × Obj)} (hf : nextF hue sa = some none) {mean : ExcName -> Option Value} {mg mb : Str -> Option Value} {loose : List Str}
  {dp un : Nat} {gd : Option (List Code)} {cn : Str} {cs : Scope} {a : Addr} {ccd : Value} {cl : List (Str × Addr)} {outer : List Env} {A₀ : Around} {base h₀ : Heap} {L : Addr} {m : Str -> Option Value} {s : Shared} {Q E : Value -> Shared -> Prop}
  (B : Below A₀ base outer h₀) (F : Fr h₀ L s.heap m) (X : (hd.heap_39 w.params).In h₀) (N : News h₀ L s.heap news) (T : Top topProg loose mean mg mb h₀) (hk : cs.kind = .function) (hd : dp + 3 < recursionLimit) (hu : un + 8 * 3 < cLine)
  (hret : ∀ (D : Addr) (h' : Heap) (tk' : Nat),Fr h₀ L h' m -> News h₀ L h' ((D,tupO []) :: news) -> (∀ p ∈ news,p.1 < D) -> Q (.ref D) { s with heap := h',toks := tk' }) :
  wpAny (model rw_xg0057_01.row.prog w) (ktrTop dp un gd cn cs L a ccd cl outer) (call (.ref 175) [.float hue t1,.float sa t2]) Q E s :=
 ctr_use (ctr_next w hue sa t1 t2 (hf ▸ rfl) news) B F X N T hk hd hu (fun r new h' tk' hp F' N' =>
  hp (fun r new => News h₀ L h' new -> Q r { s with heap := h',toks := tk' }) (fun _ _ l1 N' => hret _ _ _ F' N' l1) (fun _ _ _ _ _ _ _ e => nomatch hf.symm.trans e) N')
theorem use_next1 {w : World} {hue sa c1 c2 c3 : UInt64} {t1 t2 : Tok} {news : List (Addr × Obj)} (hf : nextF hue sa = some (some (c1,c2,c3))) {mean : ExcName -> Option Value} {mg mb : Str -> Option Value} {loose : List Str}
  {dp un : Nat} {gd : Option (List Code)} {cn : Str} {cs : Scope} {a : Addr} {ccd : Value} {cl : List (Str × Addr)} {outer : List Env} {A₀ : Around} {base h₀ : Heap} {L : Addr} {m : Str -> Option Value} {s : Shared} {Q E : Value -> Shared -> Prop}
  (B : Below A₀ base outer h₀) (F : Fr h₀ L s.heap m) (X : (hd.heap_39 w.params).In h₀) (N : News h₀ L s.heap news) (T : Top topProg loose mean mg mb h₀) (hk : cs.kind = .function) (hd : dp + 3 < recursionLimit) (hu : un + 8 * 3 < cLine)
  (hret : ∀ (D : Addr) (t4 t5 t6 : Tok) (h' : Heap) (tk' : Nat),Fr h₀ L h' m -> News h₀ L h' ((D,tupO [.float c1 t4,.float c2 t5,.float c3 t6]) :: news) -> (∀ p ∈ news,p.1 < D) -> Q (.ref D) { s with heap := h',toks := tk' }) :
  wpAny (model rw_xg0057_01.row.prog w) (ktrTop dp un gd cn cs L a ccd cl outer) (call (.ref 175) [.float hue t1,.float sa t2]) Q E s :=
 ctr_use (ctr_next w hue sa t1 t2 (hf ▸ rfl) news) B F X N T hk hd hu (fun r new h' tk' hp F' N' =>
  hp (fun r new => News h₀ L h' new -> Q r { s with heap := h',toks := tk' }) (fun _ e => nomatch hf.symm.trans e) (fun d1 d2 d3 _ _ _ _ e l1 N' => by
   cases hf.symm.trans e
   exact hret _ _ _ _ _ _ F' N' l1) N')
end

example {M : Model} {A : Around} {env : Env} {Q : Flow -> Shared -> Prop} {E : Value -> Shared -> Prop} {s : Shared} (h : Q .next s) : wpAny M A (execs [] env) Q E s := by first | (walk1; exact h) | exact wpAny_execs_nil h

set_option hygiene false in
local macro_rules | `(tactic| walk_at "call ref") => `(tactic| ((with_reducible show wpAny _ _ (call (Value.ref 175) [Value.float _ _, Value.float _ _]) _ _ _); first
 | (k_dflt (refine' use_next0 ?hf ?k1 ?k2 ?k3 ?k4 ?k5 ?kK ?kd ?ku ?_); (case hf => assumption); walk_at "my sides"; intro D' h' tk' F' N' l1; (try k_lt l1); (try dsimp only))
 | (k_dflt (refine' use_next1 ?hf ?k1 ?k2 ?k3 ?k4 ?k5 ?kK ?kd ?ku ?_); (case hf => assumption); walk_at "my sides"; intro D' u1 u2 u3 h' tk' F' N' l1; (try k_lt l1); (try dsimp only))))

noncomputable def arcF (ns : List Int) : Int := ns.foldl (fun s n => 4 * s + n) 0
theorem arc_fold (ns : List Int) : ∀ k : Int,(List.foldl (fun (σ : Int × Unit) n => (4 * σ.fst + n,())) (k,()) ns).fst = ns.foldl (fun s n => 4 * s + n) k := by
 induction ns with
 | nil => intro k; rfl
 | cons n r ih => intro k; exact ih _
theorem ctr_arc (w : World) (l : Addr) (vs : List Value) (nn : Nat) (ns : List Int) (hi : IntsAre vs ns) (hn : ns.length <= 5) (news : List (Addr × Obj)) (hm : (l,W.listOf vs.toArray nn) ∈ news) :
  Ctr w 154 [.ref l] news 1 (fun v new => new = news ∧ ∃ t2,v = .int (arcF ns) t2) := by
 refine (?f : Cln _) ?p ⟨?q,fun B k => ?r⟩
 case f => exact fun x _ => x
 case q =>
  ((
  unfold Ctr
  intro mean mg mb loose dp un gd cn cs a ccd cl outer A₀ base h₀ L m s Q E B F KX N T hk hd hu hret
  revert KX; k_fill; intro KX
  refine wpAny_call ?_
  k_dflt ((first
  | cell_enter
  | (refine' code_defC ?k1 ?k2 ?k3 ?k4 ?k5 ?kA ?kF ?kK ?k6 ?k7 ?k8 ?k9 ?kB ?kD ?_ ?c2 ?c3 ?c4; (case kA => exact rfl); (case kF => exact rfl); (case kK => assumption); (case k1 => k_asm); (case k2 => k_asm); (case k3 => k_asm); (case k4 => k_asm); (case k5 => k_asm); (case k6 => k_is); (case k7 => k_is); (case k8 => ktr_room); (case k9 => exact BindsTo.of_eq rfl); (case kB => exact rfl); (case kD => decide +kernel); (case c2 => exact rfl); (case c3 => exact rfl); (case c4 => exact rfl); k_whole; intro g' L' h' tk' cells' FG' F' N' Y' B' X' T' l1; (try k_lt l1); k_cells Y'; (try simp only [List.cons_append,List.nil_append] at N'); (try dsimp only); (try k_lift B'); (try k_fold))))))
  (rename News _ _ _ _ => N9; replace N9 : News _ _ _ ((l,W.listOf vs.toArray nn) :: news) := List.forall_mem_cons.mpr ⟨N9 _ hm,N9⟩)
  k_steps
  all_goals (refine hret _ _ _ _ ⟨rfl, _, by first | rfl | exact congrArg (fun z => Value.int z _) (arc_fold ns 0)⟩ (by k_asm) ?_; walk_at "my drop")
 case r => delta id stq_it stq_out; exact k
theorem use_arc {w : World} {l : Addr} {vs : List Value} {nn : Nat} {ns : List Int} {news : List (Addr × Obj)} (hi : IntsAre vs ns) (hn : ns.length <= 5) (hm : (l,W.listOf vs.toArray nn) ∈ news) {mean : ExcName -> Option Value} {mg mb : Str -> Option Value} {loose : List Str}
  {dp un : Nat} {gd : Option (List Code)} {cn : Str} {cs : Scope} {a : Addr} {ccd : Value} {cl : List (Str × Addr)} {outer : List Env} {A₀ : Around} {base h₀ : Heap} {L : Addr} {m : Str -> Option Value} {s : Shared} {Q E : Value -> Shared -> Prop}
  (B : Below A₀ base outer h₀) (F : Fr h₀ L s.heap m) (X : (hd.heap_39 w.params).In h₀) (N : News h₀ L s.heap news) (T : Top topProg loose mean mg mb h₀) (hk : cs.kind = .function) (hd : dp + 1 < recursionLimit) (hu : un + 8 * 1 < cLine)
  (hret : ∀ (t2 : Tok) (h' : Heap) (tk' : Nat),Fr h₀ L h' m -> News h₀ L h' news -> Q (.int (arcF ns) t2) { s with heap := h',toks := tk' }) :
  wpAny (model rw_xg0057_01.row.prog w) (ktrTop dp un gd cn cs L a ccd cl outer) (call (.ref 154) [.ref l]) Q E s :=
 ctr_use (ctr_arc w l vs nn ns hi hn news hm) B F X N T hk hd hu (fun r new h' tk' hp F' N' => by
  obtain ⟨rfl,t2,rfl⟩ := hp
  exact hret _ _ _ F' N')

section
noncomputable def labelsF (least kinds x : Int) : List Int := List.map (fun k => ((x.fdiv kinds).fdiv (4^k.toNat)).fmod 4) (rangeKs 0 (least + x.fmod kinds - 0).toNat)
theorem pow4_ne (k : Nat) : (4 : Int)^k ≠ 0 := Int.ne_of_gt (Int.pow_pos (by decide))
theorem pow4_log {k : Nat} (h : k <= 20) : ((4 : Int)^k).natAbs.log2 < 9000 := by
 have : ∀ j : Fin 21,((4 : Int)^j.1).natAbs.log2 < 9000 := by decide +kernel
 exact this ⟨k,by lia⟩
theorem lab_k {f l b k : Int} (h0 : 0 <= f) (h1 : f < b) (hb : b <= 3) (hl : l <= 3) (h : k < 0 + ((l + f - 0).toNat : Int)) : k <= 1000000 ∧ k.toNat <= 20 := by lia
set_option hygiene false in
local macro_rules | `(tactic| walk_at "binaryOp FloorDiv int int") => `(tactic| ((with_reducible show wpAny _ _ (binaryOp _ (Value.int _ _) (Value.int (4^_) _)) _ _ _); (with_reducible refine floordiv_int ?kbe ?_ (Or.inl (PyProof.noPylong_of_log2 ?kbp))); (case kbe => exact pow4_ne _); (case kbp => exact pow4_log (lab_k f0 f1 hkd.2 hl3.2 (by assumption)).2)))
set_option hygiene false in
local macro_rules | `(tactic| walk_at "binaryOp Pow int int") => `(tactic| ((with_reducible refine pow_int_small ?kb1 ?kb2 ?kb3 ?_); (case kb1 => assumption); (case kb2 => exact (lab_k f0 f1 hkd.2 hl3.2 (by assumption)).1); (case kb3 => decide)))
theorem ctr_labels (w : World) (x l kd : Int) (t1 t2 t3 : Tok) (hx : 0 <= x ∧ x < 9216) (hl3 : 0 <= l ∧ l <= 3) (hkd : 1 <= kd ∧ kd <= 3) (news : List (Addr × Obj)) :
  Ctr w 130 [.int x t1,.int l t2,.int kd t3] news 2 (fun v new => ∃ D ys,new = (D,LCg.lst ys) :: news ∧ v = .ref D ∧ IntsAre ys (labelsF l kd x) ∧ LCg.Off1 D news) := by
 refine (?f : Cln _) ?p ⟨?q,fun B k => ?r⟩
 case f => exact fun x _ => x
 case q =>
  have f0 := Int.fmod_nonneg_of_pos x (b := kd) (by omega)
  have f1 := Int.fmod_lt_of_pos x (b := kd) (by omega)
  ((
  unfold Ctr
  intro mean mg mb loose dp un gd cn cs a ccd cl outer A₀ base h₀ L m s Q E B F KX N T hk hd hu hret
  revert KX; k_fill; intro KX
  refine wpAny_call ?_
  k_dflt ((first
  | cell_enter
  | (refine' code_defC ?k1 ?k2 ?k3 ?k4 ?k5 ?kA ?kF ?kK ?k6 ?k7 ?k8 ?k9 ?kB ?kD ?_ ?c2 ?c3 ?c4; (case kA => exact rfl); (case kF => exact rfl); (case kK => assumption); (case k1 => k_asm); (case k2 => k_asm); (case k3 => k_asm); (case k4 => k_asm); (case k5 => k_asm); (case k6 => k_is); (case k7 => k_is); (case k8 => ktr_room); (case k9 => exact BindsTo.of_eq rfl); (case kB => exact rfl); (case kD => decide +kernel); (case c2 => exact rfl); (case c3 => exact rfl); (case c4 => exact rfl); k_whole; intro g' L' h' tk' cells' FG' F' N' Y' B' X' T' l1; (try k_lt l1); k_cells Y'; (try simp only [List.cons_append,List.nil_append] at N'); (try dsimp only); (try k_lift B'); (try k_fold))))))
  k_steps
  all_goals (
   refine hret _ _ _ _ ⟨_,_,rfl,rfl,by assumption,?_⟩ (by k_asm) ?_
   ·exact And.right (And.right (by assumption))
   ·exact cb_drop (by assumption) (fun p hp => by rcases List.mem_cons.mp hp with e | e; exact e ▸ List.mem_cons_self ..; exact .tail _ (.tail _ (.tail _ e))))
 case r => delta id stq_it stq_out; exact k
theorem use_labels {w : World} {x l kd : Int} {t1 t2 t3 : Tok} {news : List (Addr × Obj)} (hx : 0 <= x ∧ x < 9216) (hl : 0 <= l ∧ l <= 3) (hkd : 1 <= kd ∧ kd <= 3) {mean : ExcName -> Option Value} {mg mb : Str -> Option Value} {loose : List Str}
  {dp un : Nat} {gd : Option (List Code)} {cn : Str} {cs : Scope} {a : Addr} {ccd : Value} {cl : List (Str × Addr)} {outer : List Env} {A₀ : Around} {base h₀ : Heap} {L : Addr} {m : Str -> Option Value} {s : Shared} {Q E : Value -> Shared -> Prop}
  (B : Below A₀ base outer h₀) (F : Fr h₀ L s.heap m) (X : (hd.heap_39 w.params).In h₀) (N : News h₀ L s.heap news) (T : Top topProg loose mean mg mb h₀) (hk : cs.kind = .function) (hd : dp + 2 < recursionLimit) (hu : un + 8 * 2 < cLine)
  (hret : ∀ (D : Addr) (ys : List Value) (h' : Heap) (tk' : Nat),IntsAre ys (labelsF l kd x) -> Fr h₀ L h' m -> News h₀ L h' ((D,LCg.lst ys) :: news) -> LCg.Off1 D news -> Q (.ref D) { s with heap := h',toks := tk' }) :
  wpAny (model rw_xg0057_01.row.prog w) (ktrTop dp un gd cn cs L a ccd cl outer) (call (.ref 130) [.int x t1,.int l t2,.int kd t3]) Q E s :=
 ctr_use (ctr_labels w x l kd t1 t2 t3 hx hl hkd news) B F X N T hk hd hu (fun r new h' tk' hp F' N' => by
  obtain ⟨D,ys,rfl,rfl,hi,l1⟩ := hp
  exact hret _ _ _ _ hi F' N' l1)
end

example {M : Model} {A : Around} {env : Env} {Q : Flow -> Shared -> Prop} {E : Value -> Shared -> Prop} {s : Shared} (h : Q .next s) : wpAny M A (execs [] env) Q E s := by first | (walk1; exact h) | exact wpAny_execs_nil h

section
noncomputable def colourF (ns : List Int) : Option (UInt64 × UInt64 × UInt64) :=
 if (2 * 4^(ns.length : Int).toNat : Int) = 0 then none
 else if Float64.isInf (Float64.ofFrac (decide (2 * arcF ns + 1 < 0) != decide ((2 * 4^(ns.length : Int).toNat : Int) < 0)) (2 * arcF ns + 1).natAbs (2 * 4^(ns.length : Int).toNat : Int).natAbs) = true then none
 else if (2^(ns.length : Int).toNat : Int) = 0 then none
 else if Float64.isInf (Float64.ofFrac (decide ((1 : Int) < 0) != decide ((2^(ns.length : Int).toNat : Int) < 0)) (Int.natAbs 1) (2^(ns.length : Int).toNat : Int).natAbs) = true then none
 else hsvF (Float64.ofFrac (decide (2 * arcF ns + 1 < 0) != decide ((2 * 4^(ns.length : Int).toNat : Int) < 0)) (2 * arcF ns + 1).natAbs (2 * 4^(ns.length : Int).toNat : Int).natAbs)
  (Float64.ofFrac (decide ((1 : Int) < 0) != decide ((2^(ns.length : Int).toNat : Int) < 0)) (Int.natAbs 1) (2^(ns.length : Int).toNat : Int).natAbs) 4607182418800017408
set_option hygiene false in
local macro_rules | `(tactic| walk_at "my hyp") => `(tactic| (rw [Option.isSome_iff_ne_none]; intro hq9; have hf9 := hf; unfold colourF at hf9; simp only [*, if_true, if_false, Bool.false_eq_true, reduceCtorEq] at hf9; done))
theorem ctr_colour (w : World) (l : Addr) (vs : List Value) (nn : Nat) (ns : List Int) (c : UInt64 × UInt64 × UInt64) (hi : IntsAre vs ns) (hn : ns.length <= 5) (hf : colourF ns = some c) (news : List (Addr × Obj)) (hm : (l,W.listOf vs.toArray nn) ∈ news) :
  Ctr w 161 [.ref l] news 3 (fun v new => ∃ D t4 t5 t6,new = (D,tupO [.float c.1 t4,.float c.2.1 t5,.float c.2.2 t6]) :: news ∧ v = .ref D ∧ ∀ p ∈ news,p.1 < D) := by
 refine (?f : Cln _) ?p ⟨?q,fun B k => ?r⟩
 case f => exact fun x _ => x
 case q =>
  ((
  unfold Ctr
  intro mean mg mb loose dp un gd cn cs a ccd cl outer A₀ base h₀ L m s Q E B F KX N T hk hd hu hret
  revert KX; k_fill; intro KX
  refine wpAny_call ?_
  k_dflt ((first
  | cell_enter
  | (refine' code_defC ?k1 ?k2 ?k3 ?k4 ?k5 ?kA ?kF ?kK ?k6 ?k7 ?k8 ?k9 ?kB ?kD ?_ ?c2 ?c3 ?c4; (case kA => exact rfl); (case kF => exact rfl); (case kK => assumption); (case k1 => k_asm); (case k2 => k_asm); (case k3 => k_asm); (case k4 => k_asm); (case k5 => k_asm); (case k6 => k_is); (case k7 => k_is); (case k8 => ktr_room); (case k9 => exact BindsTo.of_eq rfl); (case kB => exact rfl); (case kD => decide +kernel); (case c2 => exact rfl); (case c3 => exact rfl); (case c4 => exact rfl); k_whole; intro g' L' h' tk' cells' FG' F' N' Y' B' X' T' l1; (try k_lt l1); k_cells Y'; (try simp only [List.cons_append,List.nil_append] at N'); (try dsimp only); (try k_lift B'); (try k_fold))))))
  (rename News _ _ _ _ => N9; replace N9 : News _ _ _ ((l,W.listOf vs.toArray nn) :: news) := List.forall_mem_cons.mpr ⟨N9 _ hm,N9⟩)
  (k_steps; repeat' ((first | (refine stq_out "call ref" ?_; (k_here; (with_reducible show wpAny _ _ (call (Value.ref 154) [Value.ref _]) _ _ _); k_dflt (refine' use_arc ?hi ?hn ?hm ?k1 ?k2 ?k3 ?k4 ?k5 ?kK ?kd ?ku ?_); walk_at "my sides"; (case hm => k_mem); (case hi => assumption); (case hn => first | assumption | omega); intro u2 h' tk' F' N'; (try dsimp only))) | (refine stq_out "call ref" ?_; (k_here; (with_reducible show wpAny _ _ (call (Value.ref 78) [Value.float _ _, Value.float _ _, Value.float _ _]) _ _ _); k_dflt (refine' use_hsv ?hf ?k1 ?k2 ?k3 ?k4 ?k5 ?kK ?kd ?ku ?_); (case hf => walk_at "my hyp"); walk_at "my sides"; intro c1 c2 c3 D' u1 u2 u3 h' tk' hq' F' N' l1; (try k_lt l1); (try dsimp only))) | fail) <;> k_steps))
  all_goals (
   unfold colourF at hf
   (try simp only [*,if_true,if_false,Bool.false_eq_true,reduceCtorEq,Option.some.injEq] at hf)
   all_goals (first
   | (cases hf; done)
   | (subst hf
      refine hret _ _ _ _ ⟨D',u1,u2,u3,rfl,rfl,?_⟩ (by k_asm) ?_
      ·walk_at "my lt"
      ·exact cb_drop (by k_asm) (fun p hp => by rcases List.mem_cons.mp hp with e | e; exact e ▸ List.mem_cons_self ..; exact .tail _ (.tail _ e)))))
 case r => delta id stq_it stq_out; exact k
theorem use_colour {w : World} {l : Addr} {vs : List Value} {nn : Nat} {ns : List Int} {c1 c2 c3 : UInt64} {news : List (Addr × Obj)} (hi : IntsAre vs ns) (hn : ns.length <= 5) (hf : colourF ns = some (c1,c2,c3)) (hm : (l,W.listOf vs.toArray nn) ∈ news) {mean : ExcName -> Option Value} {mg mb : Str -> Option Value} {loose : List Str}
  {dp un : Nat} {gd : Option (List Code)} {cn : Str} {cs : Scope} {a : Addr} {ccd : Value} {cl : List (Str × Addr)} {outer : List Env} {A₀ : Around} {base h₀ : Heap} {L : Addr} {m : Str -> Option Value} {s : Shared} {Q E : Value -> Shared -> Prop}
  (B : Below A₀ base outer h₀) (F : Fr h₀ L s.heap m) (X : (hd.heap_39 w.params).In h₀) (N : News h₀ L s.heap news) (T : Top topProg loose mean mg mb h₀) (hk : cs.kind = .function) (hd : dp + 3 < recursionLimit) (hu : un + 8 * 3 < cLine)
  (hret : ∀ (D : Addr) (t4 t5 t6 : Tok) (h' : Heap) (tk' : Nat),Fr h₀ L h' m -> News h₀ L h' ((D,tupO [.float c1 t4,.float c2 t5,.float c3 t6]) :: news) -> (∀ p ∈ news,p.1 < D) -> Q (.ref D) { s with heap := h',toks := tk' }) :
  wpAny (model rw_xg0057_01.row.prog w) (ktrTop dp un gd cn cs L a ccd cl outer) (call (.ref 161) [.ref l]) Q E s :=
 ctr_use (ctr_colour w l vs nn ns (c1,c2,c3) hi hn hf news hm) B F X N T hk hd hu (fun r new h' tk' hp F' N' => by
  obtain ⟨D,t4,t5,t6,rfl,rfl,l1⟩ := hp
  exact hret _ _ _ _ _ _ F' N' l1)
end

example {M : Model} {A : Around} {env : Env} {Q : Flow -> Shared -> Prop} {E : Value -> Shared -> Prop} {s : Shared} (h : Q .next s) : wpAny M A (execs [] env) Q E s := by first | (walk1; exact h) | exact wpAny_execs_nil h

section
noncomputable def numsF (ns : List Int) : List Int := List.map (fun a => a.fmod 9216) (List.filter (fun _ => true) (List.take 5 ns)) ++ List.drop (((List.take 5 ns).length : Int)).toNat [2384,3914,6148,13,3075]
theorem fmod9216 (a : Int) : 0 <= a.fmod 9216 ∧ a.fmod 9216 < 9216 := ⟨Int.fmod_nonneg_of_pos a (by decide),Int.fmod_lt_of_pos a (by decide)⟩
theorem nums_five (ns : List Int) : ∃ n0 n1 n2 n3 n4,numsF ns = [n0,n1,n2,n3,n4] ∧ (0 <= n0 ∧ n0 < 9216) ∧ (0 <= n1 ∧ n1 < 9216) ∧ (0 <= n2 ∧ n2 < 9216) ∧ (0 <= n3 ∧ n3 < 9216) ∧ (0 <= n4 ∧ n4 < 9216) := by
 refine (?f : Cln _) ?p ⟨?q,fun B k => ?r⟩
 case f => exact fun x _ => x
 case q =>
  have h := fmod9216
  rcases ns with _ | ⟨a,_ | ⟨b,_ | ⟨c,_ | ⟨d,_ | ⟨e,r⟩⟩⟩⟩⟩
  ·exact ⟨2384,3914,6148,13,3075,rfl,by decide,by decide,by decide,by decide,by decide⟩
  ·exact ⟨a.fmod 9216,3914,6148,13,3075,rfl,h _,by decide,by decide,by decide,by decide⟩
  ·exact ⟨a.fmod 9216,b.fmod 9216,6148,13,3075,rfl,h _,h _,by decide,by decide,by decide⟩
  ·exact ⟨a.fmod 9216,b.fmod 9216,c.fmod 9216,13,3075,rfl,h _,h _,h _,by decide,by decide⟩
  ·exact ⟨a.fmod 9216,b.fmod 9216,c.fmod 9216,d.fmod 9216,3075,rfl,h _,h _,h _,h _,by decide⟩
  ·exact ⟨a.fmod 9216,b.fmod 9216,c.fmod 9216,d.fmod 9216,e.fmod 9216,rfl,h _,h _,h _,h _,h _⟩
 case r => delta id stq_it stq_out; exact k
theorem ints_five {ws : List Value} {n0 n1 n2 n3 n4 : Int} (h : IntsAre ws [n0,n1,n2,n3,n4]) : ∃ t0 t1 t2 t3 t4,ws = [.int n0 t0,.int n1 t1,.int n2 t2,.int n3 t3,.int n4 t4] := by
 cases h with | cons _ t0 h => cases h with | cons _ t1 h => cases h with | cons _ t2 h => cases h with | cons _ t3 h => cases h with | cons _ t4 h => cases h; exact ⟨_,_,_,_,_,rfl⟩
local macro_rules | `(tactic| kmk_nums) => `(tactic| first | exact kmk_from (by l_ints) (by kmk_sign) | exact kmk_upto (by l_ints) (by kmk_sign))
theorem use_numbers {w : World} {l : Addr} {vs : List Value} {ns : List Int} {news : List (Addr × Obj)} {mean : ExcName -> Option Value} {mg mb : Str -> Option Value} {loose : List Str}
  {dp un : Nat} {gd : Option (List Code)} {cn : Str} {cs : Scope} {a : Addr} {ccd : Value} {cl : List (Str × Addr)} {outer : List Env} {A₀ : Around} {base h₀ : Heap} {L : Addr} {m : Str -> Option Value} {s : Shared} {Q E : Value -> Shared -> Prop}
  (hl : base.IsList l vs.toArray) (hi : IntsAre vs ns) (hlen : ns.length <= 63)
  (B : Below A₀ base outer h₀) (F : Fr h₀ L s.heap m) (KX : (hd.heap_39 w.params).In h₀) (N : News h₀ L s.heap news) (T : Top topProg loose mean mg mb h₀) (hk : cs.kind = .function) (hd : dp + 2 < recursionLimit) (hu : un + 8 * 2 < cLine)
  (hret : ∀ (D : Addr) (n0 n1 n2 n3 n4 : Int) (t0 t1 t2 t3 t4 : Tok) (h' : Heap) (tk' : Nat),(0 <= n0 ∧ n0 < 9216) -> (0 <= n1 ∧ n1 < 9216) -> (0 <= n2 ∧ n2 < 9216) -> (0 <= n3 ∧ n3 < 9216) -> (0 <= n4 ∧ n4 < 9216) ->
   Fr h₀ L h' m -> News h₀ L h' ((D,W.listOf #[.int n0 t0,.int n1 t1,.int n2 t2,.int n3 t3,.int n4 t4] 0) :: news) -> (∀ p ∈ news,p.1 < D) -> Q (.ref D) { s with heap := h',toks := tk' }) :
  wpAny (model rw_xg0057_01.row.prog w) (ktrTop dp un gd cn cs L a ccd cl outer) (call (.ref 125) [.ref l]) Q E s := by
 refine (?f : Cln _) ?p ⟨?q,fun B k => ?r⟩
 case f => exact fun x _ => x
 case q =>
  revert KX; k_fill; intro KX
  refine wpAny_call ?_
  k_dflt ((first
  | cell_enter
  | (refine' code_defC ?k1 ?k2 ?k3 ?k4 ?k5 ?kA ?kF ?kK ?k6 ?k7 ?k8 ?k9 ?kB ?kD ?_ ?c2 ?c3 ?c4; (case kA => exact rfl); (case kF => exact rfl); (case kK => assumption); (case k1 => k_asm); (case k2 => k_asm); (case k3 => k_asm); (case k4 => k_asm); (case k5 => k_asm); (case k6 => k_is); (case k7 => k_is); (case k8 => ktr_room); (case k9 => exact BindsTo.of_eq rfl); (case kB => exact rfl); (case kD => decide +kernel); (case c2 => exact rfl); (case c3 => exact rfl); (case c4 => exact rfl); k_whole; intro g' L' h' tk' cells' FG' F' N' Y' B' X' T' l1; (try k_lt l1); k_cells Y'; (try simp only [List.cons_append,List.nil_append] at N'); (try dsimp only); (try k_lift B'); (try k_fold))))
  k_steps
  all_goals (
   obtain ⟨n0,n1,n2,n3,n4,en,b0,b1,b2,b3,b4⟩ := nums_five ns
   rename IntsAre _ (_ ++ _) => hI9
   unfold numsF at en
   (try rw [List.filter_eq_self.mpr (fun _ _ => rfl)] at hI9)
   rw [List.filter_eq_self.mpr (fun _ _ => rfl)] at en
   rw [en] at hI9
   obtain ⟨t0,t1,t2,t3,t4,ew⟩ := ints_five hI9
   subst ew
   refine hret _ n0 n1 n2 n3 n4 t0 t1 t2 t3 t4 _ _ b0 b1 b2 b3 b4 (by k_asm) ?_ ?_
   ·exact cb_drop (by assumption) (fun p hp => by rcases List.mem_cons.mp hp with e | e; exact e ▸ List.mem_cons_self ..; exact .tail _ (.tail _ (.tail _ (.tail _ (.tail _ e)))))
   ·walk_at "my lt")
 case r => delta id stq_it stq_out; exact k
end

example {M : Model} {A : Around} {env : Env} {Q : Flow -> Shared -> Prop} {E : Value -> Shared -> Prop} {s : Shared} (h : Q .next s) : wpAny M A (execs [] env) Q E s := by first | (walk1; exact h) | exact wpAny_execs_nil h

section
local macro_rules | `(tactic| walk_at $s) => if ["call builtin:list.append"].contains s.getString then `(tactic| refine stq_it $s ?_) else Lean.Macro.throwUnsupported
theorem use_hsvE {w : World} {hue sa v c1 c2 c3 : UInt64} {t1 t2 t3 : Tok} (hq : hsvF hue sa v = some (c1,c2,c3)) {news : List (Addr × Obj)} {mean : ExcName -> Option Value} {mg mb : Str -> Option Value} {loose : List Str}
  {dp un : Nat} {gd : Option (List Code)} {cn : Str} {cs : Scope} {a : Addr} {ccd : Value} {cl : List (Str × Addr)} {outer : List Env} {A₀ : Around} {base h₀ : Heap} {L : Addr} {m : Str -> Option Value} {s : Shared} {Q E : Value -> Shared -> Prop}
  (B : Below A₀ base outer h₀) (F : Fr h₀ L s.heap m) (X : (hd.heap_39 w.params).In h₀) (N : News h₀ L s.heap news) (T : Top topProg loose mean mg mb h₀) (hk : cs.kind = .function) (hd : dp + 1 < recursionLimit) (hu : un + 8 * 1 < cLine)
  (hret : ∀ (D : Addr) (t4 t5 t6 : Tok) (h' : Heap) (tk' : Nat),Fr h₀ L h' m -> News h₀ L h' ((D,tupO [.float c1 t4,.float c2 t5,.float c3 t6]) :: news) -> (∀ p ∈ news,p.1 < D) -> Q (.ref D) { s with heap := h',toks := tk' }) :
  wpAny (model rw_xg0057_01.row.prog w) (ktrTop dp un gd cn cs L a ccd cl outer) (call (.ref 78) [.float hue t1,.float sa t2,.float v t3]) Q E s :=
 use_hsv (by rw [hq]; rfl) B F X N T hk hd hu (fun d1 d2 d3 D t4 t5 t6 h' tk' hq' F' N' l => by
  rw [hq] at hq'
  cases hq'
  exact hret _ _ _ _ _ _ F' N' l)
theorem use_rgbE {w : World} {r g b c1 c2 c3 : UInt64} {t1 t2 t3 : Tok} (hq : rgbF r g b = some (c1,c2,c3)) {news : List (Addr × Obj)} {mean : ExcName -> Option Value} {mg mb : Str -> Option Value} {loose : List Str}
  {dp un : Nat} {gd : Option (List Code)} {cn : Str} {cs : Scope} {a : Addr} {ccd : Value} {cl : List (Str × Addr)} {outer : List Env} {A₀ : Around} {base h₀ : Heap} {L : Addr} {m : Str -> Option Value} {s : Shared} {Q E : Value -> Shared -> Prop}
  (B : Below A₀ base outer h₀) (F : Fr h₀ L s.heap m) (X : (hd.heap_39 w.params).In h₀) (N : News h₀ L s.heap news) (T : Top topProg loose mean mg mb h₀) (hk : cs.kind = .function) (hd : dp + 1 < recursionLimit) (hu : un + 8 * 1 < cLine)
  (hret : ∀ (D : Addr) (t4 t5 t6 : Tok) (h' : Heap) (tk' : Nat),Fr h₀ L h' m -> News h₀ L h' ((D,tupO [.float c1 t4,.float c2 t5,.float c3 t6]) :: news) -> (∀ p ∈ news,p.1 < D) -> Q (.ref D) { s with heap := h',toks := tk' }) :
  wpAny (model rw_xg0057_01.row.prog w) (ktrTop dp un gd cn cs L a ccd cl outer) (call (.ref 71) [.float r t1,.float g t2,.float b t3]) Q E s :=
 use_rgb (by rw [hq]; rfl) B F X N T hk hd hu (fun d1 d2 d3 D t4 t5 t6 h' tk' hq' F' N' l => by
  rw [hq] at hq'
  cases hq'
  exact hret _ _ _ _ _ _ F' N' l)
noncomputable def OrbOk : List (UInt64 × UInt64) -> Prop
 | [] => False
 | [p] => (Float64.cmp p.2 4602678819172646912 == some Ordering.lt) = false
 | p :: q :: r => (Float64.cmp p.2 4602678819172646912 == some Ordering.lt) = true ∧ (∃ c1 c2 c3 v,hsvF (Float64.mul (Float64.ofInt 4) p.1) (Float64.mul (Float64.ofInt 2) p.2) 4607182418800017408 = some (c1,c2,c3) ∧ rgbF c1 c2 c3 = some (q.1,q.2,v)) ∧ OrbOk (q :: r)
inductive PairsAre (new : List (Addr × Obj)) : List Addr -> List (UInt64 × UInt64) -> Prop
 | nil : PairsAre new [] []
 | cons {d ds h s t1 t2 r} : (d,tupO [.float h t1,.float s t2]) ∈ new -> PairsAre new ds r -> PairsAre new (d :: ds) ((h,s) :: r)
theorem PairsAre.mono {a b : List (Addr × Obj)} (h : ∀ p ∈ a,p ∈ b) {ds : List Addr} {rs : List (UInt64 × UInt64)} (x : PairsAre a ds rs) : PairsAre b ds rs := by
 induction x with
 | nil => exact .nil
 | cons hm _ ih => exact .cons (h _ hm) ih
noncomputable def OrbPost (rest : List (Addr × Obj)) (os : List (UInt64 × UInt64)) (v : Value) (new : List (Addr × Obj)) : Prop :=
 ∃ D ds n pre, v = .ref D ∧ new = pre ++ rest ∧ (D, ({ cls := .type "list", data := .seq (ds.map Value.ref).toArray n } : Obj)) ∈ pre ∧ PairsAre pre ds os ∧ ∀ p ∈ pre, ∀ q ∈ rest, q.1 ≠ p.1
theorem pre_cons {l : List (Addr × Obj)} {x : Addr × Obj} {rest : List (Addr × Obj)} (h : ∀ q ∈ rest,q.1 ≠ x.1) (hl : ∀ p ∈ l,∀ q ∈ rest,q.1 ≠ p.1) : ∀ p ∈ x :: l,∀ q ∈ rest,q.1 ≠ p.1 := by
 intro p hp q hq
 rcases List.mem_cons.mp hp with e | e
 ·exact e ▸ h q hq
 ·exact hl p e q hq
theorem ite_yes {c : Prop} [d : Decidable c] {a b : Prop} (h : c) (k : a) : (if c then a else b) := (if_pos h).symm ▸ k
theorem ite_no {c : Bool} {a b : Prop} (h : c = false) (k : b) : (if c = true then a else b) := by subst h; exact k
theorem PairsAre.snoc {new : List (Addr × Obj)} {d : Addr} {h s : UInt64} {t1 t2 : Tok} : ∀ {ds : List Addr} {rs : List (UInt64 × UInt64)},PairsAre new ds rs -> (d,tupO [.float h t1,.float s t2]) ∈ new -> PairsAre new (ds ++ [d]) (rs ++ [(h,s)])
 | _,_,.nil,hm => .cons hm .nil
 | _,_,.cons h1 r,hm => .cons h1 (r.snoc hm)
theorem PairsAre.len {zz : List (Addr × Obj)} : ∀ {ds : List Addr} {os : List (UInt64 × UInt64)},PairsAre zz ds os -> ds.length = os.length
 | _,_,.nil => rfl
 | _,_,.cons _ r => congrArg Nat.succ r.len
theorem fr_has3 {h₀ h : Heap} {L : Addr} {m : Str -> Option Value} (F : Fr h₀ L h m) {x y z : Str} {v u t : Value} (e1 : m x = some v) (e2 : m y = some u) (e3 : m z = some t) : Fr h₀ L h (fun k => if k = x then some v else if k = y then some u else if k = z then some t else m k) :=
 (funext fun k => by by_cases q : k = x <;> by_cases q2 : k = y <;> by_cases q3 : k = z <;> simp_all : m = fun k => if k = x then some v else if k = y then some u else if k = z then some t else m k) ▸ F
noncomputable def OrbJ (news : List (Addr × Obj)) (os : List (UInt64 × UInt64)) (n : Nat) (m : Str -> Option Value) (nw : List (Addr × Obj)) : Prop :=
 ∀ G : Prop,(∀ (D : Addr) (ds : List Addr) (k : Nat) (pre : List (Addr × Obj)) (done todo : List (UInt64 × UInt64)) (h s : UInt64) (t1 t2 : Tok),
  n = todo.length -> os = done ++ (h, s) :: todo -> OrbOk ((h, s) :: todo) -> m (Str.ofString "hue") = some (.float h t1) -> m (Str.ofString "share") = some (.float s t2) -> m (Str.ofString "orbit") = some (.ref D) ->
  nw = (D,W.listOf (ds.map Value.ref).toArray k) :: (pre ++ news) -> PairsAre pre ds (done ++ [(h,s)]) -> (∀ p ∈ pre ++ news,p.1 ≠ D) -> (∀ p ∈ pre,∀ q ∈ news,q.1 ≠ p.1) -> G) -> G
set_option hygiene false in
local macro_rules | `(tactic| walk_at "ite") => `(tactic| (first | refine ite_yes (by with_reducible assumption) ?_ | refine ite_no (by with_reducible assumption) ?_))
theorem orb_room {os done r : List (UInt64 × UInt64)} {ds : List Addr} {a b c : UInt64 × UInt64} (hl : os.length <= 4) (eo : a :: os = done ++ b :: c :: r) (e : ds.length = (done ++ [b]).length) : (ds.map Value.ref).toArray.size <= sizeLine := by
 have := congrArg List.length eo
 simp only [List.length_cons,List.length_append,List.length_nil] at this e
 refine Nat.le_trans ?_ (show 5 <= sizeLine by decide)
 rw [List.size_toArray,List.length_map]
 lia
theorem orb_step {g h' : Heap} {L : Addr} {s : Shared} {tk k n : Nat} {m' : Str -> Option Value} {news pre : List (Addr × Obj)} {D T1 T2 T3 : Addr} {o1 o2 : Obj} {ds : List Addr} {all done r : List (UInt64 × UInt64)} {p q : UInt64 × UInt64} {u1 u2 : Tok}
  (F : Fr g L h' m') (N : News g L h' ((T3,tupO [.float q.1 u1,.float q.2 u2]) :: (T2,o2) :: (T1,o1) :: (D,W.listOf ((ds.map Value.ref).toArray.push (.ref T3)) (k + 1)) :: (pre ++ news)))
  (m1 : m' (Str.ofString "hue") = some (.float q.1 u1)) (m2 : m' (Str.ofString "share") = some (.float q.2 u2)) (m3 : m' (Str.ofString "orbit") = some (.ref D))
  (l1 : D < T1 ∧ AllLt T1 (pre ++ news)) (l2 : T1 < T2 ∧ D < T2 ∧ AllLt T2 (pre ++ news)) (l3 : T2 < T3 ∧ T1 < T3 ∧ D < T3 ∧ AllLt T3 (pre ++ news))
  (hp : PairsAre pre ds (done ++ [p])) (hoff : ∀ y ∈ pre ++ news,y.1 ≠ D) (hap : ∀ y ∈ pre,∀ z ∈ news,z.1 ≠ y.1) (ok : OrbOk (q :: r)) (eo : all = done ++ p :: q :: r) (en : n = (q :: r).length) :
  WhileStep g L s (OrbJ news all) n .next { s with heap := h',toks := tk } := by
 have e : (ds.map Value.ref).toArray.push (Value.ref T3) = ((ds ++ [T3]).map Value.ref).toArray := by rw [List.push_toArray,List.map_append]; rfl
 rw [e] at N
 have off (T : Addr) (h : AllLt T (pre ++ news)) : ∀ z ∈ news,z.1 ≠ T := fun z hz => ltNe h z (List.mem_append_right _ hz)
 refine WhileStep.intro F (news₂ := (D,W.listOf ((ds ++ [T3]).map Value.ref).toArray (k + 1)) :: (((T3,tupO [.float q.1 u1,.float q.2 u2]) :: (T2,o2) :: (T1,o1) :: pre) ++ news)) (cb_drop N (sb_mem (.tail _ (.tail _ (.tail _ (.head _)))) (sb_keep (sb_keep (sb_keep (sb_skip sb_refl)))))) (en ▸ Nat.lt_succ_self _) (fun G k9 => k9 D _ _ _ (done ++ [p]) r q.1 q.2 u1 u2 rfl (by rw [eo,List.append_assoc]; rfl) ok m1 m2 m3 rfl (PairsAre.snoc (hp.mono fun _ z => .tail _ (.tail _ (.tail _ z))) (.head _)) ?_ ?_)
 ·exact List.forall_mem_cons.mpr ⟨ngt l3.2.2.1,List.forall_mem_cons.mpr ⟨ngt l2.2.1,List.forall_mem_cons.mpr ⟨ngt l1.1,hoff⟩⟩⟩
 ·exact pre_cons (off T3 l3.2.2.2) (pre_cons (off T2 l2.2.2) (pre_cons (off T1 l1.2) hap))
theorem ctr_orbit (w : World) (hA sA : UInt64) (os : List (UInt64 × UInt64)) (t1 t2 : Tok) (ok : OrbOk ((hA,sA) :: os)) (hl : os.length <= 4) (news : List (Addr × Obj)) :
  Ctr w 182 [.float hA t1,.float sA t2] news 3 (OrbPost news ((hA,sA) :: os)) := by
 refine (?f : Cln _) ?p ⟨?q,fun B k => ?r⟩
 case f => exact fun x _ => x
 case q =>
  ((
  unfold Ctr
  intro mean mg mb loose dp un gd cn cs a ccd cl outer A₀ base h₀ L m s Q E B F KX N T hk hd hu hret
  revert KX; k_fill; intro KX
  refine wpAny_call ?_
  k_dflt ((first
  | cell_enter
  | (refine' code_defC ?k1 ?k2 ?k3 ?k4 ?k5 ?kA ?kF ?kK ?k6 ?k7 ?k8 ?k9 ?kB ?kD ?_ ?c2 ?c3 ?c4; (case kA => exact rfl); (case kF => exact rfl); (case kK => assumption); (case k1 => k_asm); (case k2 => k_asm); (case k3 => k_asm); (case k4 => k_asm); (case k5 => k_asm); (case k6 => k_is); (case k7 => k_is); (case k8 => ktr_room); (case k9 => exact BindsTo.of_eq rfl); (case kB => exact rfl); (case kD => decide +kernel); (case c2 => exact rfl); (case c3 => exact rfl); (case c4 => exact rfl); k_whole; intro g' L' h' tk' cells' FG' F' N' Y' B' X' T' l1; (try k_lt l1); k_cells Y'; (try simp only [List.cons_append,List.nil_append] at N'); (try dsimp only); (try k_lift B'); (try k_fold))))))
  refine cut_at 1 ?_
  dsimp only [List.take,List.drop]
  (k_steps; repeat' ((first | (refine stq_out "call builtin:list.append" ?_; (k_here; (with_reducible show wpAny _ _ (call (Value.builtin _) [Value.ref _, _]) _ _ _); k_dflt (refine' append_K ?k1 ?k2 ?k3 ?_ ?z; (case k1 => k_asm); (case k2 => k_asm); (case k3 => k_upd); (case z => exact hsz); k_whole); intro h' F' N'; (try k_sweep))) | (refine stq_out "call ref" ?_; (k_here; (with_reducible show wpAny _ _ (call (Value.ref 71) [Value.float _ _, Value.float _ _, Value.float _ _]) _ _ _); k_dflt (refine' use_rgbE ?hf ?k1 ?k2 ?k3 ?k4 ?k5 ?kK ?kd ?ku ?_); (case hf => assumption); walk_at "my sides"; intro D' u1 u2 u3 h' tk' F' N' l1; (try k_lt l1); (try dsimp only))) | (refine stq_out "call ref" ?_; (k_here; (with_reducible show wpAny _ _ (call (Value.ref 78) [Value.float _ _, Value.float _ _, Value.float _ _]) _ _ _); k_dflt (refine' use_hsvE ?hf ?k1 ?k2 ?k3 ?k4 ?k5 ?kK ?kd ?ku ?_); (case hf => assumption); walk_at "my sides"; intro D' u1 u2 u3 h' tk' F' N' l1; (try k_lt l1); (try dsimp only))) | fail) <;> k_steps))
  dsimp only [Hold]
  rename Fr _ _ _ _ => F9
  rename News _ _ _ _ => N9
  refine wpAny_execs_cons (While_inv (OrbJ news ((hA,sA) :: os)) F9 N9 (n₀ := os.length) (fun G k => k _ [_] _ [_] [] _ _ _ _ _ rfl rfl ok rfl rfl rfl rfl (.cons (.head _) .nil) ?a1 ?a2) ?turn)
  case a1 => exact List.forall_mem_cons.mpr ⟨by (dsimp only; k_ne),by k_all⟩
  case a2 => exact List.forall_mem_cons.mpr ⟨by (dsimp only; k_all),List.forall_mem_nil _⟩
  intro n m1 nw1 h1 tk1 F1 N1 J
  refine J _ (fun D ds k pre done todo hu9 sh9 u1 u2 en eo ok9 mh ms mo enw hp hoff hap => ?_)
  subst enw
  have F2 := fr_has3 F1 mh ms mo
  clear F1
  have hlen := PairsAre.len hp
  rcases todo with _ | ⟨⟨h2,s2⟩,r⟩
  ·have c9 : (Float64.cmp sh9 4602678819172646912 == some Ordering.lt) = false := ok9
   (k_steps; repeat' ((first | (refine stq_out "call builtin:list.append" ?_; (k_here; (with_reducible show wpAny _ _ (call (Value.builtin _) [Value.ref _, _]) _ _ _); k_dflt (refine' append_K ?k1 ?k2 ?k3 ?_ ?z; (case k1 => k_asm); (case k2 => k_asm); (case k3 => k_upd); (case z => exact hsz); k_whole); intro h' F' N'; (try k_sweep))) | (refine stq_out "call ref" ?_; (k_here; (with_reducible show wpAny _ _ (call (Value.ref 71) [Value.float _ _, Value.float _ _, Value.float _ _]) _ _ _); k_dflt (refine' use_rgbE ?hf ?k1 ?k2 ?k3 ?k4 ?k5 ?kK ?kd ?ku ?_); (case hf => assumption); walk_at "my sides"; intro D' u1 u2 u3 h' tk' F' N' l1; (try k_lt l1); (try dsimp only))) | (refine stq_out "call ref" ?_; (k_here; (with_reducible show wpAny _ _ (call (Value.ref 78) [Value.float _ _, Value.float _ _, Value.float _ _]) _ _ _); k_dflt (refine' use_hsvE ?hf ?k1 ?k2 ?k3 ?k4 ?k5 ?kK ?kd ?ku ?_); (case hf => assumption); walk_at "my sides"; intro D' u1 u2 u3 h' tk' F' N' l1; (try k_lt l1); (try dsimp only))) | fail) <;> k_steps))
   refine hret _ _ _ _ ?pp9 (by k_asm) (by k_asm)
   rw [eo]
   exact ⟨_,_,_,_ :: pre,rfl,rfl,.head _,hp.mono fun _ z => .tail _ z,pre_cons (fun q hq => hoff q (List.mem_append_right _ hq)) hap⟩
  ·obtain ⟨c9,⟨r0,g0,b0,v0,e0,f0⟩,ok2⟩ := ok9
   dsimp only at c9 e0 f0
   have hsz : (ds.map Value.ref).toArray.size <= sizeLine := orb_room hl eo hlen
   (k_steps; repeat' ((first | (refine stq_out "call builtin:list.append" ?_; (k_here; (with_reducible show wpAny _ _ (call (Value.builtin _) [Value.ref _, _]) _ _ _); k_dflt (refine' append_K ?k1 ?k2 ?k3 ?_ ?z; (case k1 => k_asm); (case k2 => k_asm); (case k3 => k_upd); (case z => exact hsz); k_whole); intro h' F' N'; (try k_sweep))) | (refine stq_out "call ref" ?_; (k_here; (with_reducible show wpAny _ _ (call (Value.ref 71) [Value.float _ _, Value.float _ _, Value.float _ _]) _ _ _); k_dflt (refine' use_rgbE ?hf ?k1 ?k2 ?k3 ?k4 ?k5 ?kK ?kd ?ku ?_); (case hf => assumption); walk_at "my sides"; intro D' u1 u2 u3 h' tk' F' N' l1; (try k_lt l1); (try dsimp only))) | (refine stq_out "call ref" ?_; (k_here; (with_reducible show wpAny _ _ (call (Value.ref 78) [Value.float _ _, Value.float _ _, Value.float _ _]) _ _ _); k_dflt (refine' use_hsvE ?hf ?k1 ?k2 ?k3 ?k4 ?k5 ?kK ?kd ?ku ?_); (case hf => assumption); walk_at "my sides"; intro D' u1 u2 u3 h' tk' F' N' l1; (try k_lt l1); (try dsimp only))) | fail) <;> k_steps))
   exact orb_step (by assumption) (by assumption) rfl rfl rfl (by assumption) (by assumption) (by assumption) hp hoff hap ok2 eo en
 case r => delta id stq_it stq_out; exact k
end

example {M : Model} {A : Around} {env : Env} {Q : Flow -> Shared -> Prop} {E : Value -> Shared -> Prop} {s : Shared} (h : Q .next s) : wpAny M A (execs [] env) Q E s := by first | (walk1; exact h) | exact wpAny_execs_nil h

noncomputable def reCode : Array Nat := #[14,8,1,2,4294967295,1,1,46,0,16,46,24,9,1,4294967295,13,4,8,0,0,1,6,5,1]
noncomputable def driveF : Nat -> Sre.M -> Option Sre.M
 | 0,_ => none
 | n + 1,m => match (m.runFor 4).outcome with
  | some _ => some (m.runFor 4)
  | none => driveF n (m.runFor 4)
noncomputable def srchF (x : Str) : Option (Option (Nat × Nat)) :=
 match driveF 400 (Sre.forSearch reCode x.cps 0 0 x.cps.size false) with
 | some m => match m.outcome with
  | some .matched => some (some (m.start,m.handed))
  | some .failed => some none
  | _ => none
 | none => none
open PySem.Builtin.Re in
theorem drive_rule {M : Model} {A : Around} {E : Value -> Shared -> Prop} {s : Shared} {Q : Sre.M -> Shared -> Prop} : ∀ (n k : Nat) (m m' : Sre.M),n <= k -> driveF n m = some m' -> Q m' s -> wpAny M A (reDrive k m) Q E s := by
 refine (?f : Cln _) ?p ⟨?q,fun B k => ?r⟩
 case f => exact fun x _ => x
 case q =>
  intro n
  induction n with
  | zero => intro k m m' _ h; cases h
  | succ n ih =>
   intro k m m' hk h hq
   obtain ⟨k,rfl⟩ : ∃ j,k = j + 1 := ⟨k - 1,by lia⟩
   unfold reDrive
   show wpAny M A (if (m.runFor 4).outcome.isSome = true then pure (m.runFor 4) else do rule "sre.turn"; reDrive k (m.runFor 4)) Q E s
   unfold driveF at h
   split at h
   ·rename_i o ho
    cases h
    rw [ho]
    exact wpAny_pure hq
   ·rename_i ho
    rw [ho]
    exact wpAny_bind (wpAny_rule (ih k _ _ (by lia) h hq))
 case r => delta id stq_it stq_out; exact k
theorem rules_rule {M : Model} {A : Around} {E : Value -> Shared -> Prop} {s : Shared} (c : Nat -> Bool) (tag : Nat -> String) {Q : PUnit -> Shared -> Prop} : ∀ (l : List Nat),Q ⟨⟩ s ->
  wpAny M A (forIn l PUnit.unit fun i _ => (if c i = true then do { rule (tag i); pure (ForInStep.yield PUnit.unit) } else pure (ForInStep.yield PUnit.unit) : Sem (ForInStep PUnit))) Q E s := by
 intro l hq
 induction l with
 | nil => exact wpAny_pure hq
 | cons i l ih =>
  rw [List.forIn_cons]
  refine wpAny_bind ?_
  refine wpAny_ite ?_
  split
  ·exact wpAny_bind (wpAny_rule (wpAny_pure ih))
  ·exact wpAny_pure ih
open PySem.Builtin.Re in
theorem end_rule {M : Model} {A : Around} {E : Value -> Shared -> Prop} {s : Shared} {Q : Option Sre.M -> Shared -> Prop} {x : Str} {r : Option (Nat × Nat)} (hr : srchF x = some r)
  (h0 : r = none -> Q none s) (h1 : ∀ m : Sre.M,r = some (m.start,m.handed) -> Q (some m) s) :
  wpAny M A (reRunToEnd (Sre.forSearch reCode x.cps 0 0 x.cps.size false)) Q E s := by
 refine (?f : Cln _) ?p ⟨?q,fun B k => ?r⟩
 case f => exact fun x _ => x
 case q =>
  unfold srchF at hr
  split at hr
  ·rename_i m hm
   unfold reRunToEnd
   refine wpAny_bind (drive_rule 400 _ _ m (by decide) hm ?_)
   refine wpAny_bind ?_
   refine rules_rule (fun i => m.seen.has i) (fun i => Sre.names.getD i "") _ ?_
   split at hr
   ·rename_i ho
    rw [ho]
    cases hr
    exact wpAny_pure (h1 m rfl)
   ·rename_i ho
    rw [ho]
    cases hr
    exact wpAny_pure (h0 rfl)
   ·cases hr
  ·cases hr
 case r => delta id stq_it stq_out; exact k
noncomputable abbrev matchO (x : Str) (t : Tok) (n : Nat) (li : Int) (T : Addr) : Obj := { cls := .type "re.Match", data := .fields #[.str x t, .ref 43, rawInt 0, rawInt n, rawInt li, .ref T] }
open PySem.Builtin.Re in
theorem search_body {M : Model} {A : Around} {E : Value -> Shared -> Prop} {s : Shared} {Q : Fin -> Shared -> Prop} {x : Str} {t : Tok} {r : Option (Nat × Nat)} {o43 o42 : Obj} {vs : Array Value}
  (hx : x.length <= 1000)
  (h43 : s.heap.get? 43 = some o43) (d43 : o43.data = .fields vs) (v5 : vs.getD 5 .none = .ref 42) (v6 : vs.getD 6 .none = .int 0 0) (v2 : vs.getD 2 .none = .int 0 0)
  (h42 : s.heap.get? 42 = some o42) (d42 : ∃ n,o42.data = .seq (reCode.map fun (k : Nat) => Value.int (Int.ofNat k) 0) n)
  (hr : srchF x = some r)
  (h0 : r = none -> Q (.done (.ret .none)) s)
  (h1 : ∀ (b e : Nat) (li : Int),r = some (b,e) -> Q (.done (.ret (.ref (s.heap.objs.size + 1)))) { s with heap := (s.heap.push (tupO [rawInt b,rawInt e])).push (matchO x t x.cps.size li s.heap.objs.size) }) :
  wpAny M A (Builtin.«re.Pattern.search» ⟨[.ref 43,.str x t],[]⟩) Q E s := by
 refine (?f : Cln _) ?p ⟨?q,fun B k => ?r⟩
 case f => exact fun x _ => x
 case q =>
  obtain ⟨h,g,d,tk,os⟩ := s
  obtain ⟨n,d42⟩ := d42
  unfold Builtin.«re.Pattern.search»
  refine wpAny_bind ?_
  unfold reTarget
  refine wpAny_bind (m := reNamed "re.Pattern.search" "search" ["string", "pos", "endpos"] 1 [.str x t] []) (wpAny_of_eq (show reNamed "re.Pattern.search" "search" ["string", "pos", "endpos"] 1 [.str x t] [] = pure [some (.str x t), none, none] from rfl) ?_)
  try dsimp only
  refine wpAny_bind (wpAny_pure ?_)
  refine wpAny_bind (wpAny_pure ?_)
  unfold fieldsOf
  refine wpAny_bind (wpAny_bind (wpAny_load h43 ?_))
  rw [d43]
  refine wpAny_pure ?_
  unfold reTextOf
  refine wpAny_bind (wpAny_bind (wpAny_pure ?_))
  refine wpAny_pure ?_
  try dsimp only
  rw [v6,v5,v2]
  rw [if_neg (by decide),if_neg (by decide)]
  unfold reNoCollectionInside
  refine wpAny_bind ?_
  rw [if_neg (by decide)]
  refine wpAny_pure ?_
  unfold reRawItems seqItems?
  refine wpAny_bind (wpAny_bind (wpAny_bind (wpAny_load h42 ?_)))
  rw [d42]
  refine wpAny_pure ?_
  try dsimp only
  refine wpAny_pure ?_
  refine wpAny_pure ?_
  try dsimp only
  have hc : Array.map (fun x => x.toNat) (Array.map reRawOf ((some (Array.map (fun (k : Nat) => Value.int (Int.ofNat k) 0) reCode)).getD #[])) = reCode := by decide +kernel
  have hl : min ((2 : Int)^63 - 1).toNat x.cps.size = x.cps.size := by
   have : x.cps.size <= 1000 := hx
   have h2 : ((2 : Int)^63 - 1).toNat = 9223372036854775807 := by decide
   rw [h2]; lia
  have hp : min (Int.toNat 0) x.cps.size = 0 := Nat.zero_min _
  rw [hc,hl,hp]
  unfold reAnswer
  refine wpAny_bind (end_rule hr ?_ ?_)
  ·intro e
   exact wpAny_pure (h0 e)
  ·intro m e
   dsimp only
   unfold reNewMatch
   refine wpAny_bind ?_
   have hz : List.range (reRawNat (Value.int 0 0)) = [] := rfl
   simp only [hz,List.flatMap_nil,List.any_nil,Bool.false_eq_true,if_false]
   refine wpAny_bind ?_
   unfold newTuple
   refine wpAny_newObj_type ?_
   unfold newFields
   refine wpAny_newObj_type ?_
   refine wpAny_pure ?_
   have e2 : (h.push (tupO [rawInt m.start,rawInt m.handed])).objs.size = h.objs.size + 1 := Heap.size_push ..
   have := h1 m.start m.handed m.lastindex e
   show Q (.done (.ret (.ref (h.push (tupO [rawInt m.start,rawInt m.handed])).objs.size))) _
   rw [e2]
   exact this
 case r => delta id stq_it stq_out; (conv => zeta); exact k
set_option maxRecDepth 100000 in
theorem plainAttrs_pattern : PlainAttrs "re.Pattern" :=
 ⟨⟨"object.__getattribute__", by rw [typeLookup_type, builtinLookup_eq_fast]; kernel_rfl, by decide +kernel⟩, by rw [typeLookup_type, builtinLookup_eq_fast]; kernel_rfl⟩
theorem slot_search : Slot "re.Pattern" "search" "re.Pattern.search" :=
 .of (owner := "re.Pattern") (n := "search") (by rw [typeLookup_type, builtinLookup_eq_fast]; kernel_rfl) (by decide +kernel) (by decide +kernel) (by decide +kernel)
  (by first | exact .inl (by decide +kernel) | exact .inr (by decide +kernel)) (by rw [isSubtype_type]; kernel_rfl)
theorem entry_search : entryFor table "re.Pattern.search" = some Builtin.«re.Pattern.search» := entryFor_of_tree (by kernel_rfl)
theorem args_search (a b : Value) : argsOk "re.Pattern.search" ⟨[a, b], []⟩ := by unfold argsOk; kernel_rfl
theorem type_search : typeOf (.builtin "re.Pattern.search") = pure (.type "method_descriptor") := by show builtinType _ = _; rw [builtinType_eq_fast]; kernel_rfl
theorem noBool_match : typeLookup (.type "re.Match") "__bool__" = pure none := by rw [typeLookup_type, builtinLookup_eq_fast]; kernel_rfl
theorem noLen_match : typeLookup (.type "re.Match") "__len__" = pure none := by rw [typeLookup_type, builtinLookup_eq_fast]; kernel_rfl
theorem truthy_match {M : Model} {A : Around} {E : Value -> Shared -> Prop} {s : Shared} {D : Addr} {Q : Bool -> Shared -> Prop} (hT : s.TypeIs (.ref D) "re.Match") (h : Q true s) : wpAny M A (truthy (.ref D)) Q E s := by
 unfold truthy
 first
  | refine wpAny_bind (wpAny_callSpecial?_none (name := Str.ofString "__bool__") hT noBool_match ?_)
  | refine wpAny_bind (wpAny_pure (wpAny_bind (wpAny_callSpecial?_none (name := Str.ofString "__bool__") hT noBool_match ?_)))
 first
  | refine wpAny_bind (wpAny_specialOf (name := Str.ofString "__len__") hT noLen_match ?_)
  | refine wpAny_bind (wpAny_pure (wpAny_bind (wpAny_specialOf (name := Str.ofString "__len__") hT noLen_match ?_)))
 exact wpAny_pure h
theorem look43 (w : World) : ∃ o, ((hd.heap_39 w.params).lookup 43 = some o) ∧ o.cls = .type "re.Pattern" ∧ o.dict = none ∧ ∃ vs, o.data = .fields vs ∧ vs.getD 5 .none = .ref 42 ∧ vs.getD 6 .none = .int 0 0 ∧ vs.getD 2 .none = .int 0 0 :=
 ⟨_,rfl,rfl,rfl,_,rfl,rfl,rfl,rfl⟩
theorem look42 (w : World) : ∃ o,((hd.heap_39 w.params).lookup 42 = some o) ∧ ∃ n,o.data = .seq (reCode.map fun (k : Nat) => Value.int (Int.ofNat k) 0) n :=
 ⟨_,rfl,0,by simp [reCode]⟩
section
variable {w : World} {A : Around} {E : Value -> Shared -> Prop} {s : Shared} {h₀ : Heap} {L : Addr} {m : Str -> Option Value} {news : List (Addr × Obj)}
theorem getm_search {prog : Program} {pl : Sem Bool} {Q : Value × List Value -> Shared -> Prop} (F : Fr h₀ L s.heap m) (X : (hd.heap_39 w.params).In h₀) (h : Q (.builtin "re.Pattern.search", [.ref 43]) s) :
  wpAny (model prog w) A (getMethod (.ref 43) (Str.ofString "search") pl) Q E s := by
 obtain ⟨o,ho,hc,hd,_⟩ := look43 w
 have hg := F.keep _ _ (X _ _ ho)
 exact getMethod_builtin (T := "re.Pattern") ⟨o, hg, hc⟩ plainAttrs_pattern slot_search type_search (fun a e => by cases e; exact ⟨o, hg, hd⟩) h
theorem call_search {prog : Program} {Q : Value -> Shared -> Prop} {x : Str} {t : Tok} (r : Option (Nat × Nat)) (F : Fr h₀ L s.heap m) (X : (hd.heap_39 w.params).In h₀) (N : News h₀ L s.heap news) (hx : x.length <= 1000) (hr : srchF x = some r)
  (h0 : r = none -> Q .none s)
  (h1 : ∀ (b e : Nat) (li : Int) (D T : Addr) (h' : Heap),r = some (b,e) -> Fr h₀ L h' m -> News h₀ L h' ((D,matchO x t x.cps.size li T) :: (T,tupO [rawInt b,rawInt e]) :: news) -> (∀ p ∈ news,p.1 < T) -> T < D -> Q (.ref D) { s with heap := h' }) :
  wpAny (model prog w) A (call (.builtin "re.Pattern.search") [.ref 43, .str x t]) Q E s := by
 refine (?f : Cln _) ?p ⟨?q,fun B k => ?r⟩
 case f => exact fun x _ => x
 case q =>
  obtain ⟨o,ho,hc,hd,vs,hv,v5,v6,v2⟩ := look43 w
  obtain ⟨o2,ho2,hv2⟩ := look42 w
  have hg := F.keep _ _ (X _ _ ho)
  have hg2 := F.keep _ _ (X _ _ ho2)
  refine wpAny_call_entry (T := "re.Pattern") slot_search ⟨o, hg, hc⟩ entry_search ?_ (args_search _ _)
  refine search_body hx hg hv v5 v6 v2 hg2 hv2 hr (fun e => ⟨_,rfl,h0 e⟩) fun b e li he => ⟨_,rfl,?_⟩
  have F1 := F.push (tupO [rawInt b,rawInt e])
  have N1 := News.push F N (tupO [rawInt b,rawInt e])
  have F2 := F1.push (matchO x t x.cps.size li s.heap.objs.size)
  have N2 := News.push F1 N1 (matchO x t x.cps.size li s.heap.objs.size)
  have e2 : (s.heap.push (tupO [rawInt b,rawInt e])).objs.size = s.heap.objs.size + 1 := Heap.size_push ..
  rw [e2] at N2
  exact h1 b e li _ _ _ he F2 N2 (fun p hp => Heap.lt_size (N p hp).1) (Nat.lt_succ_self _)
 case r => (try delta id); (conv => zeta); exact k
theorem truthy_matchN {M : Model} {D T : Addr} {x : Str} {t : Tok} {n : Nat} {li : Int} {Q : Bool -> Shared -> Prop} (N : News h₀ L s.heap news) (hm : (D,matchO x t n li T) ∈ news) (h : Q true s) : wpAny M A (truthy (.ref D)) Q E s :=
 truthy_match ⟨_,N.get hm,rfl⟩ h
end

section
local macro_rules | `(tactic| walk_at $s) => if ["call builtin:re.Pattern.search","getMethod ref","truthy ref"].contains s.getString then `(tactic| refine stq_it $s ?_) else Lean.Macro.throwUnsupported
noncomputable def hdnF (x : Str) : Bool := match srchF x with
 | some none => if (x == Str.ofString "") = true then false else if (Txt.item x 0 == Str.ofString ".") = true then false else !(Txt.item x (-1) == Str.ofString ".")
 | _ => false
theorem hdT {x : Str} (hr : srchF x = some none) : hdnF x = (if (x == Str.ofString "") = true then false else if (Txt.item x 0 == Str.ofString ".") = true then false else !(Txt.item x (-1) == Str.ofString ".")) := by unfold hdnF; rw [hr]
theorem hdA {x : Str} {q : Nat × Nat} (hr : srchF x = some (some q)) : false = hdnF x := by unfold hdnF; rw [hr]
theorem hdB {x : Str} (hr : srchF x = some none) (e : (x == Str.ofString "") = true) : false = hdnF x := ((hdT hr).trans (if_pos e)).symm
theorem hdC {x : Str} (hr : srchF x = some none) (e : (x == Str.ofString "") = false) (a : (Txt.item x 0 == Str.ofString ".") = true) : false = hdnF x := ((hdT hr).trans ((if_neg (by rw [e]; decide)).trans (if_pos a))).symm
theorem hdD {x : Str} {v : Bool} (hr : srchF x = some none) (e : (x == Str.ofString "") = false) (a : (Txt.item x 0 == Str.ofString ".") = false) (c : (Txt.item x (-1) == Str.ofString ".") = v) : (!v) = hdnF x := ((hdT hr).trans ((if_neg (by rw [e]; decide)).trans ((if_neg (by rw [a]; decide)).trans (congrArg _ c)))).symm
theorem ctr_hdn (w : World) (x : Str) (t : Tok) (hx : x.length <= 1000) (hr : (srchF x).isSome = true) (news : List (Addr × Obj)) :
  Ctr w 50 [.str x t] news 1 (fun v new => new = news ∧ v = .bool (hdnF x)) := by
 refine (?f : Cln _) ?p ⟨?q,fun B k => ?r⟩
 case f => exact fun x _ => x
 case q =>
  obtain ⟨r,hr⟩ := Option.isSome_iff_exists.mp hr
  rcases r with _ | ⟨b,e⟩
  ·((
  unfold Ctr
  intro mean mg mb loose dp un gd cn cs a ccd cl outer A₀ base h₀ L m s Q E B F KX N T hk hd hu hret
  revert KX; k_fill; intro KX
  refine wpAny_call ?_
  k_dflt ((first
  | cell_enter
  | (refine' code_defC ?k1 ?k2 ?k3 ?k4 ?k5 ?kA ?kF ?kK ?k6 ?k7 ?k8 ?k9 ?kB ?kD ?_ ?c2 ?c3 ?c4; (case kA => exact rfl); (case kF => exact rfl); (case kK => assumption); (case k1 => k_asm); (case k2 => k_asm); (case k3 => k_asm); (case k4 => k_asm); (case k5 => k_asm); (case k6 => k_is); (case k7 => k_is); (case k8 => ktr_room); (case k9 => exact BindsTo.of_eq rfl); (case kB => exact rfl); (case kD => decide +kernel); (case c2 => exact rfl); (case c3 => exact rfl); (case c4 => exact rfl); k_whole; intro g' L' h' tk' cells' FG' F' N' Y' B' X' T' l1; (try k_lt l1); k_cells Y'; (try simp only [List.cons_append,List.nil_append] at N'); (try dsimp only); (try k_lift B'); (try k_fold))))))
   (k_steps; repeat' ((first | (refine stq_out "truthy ref" ?_; (k_here; (refine' truthy_matchN ?k1 ?k2 ?_); (case k1 => k_asm); (case k2 => exact List.Mem.head _); (try dsimp only))) | (refine stq_out "call builtin:re.Pattern.search" ?_; (k_here; first
  | ((refine' call_search none ?k1 ?k2 ?k3 ?k4 ?k5 ?_ ?k6); (case k5 => with_reducible assumption); (case k1 => k_asm); (case k2 => k_asm); (case k3 => k_asm); (case k4 => omega); (case k6 => intro _ _ _ _ _ _ e9; cases e9); intro _; (try dsimp only))
  | ((refine' call_search (some (_, _)) ?k1 ?k2 ?k3 ?k4 ?k5 ?k6 ?_); (case k5 => with_reducible assumption); (case k1 => k_asm); (case k2 => k_asm); (case k3 => k_asm); (case k4 => omega); (case k6 => intro e9; cases e9); intro b9 e9 li9 D' T9 h' he9 F' N' l1 l2; (cases he9); (try k_lt l1); (try dsimp only)))) | (refine stq_out "getMethod ref" ?_; (k_here; (with_reducible show wpAny _ _ (getMethod (Value.ref 43) _ _) _ _ _); (with_unfolding_all refine' getm_search ?k1 ?k2 ?_); (case k1 => k_asm); (case k2 => k_asm); (try dsimp only))) | fail) <;> k_steps))
   all_goals first
    | exact hret _ _ _ _ ⟨rfl,congrArg Value.bool (hdB (by with_reducible assumption) (by with_reducible assumption))⟩ (by k_asm) (by k_asm)
    | exact hret _ _ _ _ ⟨rfl,congrArg Value.bool (hdC (by with_reducible assumption) (by with_reducible assumption) (by with_reducible assumption))⟩ (by k_asm) (by k_asm)
    | exact hret _ _ _ _ ⟨rfl,congrArg Value.bool (hdD (v := true) (by with_reducible assumption) (by with_reducible assumption) (by with_reducible assumption) (by with_reducible assumption))⟩ (by k_asm) (by k_asm)
    | exact hret _ _ _ _ ⟨rfl,congrArg Value.bool (hdD (v := false) (by with_reducible assumption) (by with_reducible assumption) (by with_reducible assumption) (by with_reducible assumption))⟩ (by k_asm) (by k_asm)
    | exact hret _ _ _ _ ⟨rfl,congrArg Value.bool (hdD (by with_reducible assumption) (by with_reducible assumption) (by with_reducible assumption) rfl)⟩ (by k_asm) (by k_asm)
  ·((
  unfold Ctr
  intro mean mg mb loose dp un gd cn cs a ccd cl outer A₀ base h₀ L m s Q E B F KX N T hk hd hu hret
  revert KX; k_fill; intro KX
  refine wpAny_call ?_
  k_dflt ((first
  | cell_enter
  | (refine' code_defC ?k1 ?k2 ?k3 ?k4 ?k5 ?kA ?kF ?kK ?k6 ?k7 ?k8 ?k9 ?kB ?kD ?_ ?c2 ?c3 ?c4; (case kA => exact rfl); (case kF => exact rfl); (case kK => assumption); (case k1 => k_asm); (case k2 => k_asm); (case k3 => k_asm); (case k4 => k_asm); (case k5 => k_asm); (case k6 => k_is); (case k7 => k_is); (case k8 => ktr_room); (case k9 => exact BindsTo.of_eq rfl); (case kB => exact rfl); (case kD => decide +kernel); (case c2 => exact rfl); (case c3 => exact rfl); (case c4 => exact rfl); k_whole; intro g' L' h' tk' cells' FG' F' N' Y' B' X' T' l1; (try k_lt l1); k_cells Y'; (try simp only [List.cons_append,List.nil_append] at N'); (try dsimp only); (try k_lift B'); (try k_fold))))))
   (k_steps; repeat' ((first | (refine stq_out "truthy ref" ?_; (k_here; (refine' truthy_matchN ?k1 ?k2 ?_); (case k1 => k_asm); (case k2 => exact List.Mem.head _); (try dsimp only))) | (refine stq_out "call builtin:re.Pattern.search" ?_; (k_here; first
  | ((refine' call_search none ?k1 ?k2 ?k3 ?k4 ?k5 ?_ ?k6); (case k5 => with_reducible assumption); (case k1 => k_asm); (case k2 => k_asm); (case k3 => k_asm); (case k4 => omega); (case k6 => intro _ _ _ _ _ _ e9; cases e9); intro _; (try dsimp only))
  | ((refine' call_search (some (_, _)) ?k1 ?k2 ?k3 ?k4 ?k5 ?k6 ?_); (case k5 => with_reducible assumption); (case k1 => k_asm); (case k2 => k_asm); (case k3 => k_asm); (case k4 => omega); (case k6 => intro e9; cases e9); intro b9 e9 li9 D' T9 h' he9 F' N' l1 l2; (cases he9); (try k_lt l1); (try dsimp only)))) | (refine stq_out "getMethod ref" ?_; (k_here; (with_reducible show wpAny _ _ (getMethod (Value.ref 43) _ _) _ _ _); (with_unfolding_all refine' getm_search ?k1 ?k2 ?_); (case k1 => k_asm); (case k2 => k_asm); (try dsimp only))) | fail) <;> k_steps))
   all_goals exact hret _ _ _ _ ⟨rfl,congrArg Value.bool (hdA hr)⟩ (by k_asm) (fun p hp => (by assumption : News _ _ _ (_ :: _ :: news)) p (.tail _ (.tail _ hp)))
 case r => delta id stq_it stq_out; exact k
theorem use_hdn {w : World} {x : Str} {t : Tok} {news : List (Addr × Obj)} (hx : x.length <= 1000) (hr : (srchF x).isSome = true) {mean : ExcName -> Option Value} {mg mb : Str -> Option Value} {loose : List Str}
  {dp un : Nat} {gd : Option (List Code)} {cn : Str} {cs : Scope} {a : Addr} {ccd : Value} {cl : List (Str × Addr)} {outer : List Env} {A₀ : Around} {base h₀ : Heap} {L : Addr} {m : Str -> Option Value} {s : Shared} {Q E : Value -> Shared -> Prop}
  (B : Below A₀ base outer h₀) (F : Fr h₀ L s.heap m) (X : (hd.heap_39 w.params).In h₀) (N : News h₀ L s.heap news) (T : Top topProg loose mean mg mb h₀) (hk : cs.kind = .function) (hd : dp + 1 < recursionLimit) (hu : un + 8 * 1 < cLine)
  (hret : ∀ (h' : Heap) (tk' : Nat),Fr h₀ L h' m -> News h₀ L h' news -> Q (.bool (hdnF x)) { s with heap := h',toks := tk' }) :
  wpAny (model rw_xg0057_01.row.prog w) (ktrTop dp un gd cn cs L a ccd cl outer) (call (.ref 50) [.str x t]) Q E s :=
 ctr_use (ctr_hdn w x t hx hr news) B F X N T hk hd hu (fun r new h' tk' hp F' N' => by
  obtain ⟨rfl,rfl⟩ := hp
  exact hret _ _ F' N')
end

example {M : Model} {A : Around} {env : Env} {Q : Flow -> Shared -> Prop} {E : Value -> Shared -> Prop} {s : Shared} (h : Q .next s) : wpAny M A (execs [] env) Q E s := by first | (walk1; exact h) | exact wpAny_execs_nil h

set_option hygiene false in
local macro_rules | `(tactic| walk_at "call ref") => `(tactic| ((with_reducible show wpAny _ _ (call (Value.ref 50) [Value.str _ _]) _ _ _); k_dflt (refine' use_hdn (by omega) ?hf ?k1 ?k2 ?k3 ?k4 ?k5 ?kK ?kd ?ku ?_); (case hf => first | assumption | walk_at "my hyp"); walk_at "my sides"; intro h' tk' F' N'; (try dsimp only)))

section
variable {prog : Program} {w : World} {A : Around} {E : Value -> Shared -> Prop} {h : Heap} {g : Array GenState} {d : Drawn} {t : Nat} {os : OsState} {a : Addr} {o : Obj} {vs : Array Value} {a0 : Value}
theorem slot_md_get : Slot "member_descriptor" "__get__" "member_descriptor.__get__" :=
 .of (owner := "member_descriptor") (n := "__get__") (by rw [typeLookup_type, builtinLookup_eq_fast]; kernel_rfl) (by decide +kernel) (by decide +kernel) (by decide +kernel)
  (by first | exact .inl (by decide +kernel) | exact .inr (by decide +kernel)) (by rw [isSubtype_type]; kernel_rfl)
theorem slot_md_set : Slot "member_descriptor" "__set__" "member_descriptor.__set__" :=
 .of (owner := "member_descriptor") (n := "__set__") (by rw [typeLookup_type, builtinLookup_eq_fast]; kernel_rfl) (by decide +kernel) (by decide +kernel) (by decide +kernel)
  (by first | exact .inl (by decide +kernel) | exact .inr (by decide +kernel)) (by rw [isSubtype_type]; kernel_rfl)
theorem entry_md_get : entryFor table "member_descriptor.__get__" = some Builtin.«member_descriptor.__get__» := entryFor_of_tree (by kernel_rfl)
theorem args_md_get (a b c : Value) : argsOk "member_descriptor.__get__" ⟨[a, b, c], []⟩ := by unfold argsOk; kernel_rfl
theorem slot_match_ga : Slot "re.Match" "__getattribute__" "object.__getattribute__" :=
 .of (owner := "object") (n := "__getattribute__") (by rw [typeLookup_type, builtinLookup_eq_fast]; kernel_rfl) (by decide +kernel) (by decide +kernel) (by decide +kernel)
  (by first | exact .inl (by decide +kernel) | exact .inr (by decide +kernel)) (by rw [isSubtype_type]; kernel_rfl)
theorem entry_ga : entryFor table "object.__getattribute__" = some Builtin.«object.__getattribute__» := entryFor_of_tree (by kernel_rfl)
theorem args_ga (a b : Value) : argsOk "object.__getattribute__" ⟨[a, b], []⟩ := by unfold argsOk; kernel_rfl
theorem look_mstring : typeLookup (.type "re.Match") "string" = pure (some (.builtin "re.Match.string")) := by rw [typeLookup_type, builtinLookup_eq_fast]; kernel_rfl
theorem type_mstring : typeOf (.builtin "re.Match.string") = pure (.type "member_descriptor") := by show builtinType _ = _; rw [builtinType_eq_fast]; kernel_rfl
theorem entry_mstring : entryFor table "re.Match.string" = some Builtin.«re.Match.string» := entryFor_of_tree (by kernel_rfl)
theorem owner_mstring : (".".intercalate ("re.Match.string".cutAt '.').dropLast) = "re.Match" := by
 have e0 : "re.Match.string".cutAt '.' = ["re", "Match", "string"] := by first | rfl | decide +kernel
 rw [e0]; decide +kernel
theorem sub_match : isSubtype (.type "re.Match") (.type "re.Match") = pure true := by rw [isSubtype_type]; kernel_rfl
theorem ms_get {R : Result -> Shared -> Prop} (hx : h.get? a = some o) (hc : o.cls = .type "re.Match") (hd : o.data = .fields vs) (h0 : vs[0]? = some a0) (hnd : (a0 == doubtfulMember) = false) (hq : R (.ok (.ret a0)) ⟨h, g, d, t, os⟩) :
  codeAny (model prog w) A (.call (.builtin "member_descriptor.__get__") ⟨[.builtin "re.Match.string", .ref a, .type "re.Match"], []⟩) R ⟨h, g, d, t, os⟩ := by
 refine (?f : Cln _) ?p ⟨?q,fun B k => ?r⟩
 case f => exact fun x _ => x
 case q =>
  have hT : (⟨h, g, d, t, os⟩ : Shared).TypeIs (.ref a) "re.Match" := ⟨_, hx, hc⟩
  have hT5 : (⟨h, g, d, t, os⟩ : Shared).TypeIs (.builtin "re.Match.string") "member_descriptor" := type_mstring
  have f8 : isSubtype (.type "re.Match") (.type (".".intercalate ("re.Match.string".cutAt '.').dropLast)) = pure true := by rw [owner_mstring]; exact sub_match
  refine codeAny_call_builtin slot_md_get.plain entry_md_get (slot_md_get.check _ _ _ _ _ _ _ _ hT5 (args_md_get _ _ _) ?_)
  repeat (any_goals (first | assumption | wp_step))
  refine ⟨Code.quiet_builtin _ (by decide +kernel),codeAny_builtin entry_mstring ?_⟩
  unfold Builtin.«re.Match.string»
  repeat (any_goals (first | assumption | with_reducible refine wpAny_field hx hd h0 ?_ | wp_step))
  rw [hd]
  refine wpAny_pure ?_
  rw [h0]
  exact wpAny_pure (wpAny_pure hq)
 case r => delta id stq_it stq_out; exact k
theorem ms_entry {tk : Tok} {Q : Fin -> Shared -> Prop} (hx : h.get? a = some o) (hc : o.cls = .type "re.Match") (hd : o.data = .fields vs) (h0 : vs[0]? = some a0) (hnd : (a0 == doubtfulMember) = false) (hq : Q (.done (.ret a0)) ⟨h, g, d, t, os⟩) :
  wpAny (model prog w) A (Builtin.«object.__getattribute__» ⟨[.ref a, .str (Str.ofString "string") tk], []⟩) Q E ⟨h, g, d, t, os⟩ := by
 refine (?f : Cln _) ?p ⟨?q,fun B k => ?r⟩
 case f => exact fun x _ => x
 case q =>
  have hT : (⟨h, g, d, t, os⟩ : Shared).TypeIs (.ref a) "re.Match" := ⟨_, hx, hc⟩
  have hT5 : (⟨h, g, d, t, os⟩ : Shared).TypeIs (.builtin "re.Match.string") "member_descriptor" := type_mstring
  have f4 : typeLookup (.type "re.Match") (Str.ofString "string") = pure (some (.builtin "re.Match.string")) := look_mstring
  have f5 := type_mstring
  have f6 := slot_md_get.lookup
  have f7 := slot_md_set.lookup
  repeat (any_goals (first | assumption | wp_step))
  refine ms_get hx hc hd h0 hnd ?_
  repeat (any_goals (first | assumption | wp_step))
 case r => delta id stq_it stq_out; exact k
theorem ms_call {tk : Tok} {R : Result -> Shared -> Prop} (hx : h.get? a = some o) (hc : o.cls = .type "re.Match") (hd : o.data = .fields vs) (h0 : vs[0]? = some a0) (hnd : (a0 == doubtfulMember) = false) (hq : R (.ok (.ret a0)) ⟨h, g, d, t, os⟩) :
  codeAny (model prog w) A (.call (.builtin "object.__getattribute__") ⟨[.ref a, .str (Str.ofString "string") tk], []⟩) R ⟨h, g, d, t, os⟩ :=
 codeAny_call_builtin slot_match_ga.plain entry_ga (slot_match_ga.check _ _ _ _ _ _ _ _ (show (⟨h, g, d, t, os⟩ : Shared).TypeIs (.ref a) "re.Match" from ⟨_, hx, hc⟩) (args_ga _ _) (ms_entry hx hc hd h0 hnd hq))
theorem ms_by {tk : Tok} {fill expr : Bool} {x : Str} {tx : Tok} {Q : Value -> Shared -> Prop} (hx : h.get? a = some o) (hc : o.cls = .type "re.Match") (hd : o.data = .fields vs) (h0 : vs[0]? = some (.str x tx))
  (hq : Q (.str x tx) ⟨h, g, d, t, os⟩) : wpAny (model prog w) A (getAttrBy (.ref a) (.str (Str.ofString "string") tk) fill expr) Q E ⟨h, g, d, t, os⟩ := by
 refine (?f : Cln _) ?p ⟨?q,fun B k => ?r⟩
 case f => exact fun x _ => x
 case q =>
  have hT : (⟨h, g, d, t, os⟩ : Shared).TypeIs (.ref a) "re.Match" := ⟨_, hx, hc⟩
  have f2 := slot_match_ga.lookup
  have f3 := slot_match_ga.bind (.ref a)
  have hx0 : (expr && onTheHeap (Value.builtin "object.__getattribute__")) = false := by cases expr <;> rfl
  repeat (any_goals (first | assumption | wp_step))
  refine ms_call hx hc hd h0 (by first | rfl | decide | simp [doubtfulMember,rawInt]) ?_
  repeat (any_goals (first | assumption | wp_step))
 case r => delta id stq_it stq_out; exact k
theorem ms_attr {expr : Bool} {x : Str} {tx : Tok} {Q : Value -> Shared -> Prop} (hx : h.get? a = some o) (hc : o.cls = .type "re.Match") (hd : o.data = .fields vs) (h0 : vs[0]? = some (.str x tx))
  (hq : Q (.str x tx) ⟨h, g, d, t + 1, os⟩) : wpAny (model prog w) A (getAttr (.ref a) (Str.ofString "string") expr) Q E ⟨h, g, d, t, os⟩ := by
 unfold getAttr
 repeat (any_goals (first | assumption | with_reducible refine ms_by hx hc hd h0 ?_ | wp_step))
end

noncomputable def reachF (x : Str) : Str :=
 if 0 <= Txt.find x (Str.ofString ".") then
  if hdnF x = true then
   if 0 <= Txt.find (Txt.slice x (some (Txt.find x (Str.ofString ".") + 1)) none) (Str.ofString ".") then Str.ofString "." ++ Txt.slice x (some (Txt.find x (Str.ofString ".") + 1)) none
   else if (Txt.slice x (some (Txt.find x (Str.ofString ".") + 1)) none == Str.ofString "local") = true then Str.ofString "." ++ Txt.slice x (some (Txt.find x (Str.ofString ".") + 1)) none
   else x
  else x
 else x
theorem reA {x : Str} (a : ¬ 0 <= Txt.find x (Str.ofString ".")) : x = reachF x := (if_neg a).symm
theorem reB {x : Str} (a : 0 <= Txt.find x (Str.ofString ".")) (h : hdnF x = false) : x = reachF x := ((if_pos a).trans (if_neg (by rw [h]; decide))).symm
theorem reC {x : Str} (a : 0 <= Txt.find x (Str.ofString ".")) (h : hdnF x = true) (f : 0 <= Txt.find (Txt.slice x (some (Txt.find x (Str.ofString ".") + 1)) none) (Str.ofString ".")) : Str.ofString "." ++ Txt.slice x (some (Txt.find x (Str.ofString ".") + 1)) none = reachF x := ((if_pos a).trans ((if_pos h).trans (if_pos f))).symm
theorem reD {x : Str} (a : 0 <= Txt.find x (Str.ofString ".")) (h : hdnF x = true) (f : ¬ 0 <= Txt.find (Txt.slice x (some (Txt.find x (Str.ofString ".") + 1)) none) (Str.ofString ".")) (l : (Txt.slice x (some (Txt.find x (Str.ofString ".") + 1)) none == Str.ofString "local") = true) : Str.ofString "." ++ Txt.slice x (some (Txt.find x (Str.ofString ".") + 1)) none = reachF x := ((if_pos a).trans ((if_pos h).trans ((if_neg f).trans (if_pos l)))).symm
theorem reE {x : Str} (a : 0 <= Txt.find x (Str.ofString ".")) (h : hdnF x = true) (f : ¬ 0 <= Txt.find (Txt.slice x (some (Txt.find x (Str.ofString ".") + 1)) none) (Str.ofString ".")) (l : (Txt.slice x (some (Txt.find x (Str.ofString ".") + 1)) none == Str.ofString "local") = false) : x = reachF x := ((if_pos a).trans ((if_pos h).trans ((if_neg f).trans (if_neg (by rw [l]; decide))))).symm
theorem str_is {x y : Str} {t : Tok} (e : x = y) : ∃ t2,Value.str x t = .str y t2 := ⟨t,e ▸ rfl⟩
theorem ctr_reach (w : World) (x : Str) (t : Tok) (hx : x.length <= 1000) (hr : (srchF x).isSome = true) (news : List (Addr × Obj)) :
  Ctr w 64 [.str x t] news 2 (fun v new => new = news ∧ ∃ t2,v = .str (reachF x) t2) := by
 refine (?f : Cln _) ?p ⟨?q,fun B k => ?r⟩
 case f => exact fun x _ => x
 case q =>
  ((
  unfold Ctr
  intro mean mg mb loose dp un gd cn cs a ccd cl outer A₀ base h₀ L m s Q E B F KX N T hk hd hu hret
  revert KX; k_fill; intro KX
  refine wpAny_call ?_
  k_dflt ((first
  | cell_enter
  | (refine' code_defC ?k1 ?k2 ?k3 ?k4 ?k5 ?kA ?kF ?kK ?k6 ?k7 ?k8 ?k9 ?kB ?kD ?_ ?c2 ?c3 ?c4; (case kA => exact rfl); (case kF => exact rfl); (case kK => assumption); (case k1 => k_asm); (case k2 => k_asm); (case k3 => k_asm); (case k4 => k_asm); (case k5 => k_asm); (case k6 => k_is); (case k7 => k_is); (case k8 => ktr_room); (case k9 => exact BindsTo.of_eq rfl); (case kB => exact rfl); (case kD => decide +kernel); (case c2 => exact rfl); (case c3 => exact rfl); (case c4 => exact rfl); k_whole; intro g' L' h' tk' cells' FG' F' N' Y' B' X' T' l1; (try k_lt l1); k_cells Y'; (try simp only [List.cons_append,List.nil_append] at N'); (try dsimp only); (try k_lift B'); (try k_fold))))))
  k_steps
  all_goals first
   | (have e9 := reA (x := x) (by with_reducible assumption); exact hret _ _ _ _ ⟨rfl,str_is e9⟩ (by k_asm) (by k_asm))
   | (have e9 := reB (x := x) (by with_reducible assumption) (by with_reducible assumption); exact hret _ _ _ _ ⟨rfl,str_is e9⟩ (by k_asm) (by k_asm))
   | (have e9 := reC (x := x) (by with_reducible assumption) (by with_reducible assumption) (by with_reducible assumption); exact hret _ _ _ _ ⟨rfl,str_is e9⟩ (by k_asm) (by k_asm))
   | (have e9 := reD (x := x) (by with_reducible assumption) (by with_reducible assumption) (by with_reducible assumption) (by with_reducible assumption); exact hret _ _ _ _ ⟨rfl,str_is e9⟩ (by k_asm) (by k_asm))
   | (have e9 := reE (x := x) (by with_reducible assumption) (by with_reducible assumption) (by with_reducible assumption) (by with_reducible assumption); exact hret _ _ _ _ ⟨rfl,str_is e9⟩ (by k_asm) (by k_asm))
 case r => delta id stq_it stq_out; exact k
theorem use_reach {w : World} {x : Str} {t : Tok} {news : List (Addr × Obj)} (hx : x.length <= 1000) (hr : (srchF x).isSome = true) {mean : ExcName -> Option Value} {mg mb : Str -> Option Value} {loose : List Str}
  {dp un : Nat} {gd : Option (List Code)} {cn : Str} {cs : Scope} {a : Addr} {ccd : Value} {cl : List (Str × Addr)} {outer : List Env} {A₀ : Around} {base h₀ : Heap} {L : Addr} {m : Str -> Option Value} {s : Shared} {Q E : Value -> Shared -> Prop}
  (B : Below A₀ base outer h₀) (F : Fr h₀ L s.heap m) (X : (hd.heap_39 w.params).In h₀) (N : News h₀ L s.heap news) (T : Top topProg loose mean mg mb h₀) (hk : cs.kind = .function) (hd : dp + 2 < recursionLimit) (hu : un + 8 * 2 < cLine)
  (hret : ∀ (t2 : Tok) (h' : Heap) (tk' : Nat),Fr h₀ L h' m -> News h₀ L h' news -> Q (.str (reachF x) t2) { s with heap := h',toks := tk' }) :
  wpAny (model rw_xg0057_01.row.prog w) (ktrTop dp un gd cn cs L a ccd cl outer) (call (.ref 64) [.str x t]) Q E s :=
 ctr_use (ctr_reach w x t hx hr news) B F X N T hk hd hu (fun r new h' tk' hp F' N' => by
  obtain ⟨rfl,t2,rfl⟩ := hp
  exact hret _ _ _ F' N')

set_option hygiene false in
local macro_rules | `(tactic| walk_at "call ref") => `(tactic| ((with_reducible show wpAny _ _ (call (Value.ref 64) [Value.str _ _]) _ _ _); k_dflt (refine' use_reach (by omega) ?hf ?k1 ?k2 ?k3 ?k4 ?k5 ?kK ?kd ?ku ?_); (case hf => first | assumption | walk_at "my hyp"); walk_at "my sides"; intro u2 h' tk' F' N'; (try dsimp only)))

noncomputable def dmF (x y : Str) : Bool :=
 if (Txt.lower x == Txt.lower y) = true then true
 else if hdnF (Txt.lower x) = true then
  if Txt.rfind (Txt.lower x) (Txt.lower y) = -1 then false
  else if Txt.rfind (Txt.lower x) (Txt.lower y) = 0 then false
  else if Txt.startswith (Txt.lower y) (Str.ofString ".") = true then hdnF (Txt.slice (Txt.lower y) (some 1) none)
  else false
 else false
theorem dmA {x y : Str} (a : (Txt.lower x == Txt.lower y) = true) : true = dmF x y := (if_pos a).symm
theorem dmB {x y : Str} (a : (Txt.lower x == Txt.lower y) = false) (h : hdnF (Txt.lower x) = false) : false = dmF x y := ((if_neg (by rw [a]; decide)).trans (if_neg (by rw [h]; decide))).symm
theorem dmC {x y : Str} (a : (Txt.lower x == Txt.lower y) = false) (h : hdnF (Txt.lower x) = true) (e : Txt.rfind (Txt.lower x) (Txt.lower y) = -1) : false = dmF x y := ((if_neg (by rw [a]; decide)).trans ((if_pos h).trans (if_pos e))).symm
theorem dmD {x y : Str} (a : (Txt.lower x == Txt.lower y) = false) (h : hdnF (Txt.lower x) = true) (e : ¬ Txt.rfind (Txt.lower x) (Txt.lower y) = -1) (z : Txt.rfind (Txt.lower x) (Txt.lower y) = 0) : false = dmF x y := ((if_neg (by rw [a]; decide)).trans ((if_pos h).trans ((if_neg e).trans (if_pos z)))).symm
theorem dmE {x y : Str} (a : (Txt.lower x == Txt.lower y) = false) (h : hdnF (Txt.lower x) = true) (e : ¬ Txt.rfind (Txt.lower x) (Txt.lower y) = -1) (z : ¬ Txt.rfind (Txt.lower x) (Txt.lower y) = 0) (s : Txt.startswith (Txt.lower y) (Str.ofString ".") = false) : false = dmF x y := ((if_neg (by rw [a]; decide)).trans ((if_pos h).trans ((if_neg e).trans ((if_neg z).trans (if_neg (by rw [s]; decide)))))).symm
theorem dmG {x y : Str} {v : Bool} (a : (Txt.lower x == Txt.lower y) = false) (h : hdnF (Txt.lower x) = true) (e : ¬ Txt.rfind (Txt.lower x) (Txt.lower y) = -1) (z : ¬ Txt.rfind (Txt.lower x) (Txt.lower y) = 0) (s : Txt.startswith (Txt.lower y) (Str.ofString ".") = true) (k : hdnF (Txt.slice (Txt.lower y) (some 1) none) = v) : v = dmF x y := ((if_neg (by rw [a]; decide)).trans ((if_pos h).trans ((if_neg e).trans ((if_neg z).trans ((if_pos s).trans k))))).symm
theorem ctr_dm (w : World) (x y : Str) (t1 t2 : Tok) (hx : x.length <= 300) (hy : y.length <= 300) (hr : (srchF (Txt.lower x)).isSome = true) (hr2 : (srchF (Txt.slice (Txt.lower y) (some 1) none)).isSome = true) (news : List (Addr × Obj)) :
  Ctr w 57 [.str x t1,.str y t2] news 2 (fun v new => new = news ∧ v = .bool (dmF x y)) := by
 refine (?f : Cln _) ?p ⟨?q,fun B k => ?r⟩
 case f => exact fun x _ => x
 case q =>
  ((
  unfold Ctr
  intro mean mg mb loose dp un gd cn cs a ccd cl outer A₀ base h₀ L m s Q E B F KX N T hk hd hu hret
  revert KX; k_fill; intro KX
  refine wpAny_call ?_
  k_dflt ((first
  | cell_enter
  | (refine' code_defC ?k1 ?k2 ?k3 ?k4 ?k5 ?kA ?kF ?kK ?k6 ?k7 ?k8 ?k9 ?kB ?kD ?_ ?c2 ?c3 ?c4; (case kA => exact rfl); (case kF => exact rfl); (case kK => assumption); (case k1 => k_asm); (case k2 => k_asm); (case k3 => k_asm); (case k4 => k_asm); (case k5 => k_asm); (case k6 => k_is); (case k7 => k_is); (case k8 => ktr_room); (case k9 => exact BindsTo.of_eq rfl); (case kB => exact rfl); (case kD => decide +kernel); (case c2 => exact rfl); (case c3 => exact rfl); (case c4 => exact rfl); k_whole; intro g' L' h' tk' cells' FG' F' N' Y' B' X' T' l1; (try k_lt l1); k_cells Y'; (try simp only [List.cons_append,List.nil_append] at N'); (try dsimp only); (try k_lift B'); (try k_fold))))))
  k_steps
  all_goals first
   | exact hret _ _ _ _ ⟨rfl,congrArg Value.bool (dmA (by with_reducible assumption))⟩ (by k_asm) (by k_asm)
   | exact hret _ _ _ _ ⟨rfl,congrArg Value.bool (dmB (by with_reducible assumption) (by with_reducible assumption))⟩ (by k_asm) (by k_asm)
   | exact hret _ _ _ _ ⟨rfl,congrArg Value.bool (dmC (by with_reducible assumption) (by with_reducible assumption) (by with_reducible assumption))⟩ (by k_asm) (by k_asm)
   | exact hret _ _ _ _ ⟨rfl,congrArg Value.bool (dmD (by with_reducible assumption) (by with_reducible assumption) (by with_reducible assumption) (by with_reducible assumption))⟩ (by k_asm) (by k_asm)
   | exact hret _ _ _ _ ⟨rfl,congrArg Value.bool (dmE (by with_reducible assumption) (by with_reducible assumption) (by with_reducible assumption) (by with_reducible assumption) (by with_reducible assumption))⟩ (by k_asm) (by k_asm)
   | exact hret _ _ _ _ ⟨rfl,congrArg Value.bool (dmG (by with_reducible assumption) (by with_reducible assumption) (by with_reducible assumption) (by with_reducible assumption) (by with_reducible assumption) (by with_reducible assumption))⟩ (by k_asm) (by k_asm)
   | exact hret _ _ _ _ ⟨rfl,congrArg Value.bool (dmG (by with_reducible assumption) (by with_reducible assumption) (by with_reducible assumption) (by with_reducible assumption) (by with_reducible assumption) rfl)⟩ (by k_asm) (by k_asm)
 case r => delta id stq_it stq_out; exact k
theorem use_dm {w : World} {x y : Str} {t1 t2 : Tok} {news : List (Addr × Obj)} (hx : x.length <= 300) (hy : y.length <= 300) (hr : (srchF (Txt.lower x)).isSome = true) (hr2 : (srchF (Txt.slice (Txt.lower y) (some 1) none)).isSome = true) {mean : ExcName -> Option Value} {mg mb : Str -> Option Value} {loose : List Str}
  {dp un : Nat} {gd : Option (List Code)} {cn : Str} {cs : Scope} {a : Addr} {ccd : Value} {cl : List (Str × Addr)} {outer : List Env} {A₀ : Around} {base h₀ : Heap} {L : Addr} {m : Str -> Option Value} {s : Shared} {Q E : Value -> Shared -> Prop}
  (B : Below A₀ base outer h₀) (F : Fr h₀ L s.heap m) (X : (hd.heap_39 w.params).In h₀) (N : News h₀ L s.heap news) (T : Top topProg loose mean mg mb h₀) (hk : cs.kind = .function) (hd : dp + 2 < recursionLimit) (hu : un + 8 * 2 < cLine)
  (hret : ∀ (h' : Heap) (tk' : Nat),Fr h₀ L h' m -> News h₀ L h' news -> Q (.bool (dmF x y)) { s with heap := h',toks := tk' }) :
  wpAny (model rw_xg0057_01.row.prog w) (ktrTop dp un gd cn cs L a ccd cl outer) (call (.ref 57) [.str x t1,.str y t2]) Q E s :=
 ctr_use (ctr_dm w x y t1 t2 hx hy hr hr2 news) B F X N T hk hd hu (fun r new h' tk' hp F' N' => by
  obtain ⟨rfl,rfl⟩ := hp
  exact hret _ _ F' N')

set_option hygiene false in
local macro_rules | `(tactic| walk_at "call ref") => `(tactic| ((with_reducible show wpAny _ _ (call (Value.ref 57) [Value.str _ _, Value.str _ _]) _ _ _); k_dflt (refine' use_dm (by omega) (by omega) ?hf ?hg ?k1 ?k2 ?k3 ?k4 ?k5 ?kK ?kd ?ku ?_); (case hf => first | assumption | walk_at "my hyp"); (case hg => first | assumption | walk_at "my hyp"); walk_at "my sides"; intro h' tk' F' N'; (try dsimp only)))

-- span
theorem plainAttrs_match : PlainAttrs "re.Match" :=
 ⟨⟨"object.__getattribute__", by rw [typeLookup_type, builtinLookup_eq_fast]; kernel_rfl, by decide +kernel⟩, by rw [typeLookup_type, builtinLookup_eq_fast]; kernel_rfl⟩
theorem slot_span : Slot "re.Match" "span" "re.Match.span" :=
 .of (owner := "re.Match") (n := "span") (by rw [typeLookup_type, builtinLookup_eq_fast]; kernel_rfl) (by decide +kernel) (by decide +kernel) (by decide +kernel)
  (by first | exact .inl (by decide +kernel) | exact .inr (by decide +kernel)) (by rw [isSubtype_type]; kernel_rfl)
theorem entry_span : entryFor table "re.Match.span" = some Builtin.«re.Match.span» := entryFor_of_tree (by kernel_rfl)
theorem args_span (a b : Value) : argsOk "re.Match.span" ⟨[a, b], []⟩ := by unfold argsOk; kernel_rfl
theorem type_span : typeOf (.builtin "re.Match.span") = pure (.type "method_descriptor") := by show builtinType _ = _; rw [builtinType_eq_fast]; kernel_rfl
open PySem.Builtin.Re in
theorem span_body {M : Model} {A : Around} {E : Value -> Shared -> Prop} {s : Shared} {Q : Fin -> Shared -> Prop} {D T : Addr} {x : Str} {t t0 : Tok} {n : Nat} {li : Int} {b e : Nat}
  (hD : s.heap.get? D = some (matchO x t n li T)) (hT : s.heap.get? T = some (tupO [rawInt b,rawInt e]))
  (h1 : ∀ u v,Q (.done (.ret (.ref s.heap.objs.size))) { s with heap := s.heap.push (tupO [.int b u,.int e v]),toks := s.toks + 2 }) :
  wpAny M A (Builtin.«re.Match.span» ⟨[.ref D,.int 0 t0],[]⟩) Q E s := by
 refine (?f : Cln _) ?p ⟨?q,fun B k => ?r⟩
 case f => exact fun x _ => x
 case q =>
  obtain ⟨h,g,d,tk,os⟩ := s
  unfold Builtin.«re.Match.span»
  unfold reOneGroup
  refine wpAny_bind (wpAny_bind (wpAny_of_eq (show selfAndSome "Match.span" "span" 0 1 ⟨[.ref D, .int 0 t0], []⟩ = pure (.ref D, [.int 0 t0]) from rfl) ?_))
  try dsimp only
  unfold reFound fieldsOf
  refine wpAny_bind (wpAny_bind (wpAny_bind (wpAny_load hD ?_)))
  try dsimp only
  refine wpAny_pure ?_
  unfold reRawItems seqItems?
  refine wpAny_bind (wpAny_bind (wpAny_bind (wpAny_load hT ?_)))
  try dsimp only
  refine wpAny_pure ?_
  refine wpAny_pure ?_
  refine wpAny_pure ?_
  have hs : (Array.map reRawOf ((some (#[rawInt b,rawInt e] : Array Value)).getD #[])) = #[(b : Int),(e : Int)] := by simp [reRawOf,rawInt]
  rw [show ([rawInt b,rawInt e] : List Value).toArray = #[rawInt b,rawInt e] from rfl]
  rw [hs]
  refine wpAny_bind ?_
  unfold reGroupNumber
  refine wpAny_bind (wpAny_pure ?_)
  try dsimp only
  rw [if_pos (show (some (0 : Int)).isSome = true from rfl)]
  refine wpAny_bind ?_
  unfold asIndex
  refine wpAny_bind (wpAny_pure ?_)
  try dsimp only
  refine wpAny_pure ?_
  try dsimp only
  rw [if_neg (by simp)]
  refine wpAny_pure ?_
  try dsimp only
  refine wpAny_pure ?_
  try dsimp only
  refine wpAny_bind (wpAny_mkInt ?_)
  refine wpAny_bind (wpAny_mkInt ?_)
  refine wpAny_bind ?_
  unfold newTuple
  refine wpAny_newObj_type ?_
  exact wpAny_pure (h1 _ _)
 case r => delta id stq_it stq_out; exact k
section
variable {w : World} {A : Around} {E : Value -> Shared -> Prop} {s : Shared} {h₀ : Heap} {L : Addr} {m : Str -> Option Value} {news : List (Addr × Obj)} {prog : Program} {D T : Addr} {x : Str} {t t0 : Tok} {n : Nat} {li : Int} {b e : Nat}
theorem getm_span {pl : Sem Bool} {Q : Value × List Value -> Shared -> Prop} (N : News h₀ L s.heap news) (hm : (D, matchO x t n li T) ∈ news) (h : Q (.builtin "re.Match.span", [.ref D]) s) :
  wpAny (model prog w) A (getMethod (.ref D) (Str.ofString "span") pl) Q E s := by
 have hg := N.get hm
 exact getMethod_builtin (T := "re.Match") ⟨_, hg, rfl⟩ plainAttrs_match slot_span type_span (fun a e => by cases e; exact ⟨_, hg, rfl⟩) h
theorem call_span {Q : Value -> Shared -> Prop} (F : Fr h₀ L s.heap m) (N : News h₀ L s.heap news) (hm : (D,matchO x t n li T) ∈ news) (ht : (T,tupO [rawInt b,rawInt e]) ∈ news)
  (h1 : ∀ (u v : Tok) (C : Addr) (h' : Heap) (tk' : Nat),Fr h₀ L h' m -> News h₀ L h' ((C,tupO [.int b u,.int e v]) :: news) -> (∀ p ∈ news,p.1 < C) -> Q (.ref C) { s with heap := h',toks := tk' }) :
  wpAny (model prog w) A (call (.builtin "re.Match.span") [.ref D, .int 0 t0]) Q E s := by
 refine wpAny_call_entry (T := "re.Match") slot_span ⟨_, N.get hm, rfl⟩ entry_span ?_ (args_span _ _)
 refine span_body (N.get hm) (N.get ht) fun u v => ⟨_,rfl,?_⟩
 exact h1 u v _ _ _ (F.push _) (News.push F N (tupO [.int b u,.int e v])) (fun p hp => Heap.lt_size (N p hp).1)
theorem get_mstring {expr : Bool} {Q : Value -> Shared -> Prop} (N : News h₀ L s.heap news) (hm : (D,matchO x t n li T) ∈ news) (h : Q (.str x t) { s with toks := s.toks + 1 }) :
  wpAny (model prog w) A (getAttr (.ref D) (Str.ofString "string") expr) Q E s := by
 have hg := N.get hm
 obtain ⟨hh,g,d,tk,os⟩ := s
 exact ms_attr hg rfl rfl rfl h
end

section
local macro_rules | `(tactic| walk_at $s) => if ["call builtin:re.Match.span","getAttr ref","getMethod ref"].contains s.getString then `(tactic| refine stq_it $s ?_) else Lean.Macro.throwUnsupported
theorem ctr_unm (w : World) (x : Str) (t : Tok) (b e n : Nat) (li : Int) (D T9 : Addr) (hx : x.length <= 1000) (news : List (Addr × Obj)) (hm : (D,matchO x t n li T9) ∈ news) (ht : (T9,tupO [rawInt b,rawInt e]) ∈ news) :
  Ctr w 38 [.ref D] news 1 (fun v new => new = news ∧ ∃ t2,v = .str (Txt.slice x none (some (b : Int)) ++ Txt.slice x (some (e : Int)) none) t2) := by
 refine (?f : Cln _) ?p ⟨?q,fun B k => ?r⟩
 case f => exact fun x _ => x
 case q =>
  ((
  unfold Ctr
  intro mean mg mb loose dp un gd cn cs a ccd cl outer A₀ base h₀ L m s Q E B F KX N T hk hd hu hret
  revert KX; k_fill; intro KX
  refine wpAny_call ?_
  k_dflt ((first
  | cell_enter
  | (refine' code_defC ?k1 ?k2 ?k3 ?k4 ?k5 ?kA ?kF ?kK ?k6 ?k7 ?k8 ?k9 ?kB ?kD ?_ ?c2 ?c3 ?c4; (case kA => exact rfl); (case kF => exact rfl); (case kK => assumption); (case k1 => k_asm); (case k2 => k_asm); (case k3 => k_asm); (case k4 => k_asm); (case k5 => k_asm); (case k6 => k_is); (case k7 => k_is); (case k8 => ktr_room); (case k9 => exact BindsTo.of_eq rfl); (case kB => exact rfl); (case kD => decide +kernel); (case c2 => exact rfl); (case c3 => exact rfl); (case c4 => exact rfl); k_whole; intro g' L' h' tk' cells' FG' F' N' Y' B' X' T' l1; (try k_lt l1); k_cells Y'; (try simp only [List.cons_append,List.nil_append] at N'); (try dsimp only); (try k_lift B'); (try k_fold))))))
  (k_steps; repeat' ((first | (refine stq_out "getAttr ref" ?_; (k_here; (with_reducible show wpAny _ _ (getAttr (Value.ref _) (PySem.Str.ofString "string") _) _ _ _); (refine' get_mstring ?k1 ?k2 ?_); (case k1 => k_asm); (case k2 => k_mem); (try dsimp only))) | (refine stq_out "call builtin:re.Match.span" ?_; (k_here; (refine' call_span ?k1 ?k2 ?k3 ?k4 ?_); (case k1 => k_asm); (case k2 => k_asm); (case k3 => k_mem); (case k4 => k_mem); intro u' v' C' h' tk' F' N' l1; (try k_lt l1); (try dsimp only))) | (refine stq_out "getMethod ref" ?_; (k_here; (with_reducible show wpAny _ _ (getMethod (Value.ref _) (PySem.Str.ofString "span") _) _ _ _); (refine' getm_span ?k1 ?k2 ?_); (case k1 => k_asm); (case k2 => k_mem); (try dsimp only))) | fail) <;> k_steps))
  all_goals exact hret _ _ _ _ ⟨rfl,_,rfl⟩ (by k_asm) (fun p hp => (by assumption : News _ _ _ (_ :: news)) p (.tail _ hp))
 case r => delta id stq_it stq_out; exact k
theorem use_unm {w : World} {x : Str} {t : Tok} {b e n : Nat} {li : Int} {D T9 : Addr} {news : List (Addr × Obj)} (hx : x.length <= 1000) (hm : (D,matchO x t n li T9) ∈ news) (ht : (T9,tupO [rawInt b,rawInt e]) ∈ news) {mean : ExcName -> Option Value} {mg mb : Str -> Option Value} {loose : List Str}
  {dp un : Nat} {gd : Option (List Code)} {cn : Str} {cs : Scope} {a : Addr} {ccd : Value} {cl : List (Str × Addr)} {outer : List Env} {A₀ : Around} {base h₀ : Heap} {L : Addr} {m : Str -> Option Value} {s : Shared} {Q E : Value -> Shared -> Prop}
  (B : Below A₀ base outer h₀) (F : Fr h₀ L s.heap m) (X : (hd.heap_39 w.params).In h₀) (N : News h₀ L s.heap news) (T : Top topProg loose mean mg mb h₀) (hk : cs.kind = .function) (hd : dp + 1 < recursionLimit) (hu : un + 8 * 1 < cLine)
  (hret : ∀ (t2 : Tok) (h' : Heap) (tk' : Nat),Fr h₀ L h' m -> News h₀ L h' news -> Q (.str (Txt.slice x none (some (b : Int)) ++ Txt.slice x (some (e : Int)) none) t2) { s with heap := h',toks := tk' }) :
  wpAny (model rw_xg0057_01.row.prog w) (ktrTop dp un gd cn cs L a ccd cl outer) (call (.ref 38) [.ref D]) Q E s :=
 ctr_use (ctr_unm w x t b e n li D T9 hx news hm ht) B F X N T hk hd hu (fun r new h' tk' hp F' N' => by
  obtain ⟨rfl,t2,rfl⟩ := hp
  exact hret _ _ _ F' N')
end

example {M : Model} {A : Around} {env : Env} {Q : Flow -> Shared -> Prop} {E : Value -> Shared -> Prop} {s : Shared} (h : Q .next s) : wpAny M A (execs [] env) Q E s := by first | (walk1; exact h) | exact wpAny_execs_nil h

theorem srcC_signs1 {prog : Program} {w : World} {A : Around} {E : Value -> Shared -> Prop} {s₁ : Shared} {h₀ : Heap} {L : Addr} {m : Str -> Option Value} {news : List (Addr × Obj)}
  {env : Env} {elt : Expr} {x : Str} {scope : Scope} {Q : Value -> Shared -> Prop} {y : Str} {t : Tok} {d : Str -> PyData}
  (hh : A.handled = none) (F : Fr h₀ L s₁.heap m) (N : News h₀ L s₁.heap news) (hsz : y.length <= sizeLine)
  (g2 : ∀ C a u s₂ m₂ E',a.length = 1 -> s₂.heap.Ns (compEnv scope C env).locals m₂ -> m₂ x = some (.str a u) -> wpAny (model prog w) A (eval elt (compEnv scope C env)) (fun r s₃ => Carried r (d a) ∧ Keeps s₂ s₃) E' s₂)
  (g3 : ∀ D (ys : List Value) h' tk,Fr h₀ L h' m -> News h₀ L h' news -> h'.IsList D ys.toArray -> CarriedAll ys ((signs y).map d) -> Q (.ref D) { s₁ with heap := h',toks := tk }) :
  wpAny (model prog w) A (pyIter (.str y t)) (CompPost prog w A env scope x [] elt Q) E s₁ := by
 unfold CompPost
 refine wpAny_pyIter_str fun o St W hst => ?_
 have up : ∀ (h' : Heap),(∀ b o',b ∉ [s₁.heap.objs.size] -> (s₁.heap.push o).get? b = some o' -> h'.get? b = some o') -> ∀ b o',s₁.heap.get? b = some o' -> h'.get? b = some o' :=
  fun h' hk b o' e => hk b o' (old_not_new e) (Heap.get?_push_of_some _ e)
 refine ⟨ItemKind.str.lift fun _ => true,fun v r => ∃ a,ItemKind.str.is a v ∧ Carried r (d a),s₁.heap.objs.size,[s₁.heap.objs.size],[s₁.heap.objs.size],y.cps.size,SignAt y,St,rfl,W A hh,hsz,hst,?_,⟨?_,?_⟩,?_⟩
 ·intro b hb
  show b < (s₁.heap.push o).objs.size
  rw [Heap.size_push,List.mem_singleton.mp hb]
  exact Nat.lt_succ_self _
 ·intro C i v s₃ m₃ E' hP hn hm _ htk
  obtain ⟨c,u,_,rfl⟩ := hP
  have ha : ItemKind.str.is ⟨#[c]⟩ (.str ⟨#[c]⟩ u) := ⟨u,rfl⟩
  rw [ItemKind.lift_is ha]
  exact wpAny_pure ⟨rfl,_,_,rfl,fun _ _ e => e⟩
 ·intro C i v s₃ m₃ E' hP hp hn hm _ htk
  obtain ⟨c,u,_,rfl⟩ := hP
  have ha : ItemKind.str.is ⟨#[c]⟩ (.str ⟨#[c]⟩ u) := ⟨u,rfl⟩
  exact wpAny_mono (g2 C _ u s₃ m₃ E' rfl hn hm) (fun r s₄ h₄ => ⟨⟨_,ha,h₄.1⟩,h₄.2⟩) fun _ _ e => e
 ·intro D h' tk ys vs hnew hlD hplD hlen hP hF hk
  refine g3 D ys.toList h' tk (F.keeps (up h' hk)) (N.grown (up h' hk)) (by rw [Array.toArray_toList]; exact hlD) ?_
  have := (areOf_signs hlen hP).paired (fun _ => true) d _ hF
  rwa [show List.filter (fun _ => true) (signs y) = signs y from List.filter_eq_self.mpr (fun _ _ => rfl)] at this

section
local macro_rules | `(tactic| walk_at $s) => if ["call builtin:str.join"].contains s.getString then `(tactic| refine stq_it $s ?_) else Lean.Macro.throwUnsupported
noncomputable def tab4 : List Str := [Str.ofString "a", Str.ofString "b", Str.ofString "70", Str.ofString "c"]
theorem leaf_tab {prog : Program} {w : World} {A : Around} {E : Value -> Shared -> Prop} {s : Shared} {env : Env} {x : Str} {m : Str -> Option Value} {i : Int} {u : Tok} {Q : Value -> Shared -> Prop}
  {k0 k1 k2 k3 : Nat} {q0 q1 q2 q3 p1 p2 p3 : Pos} (hk : env.scope.kind = .function) (hl : env.kindOf x = some .local) (hn : s.heap.Ns env.locals m) (hv : m x = some (.int i u)) (h0 : 0 <= i) (h1 : i < 4) (hd : (x == ("__debug__" : Str)) = false)
  (h : ∀ h' tk t',(∀ b o,s.heap.get? b = some o -> h'.get? b = some o) -> Q (.str (tab4.getD i.toNat Str.empty) t') { s with heap := h',toks := tk }) :
  wpAny (model prog w) A (eval (.Subscript (.List [.Constant (.str (Str.ofString "a")) k0 q0, .Constant (.str (Str.ofString "b")) k1 q1, .Constant (.str (Str.ofString "70")) k2 q2, .Constant (.str (Str.ofString "c")) k3 q3] p1) (.Name x p2) p3) env) Q E s := by
 refine (?f : Cln _) ?p ⟨?q,fun B k => ?r⟩
 case f => exact fun x _ => x
 case q =>
  refine Subscript_ (List_ ?_)
  refine Calls.spliced_cons (wpAny_Constant_str (k := k0) (pos := q0) ?_)
  refine Calls.spliced_cons (wpAny_Constant_str (k := k0) (pos := q0) ?_)
  refine Calls.spliced_cons (wpAny_Constant_str (k := k0) (pos := q0) ?_)
  refine Calls.spliced_cons (wpAny_Constant_str (k := k0) (pos := q0) ?_)
  refine Calls.spliced_nil ?_
  unfold newList
  refine wpAny_newObj_type ?_
  have hk' : ∀ b o, s.heap.get? b = some o -> (s.heap.push { cls := .type "list", data := .seq ([.str (Str.ofString "a") s.toks, .str (Str.ofString "b") (s.toks + 1), .str (Str.ofString "70") (s.toks + 1 + 1), .str (Str.ofString "c") (s.toks + 1 + 1 + 1)] : List Value).toArray }).get? b = some o := fun b o e => Heap.get?_push_of_some _ e
  refine wpAny_Name (wpAny_loadName_local hk hl (hn.keeps hk') hv ?_) hd
  refine KTb.item_list (ws := tab4) (l := s.heap.objs.size) ⟨_,Heap.get?_push_size _ rfl,rfl,0,rfl⟩ (.cons _ _ (.cons _ _ (.cons _ _ (.cons _ _ .nil)))) h0 (by simpa [tab4] using h1) (by lia) (fun t' _ => h _ _ _ hk')
 case r => (try delta id); (conv => zeta); exact k
set_option hygiene false in
local macro_rules | `(tactic| walk_at "eval Subscript") => `(tactic| ((with_reducible show wpAny _ _ (eval (Expr.Subscript (Expr.List _ _) (Expr.Name _ _) _) _) _ _ _); (refine leaf_tab (by with_unfolding_all rfl) (by with_unfolding_all rfl) (by assumption) (by assumption) ((hb _ (List.mem_reverse.mp (by assumption))).1) ((hb _ (List.mem_reverse.mp (by assumption))).2) (by decide) ?_); intro h' tk' t' hk'))
set_option hygiene false in
local macro_rules | `(tactic| walk_at "SeqLeaf") => `(tactic| ((with_reducible show SeqLeaf (Carried _ _ ∧ Keeps _ _)); (refine SeqLeaf.intro ?_); with_unfolding_all (refine ⟨?_, ?_⟩; (· constructor); (· exact ⟨_, _, rfl, by assumption⟩))))
noncomputable def hostF (ns : List Int) : Str := Txt.join (Str.ofString ".") (ns.reverse.map fun a => tab4.getD a.toNat Str.empty)
theorem tab4_len (i : Nat) : (tab4.getD i Str.empty).length <= 2 := by
 match i with
 | 0 => decide +kernel
 | 1 => decide +kernel
 | 2 => decide +kernel
 | 3 => decide +kernel
 | n + 4 => show Str.empty.length <= 2; decide
theorem made_host {ys : List Value} {ns : List Int} (h : CarriedAll ys (List.map (fun (a : Int) => PyData.str (tab4.getD a.toNat Str.empty)) (List.filter (fun _ => true) ns.reverse))) :
  CarriedAll ys.toArray.toList ((ns.reverse.map fun a => tab4.getD a.toNat Str.empty).map PyData.str) := by
 rw [List.map_map]
 rw [show List.filter (fun _ => true) ns.reverse = ns.reverse from List.filter_eq_self.mpr (fun _ _ => rfl)] at h
 exact h
theorem ctr_host (w : World) (l : Addr) (vs : List Value) (nn : Nat) (ns : List Int) (hi : IntsAre vs ns) (hn : ns.length <= 5) (hb : ∀ n ∈ ns,0 <= n ∧ n < 4) (news : List (Addr × Obj)) (hm : (l,W.listOf vs.toArray nn) ∈ news) :
  Ctr w 135 [.ref l] news 1 (fun v new => new = news ∧ ∃ t2,v = .str (hostF ns) t2) := by
 refine (?f : Cln _) ?p ⟨?q,fun B k => ?r⟩
 case f => exact fun x _ => x
 case q =>
  ((
  unfold Ctr
  intro mean mg mb loose dp un gd cn cs a ccd cl outer A₀ base h₀ L m s Q E B F KX N T hk hd hu hret
  revert KX; k_fill; intro KX
  refine wpAny_call ?_
  k_dflt ((first
  | cell_enter
  | (refine' code_defC ?k1 ?k2 ?k3 ?k4 ?k5 ?kA ?kF ?kK ?k6 ?k7 ?k8 ?k9 ?kB ?kD ?_ ?c2 ?c3 ?c4; (case kA => exact rfl); (case kF => exact rfl); (case kK => assumption); (case k1 => k_asm); (case k2 => k_asm); (case k3 => k_asm); (case k4 => k_asm); (case k5 => k_asm); (case k6 => k_is); (case k7 => k_is); (case k8 => ktr_room); (case k9 => exact BindsTo.of_eq rfl); (case kB => exact rfl); (case kD => decide +kernel); (case c2 => exact rfl); (case c3 => exact rfl); (case c4 => exact rfl); k_whole; intro g' L' h' tk' cells' FG' F' N' Y' B' X' T' l1; (try k_lt l1); k_cells Y'; (try simp only [List.cons_append,List.nil_append] at N'); (try dsimp only); (try k_lift B'); (try k_fold))))))
  (rename News _ _ _ _ => N9; replace N9 : News _ _ _ ((l,W.listOf vs.toArray nn) :: news) := List.forall_mem_cons.mpr ⟨N9 _ hm,N9⟩)
  (k_steps; repeat' ((first | (refine stq_out "call builtin:str.join" ?_; ((with_reducible show wpAny _ _ (call (Value.builtin "str.join") [Value.str _ _, Value.ref _]) _ _ _); (with_reducible rename CarriedAll _ _ => hc'); refine join_madeW (l := ns.reverse) (g := fun a => tab4.getD a.toNat Str.empty) 2 (by assumption) (made_host hc') (fun a _ => tab4_len _) (by rw [List.length_reverse]; lia) (by decide +kernel) ?_; intro t' k')) | fail) <;> k_steps))
  all_goals (refine hret _ _ _ _ ⟨rfl, _, rfl⟩ (by k_asm) ?_; walk_at "my drop")
 case r => delta id stq_it stq_out; exact k
theorem use_host {w : World} {l : Addr} {vs : List Value} {nn : Nat} {ns : List Int} {news : List (Addr × Obj)} (hi : IntsAre vs ns) (hn : ns.length <= 5) (hb : ∀ n ∈ ns,0 <= n ∧ n < 4) (hm : (l,W.listOf vs.toArray nn) ∈ news) {mean : ExcName -> Option Value} {mg mb : Str -> Option Value} {loose : List Str}
  {dp un : Nat} {gd : Option (List Code)} {cn : Str} {cs : Scope} {a : Addr} {ccd : Value} {cl : List (Str × Addr)} {outer : List Env} {A₀ : Around} {base h₀ : Heap} {L : Addr} {m : Str -> Option Value} {s : Shared} {Q E : Value -> Shared -> Prop}
  (B : Below A₀ base outer h₀) (F : Fr h₀ L s.heap m) (X : (hd.heap_39 w.params).In h₀) (N : News h₀ L s.heap news) (T : Top topProg loose mean mg mb h₀) (hk : cs.kind = .function) (hd : dp + 1 < recursionLimit) (hu : un + 8 * 1 < cLine)
  (hret : ∀ (t2 : Tok) (h' : Heap) (tk' : Nat),Fr h₀ L h' m -> News h₀ L h' news -> Q (.str (hostF ns) t2) { s with heap := h',toks := tk' }) :
  wpAny (model rw_xg0057_01.row.prog w) (ktrTop dp un gd cn cs L a ccd cl outer) (call (.ref 135) [.ref l]) Q E s :=
 ctr_use (ctr_host w l vs nn ns hi hn hb news hm) B F X N T hk hd hu (fun r new h' tk' hp F' N' => by
  obtain ⟨rfl,t2,rfl⟩ := hp
  exact hret _ _ _ F' N')
end

example {M : Model} {A : Around} {env : Env} {Q : Flow -> Shared -> Prop} {E : Value -> Shared -> Prop} {s : Shared} (h : Q .next s) : wpAny M A (execs [] env) Q E s := by first | (walk1; exact h) | exact wpAny_execs_nil h

section
local macro_rules | `(tactic| walk_at $s) => if ["call builtin:str.join","pyIter str"].contains s.getString then `(tactic| refine stq_it $s ?_) else Lean.Macro.throwUnsupported
noncomputable def writtenF (x : Str) (y : Int) : Str :=
 if y = 0 then x else if y = 1 then Str.ofString "\"" ++ x ++ Str.ofString "\"" else Txt.join (Str.ofString "") ((signs x).map fun a => Str.ofString "\\" ++ a)
theorem made_written {ys : List Value} {x : Str} (h : CarriedAll ys (List.map (fun (a : Str) => PyData.str (Str.ofString "\\" ++ a)) (signs x))) :
  CarriedAll ys.toArray.toList (((signs x).map fun a => Str.ofString "\\" ++ a).map PyData.str) := by
 rw [List.map_map]
 exact h
theorem slash_len {x a : Str} (h : a ∈ signs x) : (Str.ofString "\\" ++ a).length <= 2 := by
 rw [PySem.Str.length_append,sign_length_one x a h]; decide +kernel
set_option hygiene false in
local macro_rules | `(tactic| walk_at "binaryOp Add str str") => `(tactic| ((have hs9 := (by assumption : Str.length _ = 1)); refine PyProof.Rows.add_str (hsz := ?hsz) ?_; (case hsz => rw [hs9]; decide +kernel); intro t' tk'; with_unfolding_all (refine ⟨?_, ?_⟩; (· constructor); (· exact ⟨_, _, rfl, fun _ _ e => e⟩))))
theorem ctr_written (w : World) (x : Str) (y : Int) (t1 t2 : Tok) (hx : x.length <= 1000) (hy : 0 <= y ∧ y <= 2) (news : List (Addr × Obj)) :
  Ctr w 140 [.str x t1,.int y t2] news 1 (fun v new => new = news ∧ ∃ t2,v = .str (writtenF x y) t2) := by
 refine (?f : Cln _) ?p ⟨?q,fun B k => ?r⟩
 case f => exact fun x _ => x
 case q =>
  have hv : writtenF x y = writtenF x y := rfl
  conv at hv => rhs; unfold writtenF
  ((
  unfold Ctr
  intro mean mg mb loose dp un gd cn cs a ccd cl outer A₀ base h₀ L m s Q E B F KX N T hk hd hu hret
  revert KX; k_fill; intro KX
  refine wpAny_call ?_
  k_dflt ((first
  | cell_enter
  | (refine' code_defC ?k1 ?k2 ?k3 ?k4 ?k5 ?kA ?kF ?kK ?k6 ?k7 ?k8 ?k9 ?kB ?kD ?_ ?c2 ?c3 ?c4; (case kA => exact rfl); (case kF => exact rfl); (case kK => assumption); (case k1 => k_asm); (case k2 => k_asm); (case k3 => k_asm); (case k4 => k_asm); (case k5 => k_asm); (case k6 => k_is); (case k7 => k_is); (case k8 => ktr_room); (case k9 => exact BindsTo.of_eq rfl); (case kB => exact rfl); (case kD => decide +kernel); (case c2 => exact rfl); (case c3 => exact rfl); (case c4 => exact rfl); k_whole; intro g' L' h' tk' cells' FG' F' N' Y' B' X' T' l1; (try k_lt l1); k_cells Y'; (try simp only [List.cons_append,List.nil_append] at N'); (try dsimp only); (try k_lift B'); (try k_fold))))))
  (k_steps; repeat' ((first | (refine stq_out "pyIter str" ?_; ((rename Fr _ _ _ _ => F'); (rename News _ _ _ _ => N'); (with_reducible refine srcC_signs1 (d := fun (a : Str) => PyData.str (Str.ofString "\\" ++ a)) ?hh F' N' ?hsz ?g2 ?g3); (case hh => with_unfolding_all rfl); (case hsz => exact Nat.le_trans hx (by decide)); (case' g3 => intro D' ys' h' tk' F' N' hL' hc'); (case' g2 => intro C' a' u' s' m' E' hs1 hn' hm'))) | (refine stq_out "call builtin:str.join" ?_; ((with_reducible show wpAny _ _ (call (Value.builtin "str.join") [Value.str _ _, Value.ref _]) _ _ _); (with_reducible rename CarriedAll _ _ => hc'); refine join_madeW (l := signs x) (g := fun a => Str.ofString "\\" ++ a) 2 (by assumption) (made_written hc') (fun a h9 => slash_len h9) (by rw [signs_length]; lia) (by decide +kernel) ?_; intro t' k')) | fail) <;> k_steps))
  all_goals (
   (try rw [if_pos (by assumption : y = 0)] at hv)
   (try rw [if_neg (by assumption : ¬ y = 0)] at hv)
   (try rw [if_pos (by assumption : y = 1)] at hv)
   (try rw [if_neg (by assumption : ¬ y = 1)] at hv)
   refine hret _ _ _ _ ⟨rfl, _, by rw [hv]⟩ (by k_asm) ?_; walk_at "my drop")
 case r => delta id stq_it stq_out; exact k
theorem use_written {w : World} {x : Str} {y : Int} {t1 t2 : Tok} {news : List (Addr × Obj)} (hx : x.length <= 1000) (hy : 0 <= y ∧ y <= 2) {mean : ExcName -> Option Value} {mg mb : Str -> Option Value} {loose : List Str}
  {dp un : Nat} {gd : Option (List Code)} {cn : Str} {cs : Scope} {a : Addr} {ccd : Value} {cl : List (Str × Addr)} {outer : List Env} {A₀ : Around} {base h₀ : Heap} {L : Addr} {m : Str -> Option Value} {s : Shared} {Q E : Value -> Shared -> Prop}
  (B : Below A₀ base outer h₀) (F : Fr h₀ L s.heap m) (X : (hd.heap_39 w.params).In h₀) (N : News h₀ L s.heap news) (T : Top topProg loose mean mg mb h₀) (hk : cs.kind = .function) (hd : dp + 1 < recursionLimit) (hu : un + 8 * 1 < cLine)
  (hret : ∀ (t3 : Tok) (h' : Heap) (tk' : Nat),Fr h₀ L h' m -> News h₀ L h' news -> Q (.str (writtenF x y) t3) { s with heap := h',toks := tk' }) :
  wpAny (model rw_xg0057_01.row.prog w) (ktrTop dp un gd cn cs L a ccd cl outer) (call (.ref 140) [.str x t1,.int y t2]) Q E s :=
 ctr_use (ctr_written w x y t1 t2 hx hy news) B F X N T hk hd hu (fun r new h' tk' hp F' N' => by
  obtain ⟨rfl,t3,rfl⟩ := hp
  exact hret _ _ _ F' N')
end

example {M : Model} {A : Around} {env : Env} {Q : Flow -> Shared -> Prop} {E : Value -> Shared -> Prop} {s : Shared} (h : Q .next s) : wpAny M A (execs [] env) Q E s := by first | (walk1; exact h) | exact wpAny_execs_nil h

theorem cend0 {h₀ : Heap} {L I C D : Addr} {m : Str -> Option Value} {s₁ : Shared} {oI oC oD : Obj} {S : List (Addr × Obj) -> Prop} {rest : Value -> List (Addr × Obj) -> Prop} {y : Value} {h' : Heap} {tk : Nat} {t : List (Addr × Obj)}
  (F : Fr h₀ L h' m) (N : News h₀ L h' ((I,oI) :: (C,oC) :: (D,oD) :: t)) (off : LCg.Off3 I C D t) (hS : S t) (r : rest y t) :
  LCg.CompEnd h₀ L m s₁ I oI C oC D oD S rest y { s₁ with heap := h',toks := tk } := LCg.CompEnd.intro F N t (fun _ h => h) off hS r
theorem cend1 {h₀ : Heap} {L I C D : Addr} {m : Str -> Option Value} {s₁ : Shared} {oI oC oD : Obj} {S : List (Addr × Obj) -> Prop} {rest : Value -> List (Addr × Obj) -> Prop} {y : Value} {h' : Heap} {tk : Nat} {a : Addr × Obj} {t : List (Addr × Obj)}
  (F : Fr h₀ L h' m) (N : News h₀ L h' (a :: (I,oI) :: (C,oC) :: (D,oD) :: t)) (off : LCg.Off3 I C D (a :: t)) (hS : S (a :: t)) (r : rest y (a :: t)) :
  LCg.CompEnd h₀ L m s₁ I oI C oC D oD S rest y { s₁ with heap := h',toks := tk } := LCg.CompEnd.intro F N (a :: t) (fun p h => by simp only [List.mem_cons] at h ⊢; rcases h with h | h | h | h | h <;> simp [h]) off hS r

section
local macro_rules | `(tactic| walk_at $s) => if ["call builtin:len","call builtin:list.append","subscriptTail Name UnaryOp"].contains s.getString then `(tactic| refine stq_it $s ?_) else Lean.Macro.throwUnsupported
noncomputable def twosF : List Int -> Nat
 | [] => 0
 | [_] => 0
 | a :: b :: r => if a = 2 then twosF (b :: r) + 1 else 0
noncomputable def cutsF (y : List Int) : List (List Int) := (List.range (y.length - 2)).map (fun j => y.take (y.length - 1 - j))
noncomputable def rowsF (x : List Int) : List (List Int) := (List.range (twosF x + 1)).map (fun k => x.drop k) ++ cutsF (x.drop (twosF x))
inductive RowsAre (new : List (Addr × Obj)) : List Addr -> List (List Int) -> Prop
 | nil : RowsAre new [] []
 | cons {d ds vs nn r rs} : (d,W.listOf vs nn) ∈ new -> IntsAre vs.toList r -> RowsAre new ds rs -> RowsAre new (d :: ds) (r :: rs)
theorem RowsAre.mono {a b : List (Addr × Obj)} (h : ∀ p ∈ a,p ∈ b) {ds : List Addr} {rs : List (List Int)} (x : RowsAre a ds rs) : RowsAre b ds rs := by
 induction x with
 | nil => exact .nil
 | cons hm hi _ ih => exact .cons (h _ hm) hi ih
theorem RowsAre.snoc {new : List (Addr × Obj)} {d : Addr} {vs : Array Value} {nn : Nat} {r : List Int} {ds : List Addr} {rs : List (List Int)} (x : RowsAre new ds rs) (hm : (d,W.listOf vs nn) ∈ new) (hi : IntsAre vs.toList r) : RowsAre new (ds ++ [d]) (rs ++ [r]) := by
 induction x with
 | nil => exact .cons hm hi .nil
 | cons h1 i1 _ ih => exact .cons h1 i1 ih
theorem RowsAre.len {new : List (Addr × Obj)} {ds : List Addr} {rs : List (List Int)} (x : RowsAre new ds rs) : ds.length = rs.length := by
 induction x with
 | nil => rfl
 | cons _ _ _ ih => exact congrArg Nat.succ ih
noncomputable def RowsLast (new : List (Addr × Obj)) (y : List Int) (ds : List Addr) : Prop := ∃ ds0 d vs nn,ds = ds0 ++ [d] ∧ (d,W.listOf (List.toArray vs) nn) ∈ new ∧ IntsAre vs y
theorem RowsLast.cons {new : List (Addr × Obj)} {y : List Int} {ds : List Addr} {e : Addr} (x : RowsLast new y ds) : RowsLast new y (e :: ds) := by
 obtain ⟨ds0,d,vs,nn,q,h,i⟩ := x
 exact ⟨e :: ds0,d,vs,nn,congrArg (e :: ·) q,h,i⟩
theorem RowsAre.last {new : List (Addr × Obj)} {y : List Int} {rs : List (List Int)} : ∀ {ds : List Addr},RowsAre new ds (rs ++ [y]) -> RowsLast new y ds := by
 induction rs with
 | nil =>
  intro ds x
  cases x with
  | cons h i r => cases r; exact ⟨[],_,_,_,rfl,h,i⟩
 | cons _ _ ih =>
  intro ds x
  cases x with
  | cons h i r => exact (ih r).cons
noncomputable def RowsPost (rest : List (Addr × Obj)) (ns : List Int) (v : Value) (new : List (Addr × Obj)) : Prop :=
 ∃ D ds n pre, v = .ref D ∧ new = pre ++ rest ∧ (D, ({ cls := .type "list", data := .seq (ds.map Value.ref).toArray n } : Obj)) ∈ pre ∧ RowsAre pre ds (rowsF ns) ∧ ∀ p ∈ pre, ∀ q ∈ rest, q.1 ≠ p.1
theorem rows_cons {l : List (Addr × Obj)} {x : Addr × Obj} {rest : List (Addr × Obj)} (h : ∀ q ∈ rest,q.1 ≠ x.1) (hl : ∀ p ∈ l,∀ q ∈ rest,q.1 ≠ p.1) : ∀ p ∈ x :: l,∀ q ∈ rest,q.1 ≠ p.1 := by
 intro p hp q hq
 rcases List.mem_cons.mp hp with e | e
 ·exact e ▸ h q hq
 ·exact hl p e q hq
theorem twos_le : ∀ ns : List Int,twosF ns <= ns.length - 1
 | [] => Nat.le_refl _
 | [_] => Nat.le_refl _
 | a :: b :: r => by
  unfold twosF
  split
  ·exact Nat.succ_le_succ (twos_le (b :: r))
  ·exact Nat.zero_le _
theorem twos_two : ∀ {ns : List Int} {k : Nat},k < twosF ns -> ns[k]? = some 2
 | a :: b :: r,k,h => by
  unfold twosF at h
  split at h
  ·rename_i e
   cases k with
   | zero => rw [e]; rfl
   | succ k => exact twos_two (ns := b :: r) (Nat.lt_of_succ_lt_succ h)
  ·exact absurd h (Nat.not_lt_zero _)
theorem twos_stop : ∀ {ns : List Int},twosF ns < ns.length - 1 -> ns[twosF ns]? ≠ some 2
 | a :: b :: r,h => by
  unfold twosF at h ⊢
  split
  ·rename_i e
   rw [if_pos e] at h
   exact twos_stop (ns := b :: r) (Nat.lt_of_succ_lt_succ h)
  ·rename_i e
   exact fun q => e (Option.some.inj q)
noncomputable def RowJ (ns : List Int) (base : List (Addr × Obj)) (n : Nat) (m : Str -> Option Value) (nw : List (Addr × Obj)) : Prop :=
 ∀ G : Prop, (∀ (k : Nat) (t : Tok), k + n = twosF ns -> m (Str.ofString "numbers") = some (.int (k : Int) t) -> nw = base -> G) -> G
theorem row_step {ns : List Int} {k n : Nat} (hT : twosF ns <= ns.length - 1) (h : (k : Int) < (ns.length : Int) - 1) (e : ns.getD (k : Int).toNat 0 = 2) (ek : k + n = twosF ns) : n - 1 < n ∧ k + 1 + (n - 1) = twosF ns := by
 have : n ≠ 0 := fun q => by
  subst q
  refine twos_stop (ns := ns) (by omega) ?_
  have hk : k < ns.length := by omega
  rw [← ek,Nat.add_zero,List.getElem?_eq_getElem hk]
  rw [Int.toNat_natCast,List.getD_eq_getElem?_getD,List.getElem?_eq_getElem hk] at e
  exact congrArg some e
 omega
theorem row_end1 {ns : List Int} {k n : Nat} (hT : twosF ns <= ns.length - 1) (h : ¬ (k : Int) < (ns.length : Int) - 1) (ek : k + n = twosF ns) : k = twosF ns := by omega
theorem row_end2 {ns : List Int} {k n : Nat} (e : ns.getD (k : Int).toNat 0 ≠ 2) (ek : k + n = twosF ns) : k = twosF ns := by
 rcases Nat.lt_or_ge k (twosF ns) with h | h
 ·refine absurd ?_ e
  rw [Int.toNat_natCast,List.getD_eq_getElem?_getD,twos_two h]; rfl
 ·lia
theorem small5 {b : Nat} (h : b <= 4) : Builtin.Range.small 0 ((b : Int) + 1) 1 = true := by
 have : ∀ b : Fin 5,Builtin.Range.small 0 ((b.1 : Int) + 1) 1 = true := by decide +kernel
 exact this ⟨b,Nat.lt_succ_of_le h⟩
theorem size_up (x : Nat) : Builtin.Range.rangeSize 0 ((x : Int) + 1) 1 = ((x + 1 : Nat) : Int) := by
 unfold Builtin.Range.rangeSize
 rw [if_pos (by decide)]
 split <;> lia
noncomputable def RowI (ns : List Int) (base : List (Addr × Obj)) (i : Nat) (ys : List Value) (nw : List (Addr × Obj)) : Prop :=
 ∀ G : Prop,(∀ (ds : List Addr) (pre : List (Addr × Obj)),RowsAre pre ds ((List.range i).map fun k => ns.drop k) -> ys = ds.map Value.ref -> nw = pre ++ base -> (∀ p ∈ pre,∀ q ∈ base,q.1 ≠ p.1) -> G) -> G
noncomputable def rowsJ (ns : List Int) (j : Nat) : List (List Int) := (List.range (twosF ns + 1)).map (fun k => ns.drop k) ++ (List.range j).map (fun i => (ns.drop (twosF ns)).take (ns.length - twosF ns - 1 - i))
noncomputable def RowK (ns : List Int) (base : List (Addr × Obj)) (D : Addr) (n : Nat) (m : Str -> Option Value) (nw : List (Addr × Obj)) : Prop :=
 ∀ G : Prop, (∀ (j : Nat) (ds0 : List Addr) (d : Addr) (ws : List Value) (k1 k2 : Nat) (pre : List (Addr × Obj)), j + n = ns.length - twosF ns - 2 -> m (Str.ofString "rows") = some (.ref D) -> nw = (D, W.listOf (ds0.map Value.ref ++ [Value.ref d]).toArray k1) :: (pre ++ base) -> RowsAre pre (ds0 ++ [d]) (rowsJ ns j) -> (d, W.listOf ws.toArray k2) ∈ pre -> IntsAre ws ((ns.drop (twosF ns)).take (ns.length - twosF ns - j)) -> (∀ p ∈ pre ++ base, p.1 ≠ D) -> (∀ p ∈ pre, ∀ q ∈ base, q.1 ≠ p.1) -> G) -> G
theorem rowsJ_len (ns : List Int) (j : Nat) : (rowsJ ns j).length = twosF ns + 1 + j := by
 rw [rowsJ,List.length_append,List.length_map,List.length_map,List.length_range,List.length_range]
theorem rowsJ_succ (ns : List Int) (j : Nat) : rowsJ ns (j + 1) = rowsJ ns j ++ [(ns.drop (twosF ns)).take (ns.length - twosF ns - 1 - j)] := by
 rw [rowsJ,rowsJ,List.range_succ (n := j),List.map_append (l₁ := List.range j),List.append_assoc]; rfl
theorem row_room {ns : List Int} {j n : Nat} {ds0 : List Addr} {d : Addr} (hT : twosF ns <= ns.length - 1) (h5 : ns.length <= 5) (ej : j + n = ns.length - twosF ns - 2) (e : (ds0 ++ [d]).length = (rowsJ ns j).length) : (ds0.map Value.ref ++ [Value.ref d]).toArray.size <= sizeLine := by
 rw [rowsJ_len,List.length_append] at e
 rw [List.size_toArray,List.length_append,List.length_map,PySem.sizeLine_eq]
 simp only [List.length_cons,List.length_nil] at e ⊢
 omega
theorem row_done {ns : List Int} {j n : Nat} (h : ¬ (2 : Int) < ((ns.length - twosF ns - j : Nat) : Int)) (ej : j + n = ns.length - twosF ns - 2) : rowsJ ns j = rowsF ns := by
 have : j = ns.length - twosF ns - 2 := by omega
 subst this
 rw [rowsF,cutsF,rowsJ,List.length_drop]
theorem cut_nums {y j n : Nat} (h : (2 : Int) < ((y - j : Nat) : Int)) (e : j + n = y - 2) : min (y - j) y - 1 = y - 1 - j ∧ min (y - 1 - j) (y - j) = y - 1 - j ∧ n - 1 < n ∧ j + 1 + (n - 1) = y - 2 := by
 rw [Nat.min_eq_left (Nat.sub_le y j),Nat.min_eq_left (Nat.sub_le_sub_right (Nat.sub_le y 1) j),← e]
 refine ⟨Nat.sub_right_comm ..,rfl,?_⟩
 have h2 : 0 < n := by
  rcases Nat.eq_zero_or_pos n with r | r
  ·rw [r,Nat.add_zero] at e
   rw [e] at h
   omega
  ·exact r
 exact ⟨Nat.sub_lt h2 Nat.one_pos,by rw [Nat.add_assoc,Nat.add_sub_cancel' h2]⟩
theorem row_cut {g h' : Heap} {L D d d2 : Addr} {s : Shared} {tk n j k1 : Nat} {m' : Str -> Option Value} {ns : List Int} {base pre : List (Addr × Obj)} {ds0 : List Addr} {ws2 : List Value} (F : Fr g L h' m')
  (N : News g L h' ((d2, W.listOf ws2.toArray 0) :: (D, W.listOf ((ds0.map Value.ref ++ [Value.ref d]).toArray.push (.ref d2)) (k1 + 1)) :: (pre ++ base))) (mr : m' (Str.ofString "rows") = some (.ref D)) (l : D < d2 ∧ AllLt d2 (pre ++ base)) (ej : j + n = ns.length - twosF ns - 2) (hp : RowsAre pre (ds0 ++ [d]) (rowsJ ns j))
  (h2 : (2 : Int) < ((ns.length - twosF ns - j : Nat) : Int)) (hi : IntsAre ws2 (((ns.drop (twosF ns)).take (ns.length - twosF ns - j)).take (((ns.drop (twosF ns)).take (ns.length - twosF ns - j)).length - 1))) (hoff : ∀ p ∈ pre ++ base,p.1 ≠ D) (hap : ∀ p ∈ pre,∀ q ∈ base,q.1 ≠ p.1) :
  WhileStep g L s (RowK ns base D) n .next { s with heap := h',toks := tk } := by
 have e : (ds0.map Value.ref ++ [Value.ref d]).toArray.push (.ref d2) = ((ds0 ++ [d]).map Value.ref ++ [Value.ref d2]).toArray := by rw [List.push_toArray,List.map_append]; rfl
 rw [e] at N
 rw [List.length_take,List.length_drop] at hi
 obtain ⟨e1,e2,e3,e4⟩ := cut_nums h2 ej
 rw [e1,List.take_take,e2] at hi
 refine WhileStep.intro F (news₂ := (D,W.listOf ((ds0 ++ [d]).map Value.ref ++ [Value.ref d2]).toArray (k1 + 1)) :: (((d2,W.listOf ws2.toArray 0) :: pre) ++ base)) (cb_drop N (sb_mem (.tail _ (.head _)) (sb_keep (sb_skip sb_refl)))) (n' := n - 1) e3 (fun G k => k (j + 1) (ds0 ++ [d]) d2 ws2 _ 0 _ e4 mr rfl (by rw [rowsJ_succ]; exact (hp.mono fun _ z => .tail _ z).snoc (.head _) hi) (.head _) (by rw [← Nat.sub_sub,Nat.sub_right_comm]; exact hi) (List.forall_mem_cons.mpr ⟨ngt l.1,hoff⟩) (rows_cons (fun q hq => ltNe l.2 q (List.mem_append_right _ hq)) hap))
theorem row_turn {ns : List Int} {base nw pre : List (Addr × Obj)} {ds : List Addr} {i : Nat} {T : Addr} {ws : List Value} (hp : RowsAre pre ds ((List.range i).map fun k => ns.drop k)) (en : nw = pre ++ base) (hap : ∀ p ∈ pre,∀ q ∈ base,q.1 ≠ p.1) (hi : IntsAre ws (ns.drop (0 + (i : Int)).toNat)) (lt : ∀ q ∈ nw,@LT.lt Nat _ q.1 T) :
  RowI ns base (i + 1) (ds.map Value.ref ++ [.ref T]) ((T,W.listOf ws.toArray 0) :: nw) := fun G k => k (ds ++ [T]) ((T,W.listOf ws.toArray 0) :: pre) (by
  rw [List.range_succ,List.map_append]
  rw [Int.zero_add,Int.toNat_natCast] at hi
  exact (hp.mono fun _ z => .tail _ z).snoc (.head _) hi) (by rw [List.map_append]; rfl) (by rw [en]; rfl) (rows_cons (fun q hq => nlt (lt q (en ▸ List.mem_append_right _ hq))) hap)
local macro_rules | `(tactic| walk_at "subscriptTail Name Name ref int") => `(tactic| (walk_at "my item"))
set_option hygiene false in
local macro_rules | `(tactic| walk_at "subscriptTail Name Slice ref ref") => `(tactic| (k_dflt (refine kmk_slice_ints (ns := ns) (by k_asm) (by k_asm) (News.isList (by k_asm) (by k_mem)) (IsPart.int _ _) (IsPart.none) hi (kmk_from hi (by lia)) rfl ?_ (by with_unfolding_all rfl) (by intro _; with_unfolding_all rfl) hsz); intro D' ws' h' F' N' l1 hI' hC' hL'))
theorem ap_pre2 {α : Type} {h r r' : List α} (H : ∀ y ∈ r,y ∈ r') : ∀ y ∈ h ++ r,y ∈ h ++ r' := fun y hy => (List.mem_append.mp hy).elim (List.mem_append_left _) fun k => List.mem_append_right _ (H y k)
theorem ctr_rows (w : World) (l : Addr) (nn : Nat) (vs : List Value) (ns : List Int) (news : List (Addr × Obj)) (hi : IntsAre vs ns) (hn1 : 1 <= ns.length) (hn5 : ns.length <= 5) :
  Ctr w 187 [.ref l] ((l,W.listOf vs.toArray nn) :: news) 3 (RowsPost ((l,W.listOf vs.toArray nn) :: news) ns) := by
 refine (?f : Cln _) ?p ⟨?q,fun B k => ?r⟩
 case f => exact fun x _ => x
 case q =>
  have eA : ((vs.toArray.size : Nat) : Int) = (ns.length : Int) := by rw [List.size_toArray,hi.length]
  have hT := twos_le ns
  have hsz : vs.toArray.size <= sizeLine := by rw [List.size_toArray,hi.length,PySem.sizeLine_eq]; omega
  ((
  unfold Ctr
  intro mean mg mb loose dp un gd cn cs a ccd cl outer A₀ base h₀ L m s Q E B F KX N T hk hd hu hret
  revert KX; k_fill; intro KX
  refine wpAny_call ?_
  k_dflt ((first
  | cell_enter
  | (refine' code_defC ?k1 ?k2 ?k3 ?k4 ?k5 ?kA ?kF ?kK ?k6 ?k7 ?k8 ?k9 ?kB ?kD ?_ ?c2 ?c3 ?c4; (case kA => exact rfl); (case kF => exact rfl); (case kK => assumption); (case k1 => k_asm); (case k2 => k_asm); (case k3 => k_asm); (case k4 => k_asm); (case k5 => k_asm); (case k6 => k_is); (case k7 => k_is); (case k8 => ktr_room); (case k9 => exact BindsTo.of_eq rfl); (case kB => exact rfl); (case kD => decide +kernel); (case c2 => exact rfl); (case c3 => exact rfl); (case c4 => exact rfl); k_whole; intro g' L' h' tk' cells' FG' F' N' Y' B' X' T' l1; (try k_lt l1); k_cells Y'; (try simp only [List.cons_append,List.nil_append] at N'); (try dsimp only); (try k_lift B'); (try k_fold))))))
  rename Obj => oc
  rename oc.data = _ => d1'
  have d1 : oc.data = .cell (some (.ref l)) := d1'
  clear d1'
  refine cut_at 1 ?_
  dsimp only [List.take,List.drop]
  (k_steps; repeat' ((first | (refine stq_out "call builtin:list.append" ?_; (k_here; (with_reducible show wpAny _ _ (call (Value.builtin _) [Value.ref _, _]) _ _ _); k_dflt (refine' append_K ?k1 ?k2 ?k3 ?_ ?zz; (case k1 => k_asm); (case k2 => k_asm); (case k3 => k_upd); (case zz => exact hszd); k_whole); intro h' F' N'; (try k_sweep))) | (refine stq_out "subscriptTail Name UnaryOp" ?_; (k_here; k_dflt (refine' item_last (vi := List.map Value.ref ds0) ?zl ?_); (case zl => exact News.isList (by k_asm) (.head _)))) | (refine stq_out "call builtin:len" ?_; (k_here; (with_reducible show wpAny _ _ (call (Value.builtin "len") [Value.ref _]) _ _ _); k_dflt (refine' kun_lenL ?k1 ?k2 ?k3 ?_; (case k1 => exact News.isList (by k_asm) (by k_mem)); (case k2 => assumption); (case k3 => lia); k_whole))) | fail) <;> k_steps))
  dsimp only [Hold]
  rename Fr _ _ _ _ => F9
  rename News _ _ _ _ => N9
  refine wpAny_execs_cons ?_
  k_fold
  have fin : ∀ (h' : Heap) (tk : Nat) (m' : Str -> Option Value) (t : Tok), Fr g' L' h' m' -> News g' L' h' ((L' + 1, oc) :: (l, W.listOf vs.toArray nn) :: news) -> m' (Str.ofString "numbers") = some (.int (twosF ns : Int) t) -> qk Flow.next { s with heap := h', toks := tk } := ?fin
  clear_value qk
  refine While_inv (RowJ ns ((L' + 1,oc) :: (l,W.listOf vs.toArray nn) :: news)) (n₀ := twosF ns) F9 N9 (fun G k => k 0 _ (Nat.zero_add _) rfl rfl) ?turn
  case turn =>
   intro n m1 nw1 h1 tk1 F1 N1 J
   refine J _ (fun k t e9 mn en => ?_)
   subst en
   have F2 := fr_has F1 _ mn
   (k_steps; repeat' ((first | (refine stq_out "call builtin:list.append" ?_; (k_here; (with_reducible show wpAny _ _ (call (Value.builtin _) [Value.ref _, _]) _ _ _); k_dflt (refine' append_K ?k1 ?k2 ?k3 ?_ ?zz; (case k1 => k_asm); (case k2 => k_asm); (case k3 => k_upd); (case zz => exact hszd); k_whole); intro h' F' N'; (try k_sweep))) | (refine stq_out "subscriptTail Name UnaryOp" ?_; (k_here; k_dflt (refine' item_last (vi := List.map Value.ref ds0) ?zl ?_); (case zl => exact News.isList (by k_asm) (.head _)))) | (refine stq_out "call builtin:len" ?_; (k_here; (with_reducible show wpAny _ _ (call (Value.builtin "len") [Value.ref _]) _ _ _); k_dflt (refine' kun_lenL ?k1 ?k2 ?k3 ?_; (case k1 => exact News.isList (by k_asm) (by k_mem)); (case k2 => assumption); (case k3 => lia); k_whole))) | fail) <;> k_steps))
   ·refine WhileStep.intro (by k_asm) (by k_asm) (n' := n - 1) (row_step hT (by assumption) (by assumption) e9).1 (fun G k' => k' (k + 1) _ (row_step hT (by assumption) (by assumption) e9).2 rfl rfl)
   ·exact fin _ _ _ t F2 N1 (congrArg (fun j : Nat => some (Value.int (j : Int) t)) (row_end2 (by assumption) e9))
   ·exact fin _ _ _ t F2 N1 (congrArg (fun j : Nat => some (Value.int (j : Int) t)) (row_end1 hT (by assumption) e9))
  case fin =>
   intro h1 tk1 m1 t F1 N1 mn
   have F2 := fr_has F1 _ mn
   clear F1
   dsimp only [qk]
   refine cut_at 1 ?_
   dsimp only [List.take,List.drop]
   refine wpAny_execs_cons ?_
   k_fold
   ((k_here; lcg_calm; k_dflt (refine Assign_GR (F₀ := by k_asm) (by rfl) (by with_unfolding_all rfl) (by with_unfolding_all rfl) (by decide) (by rfl) (by decide) (by rfl) (by rfl) ?_)))
   (k_steps; repeat' ((first | (refine stq_out "call builtin:list.append" ?_; (k_here; (with_reducible show wpAny _ _ (call (Value.builtin _) [Value.ref _, _]) _ _ _); k_dflt (refine' append_K ?k1 ?k2 ?k3 ?_ ?zz; (case k1 => k_asm); (case k2 => k_asm); (case k3 => k_upd); (case zz => exact hszd); k_whole); intro h' F' N'; (try k_sweep))) | (refine stq_out "subscriptTail Name UnaryOp" ?_; (k_here; k_dflt (refine' item_last (vi := List.map Value.ref ds0) ?zl ?_); (case zl => exact News.isList (by k_asm) (.head _)))) | (refine stq_out "call builtin:len" ?_; (k_here; (with_reducible show wpAny _ _ (call (Value.builtin "len") [Value.ref _]) _ _ _); k_dflt (refine' kun_lenL ?k1 ?k2 ?k3 ?_; (case k1 => exact News.isList (by k_asm) (by k_mem)); (case k2 => assumption); (case k3 => lia); k_whole))) | fail) <;> k_steps))
   refine SrcGR.intro (n := twosF ns + 1) (by rfl) (by k_asm) (by k_asm) (by assumption) (small5 (by omega)) (size_up _) (by rw [PySem.sizeLine_eq]; omega) ?_
   intro g9
   dsimp only
   refine turns_grow (RowI ns ((L' + 1,oc) :: (l,W.listOf vs.toArray nn) :: news)) (fun G k => k [] [] .nil rfl rfl (fun _ h => nomatch h)) ?hend ?step
   case step =>
    intro i ys nw v I' oI' C' oC' D' m0' h0' tk' E' hi9 hv hI hC0' hit' F' N' off' ne'
    obtain ⟨tv,rfl⟩ := hv
    refine hI _ (fun ds pre hp ey en hap => ?_)
    subst ey
    have mL : (L' + 1,oc) ∈ nw := en ▸ List.mem_append_right _ (.head _)
    have ml : (l,W.listOf vs.toArray nn) ∈ nw := en ▸ List.mem_append_right _ (.tail _ (.head _))
    refine turn1 (by k_asm) (by k_asm) hC0' off' ne' (by rfl) (by rfl) ?_
    clear F' N' hC0'
    intro oC'' m' h' tk'' hC' hx F' N'
    refine testsOf_nil ?_
    dsimp only
    (k_steps; repeat' ((first | (refine stq_out "call builtin:list.append" ?_; (k_here; (with_reducible show wpAny _ _ (call (Value.builtin _) [Value.ref _, _]) _ _ _); k_dflt (refine' append_K ?k1 ?k2 ?k3 ?_ ?zz; (case k1 => k_asm); (case k2 => k_asm); (case k3 => k_upd); (case zz => exact hszd); k_whole); intro h' F' N'; (try k_sweep))) | (refine stq_out "subscriptTail Name UnaryOp" ?_; (k_here; k_dflt (refine' item_last (vi := List.map Value.ref ds0) ?zl ?_); (case zl => exact News.isList (by k_asm) (.head _)))) | (refine stq_out "call builtin:len" ?_; (k_here; (with_reducible show wpAny _ _ (call (Value.builtin "len") [Value.ref _]) _ _ _); k_dflt (refine' kun_lenL ?k1 ?k2 ?k3 ?_; (case k1 => exact News.isList (by k_asm) (by k_mem)); (case k2 => assumption); (case k3 => lia); k_whole))) | fail) <;> k_steps))
    refine TurnEnd.intro1 (by k_asm) (by assumption) (by k_asm) ⟨⟨ngt (l1 _ (.head _)),ngt (l1 _ (.tail _ (.head _))),ngt (l1 _ (.tail _ (.tail _ (.head _))))⟩,off'⟩ trivial (row_turn hp en hap hI' fun q hq => l1 q (.tail _ (.tail _ (.tail _ hq))))
   case hend =>
    intro ys nw hI
    refine hI _ (fun ds pre hp ey en hap => ?_)
    subst ey en
    (k_steps; repeat' ((first | (refine stq_out "call builtin:list.append" ?_; (k_here; (with_reducible show wpAny _ _ (call (Value.builtin _) [Value.ref _, _]) _ _ _); k_dflt (refine' append_K ?k1 ?k2 ?k3 ?_ ?zz; (case k1 => k_asm); (case k2 => k_asm); (case k3 => k_upd); (case zz => exact hszd); k_whole); intro h' F' N'; (try k_sweep))) | (refine stq_out "subscriptTail Name UnaryOp" ?_; (k_here; k_dflt (refine' item_last (vi := List.map Value.ref ds0) ?zl ?_); (case zl => exact News.isList (by k_asm) (.head _)))) | (refine stq_out "call builtin:len" ?_; (k_here; (with_reducible show wpAny _ _ (call (Value.builtin "len") [Value.ref _]) _ _ _); k_dflt (refine' kun_lenL ?k1 ?k2 ?k3 ?_; (case k1 => exact News.isList (by k_asm) (by k_mem)); (case k2 => assumption); (case k3 => lia); k_whole))) | fail) <;> k_steps))
    dsimp only [Hold]
    rename Fr _ _ _ _ => F9
    rename News _ _ _ _ => N9
    rename LCg.Off1 _ _ => o1'
    obtain ⟨ds0,d,ws,k2,rfl,hd,hw⟩ := RowsAre.last (by rw [List.range_succ,List.map_append] at hp; exact hp)
    refine wpAny_execs_cons ?_
    k_fold
    refine While_inv (RowK ns ((L' + 1,oc) :: (l,W.listOf vs.toArray nn) :: news) _) (n₀ := ns.length - twosF ns - 2) F9 N9 (fun G k => k 0 ds0 d ws _ k2 pre (Nat.zero_add _) rfl (by rw [List.map_append]; rfl) (by rw [rowsJ,List.range_zero,List.map_nil,List.append_nil]; exact hp) hd (by rw [Nat.sub_zero,← List.length_drop,List.take_length]; exact hw) (offNe o1') hap) ?turn2
    case turn2 =>
     clear F9 N9 o1' hI hp hap hd hw
     intro n m2 nw2 h2 tk2 F2 N2 J
     refine J _ (fun j ds0 d ws k1 k2 pre ej mr en hp hd hw hoff hap => ?_)
     subst en
     have F3 := fr_has F2 _ mr
     clear F2
     have eL : ((ws.toArray.size : Nat) : Int) = ((ns.length - twosF ns - j : Nat) : Int) := by
      rw [List.size_toArray,hw.length,List.length_take,List.length_drop]; omega
     dsimp only
     have hszw : ws.toArray.size <= sizeLine := by rw [PySem.sizeLine_eq]; omega
     have hd' := List.mem_append_left ((L' + 1,oc) :: (l,W.listOf vs.toArray nn) :: news) hd
     have hszd : (ds0.map Value.ref ++ [Value.ref d]).toArray.size <= sizeLine := row_room hT hn5 ej hp.len
     (k_steps; repeat' ((first | (refine stq_out "call builtin:list.append" ?_; (k_here; (with_reducible show wpAny _ _ (call (Value.builtin _) [Value.ref _, _]) _ _ _); k_dflt (refine' append_K ?k1 ?k2 ?k3 ?_ ?zz; (case k1 => k_asm); (case k2 => k_asm); (case k3 => k_upd); (case zz => exact hszd); k_whole); intro h' F' N'; (try k_sweep))) | (refine stq_out "subscriptTail Name UnaryOp" ?_; (k_here; k_dflt (refine' item_last (vi := List.map Value.ref ds0) ?zl ?_); (case zl => exact News.isList (by k_asm) (.head _)))) | (refine stq_out "call builtin:len" ?_; (k_here; (with_reducible show wpAny _ _ (call (Value.builtin "len") [Value.ref _]) _ _ _); k_dflt (refine' kun_lenL ?k1 ?k2 ?k3 ?_; (case k1 => exact News.isList (by k_asm) (by k_mem)); (case k2 => assumption); (case k3 => lia); k_whole))) | fail) <;> k_steps))
     ·exact row_cut (by assumption) (by assumption) rfl (by assumption) ej hp (by assumption) (by assumption) hoff hap
     ·rw [row_done (by assumption) ej] at hp
      exact hret _ _ _ _ ⟨_,ds0 ++ [d],k1,(_,W.listOf (ds0.map Value.ref ++ [Value.ref d]).toArray k1) :: pre,rfl,rfl,(by rw [List.map_append]; exact .head _),hp.mono fun _ z => .tail _ z,rows_cons (fun q hq => hoff q (List.mem_append_right _ (.tail _ hq))) fun p hp q hq => hap p hp q (.tail _ hq)⟩ (by k_asm) (cb_drop (by k_asm) (sb_keep (ap_pre2 (sb_skip sb_refl))))
 case r => delta id stq_it stq_out; exact k
end

example {M : Model} {A : Around} {env : Env} {Q : Flow -> Shared -> Prop} {E : Value -> Shared -> Prop} {s : Shared} (h : Q .next s) : wpAny M A (execs [] env) Q E s := by first | (walk1; exact h) | exact wpAny_execs_nil h

noncomputable def Dig (A : List Int) : Prop := ∀ n ∈ A,0 <= n ∧ n < 4
noncomputable def LongL (A : List Int) : Prop := (3 <= A.length ∧ A.length <= 5) ∧ Dig A
noncomputable def ShortL (A : List Int) : Prop := (1 <= A.length ∧ A.length <= 2) ∧ Dig A
theorem labels_len (l k x : Int) : (labelsF l k x).length = (l + x.fmod k - 0).toNat := by
 unfold labelsF; rw [List.length_map,rangeKs_length]
theorem labels_dig (l k x : Int) : Dig (labelsF l k x) := by
 intro n hn
 unfold labelsF at hn
 obtain ⟨a,_,rfl⟩ := List.mem_map.mp hn
 exact ⟨Int.fmod_nonneg_of_pos _ (by decide),Int.fmod_lt_of_pos _ (by decide)⟩
theorem labels_long (x : Int) : LongL (labelsF 3 3 x) := by
 refine ⟨?_,labels_dig _ _ _⟩
 rw [labels_len]
 have h1 := Int.fmod_nonneg_of_pos x (b := 3) (by decide)
 have h2 := Int.fmod_lt_of_pos x (b := 3) (by decide)
 lia
theorem labels_short (x : Int) : ShortL (labelsF 1 2 x) := by
 refine ⟨?_,labels_dig _ _ _⟩
 rw [labels_len]
 have h1 := Int.fmod_nonneg_of_pos x (b := 2) (by decide)
 have h2 := Int.fmod_lt_of_pos x (b := 2) (by decide)
 omega
theorem manner_ok {x : Int} (h : 0 <= x ∧ x < 9216) : 0 <= x.fdiv 3072 ∧ x.fdiv 3072 <= 2 := by
 rw [Int.fdiv_eq_ediv_of_nonneg _ (by decide)]; lia
noncomputable def HostsAre (fz : List (Addr × Obj)) (H : Addr) (A0 A1 A2 A3 A4 : List Int) : Prop :=
 ∀ G : Prop,(∀ (l0 l1 l2 l3 l4 : Addr) (v0 v1 v2 v3 v4 : List Value) (nh k0 k1 k2 k3 k4 : Nat),(H,W.listOf #[.ref l0,.ref l1,.ref l2,.ref l3,.ref l4] nh) ∈ fz ->
  (l0,W.listOf v0.toArray k0) ∈ fz -> (l1,W.listOf v1.toArray k1) ∈ fz -> (l2,W.listOf v2.toArray k2) ∈ fz -> (l3,W.listOf v3.toArray k3) ∈ fz -> (l4,W.listOf v4.toArray k4) ∈ fz ->
  IntsAre v0 A0 -> IntsAre v1 A1 -> IntsAre v2 A2 -> IntsAre v3 A3 -> IntsAre v4 A4 -> G) -> G
noncomputable def NumsAre (fz : List (Addr × Obj)) (D : Addr) (n0 n1 n2 n3 n4 : Int) : Prop :=
 ∀ G : Prop,(∀ (t0 t1 t2 t3 t4 : Tok) (nd : Nat),(D,W.listOf #[.int n0 t0,.int n1 t1,.int n2 t2,.int n3 t3,.int n4 t4] nd) ∈ fz -> G) -> G
noncomputable abbrev six (L : Addr) (o1 o2 o3 o4 o5 o6 : Obj) (r : List (Addr × Obj)) : List (Addr × Obj) := (L + 1 + 1 + 1 + 1 + 1 + 1,o1) :: (L + 1 + 1 + 1 + 1 + 1,o2) :: (L + 1 + 1 + 1 + 1,o3) :: (L + 1 + 1 + 1,o4) :: (L + 1 + 1,o5) :: (L + 1,o6) :: r
noncomputable abbrev hd6 (L : Addr) (o1 o2 o3 o4 o5 o6 : Obj) : List (Addr × Obj) := [(L + 1 + 1 + 1 + 1 + 1 + 1,o1),(L + 1 + 1 + 1 + 1 + 1,o2),(L + 1 + 1 + 1 + 1,o3),(L + 1 + 1 + 1,o4),(L + 1 + 1,o5),(L + 1,o6)]
theorem off6_of {L : Addr} {o1 o2 o3 o4 o5 o6 : Obj} {pre rest : List (Addr × Obj)} (off : ∀ p ∈ pre,∀ q ∈ rest,q.1 ≠ p.1) (h : ∀ y ∈ hd6 L o1 o2 o3 o4 o5 o6,y ∈ rest) : Off6 L pre :=
 ⟨fun b hb => Ne.symm (off b hb _ (h (L + 1,o6) (.tail _ (.tail _ (.tail _ (.tail _ (.tail _ (.head _)))))))),fun b hb => Ne.symm (off b hb _ (h (L + 1 + 1,o5) (.tail _ (.tail _ (.tail _ (.tail _ (.head _))))))),fun b hb => Ne.symm (off b hb _ (h (L + 1 + 1 + 1,o4) (.tail _ (.tail _ (.tail _ (.head _)))))),fun b hb => Ne.symm (off b hb _ (h (L + 1 + 1 + 1 + 1,o3) (.tail _ (.tail _ (.head _))))),fun b hb => Ne.symm (off b hb _ (h (L + 1 + 1 + 1 + 1 + 1,o2) (.tail _ (.head _)))),fun b hb => Ne.symm (off b hb _ (h (L + 1 + 1 + 1 + 1 + 1 + 1,o1) (.head _)))⟩
noncomputable def Seqs (fz : List (Addr × Obj)) : Prop := ∀ p ∈ fz,∃ xs n,p.2.data = .seq xs n
theorem Seqs.nil : Seqs [] := fun _ h => nomatch h
theorem Seqs.cons {a : Addr} {o : Obj} {fz : List (Addr × Obj)} (h : ∃ xs n,o.data = .seq xs n) (t : Seqs fz) : Seqs ((a,o) :: fz) := List.forall_mem_cons.mpr ⟨h,t⟩
theorem seqs_off {g h : Heap} {L c : Addr} {oc : Obj} {news fz : List (Addr × Obj)} (N : News g L h news) (z : Seqs fz) (hs : ∀ p ∈ fz,p ∈ news) (hc : (c,oc) ∈ news) (hn : ∀ xs n,oc.data ≠ .seq xs n) : ∀ p ∈ fz,p.1 ≠ c := fun p hp e => by
 have a := (N p (hs p hp)).1
 have b := (N _ hc).1
 rw [e] at a
 obtain ⟨xs,n,h⟩ := z p hp
 have e2 : some oc = some p.2 := b.symm.trans a
 cases e2
 exact hn _ _ h
theorem six_off {g h : Heap} {L Lf : Addr} {o1 o2 o3 o4 o5 o6 : Obj} {v1 v2 v3 v4 v5 v6 : Option Value} (c1 : o1.data = .cell v1) (c2 : o2.data = .cell v2) (c3 : o3.data = .cell v3) (c4 : o4.data = .cell v4) (c5 : o5.data = .cell v5) (c6 : o6.data = .cell v6) {ps : Array Value} {fz : List (Addr × Obj)}
  (N : News g Lf h (six L o1 o2 o3 o4 o5 o6 ((142,tabObj ps) :: fz))) (z : Seqs fz) :
  (∀ p ∈ fz,p.1 ≠ L + 1 + 1 + 1 + 1 + 1 + 1) ∧ (∀ p ∈ fz,p.1 ≠ L + 1 + 1 + 1 + 1 + 1) ∧ (∀ p ∈ fz,p.1 ≠ L + 1 + 1 + 1 + 1) ∧ (∀ p ∈ fz,p.1 ≠ L + 1 + 1 + 1) ∧ (∀ p ∈ fz,p.1 ≠ L + 1 + 1) ∧ (∀ p ∈ fz,p.1 ≠ L + 1) ∧ (∀ p ∈ fz,p.1 ≠ 142) := by
 have hs : ∀ p ∈ fz,p ∈ six L o1 o2 o3 o4 o5 o6 ((142,tabObj ps) :: fz) := fun p h => by simp [h]
 refine ⟨seqs_off N z hs (.head _) (fun _ _ e => ?_),seqs_off N z hs (.tail _ (.head _)) (fun _ _ e => ?_),seqs_off N z hs (.tail _ (.tail _ (.head _))) (fun _ _ e => ?_),seqs_off N z hs (.tail _ (.tail _ (.tail _ (.head _)))) (fun _ _ e => ?_),seqs_off N z hs (.tail _ (.tail _ (.tail _ (.tail _ (.head _))))) (fun _ _ e => ?_),seqs_off N z hs (.tail _ (.tail _ (.tail _ (.tail _ (.tail _ (.head _)))))) (fun _ _ e => ?_),seqs_off N z hs (oc := tabObj ps) (.tail _ (.tail _ (.tail _ (.tail _ (.tail _ (.tail _ (.head _))))))) (fun _ _ e => by cases e)⟩
 ·rw [c1] at e; cases e
 ·rw [c2] at e; cases e
 ·rw [c3] at e; cases e
 ·rw [c4] at e; cases e
 ·rw [c5] at e; cases e
 ·rw [c6] at e; cases e
theorem six_off2 {g h : Heap} {L Lf : Addr} {o1 o2 o3 o4 o5 o6 : Obj} {v1 v2 v3 v4 v5 v6 : Option Value} (c1 : o1.data = .cell v1) (c2 : o2.data = .cell v2) (c3 : o3.data = .cell v3) (c4 : o4.data = .cell v4) (c5 : o5.data = .cell v5) (c6 : o6.data = .cell v6) {rest new : List (Addr × Obj)}
  (N : News g Lf h (six L o1 o2 o3 o4 o5 o6 rest)) (z : Seqs new) (hn : ∀ p ∈ new,p ∈ rest) :
  Off6 L (new) := by
 have hs : ∀ p ∈ new,p ∈ six L o1 o2 o3 o4 o5 o6 rest := fun p h => by simp [hn p h]
 refine ⟨seqs_off N z hs (.tail _ (.tail _ (.tail _ (.tail _ (.tail _ (.head _)))))) (fun _ _ e => ?_),seqs_off N z hs (.tail _ (.tail _ (.tail _ (.tail _ (.head _))))) (fun _ _ e => ?_),seqs_off N z hs (.tail _ (.tail _ (.tail _ (.head _)))) (fun _ _ e => ?_),seqs_off N z hs (.tail _ (.tail _ (.head _))) (fun _ _ e => ?_),seqs_off N z hs (.tail _ (.head _)) (fun _ _ e => ?_),seqs_off N z hs (.head _) (fun _ _ e => ?_)⟩
 ·rw [c6] at e; cases e
 ·rw [c5] at e; cases e
 ·rw [c4] at e; cases e
 ·rw [c3] at e; cases e
 ·rw [c2] at e; cases e
 ·rw [c1] at e; cases e
noncomputable def valOf : Stmt -> Expr
 | .Assign _ e _ => e
 | _ => .Constant .none 0 default
noncomputable def compAt : Nat -> List Stmt -> Expr
 | _,[] => .Constant .none 0 default
 | 0,s :: _ => valOf s
 | n + 1,_ :: r => compAt n r
noncomputable def eltOf : Expr -> Expr
 | .ListComp e _ _ _ => e
 | e => e
noncomputable def scOf : Expr -> Scope
 | .ListComp _ _ s _ => s
 | _ => default
theorem cs_of {S : List (Addr × Obj) -> Prop} {x : Addr × Obj} {news : List (Addr × Obj)} (h : ∀ x,S (x :: news)) : S (x :: news) := h x
theorem src_s {g : Heap} {H : Addr} {its : List Value} {n : Nat} {news : List (Addr × Obj)} (h : (H,PySem.W.listOf its.toArray n) ∈ news) : ∀ x,LCg.SrcAt g H its.toArray (x :: news) := fun _ => Or.inr ⟨_,.tail _ h,rfl,_,rfl⟩
theorem hold_c {P : Prop} (h : Hold P) : P := h
theorem mem_six {L : Addr} {o1 o2 o3 o4 o5 o6 : Obj} {y : Addr × Obj} {zz : List (Addr × Obj)} (h : y ∈ zz) : y ∈ six L o1 o2 o3 o4 o5 o6 zz := .tail _ (.tail _ (.tail _ (.tail _ (.tail _ (.tail _ h)))))

noncomputable def digs : Nat -> List (List Int)
 | 0 => [[]]
 | n + 1 => (digs n).flatMap fun l => [0 :: l,1 :: l,2 :: l,3 :: l]
theorem mem_digs : ∀ (A : List Int),Dig A -> A ∈ digs A.length
 | [],_ => List.mem_singleton.mpr rfl
 | a :: A,h => by
  have ha := h a (.head _)
  have hA := mem_digs A (fun n hn => h n (.tail _ hn))
  refine List.mem_flatMap.mpr ⟨A,hA,?_⟩
  have : a = 0 ∨ a = 1 ∨ a = 2 ∨ a = 3 := by lia
  rcases this with rfl | rfl | rfl | rfl <;> simp
noncomputable def all15 : List (List Int) := digs 1 ++ (digs 2 ++ (digs 3 ++ (digs 4 ++ digs 5)))
theorem mem15 {A : List Int} (h : Dig A) (h1 : 1 <= A.length) (h5 : A.length <= 5) : A ∈ all15 := by
 have m := mem_digs A h
 unfold all15
 simp only [List.mem_append]
 have : A.length = 1 ∨ A.length = 2 ∨ A.length = 3 ∨ A.length = 4 ∨ A.length = 5 := by lia
 rcases this with e | e | e | e | e <;> rw [e] at m
 ·exact .inl m
 ·exact .inr (.inl m)
 ·exact .inr (.inr (.inl m))
 ·exact .inr (.inr (.inr (.inl m)))
 ·exact .inr (.inr (.inr (.inr m)))
theorem host_len15 : (all15.all fun A => decide ((hostF A).length <= 14) && PyData.strOk (hostF A)) = true := by decide +kernel
theorem host_len {A : List Int} (h : Dig A) (h1 : 1 <= A.length) (h5 : A.length <= 5) : (hostF A).length <= 14 := by
 have := List.all_eq_true.mp host_len15 A (mem15 h h1 h5)
 exact of_decide_eq_true (Bool.and_eq_true _ _ ▸ this).1
theorem host_ok {A : List Int} (h : Dig A) (h1 : 1 <= A.length) (h5 : A.length <= 5) : PyData.strOk (hostF A) = true := by
 have := List.all_eq_true.mp host_len15 A (mem15 h h1 h5)
 exact (Bool.and_eq_true _ _ ▸ this).2

theorem join_empty : ∀ (ys : List Str), (Str.join (Str.ofString "") ys).cps.toList = ys.flatMap (fun y => y.cps.toList)
 | [] => rfl
 | [y] => by simp [Str.join]
 | y :: z :: r => by
  have ih := join_empty (z :: r)
  have e : (Str.ofString "").cps = #[] := by decide
  show ((y ++ Str.ofString "") ++ Str.join (Str.ofString "") (z :: r)).cps.toList = _
  rw [Str.cps_append,Str.cps_append,Array.toList_append,Array.toList_append,ih,e]
  simp
theorem written2 (x : Str) : (writtenF x 2).cps.toList = x.cps.toList.flatMap fun c => [92,c] := by
 refine (?f : Cln _) ?p ⟨?q,fun B k => ?r⟩
 case f => exact fun x _ => x
 case q =>
  unfold writtenF
  rw [if_neg (by decide),if_neg (by decide)]
  unfold Txt.join
  rw [StrLaws.glued_eq_join,join_empty]
  unfold signs
  rw [List.map_map,List.flatMap_map]
  congr 1
 case r => delta id stq_it stq_out; exact k
theorem written1 (x : Str) : (writtenF x 1).cps.toList = 34 :: (x.cps.toList ++ [34]) := by
 refine (?f : Cln _) ?p ⟨?q,fun B k => ?r⟩
 case f => exact fun x _ => x
 case q =>
  unfold writtenF
  rw [if_neg (by decide),if_pos rfl,Str.cps_append,Str.cps_append,Array.toList_append,Array.toList_append]
  have e : (Str.ofString "\"").cps.toList = [34] := by decide
  rw [e]; simp
 case r => delta id stq_it stq_out; exact k
theorem written0 (x : Str) : writtenF x 0 = x := by unfold writtenF; rw [if_pos rfl]
theorem fm_len (l : List Nat) : (l.flatMap fun c => [92,c]).length = 2 * l.length := by
 induction l with
 | nil => rfl
 | cons a l ih => simp only [List.flatMap_cons,List.length_append,List.length_cons,List.length_nil,ih]; lia
theorem written_len (x : Str) {y : Int} (h : 0 <= y ∧ y <= 2) : (writtenF x y).length <= 2 * x.length + 2 := by
 refine (?f : Cln _) ?p ⟨?q,fun B k => ?r⟩
 case f => exact fun x _ => x
 case q =>
  have : y = 0 ∨ y = 1 ∨ y = 2 := by lia
  have f : ∀ s : Str,s.length = s.cps.toList.length := fun s => by simp [Str.length]
  rcases this with rfl | rfl | rfl
  ·rw [written0]; lia
  ·rw [f,written1]; simp [Str.length]; lia
  ·rw [f,written2,fm_len,f]; lia
 case r => delta id stq_it stq_out; exact k
section
open PySem.SeqAt
inductive StrsAre : List Value -> List Str -> Prop
 | nil : StrsAre [] []
 | cons (x : Str) (t : Tok) {vs xs} : StrsAre vs xs -> StrsAre (.str x t :: vs) (x :: xs)
theorem readsAll_strs {h : Heap} : ∀ {vs : List Value} {xs : List Str},StrsAre vs xs -> ReadsAll h vs (xs.map PyData.str) []
 | _,_,.nil => .nil
 | _,_,.cons x t r => by
  have := ReadsAll.cons (Reads.str (h := h) x t) (readsAll_strs (h := h) r)
  simpa using this
theorem reads_strs {h : Heap} {a : Addr} {vs : List Value} {xs : List Str} (hl : h.IsList a vs.toArray) (hi : StrsAre vs xs) : Reads h (.ref a) (.list (xs.map PyData.str)) [a] := by
 obtain ⟨o,ho,hc,n,hd⟩ := hl
 exact Reads.list ho hc hd (by simpa using readsAll_strs hi)
theorem canLay_strs : ∀ xs : List Str,(∀ x ∈ xs,PyData.strOk x = true) -> PyData.canLayAll0 (xs.map PyData.str) = true
 | [],_ => by simp [PyData.canLayAll0]
 | x :: r,h => by simp [PyData.canLayAll0,PyData.canLay0,canLay_strs r (fun y hy => h y (.tail _ hy)),h x (.head _)]
theorem depth_strs : ∀ xs : List Str,PyData.depthAll (xs.map PyData.str) <= 1
 | [] => by simp [PyData.depthAll]
 | x :: r => by
  have := depth_strs r
  simp only [List.map_cons,PyData.depthAll,PyData.depth]
  lia
theorem shaped_strs (xs : List Str) (hx : ∀ x ∈ xs,PyData.strOk x = true) : shaped (.list (xs.map PyData.str)) = true := by
 have h1 := depth_strs xs
 have h2 : PyData.depth (.list (xs.map PyData.str)) <= 64 := by simp only [PyData.depth]; lia
 show (PyData.canLay0 (.list (xs.map PyData.str)) && decide (PyData.depth (.list (xs.map PyData.str)) <= 64)) = true
 rw [Bool.and_eq_true]
 exact ⟨by simp only [PyData.canLay0]; exact canLay_strs xs hx,decide_eq_true h2⟩
theorem noMix_strs : ∀ ns ms : List Str,noMixAll (ns.map PyData.str) (ms.map PyData.str) = true
 | [],[] => by simp [noMixAll]
 | [],_ :: _ => by simp [noMixAll]
 | _ :: _,[] => by simp [noMixAll]
 | _ :: r,_ :: q => by simp [noMixAll,noMix,noMix_strs r q]
theorem same_strs : ∀ ns : List Str,PySem.Spec.sameAll (ns.map PyData.str) (ns.map PyData.str) = true
 | [] => by simp [PySem.Spec.sameAll]
 | n :: r => by simp [PySem.Spec.sameAll,PySem.Spec.same,same_strs r]
theorem ne_strs {prog : Program} {w : World} {A : Around} {E : Value -> Shared -> Prop} {s : Shared} {a b : Addr} {vs us : List Value} {xs : List Str} {Q : Value -> Shared -> Prop} (hl : s.heap.IsList a vs.toArray) (hl' : s.heap.IsList b us.toArray) (hi : StrsAre vs xs) (hi' : StrsAre us xs) (hx : ∀ x ∈ xs,PyData.strOk x = true) (hu : A.units + 64 < cLine)
  (h : Q (.bool false) s) : wpAny (model prog w) A (compareOp .NotEq (.ref a) (.ref b)) Q E s :=
 ne_dataH_same (reads_strs hl hi) (reads_strs hl' hi') (shaped_strs xs hx) (shaped_strs xs hx) hu (by simp only [noMix]; exact noMix_strs xs xs) (by simp only [PySem.Spec.same]; rw [same_strs]; exact h)
theorem ne_nil {prog : Program} {w : World} {A : Around} {E : Value -> Shared -> Prop} {s : Shared} {a b : Addr} {ys : List Value} {Q : Value -> Shared -> Prop} (hl : s.heap.IsList a ys.toArray) (hl' : s.heap.IsList b #[]) (hu : A.units + 64 < cLine)
  (h : Q (.bool (!ys.isEmpty)) s) : wpAny (model prog w) A (compareOp .NotEq (.ref a) (.ref b)) Q E s := by
 have hu' : A.units < cLine := by lia
 cases ys with
 | nil => exact RcNeAt.lists (e := fun _ => true) hl hl' rfl hu' (fun j j1 _ => absurd j1 (Nat.not_lt_zero _)) prog w E Q h
 | cons y r => exact RcNeAt.lists_lengths hl hl' (by simp) hu' prog w E Q h
theorem ne_bools {prog : Program} {w : World} {A : Around} {E : Value -> Shared -> Prop} {s : Shared} {l l' : Addr} {a b c d : Bool} {Q : Value -> Shared -> Prop} (hl : s.heap.IsList l #[.bool a,.bool b]) (hl' : s.heap.IsList l' #[.bool c,.bool d]) (hu : A.units + 64 < cLine)
  (h : Q (.bool (!(a == c && b == d))) s) : wpAny (model prog w) A (compareOp .NotEq (.ref l) (.ref l')) Q E s := by
 have rd : ∀ {l : Addr} {a b : Bool},s.heap.IsList l #[.bool a,.bool b] -> ∃ as,Reads s.heap (.ref l) (.list [.bool a,.bool b]) as := by
  intro l a b hl
  obtain ⟨o,ho,hc,n,hd⟩ := hl
  exact ⟨_,Reads.list ho hc hd (.cons (.bool a) (.cons (.bool b) .nil))⟩
 obtain ⟨_,r1⟩ := rd hl
 obtain ⟨_,r2⟩ := rd hl'
 have sh : ∀ a b : Bool,shaped (.list [.bool a,.bool b]) = true := by decide
 refine ne_dataH_same r1 r2 (sh a b) (sh c d) hu (by simp [noMix,noMixAll]) ?_
 have e : PySem.Spec.same (.list [.bool a,.bool b]) (.list [.bool c,.bool d]) = (a == c && b == d) := by simp [PySem.Spec.same,PySem.Spec.sameAll]
 rw [e]; exact h
end

local macro_rules | `(tactic| walk_at "my strs") => `(tactic| first | exact StrsAre.nil | (refine' StrsAre.cons _ _ ?h9; (case h9 => walk_at "my strs")))

section
open PySem.SeqAt
theorem eqAt_fi {A : Around} {s : Shared} (a : UInt64) (t : Tok) (b : Int) (u : Tok) : EqAt A s (.float a t) (.int b u) (Float64.cmpInt a b == some Ordering.eq) := fun prog w E Q h => by
 unfold eqBool
 refine wpAny_holding ?_
 refine wpAny_ite_split (fun hab => ?_) (fun _ => ?_)
 ·exact absurd (eq_of_beq hab) (fun e => by injection e)
 ·have q : wpAny (model prog w) A (compareOp .Eq (.float a t) (.int b u)) (fun v s' => wpAny (model prog w) A (truthOfDropped v) Q E s') E s := eq_fi (wpAny_truthy_bool h)
  exact wpAny_bind q
theorem ne_fi3 {prog : Program} {w : World} {A : Around} {E : Value -> Shared -> Prop} {s : Shared} {l l' : Addr} {a b c : UInt64} {i j k : Int} {t1 t2 t3 u1 u2 u3 : Tok} {Q : Value -> Shared -> Prop} (hl : s.heap.IsList l #[.float a t1,.float b t2,.float c t3]) (hl' : s.heap.IsList l' #[.int i u1,.int j u2,.int k u3]) (hu : A.units + 64 < cLine)
  (ha : Float64.cmpInt a i = some Ordering.eq) (hb : Float64.cmpInt b j = some Ordering.eq) (hc : Float64.cmpInt c k = some Ordering.eq) (h : Q (.bool false) s) : wpAny (model prog w) A (compareOp .NotEq (.ref l) (.ref l')) Q E s := by
 refine RcNeAt.lists (e := fun _ => true) hl hl' rfl (by lia) (fun j h1 h2 => ?_) prog w E Q h
 have e : ∀ (x : UInt64) (t : Tok) (y : Int) (u : Tok),Float64.cmpInt x y = some Ordering.eq -> EqAt A.in1 s (.float x t) (.int y u) true := fun x t y u q => by
  have := eqAt_fi (A := A.in1) (s := s) x t y u
  rw [q] at this
  exact this
 match j,h1,h2 with
 | 0,_,_ => exact e _ _ _ _ ha
 | 1,_,_ => exact e _ _ _ _ hb
 | 2,_,_ => exact e _ _ _ _ hc
end
section
open PySem.SeqAt
theorem ne_tup0 {prog : Program} {w : World} {A : Around} {E : Value -> Shared -> Prop} {s : Shared} {l l' : Addr} {vs : List Value} {Q : Value -> Shared -> Prop} (hl : s.heap.IsTuple l vs.toArray) (hl' : s.heap.IsTuple l' #[]) (hu : A.units + 64 < cLine)
  (h : Q (.bool (!vs.isEmpty)) s) : wpAny (model prog w) A (compareOp .NotEq (.ref l) (.ref l')) Q E s := by
 refine RcNeAt.tuples (e := fun _ => true) hl hl' (by lia) (fun j h1 h2 => absurd h2 (by simp)) prog w E Q ?_
 have e : (!((List.range (min vs.toArray.size (#[] : Array Value).size)).all (fun _ => true) && vs.toArray.size == (#[] : Array Value).size)) = !vs.isEmpty := by cases vs <;> simp
 rw [e]; exact h
theorem tup_at {h₀ h : Heap} {L : Addr} {news : List (Addr × Obj)} {a : Addr} {vs : List Value} (N : News h₀ L h news) (hm : (a,tupO vs) ∈ news) : h.IsTuple a vs.toArray := ⟨_,(N _ hm).1,rfl,_,rfl⟩
end

section
variable {prog : Program} {w : World} {A : Around} {E : Value -> Shared -> Prop} {s : Shared}
theorem compTurn_two0 (elt t0 i0 t1 i1 : Expr) (ifs : List Expr) (scope : Scope) (pos : Pos) (it acc : Value) (env : Env) :
  compTurn (.ListComp elt [⟨t0,i0,[],0⟩,⟨t1,i1,ifs,0⟩] scope pos) 0 it acc env = (do
   standAt i0.pos
   match ← pyNext it with
   | none => pure (.done .next)
   | some v =>
    letOwnedTupleGo t0 it v
    assign t0 env v
    let mut ok := true
    for c in ([] : List Expr) do
     if ok then ok ← isTrue c env (eval c env)
    if ok then
     let x ← eval i1 env
     standAt i1.pos
     let x ← foldedSetIterable i1 env x
     let _ ← runOwn (.compStart (.ListComp elt [⟨t0,i0,[],0⟩,⟨t1,i1,ifs,0⟩] scope pos) 1 (← holding [x] (pyIter x)) acc env) env
    again (.compLoop (.ListComp elt [⟨t0,i0,[],0⟩,⟨t1,i1,ifs,0⟩] scope pos) 0 it acc env)) := by rfl
theorem compTurn_two1 (elt t0 i0 t1 i1 : Expr) (ifs : List Expr) (scope : Scope) (pos : Pos) (it acc : Value) (env : Env) :
  compTurn (.ListComp elt [⟨t0,i0,[],0⟩,⟨t1,i1,ifs,0⟩] scope pos) 1 it acc env = (do
   standAt i1.pos
   match ← pyNext it with
   | none => pure (.done .next)
   | some v =>
    letOwnedTupleGo t1 it v
    assign t1 env v
    let mut ok := true
    for c in ifs do
     if ok then ok ← isTrue c env (eval c env)
    if ok then
     (do let _ ← call (.builtin "list.append") [acc, ← eval elt env])
    again (.compLoop (.ListComp elt [⟨t0,i0,[],0⟩,⟨t1,i1,ifs,0⟩] scope pos) 1 it acc env)) := by rfl
theorem loop_G1 {elt t0 i0 t1 i1 : Expr} {ifs : List Expr} {scope : Scope} {pos : Pos} {it acc : Value} {env : Env} {R : Result -> Shared -> Prop} (I : Nat -> Shared -> Prop)
  (turn : ∀ n s,I n s -> wpAny (model prog w) A (pyNext it) (fun r s₁ => match r with
   | none => R (.ok .next) s₁
   | some v => wpAny (model prog w) A (letOwnedTupleGo t1 it v) (fun _ s₁' => wpAny (model prog w) A (assign t1 env v) (fun _ s₂ =>
     wpAny (model prog w) A (testsOf ifs env) (fun ok s₃ =>
      if ok = true then wpAny (model prog w) A (eval elt env) (fun x s₄ =>
       wpAny (model prog w) A (call (.builtin "list.append") [acc, x]) (fun _ s₅ => ∃ m, m < n ∧ I m s₅) (notedBy (model prog w) A env fun e s' => R (.error e) s') s₄) (notedBy (model prog w) A env fun e s' => R (.error e) s') s₃
      else ∃ m,m < n ∧ I m s₃) (notedBy (model prog w) A env fun e s' => R (.error e) s') s₂) (notedBy (model prog w) A env fun e s' => R (.error e) s') s₁') (notedBy (model prog w) A env fun e s' => R (.error e) s') s₁) (notedBy (model prog w) A env fun e s' => R (.error e) s') s)
  (n : Nat) (h : I n s) : codeAny (model prog w) A (.compLoop (.ListComp elt [⟨t0,i0,[],0⟩,⟨t1,i1,ifs,0⟩] scope pos) 1 it acc env) R s := by
 refine codeAny_loop rfl I (fun n s hI => ?_) n h
 show wpAny _ A ((compTurn (.ListComp elt [⟨t0,i0,[],0⟩,⟨t1,i1,ifs,0⟩] scope pos) 1 it acc env).onRaise (fun x => do noteFrame x env; theTreesLotGoes x)) _ _ s
 refine wpAny_noted ?_
 rw [compTurn_two1]
 refine wpAny_bind (wpAny_standAt (wpAny_bind (wpAny_mono (turn n s hI) (fun r s₁ h₁ => ?_) fun _ _ h' => h')))
 cases r with
 | none => exact wpAny_pure h₁
 | some v =>
  refine wpAny_bind (wpAny_mono h₁ (fun _ s₁' h₁' => ?_) fun _ _ h' => h')
  refine wpAny_bind (wpAny_mono h₁' (fun _ s₂ h₂ => wpAny_bind (wpAny_mono h₂ (fun ok s₃ h₃ => ?_) fun _ _ h' => h')) fun _ _ h' => h')
  cases ok with
  | false => exact wpAny_pure ⟨rfl,h₃⟩
  | true => exact wpAny_bind (wpAny_bind (wpAny_mono h₃ (fun x s₄ h₄ => wpAny_bind (wpAny_mono h₄ (fun _ s₅ h₅ => wpAny_pure (wpAny_pure ⟨rfl,h₅⟩)) fun _ _ h' => h')) fun _ _ h' => h'))
theorem loop_G0 {elt t0 i0 t1 i1 : Expr} {ifs : List Expr} {scope : Scope} {pos : Pos} {it acc : Value} {env : Env} {R : Result -> Shared -> Prop} (I : Nat -> Shared -> Prop) (hs : ∀ x,foldedSetIterable i1 env x = pure x)
  (turn : ∀ n s,I n s -> wpAny (model prog w) A (pyNext it) (fun r s₁ => match r with
   | none => R (.ok .next) s₁
   | some v => wpAny (model prog w) A (letOwnedTupleGo t0 it v) (fun _ s₁' => wpAny (model prog w) A (assign t0 env v) (fun _ s₂ =>
     wpAny (model prog w) A (eval i1 env) (fun x s₃ => wpAny (model prog w) A (pyIter x) (fun it1 s₄ =>
      codeAny (model prog w) (A.mark none) (.compStart (.ListComp elt [⟨t0,i0,[],0⟩,⟨t1,i1,ifs,0⟩] scope pos) 1 it1 acc env) (fun r s' => match r with | .ok _ => ∃ m,m < n ∧ I m s' | .error e => cameBackBy (model prog w) A env (notedBy (model prog w) A env fun e s' => R (.error e) s') e s') s₄)
      (notedBy (model prog w) A env fun e s' => R (.error e) s') s₃) (notedBy (model prog w) A env fun e s' => R (.error e) s') s₂) (notedBy (model prog w) A env fun e s' => R (.error e) s') s₁') (notedBy (model prog w) A env fun e s' => R (.error e) s') s₁) (notedBy (model prog w) A env fun e s' => R (.error e) s') s)
  (n : Nat) (h : I n s) : codeAny (model prog w) A (.compLoop (.ListComp elt [⟨t0,i0,[],0⟩,⟨t1,i1,ifs,0⟩] scope pos) 0 it acc env) R s := by
 refine codeAny_loop rfl I (fun n s hI => ?_) n h
 show wpAny _ A ((compTurn (.ListComp elt [⟨t0,i0,[],0⟩,⟨t1,i1,ifs,0⟩] scope pos) 0 it acc env).onRaise (fun x => do noteFrame x env; theTreesLotGoes x)) _ _ s
 refine wpAny_noted ?_
 rw [compTurn_two0]
 refine wpAny_bind (wpAny_standAt (wpAny_bind (wpAny_mono (turn n s hI) (fun r s₁ h₁ => ?_) fun _ _ h' => h')))
 cases r with
 | none => exact wpAny_pure h₁
 | some v =>
  refine wpAny_bind (wpAny_mono h₁ (fun _ s₁' h₁' => ?_) fun _ _ h' => h')
  refine wpAny_bind (wpAny_mono h₁' (fun _ s₂ h₂ => wpAny_bind (wpAny_tests_nil ?_)) fun _ _ h' => h')
  simp only [if_true]
  refine wpAny_bind (wpAny_mono h₂ (fun x s₃ h₃ => ?_) fun _ _ h' => h')
  refine wpAny_bind (wpAny_standAt ?_)
  rw [hs]
  refine wpAny_bind (wpAny_pure ?_)
  refine wpAny_bind (wpAny_holding (wpAny_mono h₃ (fun it1 s₄ h₄ => ?_) fun _ _ h' => h'))
  exact wpAny_bind (wpAny_runOwn (codeAny_mono h₄ (fun r s' q => by
   cases r with
   | ok f => exact wpAny_pure ⟨rfl,q⟩
   | error e => exact q)))
end

section
open PySem.Calls PyProof.Rows PyProof.Rows.LCg
variable {prog : Program} {w : World} {A : Around} {E : Value -> Shared -> Prop} {s : Shared} {h₀ : Heap} {L : Addr} {m : Str -> Option Value} {env : Env}
theorem start_two1 {elt t0 i0 t1 i1 : Expr} {ifs : List Expr} {scope : Scope} {pos : Pos} {it acc : Value} {env : Env} {R : Result -> Shared -> Prop}
  (h0 : codeAny (model prog w) A (.compLoop (.ListComp elt [⟨t0,i0,[],0⟩,⟨t1,i1,ifs,0⟩] scope pos) 1 it acc env) R s)
  (h : wpAny (model prog w) A (pyIter it) (fun it' s' => codeAny (model prog w) A (.compLoop (.ListComp elt [⟨t0,i0,[],0⟩,⟨t1,i1,ifs,0⟩] scope pos) 1 it' acc env) R s') (notedBy (model prog w) A env fun x s' => R (.error x) s') s) :
  codeAny (model prog w) A (.compStart (.ListComp elt [⟨t0,i0,[],0⟩,⟨t1,i1,ifs,0⟩] scope pos) 1 it acc env) R s := by
 refine (?f : Cln _) ?p ⟨?q,fun B k => ?r⟩
 case f => exact fun x _ => x
 case q =>
  refine codeAny_of_tree ?_
  show wpAny _ _ ((compStart (.ListComp elt [⟨t0,i0,[],0⟩,⟨t1,i1,ifs,0⟩] scope pos) 1 it acc env).onRaise (fun x => do noteFrame x env; standAt theWindowsPlace)) _ _ s
  refine wpAny_notedAt ?_
  unfold compStart
  show wpAny _ _ (ask >>= _) _ _ s
  refine wpAny_bind (wpAny_askSetting (wpAny_ite ?_))
  split
  ·first
    | exact wpAny_bind (wpAny_pure (wpAny_pure (And.intro rfl h0)))
    | exact wpAny_pure (And.intro rfl h0)
  ·first
    | exact wpAny_bind (wpAny_rule (wpAny_bind (wpAny_standAt (wpAny_bind (wpAny_mono h (fun it' s' h' => wpAny_pure (And.intro rfl h')) fun _ _ x => x)))))
    | (refine wpAny_bind (wpAny_rule ?_); show wpAny _ _ (standAt i1.pos >>= _) _ _ s; exact wpAny_bind (wpAny_standAt (wpAny_bind (wpAny_mono h (fun it' s' h' => wpAny_pure (And.intro rfl h')) fun _ _ x => x))))
 case r => delta id stq_it stq_out; exact k
noncomputable def KeptS (h₀ : Heap) (L : Addr) (m : Str -> Option Value) (s : Shared) (new : List (Addr × Obj)) (s' : Shared) : Prop := ∀ X : Prop,(∀ (h : Heap) (tk : Nat),s' = { s with heap := h,toks := tk } -> Fr h₀ L h m -> News h₀ L h new -> X) -> X
noncomputable def rowPick (pick : Nat -> Nat -> Option Value) (i j : Nat) : List Value := (List.range j).filterMap (pick i)
noncomputable def allPick (pick : Nat -> Nat -> Option Value) (k i : Nat) : List Value := (List.range i).flatMap fun a => rowPick pick a k
theorem rowPick_succ (pick : Nat -> Nat -> Option Value) (i j : Nat) : rowPick pick i (j + 1) = rowPick pick i j ++ (pick i j).toList := by
 unfold rowPick
 rw [List.range_succ,List.filterMap_append]
 cases h : pick i j <;> simp [h]
theorem allPick_succ (pick : Nat -> Nat -> Option Value) (k i : Nat) : allPick pick k (i + 1) = allPick pick k i ++ rowPick pick i k := by
 unfold allPick
 rw [List.range_succ,List.flatMap_append]
 simp
theorem rowPick_len (pick : Nat -> Nat -> Option Value) (i j : Nat) : (rowPick pick i j).length <= j := by
 unfold rowPick
 exact Nat.le_trans (List.length_filterMap_le _ _) (by simp)
theorem allPick_len (pick : Nat -> Nat -> Option Value) (k : Nat) : ∀ i,(allPick pick k i).length <= i * k
 | 0 => by simp [allPick]
 | i + 1 => by
  rw [allPick_succ,List.length_append,Nat.succ_mul]
  exact Nat.add_le_add (allPick_len pick k i) (rowPick_len pick i k)
theorem range_iter_at {h h' : Heap} {I : Addr} {a b c : Int} (st : IsRangeIter h I a b c) (e : ∀ o,h.get? I = some o -> h'.get? I = some o) : IsRangeIter h' I a b c := by
 have st' : h.get? I = some _ := st
 exact e _ st'
noncomputable abbrev rit (h : Heap) (I : Addr) (n i : Nat) : Prop := IsRangeIter h I (0 + ((i : Nat) : Int) * 1) ((n : Int) - ((i : Nat) : Int)) 1
noncomputable def TwoI (h₀ : Heap) (L : Addr) (m : Str -> Option Value) (s : Shared) (J0 D C : Addr) (n kl : Nat) (pick : Nat -> Nat -> Option Value) (news : List (Addr × Obj)) (k : Nat) (s' : Shared) : Prop :=
 ∀ X : Prop,(∀ (h' : Heap) (tk i : Nat) (m' : Str -> Option Value),s' = { s with heap := h',toks := tk } -> i <= n -> k = n + 1 - i -> rit h' J0 n i -> Fr h₀ L h' m -> h'.Ns C m' -> News h₀ L h' ((D,lst (allPick pick kl i)) :: news) -> X) -> X
noncomputable def TwoJ (h₀ : Heap) (L : Addr) (m : Str -> Option Value) (s : Shared) (J0 J1 ax D C : Addr) (n i kl : Nat) (x : Str) (t : Tok) (pick : Nat -> Nat -> Option Value) (news : List (Addr × Obj)) (k : Nat) (s' : Shared) : Prop :=
 ∀ X : Prop,(∀ (h' : Heap) (tk j : Nat) (m' : Str -> Option Value),s' = { s with heap := h',toks := tk } -> j <= kl -> k = kl + 1 - j -> h'.IsListIter J1 ax j -> rit h' J0 n (i + 1) -> Fr h₀ L h' m -> h'.Ns C m' -> m' x = some (.int i t) -> News h₀ L h' ((D,lst (allPick pick kl i ++ rowPick pick i j)) :: news) -> X) -> X
theorem block_two {elt i0 i1 c : Expr} {x y : Str} {px py : Pos} {scope : Scope} {cl : List (Str × Addr)} {pos : Pos} {n kk : Nat} {ax J0 : Addr} {lo : Obj} {its : List Value} {news : List (Addr × Obj)} (pick : Nat -> Nat -> Option Value) {RR : Value -> Addr -> Result -> Shared -> Prop}
  (hcell : ∀ z ∈ scope.names,z.2 ≠ .cell) (hkind : scope.kind = .function)
  (hx : scope.names.lookup x = some .local) (hy : scope.names.lookup y = some .local) (hxy : x ≠ y) (hh : A.handled = none) (hm : (ax, lo) ∈ news) (hc : lo.cls = .type "list") (hd : lo.data = .seq its.toArray kk) (hsz : n * its.length + its.length <= sizeLine)
  (F : Fr h₀ L s.heap m) (N : News h₀ L s.heap news) (hst : rit s.heap J0 n 0) (hJL : L ≠ J0) (hJ₀ : h₀.get? J0 = none) (hJn : ∀ p ∈ news,p.1 ≠ J0)
  (src1 : ∀ (i : Nat) t J0 oJ0 C oC D oD m₂ h tk (E' : Value -> Shared -> Prop),i < n -> NsObj oC m₂ -> m₂ x = some (.int i t) -> Fr h₀ L h m -> News h₀ L h ((J0,oJ0) :: (C,oC) :: (D,oD) :: news) ->
   wpAny (model prog w) A (eval i1 (compEnvC scope cl C env)) (fun xv s' => xv = .ref ax ∧ KeptS h₀ L m s ((J0,oJ0) :: (C,oC) :: (D,oD) :: news) s') E' { s with heap := h,toks := tk })
  (turn : ∀ (i j : Nat) t v J1 oJ1 J0 oJ0 C oC D oD m₂ h tk (E' : Value -> Shared -> Prop),i < n -> its[j]? = some v -> NsObj oC m₂ -> m₂ x = some (.int i t) -> m₂ y = some v -> Fr h₀ L h m -> News h₀ L h ((J1,oJ1) :: (J0,oJ0) :: (C,oC) :: (D,oD) :: news) ->
   wpAny (model prog w) A (testsOf [c] (compEnvC scope cl C env)) (fun ok s₃ => if ok = true then wpAny (model prog w) A (eval elt (compEnvC scope cl C env)) (fun z s₄ => pick i j = some z ∧ KeptS h₀ L m s ((J1,oJ1) :: (J0,oJ0) :: (C,oC) :: (D,oD) :: news) s₄) E' s₃
    else pick i j = none ∧ KeptS h₀ L m s ((J1,oJ1) :: (J0,oJ0) :: (C,oC) :: (D,oD) :: news) s₃) E' { s with heap := h,toks := tk })
  (hRR : ∀ D C h tk m',Fr h₀ L h m -> News h₀ L h ((D,lst (allPick pick its.length n)) :: news) -> (∀ p ∈ news,p.1 ≠ D) -> h.Ns C m' -> h₀.get? C = none -> C ≠ L -> C ≠ D -> (∀ p ∈ news,p.1 ≠ C) -> RR (.ref D) C (.ok .next) { s with heap := h,toks := tk })
  (hs1 : ∀ e z,foldedSetIterable i1 e z = pure z) :
  wpAny (model prog w) A (newList []) (fun acc s₃ => wpAny (model prog w) A (newFunctionEnv scope env.globals cl [] env.qual none .none (some env)) (fun cenv s₄ =>
   codeAny (model prog w) A (.compStart (.ListComp elt [⟨.Name x px,i0,[],0⟩,⟨.Name y py,i1,[c],0⟩] scope pos) 0 (.ref J0) acc { cenv with scope := relabel scope env }) (RR acc cenv.locals) s₄) E s₃) E s := by
 refine (?f : Cln _) ?p ⟨?q,fun B k => ?r⟩
 case f => exact fun x _ => x
 case q =>
  refine wpAny_newObj_type (wpAny_newFunctionEnv hcell (by intro y hy; simp at hy) (fun h₁ hns₁ hsb₁ => ?_) hkind)
  dsimp only at hns₁ hsb₁ ⊢
  generalize hH2 : s.heap.push { cls := .type "list", dict := none, data := .seq ([] : List Value).toArray } = H2 at hns₁ hsb₁ ⊢
  have hC : H2.objs.size = s.heap.objs.size + 1 := by rw [← hH2,Heap.size_push]
  have hDC : s.heap.objs.size ≠ H2.objs.size := by rw [hC]; exact Nat.ne_of_lt (Nat.lt_succ_self _)
  have below : ∀ b,b < s.heap.objs.size -> b ≠ H2.objs.size ∧ b ≠ s.heap.objs.size := fun b hb => ⟨by rw [hC]; exact Nat.ne_of_lt (Nat.lt_succ_of_lt hb),Nat.ne_of_lt hb⟩
  have old : ∀ b o,s.heap.get? b = some o -> h₁.get? b = some o := fun b o e => hsb₁.extBut b o (below b (Heap.lt_size e)).1 (Heap.get?_push_of_some _ (hH2 ▸ Heap.get?_push_of_some _ e))
  have hacc : h₁.get? s.heap.objs.size = some (lst []) := hsb₁.extBut _ _ hDC (Heap.get?_push_of_some _ (hH2 ▸ Heap.get?_push_size _ rfl))
  have hJlt : J0 < s.heap.objs.size := by have st' : s.heap.get? J0 = some _ := hst; exact Heap.lt_size st'
  have fresh₀ : ∀ a,s.heap.objs.size <= a -> h₀.get? a = none := fun a ha => by
   cases e : h₀.get? a with
   | none => rfl
   | some o' => exact absurd (Heap.lt_size (F.keep a o' e)) (Nat.not_lt.mpr ha)
  generalize hDe : s.heap.objs.size = D at *
  generalize hCe : H2.objs.size = C at *
  have hD₀ : h₀.get? D = none := fresh₀ _ (Nat.le_refl _)
  have hC₀ : h₀.get? C = none := fresh₀ _ (by rw [hC]; exact Nat.le_succ _)
  have hLlt : L < D := hDe ▸ F.ns.lt
  have hDL : D ≠ L := Ne.symm (below L hLlt).2
  have hCL : C ≠ L := Ne.symm (below L hLlt).1
  have hCJ : J0 ≠ C := (below J0 hJlt).1
  have hDJ : J0 ≠ D := (below J0 hJlt).2
  have offC : ∀ p ∈ news,p.1 ≠ C := fun p hp => (below _ (hDe ▸ Heap.lt_size (N p hp).1)).1
  have offD : ∀ p ∈ news,p.1 ≠ D := fun p hp => (below _ (hDe ▸ Heap.lt_size (N p hp).1)).2
  have W := range_walks (prog := prog) (w := w) (A := A) (I := J0) hh 0 n
  have loop : ∀ s₃ : Shared,s₃ = { s with heap := h₁,toks := s.toks + ([] : List (Str × Value)).length } ->
    codeAny (model prog w) A (.compLoop (.ListComp elt [⟨.Name x px,i0,[],0⟩,⟨.Name y py,i1,[c],0⟩] scope pos) 0 (.ref J0) (.ref D) (compEnvC scope cl C env)) (RR (.ref D) C) s₃ := by
   rintro s₃ rfl
   refine loop_G0 (TwoI h₀ L m s J0 D C n its.length pick news) (hs1 _) ?_ (n + 1)
    (fun X kk => kk h₁ _ 0 _ rfl (Nat.zero_le _) rfl (range_iter_at hst (old _)) (F.keeps old) hns₁ fun p hp => ?_)
   ·intro k s' hI
    refine hI _ fun h' tk i m' e1 hi e2 hst' F' hn' N' => ?_
    subst e1 e2
    clear hI
    by_cases hlt : i < n
    ·refine W.item i _ _ _ hlt hst' fun v h₂ tk₂ hPv hst₂ hk₂ => ?_
     obtain ⟨t,rfl⟩ := hPv
     rw [Int.zero_add]
     have N₂ : News h₀ L h₂ ((D,lst (allPick pick its.length i)) :: news) := news_but N' hk₂ fun p hp => by
      rcases List.mem_cons.mp hp with rfl | hp
      ·exact Ne.symm hDJ
      ·exact hJn p hp
     have F₂ : Fr h₀ L h₂ m := fr_but F' hk₂ hJL hJ₀
     have hn₂ := hn'.at' fun o e => hk₂ _ o (by simpa using Ne.symm hCJ) e
     refine wpAny_of_eq rfl ?_
     refine wpAny_assign_Name (wpAny_storeName_local (lookup_relabel_local hx) hn₂ (fun h₃ hn₃ hs₃ => ?_) (by simp [compEnvC,relabel,hkind]))
     have st₃ : rit h₃ J0 n (i + 1) := range_iter_at hst₂ fun o e => hs₃.extBut _ _ hCJ e
     have N₃ : News h₀ L h₃ ((D,lst (allPick pick its.length i)) :: news) := fun p hp => by
      refine ⟨hs₃.extBut _ _ ?_ (N₂ p hp).1,(N₂ p hp).2⟩
      rcases List.mem_cons.mp hp with rfl | hp
      ·exact hDC
      ·exact offC p hp
     have F₃ : Fr h₀ L h₃ m := F₂.change hs₃ hCL hC₀
     obtain ⟨oC,heC,hoC⟩ := ns_obj hn₃
     obtain ⟨oJ,heJ⟩ : ∃ o,h₃.get? J0 = some o := ⟨_,st₃⟩
     refine wpAny_mono (src1 i t J0 oJ C oC D (lst (allPick pick its.length i)) _ h₃ _ _ hlt hoC (if_pos rfl) F₃ (fun p hp => ?_)) (fun xv s₄ h₄ => ?_) fun _ _ e => e
     ·rcases List.mem_cons.mp hp with rfl | hp
      ·exact ⟨heJ,Ne.symm hJL,hJ₀⟩
      rcases List.mem_cons.mp hp with rfl | hp
      ·exact ⟨heC,hCL,hC₀⟩
      ·exact N₃ p hp
     obtain ⟨rfl,h₄⟩ := h₄
     refine h₄ _ fun h₅ tk₅ e₅ F₅ N₅ => ?_
     subst e₅
     clear h₄
     have nJ := (N₅ (J0,oJ) (.head _)).1
     have nC := (N₅ (C,oC) (.tail _ (.head _))).1
     have nD : News h₀ L h₅ ((D,lst (allPick pick its.length i)) :: news) := fun p hp => N₅ p (.tail _ (.tail _ hp))
     have hl₅ : h₅.IsList ax its.toArray := ⟨lo,(nD _ (.tail _ hm)).1,hc,kk,hd⟩
     have st₅ : rit h₅ J0 n (i + 1) := by
      have e : oJ = _ := Option.some.inj (heJ.symm.trans st₃)
      exact nJ.trans (congrArg some e)
     refine wpAny_pyIter_list hl₅ ?_
     generalize hJ1 : h₅.objs.size = J1
     have up : ∀ b o, h₅.get? b = some o -> (h₅.push { cls := .type "list_iterator", data := .fields #[.ref ax, .int 0 0] }).get? b = some o := fun b o e => Heap.get?_push_of_some _ e
     have lt1 : ∀ b o,h₅.get? b = some o -> b ≠ J1 := fun b o e => hJ1 ▸ Nat.ne_of_lt (Heap.lt_size e)
     have J1L : J1 ≠ L := Ne.symm (hJ1 ▸ Nat.ne_of_lt F₅.ns.lt)
     have J1₀ : h₀.get? J1 = none := hJ1 ▸ next_is_new F₅
     have D1 : D ≠ J1 := lt1 _ _ (nD _ (.head _)).1
     have C1 : C ≠ J1 := lt1 _ _ nC
     have J01 : J0 ≠ J1 := lt1 _ _ nJ
     have off1 : ∀ p ∈ news,p.1 ≠ J1 := fun p hp => lt1 _ _ (nD _ (.tail _ hp)).1
     show codeAny (model prog w) A (.compStart _ 1 _ _ _) _ _
     have inner : ∀ s₃ : Shared, s₃ = { s with heap := h₅.push { cls := .type "list_iterator", data := .fields #[.ref ax, .int 0 0] }, toks := tk₅ } ->
       codeAny (model prog w) A (.compLoop (.ListComp elt [⟨.Name x px,i0,[],0⟩,⟨.Name y py,i1,[c],0⟩] scope pos) 1 (.ref J1) (.ref D) (compEnvC scope cl C env))
        (fun r s' => match r with
         | .ok _ => ∃ q,q < n + 1 - i ∧ TwoI h₀ L m s J0 D C n its.length pick news q s'
         | .error e => cameBackBy (model prog w) A (compEnvC scope cl C env) (notedBy (model prog w) A (compEnvC scope cl C env) fun e s' => RR (.ref D) C (.error e) s') e s') s₃ := by
      rintro s₃ rfl
      refine loop_G1 (TwoJ h₀ L m s J0 J1 ax D C n i its.length x t pick news) ?_ (its.length + 1)
       (fun X kk => kk _ _ 0 _ rfl (Nat.zero_le _) rfl ⟨_,hJ1 ▸ Heap.get?_push_size _ rfl,rfl,rfl⟩ (range_iter_at st₅ (up _)) (F₅.keeps up) ((hoC.ns nC).at' (up _)) (if_pos rfl) ?_)
      ·intro k s' hI
       refine hI _ fun h' tk j m' e1 hj e2 hit' st' F' hn' hx' N' => ?_
       subst e1 e2
       clear hI
       have hl' : h'.IsList ax its.toArray := ⟨lo,(N' _ (.tail _ hm)).1,hc,kk,hd⟩
       by_cases hjlt : j < its.length
       ·obtain ⟨v,hv⟩ : ∃ v,its[j]? = some v := ⟨its[j],by simp [hjlt]⟩
        refine wpAny_pyNext_list_item hit' hl' (by simpa using hv) fun h₂ hit₂ hs₂ => ?_
        have ne2 : ∀ p ∈ (D,lst (allPick pick its.length i ++ rowPick pick i j)) :: news,p.1 ≠ J1 := fun p hp => by
         rcases List.mem_cons.mp hp with rfl | hp
         ·exact D1
         ·exact off1 p hp
        have N₂ : News h₀ L h₂ ((D,lst (allPick pick its.length i ++ rowPick pick i j)) :: news) := fun p hp => ⟨hs₂.extBut _ _ (ne2 p hp) (N' p hp).1,(N' p hp).2⟩
        have F₂ : Fr h₀ L h₂ m := F'.change hs₂ J1L J1₀
        have st₂ : rit h₂ J0 n (i + 1) := range_iter_at st' fun o e => hs₂.extBut _ _ J01 e
        have hn₂ := hn'.at' fun o e => hs₂.extBut _ _ C1 e
        refine wpAny_of_eq rfl ?_
        refine wpAny_assign_Name (wpAny_storeName_local (lookup_relabel_local hy) hn₂ (fun h₃ hn₃ hs₃ => ?_) (by simp [compEnvC,relabel,hkind]))
        have st₃ : rit h₃ J0 n (i + 1) := range_iter_at st₂ fun o e => hs₃.extBut _ _ hCJ e
        have N₃ : News h₀ L h₃ ((D,lst (allPick pick its.length i ++ rowPick pick i j)) :: news) := fun p hp => by
         refine ⟨hs₃.extBut _ _ ?_ (N₂ p hp).1,(N₂ p hp).2⟩
         rcases List.mem_cons.mp hp with rfl | hp
         ·exact hDC
         ·exact offC p hp
        have F₃ : Fr h₀ L h₃ m := F₂.change hs₃ hCL hC₀
        have hit₃ : h₃.IsListIter J1 ax (j + 1) := by obtain ⟨o,e,q⟩ := hit₂; exact ⟨o,hs₃.extBut _ _ (Ne.symm C1) e,q⟩
        obtain ⟨oC₃,heC₃,hoC₃⟩ := ns_obj hn₃
        obtain ⟨oJ₃,heJ₃⟩ : ∃ o,h₃.get? J0 = some o := ⟨_,st₃⟩
        obtain ⟨oI₃,heI₃,qI₃⟩ := id hit₃
        have N4 : News h₀ L h₃ ((J1,oI₃) :: (J0,oJ₃) :: (C,oC₃) :: (D,lst (allPick pick its.length i ++ rowPick pick i j)) :: news) := fun p hp => by
         rcases List.mem_cons.mp hp with rfl | hp
         ·exact ⟨heI₃,J1L,J1₀⟩
         rcases List.mem_cons.mp hp with rfl | hp
         ·exact ⟨heJ₃,Ne.symm hJL,hJ₀⟩
         rcases List.mem_cons.mp hp with rfl | hp
         ·exact ⟨heC₃,hCL,hC₀⟩
         ·exact N₃ p hp
        have hx₃ : (if x = y then some v else m' x) = some (.int (i : Int) t) := (if_neg hxy).trans hx'
        have after : ∀ (h₅ : Heap) (tk₅ : Nat),Fr h₀ L h₅ m -> News h₀ L h₅ ((J1,oI₃) :: (J0,oJ₃) :: (C,oC₃) :: (D,lst (allPick pick its.length i ++ rowPick pick i j)) :: news) -> h₅.IsListIter J1 ax (j + 1) ∧ rit h₅ J0 n (i + 1) ∧ h₅.Ns C (fun z => if z = y then some v else m' z) := fun h₅ tk₅ F₅ N₅ => by
         refine ⟨⟨oI₃,(N₅ _ (.head _)).1,qI₃⟩,?_,hoC₃.ns (N₅ _ (.tail _ (.tail _ (.head _)))).1⟩
         have e : oJ₃ = _ := Option.some.inj (heJ₃.symm.trans st₃)
         exact ((N₅ _ (.tail _ (.head _))).1 : h₅.get? J0 = some oJ₃).trans (congrArg some e)
        refine wpAny_mono (turn i j t v J1 oI₃ J0 oJ₃ C oC₃ D _ _ h₃ _ _ hlt hv hoC₃ hx₃ (if_pos rfl) F₃ N4) (fun ok s₆ h₆ => ?_) fun _ _ e => e
        cases ok with
        | false =>
         rw [if_neg Bool.false_ne_true] at h₆ ⊢
         obtain ⟨hp,h₆⟩ := h₆
         refine h₆ _ fun h₅ tk₅ e₅ F₅ N₅ => ?_
         subst e₅
         clear h₆
         obtain ⟨a1,a2,a3⟩ := after h₅ tk₅ F₅ N₅
         refine ⟨its.length + 1 - (j + 1),fall_one hjlt,fun X kk => kk h₅ tk₅ (j + 1) _ rfl hjlt rfl a1 a2 F₅ a3 hx₃ ?_⟩
         rw [rowPick_succ,hp,Option.toList_none,List.append_nil]
         exact fun p hp => N₅ p (.tail _ (.tail _ (.tail _ hp)))
        | true =>
         rw [if_pos rfl] at h₆ ⊢
         refine wpAny_mono h₆ (fun z s₇ h₇ => ?_) fun _ _ e => e
         obtain ⟨hp,h₇⟩ := h₇
         refine h₇ _ fun h₅ tk₅ e₅ F₅ N₅ => ?_
         subst e₅
         clear h₇
         obtain ⟨a1,a2,a3⟩ := after h₅ tk₅ F₅ N₅
         have zD := (N₅ (D,lst (allPick pick its.length i ++ rowPick pick i j)) (.tail _ (.tail _ (.tail _ (.head _))))).1
         have b1 := allPick_len pick its.length i
         have b2 := rowPick_len pick i j
         have b3 : i * its.length <= n * its.length := Nat.mul_le_mul_right _ (Nat.le_of_lt hlt)
         refine append_at (hsz := by show (List.toArray _).size <= sizeLine; rw [List.size_toArray,List.length_append]; lia) zD fun h₈ hs₈ hD₈ => ?_
         refine ⟨its.length + 1 - (j + 1),fall_one hjlt,fun X kk => kk h₈ tk₅ (j + 1) _ rfl hjlt rfl ?_ (range_iter_at a2 fun o e => hs₈.extBut _ _ hDJ e) (F₅.change hs₈ hDL hD₀) (a3.sameBut hs₈ (Ne.symm hDC)) hx₃ ?_⟩
         ·obtain ⟨o,e,q⟩ := a1; exact ⟨o,hs₈.extBut _ _ (Ne.symm D1) e,q⟩
         ·rw [rowPick_succ,hp,Option.toList_some,← List.append_assoc]
          intro p hp
          rcases List.mem_cons.mp hp with rfl | hp
          ·exact ⟨hD₈.trans (congrArg some (lst_snoc _ z)),hDL,hD₀⟩
          ·have z' := N₅ p (.tail _ (.tail _ (.tail _ (.tail _ hp)))); exact ⟨hs₈.extBut _ _ (offD p hp) z'.1,z'.2⟩
       ·obtain rfl : j = its.length := Nat.le_antisymm hj (Nat.not_lt.mp hjlt)
        refine wpAny_pyNext_list_end hh hit' hl' (by simp) fun h₂ he => ?_
        refine ⟨n + 1 - (i + 1),fall_one hlt,fun X kk => kk h₂ _ (i + 1) _ rfl hlt rfl (range_iter_at st' fun o e => he _ _ J01 e) ?_ (hn'.at' fun o e => he _ _ C1 e) ?_⟩
        ·exact ⟨F'.ns.at' fun o e => he _ o (Ne.symm J1L) e,fun b o e => he b o (fun q => by rw [q,J1₀] at e; cases e) (F'.keep b o e),F'.above⟩
        ·rw [allPick_succ]
         intro p hp
         refine ⟨he _ _ ?_ (N' p hp).1,(N' p hp).2⟩
         rcases List.mem_cons.mp hp with rfl | hp
         ·exact D1
         ·exact off1 p hp
      ·intro p hp
       have z : News h₀ L h₅ ((D,lst (allPick pick its.length i)) :: news) := nD
       have e : allPick pick its.length i ++ rowPick pick i 0 = allPick pick its.length i := by simp [rowPick]
       rw [e] at hp
       exact ⟨up _ _ (z p hp).1,(z p hp).2⟩
     exact start_two1 (inner _ rfl) (wpAny_pyIter_listiter (l := ax) (i := 0) ⟨_,hJ1 ▸ Heap.get?_push_size _ rfl,rfl,rfl⟩ (inner _ rfl))
    ·obtain rfl : i = n := Nat.le_antisymm hi (Nat.not_lt.mp hlt)
     refine W.done _ _ _ hst' fun h₂ tk₂ hk₂ => ?_
     exact hRR _ _ h₂ tk₂ _ (fr_but F' hk₂ hJL hJ₀) (news_but N' hk₂ fun p hp => by
      rcases List.mem_cons.mp hp with rfl | hp
      ·exact Ne.symm hDJ
      ·exact hJn p hp) offD (hn'.at' fun o e => hk₂ _ o (by simpa using Ne.symm hCJ) e) hC₀ hCL (Ne.symm hDC) offC
   ·rcases List.mem_cons.mp hp with rfl | hp
    ·exact ⟨hacc,hDL,hD₀⟩
    ·exact ⟨old _ _ (N p hp).1,(N p hp).2⟩
  exact codeAny_compStart_list (loop _ rfl) (W.self 0 _ _ _ (range_iter_at hst (old _)) (loop _ rfl))
 case r => delta id stq_it stq_out; exact k
theorem two_G {elt i0 i1 c : Expr} {x y : Str} {px py : Pos} {scope : Scope} {cl : List (Str × Addr)} {pos : Pos} {n kk : Nat} {ax : Addr} {lo : Obj} {its : List Value} {news : List (Addr × Obj)} (pick : Nat -> Nat -> Option Value) {Q : Value -> Shared -> Prop}
  (hclos : closureFor scope env = pure cl) (hcell : ∀ z ∈ scope.names,z.2 ≠ .cell) (hkind : scope.kind = .function) (hnames : ∀ z ∈ scope.names,z.2 = .local -> scope.names.lookup z.1 = some .local)
  (hx : scope.names.lookup x = some .local) (hy : scope.names.lookup y = some .local) (hxy : x ≠ y) (hh : A.handled = none) (hm : (ax, lo) ∈ news) (hc : lo.cls = .type "list") (hd : lo.data = .seq its.toArray kk) (hsz : n * its.length + its.length <= sizeLine)
  (src0 : wpAny (model prog w) A (eval i0 env) (fun xv s₁ => ∃ r b t u v,xv = .ref r ∧ KeptS h₀ L m s news s₁ ∧ IsRange s₁.heap r 0 b 1 t u v ∧ Builtin.Range.small 0 b 1 = true ∧ Builtin.Range.rangeSize 0 b 1 = ((n : Nat) : Int)) E s)
  (src1 : ∀ (i : Nat) t J0 oJ0 C oC D oD m₂ h tk (E' : Value -> Shared -> Prop),i < n -> NsObj oC m₂ -> m₂ x = some (.int i t) -> Fr h₀ L h m -> News h₀ L h ((J0,oJ0) :: (C,oC) :: (D,oD) :: news) ->
   wpAny (model prog w) A (eval i1 (compEnvC scope cl C env)) (fun xv s' => xv = .ref ax ∧ KeptS h₀ L m s ((J0,oJ0) :: (C,oC) :: (D,oD) :: news) s') E' { s with heap := h,toks := tk })
  (turn : ∀ (i j : Nat) t v J1 oJ1 J0 oJ0 C oC D oD m₂ h tk (E' : Value -> Shared -> Prop),i < n -> its[j]? = some v -> NsObj oC m₂ -> m₂ x = some (.int i t) -> m₂ y = some v -> Fr h₀ L h m -> News h₀ L h ((J1,oJ1) :: (J0,oJ0) :: (C,oC) :: (D,oD) :: news) ->
   wpAny (model prog w) A (testsOf [c] (compEnvC scope cl C env)) (fun ok s₃ => if ok = true then wpAny (model prog w) A (eval elt (compEnvC scope cl C env)) (fun z s₄ => pick i j = some z ∧ KeptS h₀ L m s ((J1,oJ1) :: (J0,oJ0) :: (C,oC) :: (D,oD) :: news) s₄) E' s₃
    else pick i j = none ∧ KeptS h₀ L m s ((J1,oJ1) :: (J0,oJ0) :: (C,oC) :: (D,oD) :: news) s₃) E' { s with heap := h,toks := tk })
  (fin : ∀ D h tk,Fr h₀ L h m -> News h₀ L h ((D,lst (allPick pick its.length n)) :: news) -> (∀ p ∈ news,p.1 ≠ D) -> Q (.ref D) { s with heap := h,toks := tk })
  (hs0 : ∀ z,foldedSetIterable i0 env z = pure z := by intro _; rfl) (hs1 : ∀ e z,foldedSetIterable i1 e z = pure z := by intro _ _; rfl) :
  wpAny (model prog w) A (eval (.ListComp elt [⟨.Name x px,i0,[],0⟩,⟨.Name y py,i1,[c],0⟩] scope pos) env) Q E s := by
 rw [eval_ListComp]
 refine wpAny_comprehension_free (use := none) rfl hs0 hclos hkind hnames (wpAny_mono src0 (fun xv s₁ h₁ => ?_) fun _ _ e => e)
 obtain ⟨r,b,t,u,v,rfl,hK,hr,hsm,hn⟩ := h₁
 refine hK _ fun g1 tk1 e1 F N => ?_
 subst e1
 clear hK
 refine wpAny_pyIter_range hr hsm ?_
 have F1 := F.ns.lt
 refine block_two pick hcell hkind hx hy hxy hh hm hc hd hsz (F.keeps fun _ _ e => Heap.get?_push_of_some _ e) (N.grown fun _ _ e => Heap.get?_push_of_some _ e) (by show IsRangeIter _ _ _ _ _; rw [hn]; simpa using Heap.get?_push_size _ rfl)
  (Nat.ne_of_lt F.ns.lt) (next_is_new F) (fun p hp => Nat.ne_of_lt (Heap.lt_size (N p hp).1)) src1 turn ?_ hs1
 intro D C h tk m' F' N' offD hn' hC₀ hCL hCD offC
 refine ⟨m',hn',fun h'' hs'' => fin D h'' tk (F'.change hs'' hCL hC₀) (fun p hp => ?_) offD⟩
 refine ⟨hs''.extBut _ _ ?_ (N' p hp).1,(N' p hp).2⟩
 rcases List.mem_cons.mp hp with rfl | hp
 ·exact Ne.symm hCD
 ·exact offC p hp
end

noncomputable def nxtF (A : List Int) : Option (List Int) :=
 match A with
 | [] => none
 | [_] => none
 | a :: b :: r => if a = 2 then some (b :: r) else match r with | [] => none | _ :: _ => some ((a :: b :: r).dropLast)
noncomputable abbrev nxL (A : List Int) : List (List Int) := (nxtF A).toList
noncomputable def qAt (q : List (List Int)) : Nat -> List (List Int)
 | 0 => q
 | i + 1 => match qAt q i with
  | [] => []
  | A :: t => t ++ nxL A
theorem fifo_run {q : List (List Int)} : ∀ (l t : List (List Int)) (n : Nat),qAt q n = l ++ t -> (∀ j,j < l.length -> (qAt q (n + j)).head? = l[j]?) ∧ qAt q (n + l.length) = t ++ l.flatMap nxL
 | [],t,n,h => ⟨fun j hj => absurd hj (Nat.not_lt_zero _),by simpa using h⟩
 | a :: l,t,n,h => by
  have h1 : qAt q (n + 1) = l ++ (t ++ nxL a) := by
   show (match qAt q n with | [] => [] | A :: t => t ++ nxL A) = _
   rw [h]; simp
  obtain ⟨x,y⟩ := fifo_run l (t ++ nxL a) (n + 1) h1
  refine ⟨fun j hj => ?_,?_⟩
  ·cases j with
   | zero => show (qAt q n).head? = _; rw [h]; simp
   | succ j =>
    have := x j (by simpa using hj)
    rw [show n + (j + 1) = n + 1 + j by lia,this]; simp
  ·rw [List.length_cons,show n + (l.length + 1) = n + 1 + l.length by lia,y]
   simp
noncomputable def roundS (rows : List (List (List Int))) (k : Nat) : List (List Int) := rows.filterMap fun r => r[k]?
noncomputable def seqS (rows : List (List (List Int))) (k : Nat) : List (List Int) := (List.range k).flatMap (roundS rows)
theorem seqS_succ (rows : List (List (List Int))) (k : Nat) : seqS rows (k + 1) = seqS rows k ++ roundS rows k := by
 unfold seqS
 rw [List.range_succ,List.flatMap_append]
 simp
noncomputable def RowOk (r : List (List Int)) : Prop := ∀ k A,r[k]? = some A -> nxtF A = r[k + 1]?
theorem round_next : ∀ {rows : List (List (List Int))},(∀ r ∈ rows,RowOk r) -> ∀ k,(roundS rows k).flatMap nxL = roundS rows (k + 1)
 | [],_,k => rfl
 | r :: rows,h,k => by
  have ih := round_next (rows := rows) (fun x hx => h x (.tail _ hx)) k
  have hr := h r (.head _) k
  unfold roundS at ih ⊢
  cases e : r[k]? with
  | none =>
   have e2 : r[k + 1]? = none := by
    rw [List.getElem?_eq_none_iff] at e ⊢; lia
   rw [List.filterMap_cons_none (f := fun r => r[k]?) e,List.filterMap_cons_none (f := fun r => r[k + 1]?) e2,ih]
  | some A =>
   have hA := hr A e
   rw [List.filterMap_cons_some (f := fun r => r[k]?) e,List.flatMap_cons,ih]
   show (nxtF A).toList ++ _ = _
   rw [hA]
   cases e2 : r[k + 1]? with
   | none => rw [List.filterMap_cons_none (f := fun r => r[k + 1]?) e2]; rfl
   | some B => rw [List.filterMap_cons_some (f := fun r => r[k + 1]?) e2]; rfl
theorem seq_heads {rows : List (List (List Int))} (h : ∀ r ∈ rows,RowOk r) : ∀ k,qAt (roundS rows 0) (seqS rows k).length = roundS rows k ∧ ∀ i,i < (seqS rows k).length -> (qAt (roundS rows 0) i).head? = (seqS rows k)[i]?
 | 0 => ⟨rfl,fun i hi => absurd hi (by simp [seqS])⟩
 | k + 1 => by
  obtain ⟨x,y⟩ := seq_heads h k
  obtain ⟨u,v⟩ := fifo_run (roundS rows k) [] _ (by rw [x]; simp)
  rw [seqS_succ]
  refine ⟨?_,fun i hi => ?_⟩
  ·rw [List.length_append,v,List.nil_append,round_next h]
  ·by_cases hlt : i < (seqS rows k).length
   ·rw [y i hlt,List.getElem?_append_left hlt]
   ·have h2 : i - (seqS rows k).length < (roundS rows k).length := by rw [List.length_append] at hi; omega
    have := u _ h2
    rw [show (seqS rows k).length + (i - (seqS rows k).length) = i by omega] at this
    rw [this,List.getElem?_append_right (by omega)]
theorem q_turn {q : List (List Int)} {i : Nat} {A : List Int} (h : (qAt q i).head? = some A) : ∃ t,qAt q i = A :: t ∧ qAt q (i + 1) = t ++ nxL A := by
 cases e : qAt q i with
 | nil => rw [e] at h; cases h
 | cons a t =>
  rw [e] at h
  cases h
  refine ⟨t,rfl,?_⟩
  show (match qAt q i with | [] => [] | A :: t => t ++ nxL A) = _
  rw [e]
inductive Side (P : Value -> List Int -> Prop) : List Value -> List (List Int) -> Prop
 | nil : Side P [] []
 | cons {v A vs As} : P v A -> Side P vs As -> Side P (v :: vs) (A :: As)
theorem Side.append {P : Value -> List Int -> Prop} {vs us : List Value} {As Bs : List (List Int)} (h : Side P vs As) (g : Side P us Bs) : Side P (vs ++ us) (As ++ Bs) := by
 induction h with
 | nil => exact g
 | cons x _ ih => exact .cons x ih
theorem Side.len {P : Value -> List Int -> Prop} {vs : List Value} {As : List (List Int)} (h : Side P vs As) : vs.length = As.length := by
 induction h with
 | nil => rfl
 | cons _ _ ih => simp [ih]
theorem Side.get {P : Value -> List Int -> Prop} {vs : List Value} {As : List (List Int)} (h : Side P vs As) : ∀ {i : Nat} {v : Value},vs[i]? = some v -> ∃ A,As[i]? = some A ∧ P v A := by
 induction h with
 | nil => intro i v h; simp at h
 | cons x _ ih =>
  intro i v h
  cases i with
  | zero => simp at h; subst h; exact ⟨_,rfl,x⟩
  | succ i => simpa using ih (i := i) (v := v) (by simpa using h)
theorem Side.get_none {P : Value -> List Int -> Prop} {vs : List Value} {As : List (List Int)} (h : Side P vs As) {i : Nat} (hn : vs[i]? = none) : As[i]? = none := by
 rw [List.getElem?_eq_none_iff] at hn ⊢
 rw [← h.len]; exact hn
noncomputable def RowAt (rr : List (Addr × Obj)) (v : Value) (A : List Int) : Prop := ∃ d vs n,v = .ref d ∧ (d,W.listOf vs n) ∈ rr ∧ IntsAre vs.toList A
theorem rows_side {rr : List (Addr × Obj)} {ds : List Addr} {rs : List (List Int)} (h : RowsAre rr ds rs) : Side (RowAt rr) (ds.map Value.ref) rs := by
 induction h with
 | nil => exact .nil
 | cons hm hi _ ih => exact .cons ⟨_,_,_,rfl,hm,hi⟩ ih
noncomputable def pickOf (dss : List (List Addr)) (k j : Nat) : Option Value := (dss[j]?).bind fun ds => (ds.map Value.ref)[k]?
theorem row_side {rr : List (Addr × Obj)} (dss : List (List Addr)) : ∀ {rest : List (List Addr)} {rows : List (List (List Int))} {n : Nat},(∀ j,(dss[n + j]?) = rest[j]?) -> rest.length = rows.length -> (∀ (j : Nat) ds r,rest[j]? = some ds -> rows[j]? = some r -> RowsAre rr ds r) -> ∀ k,Side (RowAt rr) (((List.range rest.length).map (n + ·)).filterMap (pickOf dss k)) (roundS rows k)
 | [],[],n,_,_,_,k => .nil
 | [],_ :: _,_,_,hl,_,_ => by simp at hl
 | _ :: _,[],_,_,hl,_,_ => by simp at hl
 | ds :: rest,r :: rows,n,hd,hl,hr,k => by
  have h0 := hr 0 ds r rfl rfl
  have ih := row_side dss (rest := rest) (rows := rows) (n := n + 1) (fun j => by rw [show n + 1 + j = n + (j + 1) by lia,hd]; simp) (by simpa using hl) (fun j ds r h1 h2 => hr (j + 1) ds r (by simpa using h1) (by simpa using h2)) k
  have s := rows_side h0
  have e0 : dss[n]? = some ds := by simpa using hd 0
  have e : pickOf dss k n = (ds.map Value.ref)[k]? := by unfold pickOf; rw [e0]; rfl
  have sp : (List.range (ds :: rest).length).map (n + ·) = n :: (List.range rest.length).map (n + 1 + ·) := by
   rw [List.length_cons,List.range_succ_eq_map,List.map_cons,List.map_map]
   congr 1
   apply List.map_congr_left
   intro a _
   show n + (a + 1) = n + 1 + a
   lia
  rw [sp]
  unfold roundS at ih ⊢
  cases e1 : (ds.map Value.ref)[k]? with
  | none => rw [List.filterMap_cons_none (e.trans e1),List.filterMap_cons_none (f := fun r => r[k]?) (s.get_none e1)]; exact ih
  | some v =>
   obtain ⟨A,hA,hp⟩ := s.get e1
   rw [List.filterMap_cons_some (e.trans e1),List.filterMap_cons_some (f := fun r => r[k]?) hA]
   exact .cons hp ih
theorem all_side {rr : List (Addr × Obj)} {dss : List (List Addr)} {rows : List (List (List Int))} (hl : dss.length = rows.length) (hr : ∀ (j : Nat) ds r,dss[j]? = some ds -> rows[j]? = some r -> RowsAre rr ds r) : ∀ n,Side (RowAt rr) (allPick (pickOf dss) dss.length n) (seqS rows n)
 | 0 => .nil
 | n + 1 => by
  rw [allPick_succ,seqS_succ]
  refine (all_side hl hr n).append ?_
  have := row_side (rr := rr) dss (rest := dss) (rows := rows) (n := 0) (fun j => by rw [Nat.zero_add]) hl hr n
  unfold rowPick
  have e : (List.range dss.length).map (0 + ·) = List.range dss.length := by simp
  rw [e] at this
  exact this

section

local macro_rules | `(tactic| walk_at "subscriptTail Subscript Name Name Constant ref int") => `(tactic| (k_dflt (refine item_tupleT (News.isTup (by k_asm) (by k_mem)) (by decide) (by decide) (by rfl) (by rfl) ?_; k_whole)))
local macro_rules | `(tactic| walk_at "callWith ref") => `(tactic| (k_dflt (refine callWith_K (by k_asm) (by k_is) ?_; k_whole)))
set_option hygiene false in
local macro_rules | `(tactic| walk_at "execs cons") => `(tactic| ((with_reducible rename Fr _ (Env.locals _) _ _ => kF9); (with_reducible rename News _ (Env.locals _) _ _ => kN9); replace kF9 := fr_env kF9; replace kN9 := news_env kN9))
local macro_rules | `(tactic| walk_at "subscriptTail Name Name ref int") => `(tactic| (walk_at "my item"))
local macro_rules | `(tactic| walk_at "subscriptTail Name Constant ref int") => `(tactic| (walk_at "my item"))

section
local macro_rules | `(tactic| walk_at $s) => if ["CompEnd","CompSrc"].contains s.getString then `(tactic| refine stq_it $s ?_) else Lean.Macro.throwUnsupported
theorem law1 {w : World} {mg mb : Str -> Option Value} {mean : ExcName -> Option Value} {loose : List Str} {g : Heap} {L fa : Addr} {cd : Value} {o : Obj} {fd : FuncData}
  (ho : (hd.heap_39 w.params).lookup 192 = some o) (hfd : o.data = .func fd) (CH : CodeHd g 146 142) (B : Below callerA g [] g) (KX : (hd.heap_39 w.params).In g) (T : Top topProg loose mean mg mb g) {m : Str -> Option Value} {s : Shared} {Q : Flow -> Shared -> Prop} {R : Result -> Shared -> Prop} {l : Addr} {vs : List Value} {ns : List Int} (hl : g.IsList l vs.toArray) (hi : IntsAre vs ns) (hlen : ns.length <= 63)
  {o1 o2 o3 o4 o5 o6 : Obj} (c1 : o1.data = .cell none) (c2 : o2.data = .cell none) (c3 : o3.data = .cell none) (c4 : o4.data = .cell none) (c5 : o5.data = .cell none) (c6 : o6.data = .cell none)
  (hm : m = fun z => if z = Str.ofString "script" then some (.ref l) else none) (F : Fr g L s.heap m) (h142 : @LT.lt Nat _ 142 L)
  (N : News g L s.heap [(L + 1 + 1 + 1 + 1 + 1 + 1,o1),(L + 1 + 1 + 1 + 1 + 1,o2),(L + 1 + 1 + 1 + 1,o3),(L + 1 + 1 + 1,o4),(L + 1 + 1,o5),(L + 1,o6),(142,tabObj #[])])
  (rest : ∀ (H D : Addr) (n0 n1 n2 n3 n4 : Int) (fz : List (Addr × Obj)) (mR : Str -> Option Value) (h' : Heap) (tk' : Nat) (b0 : 0 <= n0 ∧ n0 < 9216) (b1 : 0 <= n1 ∧ n1 < 9216) (b2 : 0 <= n2 ∧ n2 < 9216) (b3 : 0 <= n3 ∧ n3 < 9216) (b4 : 0 <= n4 ∧ n4 < 9216) (hs : HostsAre fz H (labelsF 3 3 n0) (labelsF 3 3 n1) (labelsF 1 2 n2) (labelsF 1 2 n3) (labelsF 1 2 n4)) (hnm : NumsAre fz D n0 n1 n2 n3 n4) (hz : Seqs fz) (F : Fr g L h' (fun z => if z = Str.ofString "hosts" then some (.ref H) else if z = Str.ofString "numbers" then some (.ref D) else mR z)) (N : News g L h' (six L o1 o2 o3 o4 o5 o6 ((142, tabObj #[]) :: fz))), wpAny (model rw_xg0057_01.row.prog w) (callerA.deeper (envOfC fd.name fd.scope L fa cd)) (execs ((stmtsOf fd).drop 3) (envOfC fd.name fd.scope L fa cd)) Q (fun e s7 => wpAny (model rw_xg0057_01.row.prog w) (callerA.deeper (envOfC fd.name fd.scope L fa cd)) (leaving (envOfC fd.name fd.scope L fa cd) e) (fun _ s8 => R (.error e) s8) (fun e8 s8 => R (.error e8) s8) s7) { s with heap := h', toks := tk' }) : wpAny (model rw_xg0057_01.row.prog w) (callerA.deeper (envOfC fd.name fd.scope L fa cd)) (execs ((stmtsOf fd).drop 0) (envOfC fd.name fd.scope L fa cd)) Q (fun e s7 => wpAny (model rw_xg0057_01.row.prog w) (callerA.deeper (envOfC fd.name fd.scope L fa cd)) (leaving (envOfC fd.name fd.scope L fa cd) e) (fun _ s8 => R (.error e) s8) (fun e8 s8 => R (.error e8) s8) s7) s := by
 refine (?f : Cln _) ?p ⟨?q,fun B k => ?r⟩
 case f => exact fun x _ => x
 case q =>
  have key : rw_xg0057_01.row.prog = rw_xg0057_01.row.prog -> (hd.heap_39 w.params).In g -> (hd.heap_39 w.params).lookup 192 = some o -> wpAny (model rw_xg0057_01.row.prog w) (callerA.deeper (envOfC fd.name fd.scope L fa cd)) (execs ((stmtsOf fd).drop 0) (envOfC fd.name fd.scope L fa cd)) Q (fun e s7 => wpAny (model rw_xg0057_01.row.prog w) (callerA.deeper (envOfC fd.name fd.scope L fa cd)) (leaving (envOfC fd.name fd.scope L fa cd) e) (fun _ s8 => R (.error e) s8) (fun e8 s8 => R (.error e8) s8) s7) s := by
   clear KX ho
   k_fill
   intro _ KX ho
   have e9 := ho.symm.trans (show (hd.heap_39 w.params).lookup 192 = some _ from by k_is)
   cases e9
   cases hfd
   dsimp only [stmtsOf,List.drop]
   (try k_fold)
   subst hm
   refine cut_at 3 ?_
   dsimp only [List.take,List.drop]
   (k_steps; repeat' ((first | (refine stq_out "CompSrc" ?_; (k_here; k_dflt (first
  | (refine LCg.CompSrc.ledger (by rfl) (by k_asm) (by k_asm) (by k_mem) (by first | size_fits | exact Nat.le_of_ble_eq_true rfl) ?_; intro g'; lcg_lit)
  | (refine LCg.CompSrc.range (by rfl) (by k_asm) (by k_asm) (by assumption) (by first | decide | rfl) (by first | rfl | decide) (by first | size_fits | exact Nat.le_of_ble_eq_true rfl) ?_; intro g'; lcg_lit)))) | (refine stq_out "CompEnd" ?_; (k_dflt ((first | (with_reducible refine' cend1 (by with_reducible assumption) (by with_reducible assumption) ?co ?cs ?_) | (with_reducible refine' cend0 (by with_reducible assumption) (by with_reducible assumption) ?co ?cs ?_)); (case co => (simp only [LCg.Off3, and_true]; first | with_reducible assumption | (refine And.intro ⟨by k_ne, by k_ne, by k_ne⟩ ?_; with_reducible assumption) | walk_at "my off")); (case cs => lcg_src)))) | (refine stq_out "call ref" ?_; (k_here; (with_reducible show wpAny _ _ (call (Value.ref 125) [Value.ref _]) _ _ _); k_dflt (refine' use_numbers ?hl ?hi ?hlen ?k1 ?k2 ?k3 ?k4 ?k5 ?kK ?kd ?ku ?_); walk_at "my sides"; (case hl => assumption); (case hi => assumption); (case hlen => omega); intro D' n0 n1 n2 n3 n4 t0 t1 t2 t3 t4 h' tk' b0 b1 b2 b3 b4 F' N' l1; (try k_lt l1); (try dsimp only))) | (refine stq_out "call ref" ?_; (k_here; (with_reducible show wpAny _ _ (call (Value.ref 130) [Value.int _ _, Value.int _ _, Value.int _ _]) _ _ _); k_dflt (refine' use_labels ?hx ?hl ?hkd ?k1 ?k2 ?k3 ?k4 ?k5 ?kK ?kd ?ku ?_); walk_at "my sides"; (case hx => first | assumption | omega); (case hl => decide); (case hkd => decide); intro D' ys' h' tk' hi' F' N' l1; (try simp only [LCg.Off1, and_true] at l1); (try dsimp only))) | fail) <;> k_steps))
   dsimp only
   show wpAny _ _ _ _ _ _
   rename Fr _ _ _ _ => F9
   rename News _ _ _ _ => N9
   (refine (let gg : Prop := _; (?_ : gg)))
   refine' (fun (H D l0 l1 l2 l3 l4 : Addr) (k0 k1 k2 k3 k4 nh nd : Nat) (mR : Str -> Option Value) (v0 v1 v2 v3 v4 : List Value) (F8 : Fr g L _ (fun z => if z = Str.ofString "hosts" then some (.ref H) else if z = Str.ofString "numbers" then some (.ref D) else mR z)) (N8 : News g L _ (six L o1 o2 o3 o4 o5 o6 ((142, tabObj #[]) :: [(H, W.listOf #[.ref l0, .ref l1, .ref l2, .ref l3, .ref l4] nh), (D, W.listOf #[.int n0 t0, .int n1 t1, .int n2 t2, .int n3 t3, .int n4 t4] nd), (l0, W.listOf v0.toArray k0), (l1, W.listOf v1.toArray k1), (l2, W.listOf v2.toArray k2), (l3, W.listOf v3.toArray k3), (l4, W.listOf v4.toArray k4)]))) (i0 : IntsAre v0 (labelsF 3 3 n0)) (i1 : IntsAre v1 (labelsF 3 3 n1)) (i2 : IntsAre v2 (labelsF 1 2 n2)) (i3 : IntsAre v3 (labelsF 1 2 n3)) (i4 : IntsAre v4 (labelsF 1 2 n4)) => (?fin9 : gg)) _ _ _ _ _ _ _ _ _ _ _ _ _ _ _ _ _ _ _ _ (fr_has (fr_has F9 (Str.ofString "numbers") rfl) (Str.ofString "hosts") rfl) (cb_drop N9 ?dr) ?i0 ?i1 ?i2 ?i3 ?i4
   case dr => walk_at "my sub"
   case i0 => assumption
   case i1 => assumption
   case i2 => assumption
   case i3 => assumption
   case i4 => assumption
   exact @rest H D n0 n1 n2 n3 n4 _ mR _ _ b0 b1 b2 b3 b4 (fun G k => k l0 l1 l2 l3 l4 v0 v1 v2 v3 v4 nh k0 k1 k2 k3 k4 (by k_mem) (by k_mem) (by k_mem) (by k_mem) (by k_mem) (by k_mem) i0 i1 i2 i3 i4) (fun G k => k t0 t1 t2 t3 t4 nd (by k_mem))
    (.cons ⟨_,_,rfl⟩ (.cons ⟨_,_,rfl⟩ (.cons ⟨_,_,rfl⟩ (.cons ⟨_,_,rfl⟩ (.cons ⟨_,_,rfl⟩ (.cons ⟨_,_,rfl⟩ (.cons ⟨_,_,rfl⟩ .nil))))))) F8 N8
  exact key rfl KX ho
 case r => delta id stq_it stq_out; exact k
end

example {M : Model} {A : Around} {env : Env} {Q : Flow -> Shared -> Prop} {E : Value -> Shared -> Prop} {s : Shared} (h : Q .next s) : wpAny M A (execs [] env) Q E s := by first | (walk1; exact h) | exact wpAny_execs_nil h

section
noncomputable def wrF (A : List Int) (n : Int) : Str := writtenF (hostF A) (n.fdiv 3072)
theorem wr_len {A : List Int} {n : Int} (hn : 0 <= n ∧ n < 9216) (h : Dig A) (h1 : 1 <= A.length) (h5 : A.length <= 5) : (writtenF (hostF A) (n.fdiv 3072)).length <= 40 := by
 exact Nat.le_trans (written_len _ (manner_ok hn)) (by have := host_len h h1 h5; lia)
noncomputable def sepF (k : Int) : Str := Txt.item (Str.ofString " \n\t\x0d\n") k
noncomputable def textF (A0 A1 A2 A3 A4 : List Int) (n0 n1 n2 n3 n4 : Int) : Str := Str.ofString "" ++ wrF A0 n0 ++ sepF 0 ++ wrF A1 n1 ++ sepF 1 ++ wrF A2 n2 ++ sepF 2 ++ wrF A3 n3 ++ sepF 3 ++ wrF A4 n4 ++ sepF 4
set_option hygiene false in
local macro_rules | `(tactic| walk_at "binaryOp Add str str") => `(tactic| ((refine SBL.add (hsz := ?hsz) ?_); (case hsz => (rw [PySem.sizeLine_eq]; lia)); intro _ _ _))
noncomputable def textB (fd : FuncData) : List Stmt := bodyAt 4 (stmtsOf fd)
theorem wr_le {A : List Int} {n : Int} (hn : 0 <= n ∧ n < 9216) (h : Dig A) (h1 : 1 <= A.length) (h5 : A.length <= 5) : (wrF A n).length <= 40 := wr_len hn h h1 h5
theorem text_turn {w : World} {mg mb : Str -> Option Value} {mean : ExcName -> Option Value} {loose : List Str} {g : Heap} {L fa : Addr} {cd : Value} {o : Obj} {fd : FuncData}
  (ho : (hd.heap_39 w.params).lookup 192 = some o) (hfd : o.data = .func fd) (B : Below callerA g [] g) (KX : (hd.heap_39 w.params).In g) (T : Top topProg loose mean mg mb g) {s : Shared} {Q : Flow -> Shared -> Prop} {R : Result -> Shared -> Prop} {a : Int} {ta tX tn : Tok} {H D lA : Addr} {vsH vsD vA : List Value} {nH nD kA : Nat} {A : List Int} {n : Int} {X : Str} {zz : List (Addr × Obj)} {mR : Str -> Option Value}
  (ha : 0 <= a ∧ a < 5) (mH : (H,PySem.W.listOf vsH.toArray nH) ∈ zz) (mD : (D,PySem.W.listOf vsD.toArray nD) ∈ zz) (xH : vsH[a.toNat]? = some (.ref lA)) (xD : vsD[a.toNat]? = some (.int n tn)) (mA : (lA,PySem.W.listOf vA.toArray kA) ∈ zz) (iA : IntsAre vA A) (gA : Dig A) (lA1 : 1 <= A.length) (lA5 : A.length <= 5) (hn : 0 <= n ∧ n < 9216) (hX : X.length <= 300)
  (F : Fr g L s.heap (fun z => if z = Str.ofString "k" then some (.int a ta) else if z = Str.ofString "text" then some (.str X tX) else if z = Str.ofString "hosts" then some (.ref H) else if z = Str.ofString "numbers" then some (.ref D) else mR z)) (N : News g L s.heap zz)
  (rest : ∀ (t : Tok) (mR : Str -> Option Value) (h' : Heap) (tk' : Nat), Fr g L h' (fun z => if z = Str.ofString "text" then some (.str (X ++ wrF A n ++ sepF a) t) else if z = Str.ofString "hosts" then some (.ref H) else if z = Str.ofString "numbers" then some (.ref D) else mR z) -> News g L h' zz -> Q .next { s with heap := h', toks := tk' }) : wpAny (model rw_xg0057_01.row.prog w) (callerA.deeper (envOfC fd.name fd.scope L fa cd)) (execs (textB fd) (envOfC fd.name fd.scope L fa cd)) Q (fun e s7 => wpAny (model rw_xg0057_01.row.prog w) (callerA.deeper (envOfC fd.name fd.scope L fa cd)) (leaving (envOfC fd.name fd.scope L fa cd) e) (fun _ s8 => R (.error e) s8) (fun e8 s8 => R (.error e8) s8) s7) s := by
 refine (?f : Cln _) ?p ⟨?q,fun B k => ?r⟩
 case f => exact fun x _ => x
 case q =>
  have key : rw_xg0057_01.row.prog = rw_xg0057_01.row.prog -> (hd.heap_39 w.params).In g -> (hd.heap_39 w.params).lookup 192 = some o -> wpAny (model rw_xg0057_01.row.prog w) (callerA.deeper (envOfC fd.name fd.scope L fa cd)) (execs (textB fd) (envOfC fd.name fd.scope L fa cd)) Q (fun e s7 => wpAny (model rw_xg0057_01.row.prog w) (callerA.deeper (envOfC fd.name fd.scope L fa cd)) (leaving (envOfC fd.name fd.scope L fa cd) e) (fun _ s8 => R (.error e) s8) (fun e8 s8 => R (.error e8) s8) s7) s := by
   clear KX ho
   k_fill
   intro _ KX ho
   have e9 := ho.symm.trans (show (hd.heap_39 w.params).lookup 192 = some _ from by k_is)
   cases e9
   cases hfd
   simp only [textB,stmtsOf,bodyAt,forBody]
   (try k_fold)
   have y0 := host_len gA lA1 lA5
   have z0 := wr_len hn gA lA1 lA5
   have u0 := len_item (Str.ofString " \n\t\x0d\n") a
   unfold Dig at gA
   (k_steps; repeat' ((first | (refine stq_out "call ref" ?_; (k_here; (with_reducible show wpAny _ _ (call (Value.ref 140) [Value.str _ _, Value.int _ _]) _ _ _); k_dflt (refine' use_written ?hx ?hy ?k1 ?k2 ?k3 ?k4 ?k5 ?kK ?kd ?ku ?_); (case hx => exact Nat.le_trans (by assumption) (by decide)); (case hy => exact manner_ok (by assumption)); walk_at "my sides"; intro u2 h' tk' F' N'; (try dsimp only))) | (refine stq_out "call ref" ?_; (k_here; (with_reducible show wpAny _ _ (call (Value.ref 135) [Value.ref _]) _ _ _); k_dflt (refine' use_host ?hi ?hn ?hb ?hm ?k1 ?k2 ?k3 ?k4 ?k5 ?kK ?kd ?ku ?_); walk_at "my sides"; (case hm => k_mem); (case hi => assumption); (case hn => first | assumption | omega); (case hb => assumption); intro u2 h' tk' F' N'; (try dsimp only))) | fail) <;> k_steps))
   rename Fr _ _ _ _ => F9
   rename News _ _ _ _ => N9
   exact @rest _ _ _ _ (fr_has (fr_has (fr_has F9 (Str.ofString "numbers") rfl) (Str.ofString "hosts") rfl) (Str.ofString "text") rfl) N9
  exact key rfl KX ho
 case r => delta id stq_it stq_out; exact k
theorem mem_fz {L I : Addr} {oI o1 o2 o3 o4 o5 o6 oT x : Obj} {y T : Addr} {fz : List (Addr × Obj)} (h : (y,x) ∈ fz) : (y,x) ∈ (I,oI) :: six L o1 o2 o3 o4 o5 o6 ((T,oT) :: fz) := .tail _ (.tail _ (.tail _ (.tail _ (.tail _ (.tail _ (.tail _ (.tail _ h)))))))
theorem step_len {X : Str} {A : List Int} {n k : Int} {c : Nat} (h : X.length <= c) (w : (wrF A n).length <= 40) : (X ++ wrF A n ++ sepF k).length <= c + 41 := by
 rw [Str.length_append,Str.length_append]
 show X.length + (wrF A n).length + 1 <= c + 40 + 1
 exact Nat.add_le_add (Nat.add_le_add h w) (Nat.le_refl 1)
theorem hold_of1 {P : Prop} (h : Hold P) : P := h
local macro_rules | `(tactic| walk_at "RangeRest") => `(tactic| (refine hold_of1 ?_))
theorem law2 {w : World} {mg mb : Str -> Option Value} {mean : ExcName -> Option Value} {loose : List Str} {g : Heap} {L fa : Addr} {cd : Value} {o : Obj} {fd : FuncData}
  (ho : (hd.heap_39 w.params).lookup 192 = some o) (hfd : o.data = .func fd) (CH : CodeHd g 146 142) (B : Below callerA g [] g) (KX : (hd.heap_39 w.params).In g) (T : Top topProg loose mean mg mb g) {m : Str -> Option Value} {s : Shared} {Q : Flow -> Shared -> Prop} {R : Result -> Shared -> Prop} {o1 o2 o3 o4 o5 o6 : Obj} {ps : Array Value} {H D : Addr} {A0 A1 A2 A3 A4 : List Int} {n0 n1 n2 n3 n4 : Int} {fz : List (Addr × Obj)} {mR : Str -> Option Value} (b0 : 0 <= n0 ∧ n0 < 9216) (b1 : 0 <= n1 ∧ n1 < 9216) (b2 : 0 <= n2 ∧ n2 < 9216) (b3 : 0 <= n3 ∧ n3 < 9216) (b4 : 0 <= n4 ∧ n4 < 9216) (a0 : LongL A0) (a1 : LongL A1) (a2 : ShortL A2) (a3 : ShortL A3) (a4 : ShortL A4)
  (hs : HostsAre fz H A0 A1 A2 A3 A4) (hnm : NumsAre fz D n0 n1 n2 n3 n4) (F : Fr g L s.heap (fun z => if z = Str.ofString "hosts" then some (.ref H) else if z = Str.ofString "numbers" then some (.ref D) else mR z)) (N : News g L s.heap (six L o1 o2 o3 o4 o5 o6 ((142, tabObj #[]) :: fz)))
  (rest : ∀ (X : Str) (t : Tok) (mR : Str -> Option Value) (h' : Heap) (tk' : Nat) (hX : X = textF A0 A1 A2 A3 A4 n0 n1 n2 n3 n4) (hx : X.length <= 500) (F : Fr g L h' (fun z => if z = Str.ofString "text" then some (.str X t) else if z = Str.ofString "hosts" then some (.ref H) else mR z)) (N : News g L h' (six L o1 o2 o3 o4 o5 o6 ((142, tabObj #[]) :: fz))), wpAny (model rw_xg0057_01.row.prog w) (callerA.deeper (envOfC fd.name fd.scope L fa cd)) (execs ((stmtsOf fd).drop 5) (envOfC fd.name fd.scope L fa cd)) Q (fun e s7 => wpAny (model rw_xg0057_01.row.prog w) (callerA.deeper (envOfC fd.name fd.scope L fa cd)) (leaving (envOfC fd.name fd.scope L fa cd) e) (fun _ s8 => R (.error e) s8) (fun e8 s8 => R (.error e8) s8) s7) { s with heap := h', toks := tk' }) : wpAny (model rw_xg0057_01.row.prog w) (callerA.deeper (envOfC fd.name fd.scope L fa cd)) (execs ((stmtsOf fd).drop 3) (envOfC fd.name fd.scope L fa cd)) Q (fun e s7 => wpAny (model rw_xg0057_01.row.prog w) (callerA.deeper (envOfC fd.name fd.scope L fa cd)) (leaving (envOfC fd.name fd.scope L fa cd) e) (fun _ s8 => R (.error e) s8) (fun e8 s8 => R (.error e8) s8) s7) s := by
 refine (?f : Cln _) ?p ⟨?q,fun B k => ?r⟩
 case f => exact fun x _ => x
 case q =>
  have key : rw_xg0057_01.row.prog = rw_xg0057_01.row.prog -> (hd.heap_39 w.params).In g -> (hd.heap_39 w.params).lookup 192 = some o -> wpAny (model rw_xg0057_01.row.prog w) (callerA.deeper (envOfC fd.name fd.scope L fa cd)) (execs ((stmtsOf fd).drop 3) (envOfC fd.name fd.scope L fa cd)) Q (fun e s7 => wpAny (model rw_xg0057_01.row.prog w) (callerA.deeper (envOfC fd.name fd.scope L fa cd)) (leaving (envOfC fd.name fd.scope L fa cd) e) (fun _ s8 => R (.error e) s8) (fun e8 s8 => R (.error e8) s8) s7) s := by
   clear KX ho
   k_fill
   intro _ KX ho
   have e9 := ho.symm.trans (show (hd.heap_39 w.params).lookup 192 = some _ from by k_is)
   cases e9
   cases hfd
   dsimp only [stmtsOf,List.drop]
   (try k_fold)
   refine hs _ fun l0 l1 l2 l3 l4 v0 v1 v2 v3 v4 nh k0 k1 k2 k3 k4 hH m0 m1 m2 m3 m4 i0 i1 i2 i3 i4 => ?_
   refine hnm _ fun t0 t1' t2 t3 t4 nd hD => ?_
   have x0 := a0.1.2; have x1 := a1.1.2; have x2 := Nat.le_trans a2.1.2 (show 2 <= 5 by decide); have x3 := Nat.le_trans a3.1.2 (show 2 <= 5 by decide); have x4 := Nat.le_trans a4.1.2 (show 2 <= 5 by decide)
   have y0 : 1 <= A0.length := Nat.le_trans (by decide) a0.1.1
   have y1 : 1 <= A1.length := Nat.le_trans (by decide) a1.1.1
   refine cut_at 2 ?_
   dsimp only [List.take,List.drop]
   (k_steps; repeat' ((first | (refine stq_out "call ref" ?_; (k_here; (with_reducible show wpAny _ _ (call (Value.ref 140) [Value.str _ _, Value.int _ _]) _ _ _); k_dflt (refine' use_written ?hx ?hy ?k1 ?k2 ?k3 ?k4 ?k5 ?kK ?kd ?ku ?_); (case hx => exact Nat.le_trans (by assumption) (by decide)); (case hy => exact manner_ok (by assumption)); walk_at "my sides"; intro u2 h' tk' F' N'; (try dsimp only))) | (refine stq_out "call ref" ?_; (k_here; (with_reducible show wpAny _ _ (call (Value.ref 135) [Value.ref _]) _ _ _); k_dflt (refine' use_host ?hi ?hn ?hb ?hm ?k1 ?k2 ?k3 ?k4 ?k5 ?kK ?kd ?ku ?_); walk_at "my sides"; (case hm => k_mem); (case hi => assumption); (case hn => first | assumption | omega); (case hb => assumption); intro u2 h' tk' F' N'; (try dsimp only))) | fail) <;> k_steps))
   rename _ ∧ _ ∧ _ ∧ _ ∧ _ ∧ _ ∧ _ ∧ AllLt _ fz => l9
   have hI := ltNe (show AllLt _ (six L o1 o2 o3 o4 o5 o6 ((142,tabObj #[]) :: fz)) from l9)
   clear l9
   have q0 : (Str.ofString "").length <= 0 := by decide
   show RangeRest _ _ _ _ _ _ _ _ _ _ _ _ _ 5 0 _ _
   refine RangeRest.succ (fun t1 h1 tk1 F1 N1 => ?_)
   refine text_turn (a := 0 + ((0 : Nat) : Int)) (vsH := [.ref l0, .ref l1, .ref l2, .ref l3, .ref l4]) (vsD := [.int n0 t0, .int n1 t1', .int n2 t2, .int n3 t3, .int n4 t4]) ho rfl B KX T (by decide) (mem_fz hH) (mem_fz hD) rfl rfl (mem_fz m0) i0 a0.2 y0 x0 b0 (Nat.le_trans q0 (by decide)) (fr_has (fr_has (fr_has (fr_has (fr_env F1) (Str.ofString "numbers") rfl) (Str.ofString "hosts") rfl) (Str.ofString "text") rfl) (Str.ofString "k") rfl) (news_env N1) ?_
   clear F1 N1
   intro tX mR h' tk' F9 N9
   have q1 := step_len (k := 0 + ((0 : Nat) : Int)) q0 (wr_le b0 a0.2 y0 x0)
   refine UnrEnd.intro F9 N9 _ (fun p hp => hp) hI ?_
   clear F9 N9
   refine RangeRest.succ (fun t1 h1 tk1 F1 N1 => ?_)
   refine text_turn (a := 0 + ((1 : Nat) : Int)) (vsH := [.ref l0,.ref l1,.ref l2,.ref l3,.ref l4]) (vsD := [.int n0 t0,.int n1 t1',.int n2 t2,.int n3 t3,.int n4 t4]) ho rfl B KX T (by decide) (mem_fz hH) (mem_fz hD) rfl rfl (mem_fz m1) i1 a1.2 y1 x1 b1 (Nat.le_trans q1 (by decide)) (fr_env F1) (news_env N1) ?_
   clear F1 N1
   intro tX mR h' tk' F9 N9
   have q2 := step_len (k := 0 + ((1 : Nat) : Int)) q1 (wr_le b1 a1.2 y1 x1)
   refine UnrEnd.intro F9 N9 _ (fun p hp => hp) hI ?_
   clear F9 N9
   refine RangeRest.succ (fun t1 h1 tk1 F1 N1 => ?_)
   refine text_turn (a := 0 + ((2 : Nat) : Int)) (vsH := [.ref l0,.ref l1,.ref l2,.ref l3,.ref l4]) (vsD := [.int n0 t0,.int n1 t1',.int n2 t2,.int n3 t3,.int n4 t4]) ho rfl B KX T (by decide) (mem_fz hH) (mem_fz hD) rfl rfl (mem_fz m2) i2 a2.2 a2.1.1 x2 b2 (Nat.le_trans q2 (by decide)) (fr_env F1) (news_env N1) ?_
   clear F1 N1
   intro tX mR h' tk' F9 N9
   have q3 := step_len (k := 0 + ((2 : Nat) : Int)) q2 (wr_le b2 a2.2 a2.1.1 x2)
   refine UnrEnd.intro F9 N9 _ (fun p hp => hp) hI ?_
   clear F9 N9
   refine RangeRest.succ (fun t1 h1 tk1 F1 N1 => ?_)
   refine text_turn (a := 0 + ((3 : Nat) : Int)) (vsH := [.ref l0,.ref l1,.ref l2,.ref l3,.ref l4]) (vsD := [.int n0 t0,.int n1 t1',.int n2 t2,.int n3 t3,.int n4 t4]) ho rfl B KX T (by decide) (mem_fz hH) (mem_fz hD) rfl rfl (mem_fz m3) i3 a3.2 a3.1.1 x3 b3 (Nat.le_trans q3 (by decide)) (fr_env F1) (news_env N1) ?_
   clear F1 N1
   intro tX mR h' tk' F9 N9
   have q4 := step_len (k := 0 + ((3 : Nat) : Int)) q3 (wr_le b3 a3.2 a3.1.1 x3)
   refine UnrEnd.intro F9 N9 _ (fun p hp => hp) hI ?_
   clear F9 N9
   refine RangeRest.succ (fun t1 h1 tk1 F1 N1 => ?_)
   refine text_turn (a := 0 + ((4 : Nat) : Int)) (vsH := [.ref l0,.ref l1,.ref l2,.ref l3,.ref l4]) (vsD := [.int n0 t0,.int n1 t1',.int n2 t2,.int n3 t3,.int n4 t4]) ho rfl B KX T (by decide) (mem_fz hH) (mem_fz hD) rfl rfl (mem_fz m4) i4 a4.2 a4.1.1 x4 b4 (Nat.le_trans q4 (by decide)) (fr_env F1) (news_env N1) ?_
   clear F1 N1
   intro tX mR h' tk' F9 N9
   have q5 := step_len (k := 0 + ((4 : Nat) : Int)) q4 (wr_le b4 a4.2 a4.1.1 x4)
   refine UnrEnd.intro F9 N9 _ (fun p hp => hp) hI ?_
   clear F9 N9
   refine RangeRest.zero (fun h1 tk1 F1 N1 => ?_)
   have F9 := fr_env F1
   have N9 := news_env N1
   clear F1 N1
   (k_steps; repeat' ((first | (refine stq_out "call ref" ?_; (k_here; (with_reducible show wpAny _ _ (call (Value.ref 140) [Value.str _ _, Value.int _ _]) _ _ _); k_dflt (refine' use_written ?hx ?hy ?k1 ?k2 ?k3 ?k4 ?k5 ?kK ?kd ?ku ?_); (case hx => exact Nat.le_trans (by assumption) (by decide)); (case hy => exact manner_ok (by assumption)); walk_at "my sides"; intro u2 h' tk' F' N'; (try dsimp only))) | (refine stq_out "call ref" ?_; (k_here; (with_reducible show wpAny _ _ (call (Value.ref 135) [Value.ref _]) _ _ _); k_dflt (refine' use_host ?hi ?hn ?hb ?hm ?k1 ?k2 ?k3 ?k4 ?k5 ?kK ?kd ?ku ?_); walk_at "my sides"; (case hm => k_mem); (case hi => assumption); (case hn => first | assumption | omega); (case hb => assumption); intro u2 h' tk' F' N'; (try dsimp only))) | fail) <;> k_steps))
   exact @rest _ _ _ _ _ rfl (Nat.le_trans q5 (by decide)) (fr_has (fr_has F9 (Str.ofString "hosts") rfl) (Str.ofString "text") rfl) N9
  exact key rfl KX ho
 case r => delta id stq_it stq_out; exact k
end

example {M : Model} {A : Around} {env : Env} {Q : Flow -> Shared -> Prop} {E : Value -> Shared -> Prop} {s : Shared} (h : Q .next s) : wpAny M A (execs [] env) Q E s := by first | (walk1; exact h) | exact wpAny_execs_nil h

theorem use_lexq {w : World} {mg : Str -> Option Value} {X : Str} {t : Tok} (hx : X.length <= 1000) {L0 : Addr} {o1 o2 o3 o4 o5 o6 : Obj} (c1 : o1.data = .cell none) (c2 : o2.data = .cell none) (c3 : o3.data = .cell none) (c4 : o4.data = .cell none) (c5 : o5.data = .cell none) (c6 : o6.data = .cell none) {fz : List (Addr × Obj)} (sz : Seqs fz) (h142 : @LT.lt Nat _ 142 L0)
  {mean : ExcName -> Option Value} {mb : Str -> Option Value} {loose : List Str}
  {dp un : Nat} {gd : Option (List Code)} {cn : Str} {cs : Scope} {a : Addr} {ccd : Value} {cl : List (Str × Addr)} {outer : List Env} {A₀ : Around} {base h₀ : Heap} {L : Addr} {m : Str -> Option Value} {s : Shared} {Q E : Value -> Shared -> Prop}
  (CH : CodeHd base 146 142) (B : Below A₀ base outer h₀) (F : Fr h₀ L s.heap m) (X_ : (hd.heap_39 w.params).In h₀) (N : News h₀ L s.heap (six L0 o1 o2 o3 o4 o5 o6 ((142,tabObj #[]) :: fz))) (T : Top topProg loose mean mg mb h₀) (hk : cs.kind = .function) (hd : dp + 3 < recursionLimit) (hu : un + 8 * 3 < cLine)
  (hret : ∀ (q : Lx w mg X) (tp tn : Tok) (ps : Array Value) (n2 : Nat) (h' : Heap) (tk' : Nat) (zz rs : List (Addr × Obj)),zz = q.news 0 tp 0 1 tn #[] 0 rs -> rs = (q.l2,W.listOf #[] n2) :: (142,tabObj ps) :: fz -> (∀ b ∈ rs,b.1 ≠ q.sp ∧ b.1 ≠ q.d ∧ b.1 ≠ q.l) -> (Off6 L0 (zz)) -> Fr h₀ L h' m -> News h₀ L h' (six L0 o1 o2 o3 o4 o5 o6 zz) -> Q (.ref q.xl) { s with heap := h',toks := tk' }) :
  wpAny (model rw_xg0057_01.row.prog w) (ktrTop dp un gd cn cs L a ccd cl outer) (call (.ref 147) [.str X t]) Q E s := by
 refine (?f : Cln _) ?p ⟨?q,fun B k => ?r⟩
 case f => exact fun x _ => x
 case q =>
  obtain ⟨y1,y2,y3,y4,y5,y6,y7⟩ := six_off c1 c2 c3 c4 c5 c6 N sz
  have hs : ∀ p ∈ six L0 o1 o2 o3 o4 o5 o6 fz,p.1 ≠ 142 := by
   refine List.forall_mem_cons.mpr ⟨?_,List.forall_mem_cons.mpr ⟨?_,List.forall_mem_cons.mpr ⟨?_,List.forall_mem_cons.mpr ⟨?_,List.forall_mem_cons.mpr ⟨?_,List.forall_mem_cons.mpr ⟨?_,y7⟩⟩⟩⟩⟩⟩
   ·show @Ne Nat _ 142; lia
   ·show @Ne Nat _ 142; lia
   ·show @Ne Nat _ 142; lia
   ·show @Ne Nat _ 142; lia
   ·show @Ne Nat _ 142; lia
   ·show @Ne Nat _ 142; lia
  refine ctr_lexer w mg X t (six L0 o1 o2 o3 o4 o5 o6 fz) hs hx mean mb loose dp un gd cn cs a ccd cl outer A₀ base h₀ L m s Q E CH B F X_ (cb_drop N (by walk_at "my sub")) T hk hd hu (fun r new h' tk' hpp F' N' => ?_)
  refine hpp _ fun q tp tn ps n2 ev hin hne hlt h2 h3 => ?_
  subst ev
  have dc := q.dec
  have dl := q.hl
  have e6 : @LT.lt Nat _ (L0 + 1 + 1 + 1 + 1 + 1 + 1) q.tc := hlt (L0 + 1 + 1 + 1 + 1 + 1 + 1,o1) (.head _)
  refine hret q tp tn ps n2 h' tk' _ ((q.l2,W.listOf #[] n2) :: (142,tabObj ps) :: fz) rfl rfl ?_ ?_ F' (cb_drop N' ?_)
  ·exact fun b hb => hne b ((show ∀ p ∈ (q.l2, W.listOf #[] n2) :: (142, tabObj ps) :: fz, p ∈ (q.l2, W.listOf #[] n2) :: (142, tabObj ps) :: six L0 o1 o2 o3 o4 o5 o6 fz by walk_at "my sub") b hb)
  ·refine ⟨?_,?_,?_,?_,?_,?_⟩
   ·exact ap_all (h := q.hds 0 tp 0 1 tn #[] 0) (q.above (by lia)) (List.forall_mem_cons.mpr ⟨(by show @Ne Nat _ _; lia),List.forall_mem_cons.mpr ⟨(by show @Ne Nat _ _; lia),y6⟩⟩)
   ·exact ap_all (h := q.hds 0 tp 0 1 tn #[] 0) (q.above (by lia)) (List.forall_mem_cons.mpr ⟨(by show @Ne Nat _ _; lia),List.forall_mem_cons.mpr ⟨(by show @Ne Nat _ _; lia),y5⟩⟩)
   ·exact ap_all (h := q.hds 0 tp 0 1 tn #[] 0) (q.above (by lia)) (List.forall_mem_cons.mpr ⟨(by show @Ne Nat _ _; lia),List.forall_mem_cons.mpr ⟨(by show @Ne Nat _ _; lia),y4⟩⟩)
   ·exact ap_all (h := q.hds 0 tp 0 1 tn #[] 0) (q.above (by lia)) (List.forall_mem_cons.mpr ⟨(by show @Ne Nat _ _; lia),List.forall_mem_cons.mpr ⟨(by show @Ne Nat _ _; lia),y3⟩⟩)
   ·exact ap_all (h := q.hds 0 tp 0 1 tn #[] 0) (q.above (by lia)) (List.forall_mem_cons.mpr ⟨(by show @Ne Nat _ _; lia),List.forall_mem_cons.mpr ⟨(by show @Ne Nat _ _; lia),y2⟩⟩)
   ·exact ap_all (h := q.hds 0 tp 0 1 tn #[] 0) (q.above (by lia)) (List.forall_mem_cons.mpr ⟨(by show @Ne Nat _ _; lia),List.forall_mem_cons.mpr ⟨(by show @Ne Nat _ _; lia),y1⟩⟩)
  ·exact fun y hy => hin y (ap_mix (a := [(L0 + 1 + 1 + 1 + 1 + 1 + 1,o1),(L0 + 1 + 1 + 1 + 1 + 1,o2),(L0 + 1 + 1 + 1 + 1,o3),(L0 + 1 + 1 + 1,o4),(L0 + 1 + 1,o5),(L0 + 1,o6)]) (h := q.hds 0 tp 0 1 tn #[] 0) (t := [(q.l2,W.listOf #[] n2),(142,tabObj ps)]) y hy)
 case r => delta id stq_it stq_out; (conv => zeta); exact k
theorem law3a {w : World} {mg mb : Str -> Option Value} {mean : ExcName -> Option Value} {loose : List Str} {g : Heap} {L fa : Addr} {cd : Value} {o : Obj} {fd : FuncData}
  (ho : (hd.heap_39 w.params).lookup 192 = some o) (hfd : o.data = .func fd) (CH : CodeHd g 146 142) (B : Below callerA g [] g) (KX : (hd.heap_39 w.params).In g) (T : Top topProg loose mean mg mb g) {m : Str -> Option Value} {s : Shared} {Q : Flow -> Shared -> Prop} {R : Result -> Shared -> Prop} {o1 o2 o3 o4 o5 o6 : Obj} (c1 : o1.data = .cell none) (c2 : o2.data = .cell none) (c3 : o3.data = .cell none) (c4 : o4.data = .cell none) (c5 : o5.data = .cell none) (c6 : o6.data = .cell none) {X : Str} {t : Tok} {H : Addr} {fz : List (Addr × Obj)} {mR : Str -> Option Value} (hx : X.length <= 500) (sz : Seqs fz) (h142 : @LT.lt Nat _ 142 L)
  (F : Fr g L s.heap (fun z => if z = Str.ofString "text" then some (.str X t) else if z = Str.ofString "hosts" then some (.ref H) else mR z)) (N : News g L s.heap (six L o1 o2 o3 o4 o5 o6 ((142, tabObj #[]) :: fz)))
  (rest : ∀ (q : Lx w mg X) (tp tn : Tok) (ps : Array Value) (n2 : Nat) (zz rs : List (Addr × Obj)) (o6 : Obj) (mR : Str -> Option Value) (h' : Heap) (tk' : Nat) (hz : zz = q.news 0 tp 0 1 tn #[] 0 rs) (hrs : rs = (q.l2, W.listOf #[] n2) :: (142, tabObj ps) :: fz) (hrest : ∀ b ∈ rs, b.1 ≠ q.sp ∧ b.1 ≠ q.d ∧ b.1 ≠ q.l) (z : Off6 L (zz)) (c6 : o6.data = .cell (some (.ref q.xl))) (F : Fr g L h' (fun z => if z = Str.ofString "hosts" then some (.ref H) else mR z)) (N : News g L h' (six L o1 o2 o3 o4 o5 o6 zz)), wpAny (model rw_xg0057_01.row.prog w) (callerA.deeper (envOfC fd.name fd.scope L fa cd)) (execs ((stmtsOf fd).drop 6) (envOfC fd.name fd.scope L fa cd)) Q (fun e s7 => wpAny (model rw_xg0057_01.row.prog w) (callerA.deeper (envOfC fd.name fd.scope L fa cd)) (leaving (envOfC fd.name fd.scope L fa cd) e) (fun _ s8 => R (.error e) s8) (fun e8 s8 => R (.error e8) s8) s7) { s with heap := h', toks := tk' }) : wpAny (model rw_xg0057_01.row.prog w) (callerA.deeper (envOfC fd.name fd.scope L fa cd)) (execs ((stmtsOf fd).drop 5) (envOfC fd.name fd.scope L fa cd)) Q (fun e s7 => wpAny (model rw_xg0057_01.row.prog w) (callerA.deeper (envOfC fd.name fd.scope L fa cd)) (leaving (envOfC fd.name fd.scope L fa cd) e) (fun _ s8 => R (.error e) s8) (fun e8 s8 => R (.error e8) s8) s7) s := by
 refine (?f : Cln _) ?p ⟨?q,fun B k => ?r⟩
 case f => exact fun x _ => x
 case q =>
  have key : rw_xg0057_01.row.prog = rw_xg0057_01.row.prog -> (hd.heap_39 w.params).In g -> (hd.heap_39 w.params).lookup 192 = some o -> wpAny (model rw_xg0057_01.row.prog w) (callerA.deeper (envOfC fd.name fd.scope L fa cd)) (execs ((stmtsOf fd).drop 5) (envOfC fd.name fd.scope L fa cd)) Q (fun e s7 => wpAny (model rw_xg0057_01.row.prog w) (callerA.deeper (envOfC fd.name fd.scope L fa cd)) (leaving (envOfC fd.name fd.scope L fa cd) e) (fun _ s8 => R (.error e) s8) (fun e8 s8 => R (.error e8) s8) s7) s := by
   clear KX ho
   k_fill
   intro _ KX ho
   have e9 := ho.symm.trans (show (hd.heap_39 w.params).lookup 192 = some _ from by k_is)
   cases e9
   cases hfd
   dsimp only [stmtsOf,List.drop]
   (try k_fold)
   refine cut_at 1 ?_
   dsimp only [List.take,List.drop]
   (k_steps; repeat' ((first | (refine stq_out "call ref" ?_; (k_here; (with_reducible show wpAny _ _ (call (Value.ref 147) [Value.str _ _]) _ _ _); k_dflt (refine' use_lexq ?hx c1 c2 c3 c4 c5 c6 sz h142 ?k0 ?k1 ?k2 ?k3 ?k4 ?k5 ?kK ?kd ?ku ?_); (case hx => lia); (case k0 => assumption); walk_at "my sides"; intro q tp tn ps n2 h' tk' zz rs hz hrs hrest ⟨z1, z2, z3, z4, z5, z6⟩ F' N'; (try dsimp only))) | fail) <;> k_steps))
   dsimp only
   show wpAny _ _ _ _ _ _
   rename Fr _ _ _ _ => F9
   rename News _ _ _ _ => N9
   exact @rest q tp tn ps n2 zz rs _ _ _ _ hz hrs hrest ⟨z1, z2, z3, z4, z5, z6⟩ (by assumption) (fr_has F9 (Str.ofString "hosts") rfl) N9
  exact key rfl KX ho
 case r => delta id stq_it stq_out; exact k
section

local macro_rules | `(tactic| walk_at "my r") => `(tactic| with_reducible first | exact r6 (by assumption) | exact r7 (by assumption) | exact r8 (by assumption) | exact r9 (by assumption) | exact r5 (by assumption))
local macro_rules | `(tactic| k_all) => `(tactic| first | exact offNe (r6 (by with_reducible assumption)) | exact offNe (by with_reducible assumption) | exact off3a (by walk_at "my r") | exact off3b (by walk_at "my r") | exact off3c (by walk_at "my r"))
local macro_rules | `(tactic| walk_at "my spl") => `(tactic| first | (refine' Spl.cons ?h9; (case h9 => walk_at "my spl")) | exact Spl.nil)
set_option hygiene false in
local macro_rules | `(tactic| k_mem) => `(tactic| first | assumption | exact Lx.mem_r (by with_reducible assumption) (by with_reducible assumption) | exact List.mem_cons_self .. | (refine List.mem_cons_of_mem _ ?_; k_mem))
set_option hygiene false in
local macro_rules | `(tactic| k_all) => `(tactic| (refine tr' _ ?_; k_all))
set_option hygiene false in
local macro_rules | `(tactic| walk_at "callWith ref") => `(tactic| (k_dflt (refine @callWith_K0 _ _ _ _ _ _ _ _ _ _ (by k_in) (by k_is) ?_; k_whole); (try dsimp only [List.cons_append, List.nil_append])))

section
local macro_rules | `(tactic| walk_at $s) => if ["CompEnd","CompSrc"].contains s.getString then `(tactic| refine stq_it $s ?_) else Lean.Macro.throwUnsupported
theorem words_end {w : World} {mg : Str -> Option Value} {X : Str} {q : Lx w mg X} {g h : Heap} {L L0 W : Addr} {o1 o2 o3 o4 o5 o6 lo : Obj} {p n : Int} {tp tn : Tok} {nn nl : Nat} {its : Array Value} {zz rs : List (Addr × Obj)} {G : Prop} (N : News g L h ((W,lo) :: six L0 o1 o2 o3 o4 o5 o6 zz)) (hz : zz = q.news p tp nn n tn its nl rs) (hw : ∀ b ∈ zz,b.1 ≠ W) (hr : ∀ b ∈ rs,b.1 ≠ q.sp ∧ b.1 ≠ q.d ∧ b.1 ≠ q.l)
  (y : W ≠ L0 + 1 ∧ W ≠ L0 + 1 + 1 ∧ W ≠ L0 + 1 + 1 + 1 ∧ W ≠ L0 + 1 + 1 + 1 + 1 ∧ W ≠ L0 + 1 + 1 + 1 + 1 + 1 ∧ W ≠ L0 + 1 + 1 + 1 + 1 + 1 + 1) (z : Off6 L0 zz)
  (k : (∀ b ∈ (W,lo) :: rs,b.1 ≠ q.sp ∧ b.1 ≠ q.d ∧ b.1 ≠ q.l) -> Off6 L0 (q.news p tp nn n tn its nl ((W,lo) :: rs)) -> News g L h (six L0 o1 o2 o3 o4 o5 o6 (q.news p tp nn n tn its nl ((W,lo) :: rs))) -> G) : G := by
 obtain ⟨hr8,hy8⟩ := Lx.push hz lo hw hr
 subst hz
 exact k hr8 ⟨push_off hy8 y.1 z.1,push_off hy8 y.2.1 z.2.1,push_off hy8 y.2.2.1 z.2.2.1,push_off hy8 y.2.2.2.1 z.2.2.2.1,push_off hy8 y.2.2.2.2.1 z.2.2.2.2.1,push_off hy8 y.2.2.2.2.2 z.2.2.2.2.2⟩ (cb_drop N (ap_up (a := [(L0 + 1 + 1 + 1 + 1 + 1 + 1,o1),(L0 + 1 + 1 + 1 + 1 + 1,o2),(L0 + 1 + 1 + 1 + 1,o3),(L0 + 1 + 1 + 1,o4),(L0 + 1 + 1,o5),(L0 + 1,o6)]) (h := q.hds p tp nn n tn its nl)))
theorem law3b {w : World} {mg mb : Str -> Option Value} {mean : ExcName -> Option Value} {loose : List Str} {g : Heap} {L fa : Addr} {cd : Value} {o : Obj} {fd : FuncData}
  (ho : (hd.heap_39 w.params).lookup 192 = some o) (hfd : o.data = .func fd) (CH : CodeHd g 146 142) (B : Below callerA g [] g) (KX : (hd.heap_39 w.params).In g) (T : Top topProg loose mean mg mb g) {m : Str -> Option Value} {s : Shared} {Q : Flow -> Shared -> Prop} {R : Result -> Shared -> Prop} {o1 o2 o3 o4 o5 o6 : Obj} {X : Str} {H : Addr} {A0 A1 A2 A3 A4 : List Int} {p1 p2 p3 p4 p5 p6 : Nat} {n1 n2 n3 n4 n5 : Int} (s0 : scanO X 100 0 1 = some (hostF A0, p1, n1)) (s1 : scanO X 100 p1 n1 = some (hostF A1, p2, n2)) (s2 : scanO X 100 p2 n2 = some (hostF A2, p3, n3)) (s3 : scanO X 100 p3 n3 = some (hostF A3, p4, n4)) (s4 : scanO X 100 p4 n4 = some (hostF A4, p5, n5)) (s5 : scanO X 100 p5 n5 = some (Str.ofString "", p6, 3)) (bp : p1 <= 1000 ∧ p2 <= 1000 ∧ p3 <= 1000 ∧ p4 <= 1000 ∧ p5 <= 1000) (bn : (0 <= n1 ∧ n1 <= 20) ∧ (0 <= n2 ∧ n2 <= 20) ∧ (0 <= n3 ∧ n3 <= 20) ∧ (0 <= n4 ∧ n4 <= 20) ∧ (0 <= n5 ∧ n5 <= 20)) {q : Lx w mg X} {tp tn : Tok} {zz rs : List (Addr × Obj)} {mR : Str -> Option Value}
  (hz0 : zz = q.news ((0 : Nat) : Int) tp 0 1 tn #[] 0 rs) (hrest : ∀ b ∈ rs,b.1 ≠ q.sp ∧ b.1 ≠ q.d ∧ b.1 ≠ q.l) (hs : HostsAre rs H A0 A1 A2 A3 A4) (z : Off6 L (zz)) (c6 : o6.data = .cell (some (.ref q.xl)))
  (F : Fr g L s.heap (fun z => if z = Str.ofString "hosts" then some (.ref H) else mR z)) (N : News g L s.heap (six L o1 o2 o3 o4 o5 o6 zz))
  (rest : ∀ (W : Addr) (zz2 : List (Addr × Obj)) (tp2 tn2 : Tok) (nn2 nl2 : Nat) (u0 u1 u2 u3 u4 : Tok) (mR : Str -> Option Value) (h' : Heap) (tk' : Nat) (hz : zz2 = q.news (p5 : Int) tp2 nn2 n5 tn2 #[] nl2 ((W, LCg.lst [.str (hostF A0) u0, .str (hostF A1) u1, .str (hostF A2) u2, .str (hostF A3) u3, .str (hostF A4) u4]) :: rs)) (hrest : ∀ b ∈ (W, LCg.lst [.str (hostF A0) u0, .str (hostF A1) u1, .str (hostF A2) u2, .str (hostF A3) u3, .str (hostF A4) u4]) :: rs, b.1 ≠ q.sp ∧ b.1 ≠ q.d ∧ b.1 ≠ q.l) (z : Off6 L (zz2)) (F : Fr g L h' (fun z => if z = Str.ofString "words" then some (.ref W) else if z = Str.ofString "hosts" then some (.ref H) else mR z)) (N : News g L h' (six L o1 o2 o3 o4 o5 o6 zz2)), wpAny (model rw_xg0057_01.row.prog w) (callerA.deeper (envOfC fd.name fd.scope L fa cd)) (execs ((stmtsOf fd).drop 7) (envOfC fd.name fd.scope L fa cd)) Q (fun e s7 => wpAny (model rw_xg0057_01.row.prog w) (callerA.deeper (envOfC fd.name fd.scope L fa cd)) (leaving (envOfC fd.name fd.scope L fa cd) e) (fun _ s8 => R (.error e) s8) (fun e8 s8 => R (.error e8) s8) s7) { s with heap := h', toks := tk' }) : wpAny (model rw_xg0057_01.row.prog w) (callerA.deeper (envOfC fd.name fd.scope L fa cd)) (execs ((stmtsOf fd).drop 6) (envOfC fd.name fd.scope L fa cd)) Q (fun e s7 => wpAny (model rw_xg0057_01.row.prog w) (callerA.deeper (envOfC fd.name fd.scope L fa cd)) (leaving (envOfC fd.name fd.scope L fa cd) e) (fun _ s8 => R (.error e) s8) (fun e8 s8 => R (.error e8) s8) s7) s := by
 refine (?f : Cln _) ?p ⟨?q,fun B k => ?r⟩
 case f => exact fun x _ => x
 case q =>
  have key : rw_xg0057_01.row.prog = rw_xg0057_01.row.prog -> (hd.heap_39 w.params).In g -> (hd.heap_39 w.params).lookup 192 = some o -> wpAny (model rw_xg0057_01.row.prog w) (callerA.deeper (envOfC fd.name fd.scope L fa cd)) (execs ((stmtsOf fd).drop 6) (envOfC fd.name fd.scope L fa cd)) Q (fun e s7 => wpAny (model rw_xg0057_01.row.prog w) (callerA.deeper (envOfC fd.name fd.scope L fa cd)) (leaving (envOfC fd.name fd.scope L fa cd) e) (fun _ s8 => R (.error e) s8) (fun e8 s8 => R (.error e8) s8) s7) s := by
   clear KX ho
   k_fill
   intro _ KX ho
   have e9 := ho.symm.trans (show (hd.heap_39 w.params).lookup 192 = some _ from by k_is)
   cases e9
   cases hfd
   dsimp only [stmtsOf,List.drop]
   (try k_fold)
   refine hs _ fun l0 l1 l2 l3 l4 v0 v1 v2 v3 v4 nh k0 k1 k2 k3 k4 hH m0 m1 m2 m3 m4 i0 i1 i2 i3 i4 => ?_
   have hrest2 : ∀ b ∈ rs,b.1 ≠ q.sp ∧ b.1 ≠ q.d := fun b hb => ⟨(hrest b hb).1,(hrest b hb).2.1⟩
   have mx0 := Lx.mem_x hz0
   have md0 := Lx.mem_d hz0
   have z1 := z.1
   have z2 := z.2.1
   have z3 := z.2.2.1
   have z4 := z.2.2.2.1
   have z5 := z.2.2.2.2.1
   have z6 := z.2.2.2.2.2
   refine cut_at 1 ?_
   dsimp only [List.take,List.drop]
   (k_steps; repeat' ((first | (refine stq_out "call ref" ?_; (k_here; (with_reducible show wpAny _ _ (call (Value.ref 106) [Value.ref _]) _ _ _); k_dflt (refine' use_gtq q ?hR ?hp ?hn ?hsp ?hz ?hoff ?hrest ?hb ?k0 ?k1 ?k2 ?k3 ?k4 ?k5 ?kK ?kd ?ku ?_); (case k0 => assumption); walk_at "my sides"; (case hsp => walk_at "my spl"); (case hz => assumption); (case hR => assumption); (case hp => lia); (case hn => lia); (case hrest => assumption); (case hb => first | exact tr' | exact fun _ k => k); (case hoff => (repeat (refine List.forall_mem_cons.mpr ⟨by (dsimp only; k_all), ?_⟩)); exact List.forall_mem_nil _); intro tv' tp' nn' tn' h' tk' zz' hz' mx' md' tr' t3' F' N'; (try simp only [List.cons_append, List.nil_append] at N'); (try dsimp only at hz' md'); (try dsimp only))) | (refine stq_out "CompEnd" ?_; (k_dflt (refine' cend0 (by with_reducible assumption) (by first | with_reducible assumption | assumption) ?co ?cs ?_; (case co => (simp only [LCg.Off3, and_true]; first | exact c6off off' (t3' _ _ _) | exact c6off (by with_reducible assumption) (t3' _ _ _))); (case cs => lcg_src)))) | (refine stq_out "CompSrc" ?_; (k_here; k_dflt (first
  | (refine LCg.CompSrc.ledger (by rfl) (by k_asm) (by k_asm) (by k_mem) (by first | size_fits | exact Nat.le_of_ble_eq_true rfl) ?_; intro g'; lcg_lit)
  | (refine LCg.CompSrc.range (by rfl) (by k_asm) (by k_asm) (by assumption) (by first | decide | rfl) (by first | rfl | decide) (by first | size_fits | exact Nat.le_of_ble_eq_true rfl) ?_; intro g'; lcg_lit)))) | fail) <;> k_steps))
   dsimp only
   show wpAny _ _ _ _ _ _
   rename Fr _ _ _ _ => F9
   rename News _ _ _ _ => N9
   refine words_end N9 hz' ?hw hrest ?y9 ⟨tr' _ z1, tr' _ z2, tr' _ z3, tr' _ z4, tr' _ z5, tr' _ z6⟩ fun hr8 z8 N8 => rest _ _ _ _ _ _ _ _ _ _ _ _ _ _ rfl hr8 z8 (fr_has (fr_has F9 (Str.ofString "hosts") rfl) (Str.ofString "words") rfl) N8
   case hw => first | exact offNe (r6 (by with_reducible assumption)) | exact offNe (by with_reducible assumption) | k_all
   case y9 => exact ⟨by k_ne,by k_ne,by k_ne,by k_ne,by k_ne,by k_ne⟩
  exact key rfl KX ho
 case r => delta id stq_it stq_out; exact k
end

example {M : Model} {A : Around} {env : Env} {Q : Flow -> Shared -> Prop} {E : Value -> Shared -> Prop} {s : Shared} (h : Q .next s) : wpAny M A (execs [] env) Q E s := by first | (walk1; exact h) | exact wpAny_execs_nil h

section
local macro_rules | `(tactic| walk_at $s) => if ["CompEnd","CompSrc","compareOp NotEq ref ref"].contains s.getString then `(tactic| refine stq_it $s ?_) else Lean.Macro.throwUnsupported
theorem law3c {w : World} {mg mb : Str -> Option Value} {mean : ExcName -> Option Value} {loose : List Str} {g : Heap} {L fa : Addr} {cd : Value} {o : Obj} {fd : FuncData}
  (ho : (hd.heap_39 w.params).lookup 192 = some o) (hfd : o.data = .func fd) (CH : CodeHd g 146 142) (B : Below callerA g [] g) (KX : (hd.heap_39 w.params).In g) (T : Top topProg loose mean mg mb g) {m : Str -> Option Value} {s : Shared} {Q : Flow -> Shared -> Prop} {R : Result -> Shared -> Prop} {o1 o2 o3 o4 o5 o6 : Obj} {X : Str} {H W : Addr} {A0 A1 A2 A3 A4 : List Int} (a0 : LongL A0) (a1 : LongL A1) (a2 : ShortL A2) (a3 : ShortL A3) (a4 : ShortL A4) {p5 p6 : Nat} {n5 : Int} (s5 : scanO X 100 p5 n5 = some (Str.ofString "", p6, 3)) (bp : p5 <= 1000) (bn : 0 <= n5 ∧ n5 <= 20) {q : Lx w mg X} {tp tn : Tok} {nn nl : Nat} {u0 u1 u2 u3 u4 : Tok} {zz rs : List (Addr × Obj)} {mR : Str -> Option Value}
  (hz0 : zz = q.news (p5 : Int) tp nn n5 tn #[] nl rs) (hrest : ∀ b ∈ rs,b.1 ≠ q.sp ∧ b.1 ≠ q.d ∧ b.1 ≠ q.l) (hs : HostsAre rs H A0 A1 A2 A3 A4) (hW : (W,LCg.lst [.str (hostF A0) u0,.str (hostF A1) u1,.str (hostF A2) u2,.str (hostF A3) u3,.str (hostF A4) u4]) ∈ rs) (z : Off6 L (zz)) (c6 : o6.data = .cell (some (.ref q.xl)))
  (F : Fr g L s.heap (fun z => if z = Str.ofString "words" then some (.ref W) else if z = Str.ofString "hosts" then some (.ref H) else mR z)) (N : News g L s.heap (six L o1 o2 o3 o4 o5 o6 zz))
  (rest : ∀ (zz2 : List (Addr × Obj)) (tp2 tn2 : Tok) (nn2 nl2 : Nat) (mR : Str -> Option Value) (h' : Heap) (tk' : Nat) (hz : zz2 = q.news (p6 : Int) tp2 nn2 3 tn2 #[] nl2 rs) (z : Off6 L (zz2)) (F : Fr g L h' (fun z => if z = Str.ofString "words" then some (.ref W) else if z = Str.ofString "hosts" then some (.ref H) else mR z)) (N : News g L h' (six L o1 o2 o3 o4 o5 o6 zz2)), wpAny (model rw_xg0057_01.row.prog w) (callerA.deeper (envOfC fd.name fd.scope L fa cd)) (execs ((stmtsOf fd).drop 8) (envOfC fd.name fd.scope L fa cd)) Q (fun e s7 => wpAny (model rw_xg0057_01.row.prog w) (callerA.deeper (envOfC fd.name fd.scope L fa cd)) (leaving (envOfC fd.name fd.scope L fa cd) e) (fun _ s8 => R (.error e) s8) (fun e8 s8 => R (.error e8) s8) s7) { s with heap := h', toks := tk' }) : wpAny (model rw_xg0057_01.row.prog w) (callerA.deeper (envOfC fd.name fd.scope L fa cd)) (execs ((stmtsOf fd).drop 7) (envOfC fd.name fd.scope L fa cd)) Q (fun e s7 => wpAny (model rw_xg0057_01.row.prog w) (callerA.deeper (envOfC fd.name fd.scope L fa cd)) (leaving (envOfC fd.name fd.scope L fa cd) e) (fun _ s8 => R (.error e) s8) (fun e8 s8 => R (.error e8) s8) s7) s := by
 refine (?f : Cln _) ?p ⟨?q,fun B k => ?r⟩
 case f => exact fun x _ => x
 case q =>
  have key : rw_xg0057_01.row.prog = rw_xg0057_01.row.prog -> (hd.heap_39 w.params).In g -> (hd.heap_39 w.params).lookup 192 = some o -> wpAny (model rw_xg0057_01.row.prog w) (callerA.deeper (envOfC fd.name fd.scope L fa cd)) (execs ((stmtsOf fd).drop 7) (envOfC fd.name fd.scope L fa cd)) Q (fun e s7 => wpAny (model rw_xg0057_01.row.prog w) (callerA.deeper (envOfC fd.name fd.scope L fa cd)) (leaving (envOfC fd.name fd.scope L fa cd) e) (fun _ s8 => R (.error e) s8) (fun e8 s8 => R (.error e8) s8) s7) s := by
   clear KX ho
   k_fill
   intro _ KX ho
   have e9 := ho.symm.trans (show (hd.heap_39 w.params).lookup 192 = some _ from by k_is)
   cases e9
   cases hfd
   dsimp only [stmtsOf,List.drop]
   (try k_fold)
   refine hs _ fun l0 l1 l2 l3 l4 v0 v1 v2 v3 v4 nh k0 k1 k2 k3 k4 hH m0 m1 m2 m3 m4 i0 i1 i2 i3 i4 => ?_
   have hrest2 : ∀ b ∈ rs,b.1 ≠ q.sp ∧ b.1 ≠ q.d := fun b hb => ⟨(hrest b hb).1,(hrest b hb).2.1⟩
   have mx0 := Lx.mem_x hz0
   have md0 := Lx.mem_d hz0
   have g0 := a0.2; have g1 := a1.2; have g2 := a2.2; have g3 := a3.2; have g4 := a4.2
   unfold Dig at g0 g1 g2 g3 g4
   have x0 := a0.1.2; have x1 := a1.1.2; have x2 := Nat.le_trans a2.1.2 (show 2 <= 5 by decide); have x3 := Nat.le_trans a3.1.2 (show 2 <= 5 by decide); have x4 := Nat.le_trans a4.1.2 (show 2 <= 5 by decide)
   have sx : ∀ x ∈ [hostF A0,hostF A1,hostF A2,hostF A3,hostF A4],PyData.strOk x = true := by
    refine List.forall_mem_cons.mpr ⟨?_,List.forall_mem_cons.mpr ⟨?_,List.forall_mem_cons.mpr ⟨?_,List.forall_mem_cons.mpr ⟨?_,List.forall_mem_cons.mpr ⟨?_,List.forall_mem_nil _⟩⟩⟩⟩⟩
    ·exact host_ok a0.2 (by have := a0.1; lia) x0
    ·exact host_ok a1.2 (by have := a1.1; lia) x1
    ·exact host_ok a2.2 a2.1.1 x2
    ·exact host_ok a3.2 a3.1.1 x3
    ·exact host_ok a4.2 a4.1.1 x4
   have z1 := z.1
   have z2 := z.2.1
   have z3 := z.2.2.1
   have z4 := z.2.2.2.1
   have z5 := z.2.2.2.2.1
   have z6 := z.2.2.2.2.2
   refine cut_at 1 ?_
   dsimp only [List.take,List.drop]
   (k_steps; repeat' ((first | (refine stq_out "compareOp NotEq ref ref" ?_; (k_here; (with_reducible show wpAny _ _ (compareOp CmpOp.NotEq (Value.ref _) (Value.ref _)) _ _ _); k_dflt (refine' ne_strs ?k1 ?k2 ?k3 ?k4 ?kx ?k5 ?_; (case k1 => exact News.isList (by k_asm) (by k_mem)); (case k2 => exact News.isList (by k_asm) (by k_mem)); (case k3 => walk_at "my strs"); (case k4 => walk_at "my strs"); (case kx => assumption); (case k5 => ktr_units); k_whole))) | (refine stq_out "call ref" ?_; (k_here; (with_reducible show wpAny _ _ (call (Value.ref 106) [Value.ref _]) _ _ _); k_dflt (refine' use_gtq q ?hR ?hp ?hn ?hsp ?hz ?hoff ?hrest ?hb ?k0 ?k1 ?k2 ?k3 ?k4 ?k5 ?kK ?kd ?ku ?_); (case k0 => assumption); walk_at "my sides"; (case hsp => walk_at "my spl"); (case hz => assumption); (case hR => assumption); (case hp => lia); (case hn => lia); (case hrest => assumption); (case hb => first | exact tr' | exact fun _ k => k); (case hoff => (repeat (refine List.forall_mem_cons.mpr ⟨by (dsimp only; k_all), ?_⟩)); exact List.forall_mem_nil _); intro tv' tp' nn' tn' h' tk' zz' hz' mx' md' tr' t3' F' N'; (try simp only [List.cons_append, List.nil_append] at N'); (try dsimp only at hz' md'); (try dsimp only))) | (refine stq_out "CompSrc" ?_; (k_here; k_dflt (first
  | (refine LCg.CompSrc.ledger (by rfl) (by k_asm) (by k_asm) (by k_mem) (by first | size_fits | exact Nat.le_of_ble_eq_true rfl) ?_; intro g'; lcg_lit)
  | (refine LCg.CompSrc.range (by rfl) (by k_asm) (by k_asm) (by assumption) (by first | decide | rfl) (by first | rfl | decide) (by first | size_fits | exact Nat.le_of_ble_eq_true rfl) ?_; intro g'; lcg_lit)))) | (refine stq_out "CompEnd" ?_; (k_dflt ((first | (with_reducible refine' cend1 (by with_reducible assumption) (by with_reducible assumption) ?co ?cs ?_) | (with_reducible refine' cend0 (by with_reducible assumption) (by with_reducible assumption) ?co ?cs ?_)); (case co => (simp only [LCg.Off3, and_true]; first | with_reducible assumption | (refine And.intro ⟨by k_ne, by k_ne, by k_ne⟩ ?_; with_reducible assumption) | walk_at "my off")); (case cs => lcg_src)))) | (refine stq_out "call ref" ?_; (k_here; (with_reducible show wpAny _ _ (call (Value.ref 135) [Value.ref _]) _ _ _); k_dflt (refine' use_host ?hi ?hn ?hb ?hm ?k1 ?k2 ?k3 ?k4 ?k5 ?kK ?kd ?ku ?_); walk_at "my sides"; (case hm => k_mem); (case hi => assumption); (case hn => first | assumption | omega); (case hb => assumption); intro u2 h' tk' F' N'; (try dsimp only))) | fail) <;> k_steps))
   dsimp only
   show wpAny _ _ _ _ _ _
   rename Fr _ _ _ _ => F9
   rename News _ _ _ _ => N9
   exact @rest zz' _ _ _ _ _ _ _ hz' ⟨tr' _ z1, tr' _ z2, tr' _ z3, tr' _ z4, tr' _ z5, tr' _ z6⟩ (fr_has (fr_has F9 (Str.ofString "hosts") rfl) (Str.ofString "words") rfl) (cb_drop N9 fun y hy => List.mem_cons_of_mem _ hy)
  exact key rfl KX ho
 case r => delta id stq_it stq_out; exact k
end

example {M : Model} {A : Around} {env : Env} {Q : Flow -> Shared -> Prop} {E : Value -> Shared -> Prop} {s : Shared} (h : Q .next s) : wpAny M A (execs [] env) Q E s := by first | (walk1; exact h) | exact wpAny_execs_nil h

theorem law10 {w : World} {mg mb : Str -> Option Value} {mean : ExcName -> Option Value} {loose : List Str} {g : Heap} {L fa : Addr} {cd : Value} {o : Obj} {fd : FuncData}
  (ho : (hd.heap_39 w.params).lookup 192 = some o) (hfd : o.data = .func fd) (CH : CodeHd g 146 142) (B : Below callerA g [] g) (KX : (hd.heap_39 w.params).In g) (T : Top topProg loose mean mg mb g) {m : Str -> Option Value} {s : Shared} {Q : Flow -> Shared -> Prop} {R : Result -> Shared -> Prop} {o1 o2 o3 o4 o5 o6 : Obj} {X : Str} {p6 p7 : Nat} (s6 : scanO X 100 p6 3 = some (Str.ofString "", p7, 3)) (bp : p6 <= 1000) {q : Lx w mg X} {Kc : Addr} {kO : Obj} {tp tn : Tok} {nn nl : Nat} {zz rs : List (Addr × Obj)} {mR : Str -> Option Value}
  (hz0 : zz = q.news (p6 : Int) tp nn 3 tn #[] nl rs) (hrest : ∀ b ∈ rs,b.1 ≠ q.sp ∧ b.1 ≠ q.d ∧ b.1 ≠ q.l) (z : Off6 L (zz)) (zk : ∀ b ∈ zz,b.1 ≠ Kc) (c6 : o6.data = .cell (some (.ref q.xl)))
  (F : Fr g L s.heap mR) (N : News g L s.heap (six L o1 o2 o3 o4 o5 o6 ((Kc,kO) :: zz)))
  (rest : ∀ (zz2 : List (Addr × Obj)) (tp2 tn2 : Tok) (nn2 nl2 : Nat) (n2 : Int) (mR : Str -> Option Value) (h' : Heap) (tk' : Nat) (p2 : Nat) (hz : zz2 = q.news (p2 : Int) tp2 nn2 n2 tn2 #[] nl2 rs) (F : Fr g L h' mR) (N : News g L h' (six L o1 o2 o3 o4 o5 o6 ((Kc,kO) :: zz2))),Q (.ret (.bool true)) { s with heap := h',toks := tk' }) : wpAny (model rw_xg0057_01.row.prog w) (callerA.deeper (envOfC fd.name fd.scope L fa cd)) (execs ((stmtsOf fd).drop 14) (envOfC fd.name fd.scope L fa cd)) Q (fun e s7 => wpAny (model rw_xg0057_01.row.prog w) (callerA.deeper (envOfC fd.name fd.scope L fa cd)) (leaving (envOfC fd.name fd.scope L fa cd) e) (fun _ s8 => R (.error e) s8) (fun e8 s8 => R (.error e8) s8) s7) s := by
 refine (?f : Cln _) ?p ⟨?q,fun B k => ?r⟩
 case f => exact fun x _ => x
 case q =>
  have key : rw_xg0057_01.row.prog = rw_xg0057_01.row.prog -> (hd.heap_39 w.params).In g -> (hd.heap_39 w.params).lookup 192 = some o -> wpAny (model rw_xg0057_01.row.prog w) (callerA.deeper (envOfC fd.name fd.scope L fa cd)) (execs ((stmtsOf fd).drop 14) (envOfC fd.name fd.scope L fa cd)) Q (fun e s7 => wpAny (model rw_xg0057_01.row.prog w) (callerA.deeper (envOfC fd.name fd.scope L fa cd)) (leaving (envOfC fd.name fd.scope L fa cd) e) (fun _ s8 => R (.error e) s8) (fun e8 s8 => R (.error e8) s8) s7) s := by
   clear KX ho
   k_fill
   intro _ KX ho
   have e9 := ho.symm.trans (show (hd.heap_39 w.params).lookup 192 = some _ from by k_is)
   cases e9
   cases hfd
   dsimp only [stmtsOf,List.drop]
   (try k_fold)
   have hrest2 : ∀ b ∈ rs,b.1 ≠ q.sp ∧ b.1 ≠ q.d := fun b hb => ⟨(hrest b hb).1,(hrest b hb).2.1⟩
   have mx0 := Lx.mem_x hz0
   have md0 := Lx.mem_d hz0
   have z1 := z.1
   have z2 := z.2.1
   have z3 := z.2.2.1
   have z4 := z.2.2.2.1
   have z5 := z.2.2.2.2.1
   have z6 := z.2.2.2.2.2
   (k_steps; repeat' ((first | (refine stq_out "call ref" ?_; (k_here; (with_reducible show wpAny _ _ (call (Value.ref 106) [Value.ref _]) _ _ _); k_dflt (refine' use_gtq q ?hR ?hp ?hn ?hsp ?hz ?hoff ?hrest ?hb ?k0 ?k1 ?k2 ?k3 ?k4 ?k5 ?kK ?kd ?ku ?_); (case k0 => assumption); walk_at "my sides"; (case hsp => walk_at "my spl"); (case hz => assumption); (case hR => assumption); (case hp => omega); (case hn => omega); (case hrest => assumption); (case hb => first | exact tr' | exact fun _ k => k); (case hoff => (repeat (refine List.forall_mem_cons.mpr ⟨by (dsimp only; k_all), ?_⟩)); exact List.forall_mem_nil _); intro tv' tp' nn' tn' h' tk' zz' hz' mx' md' tr' t3' F' N'; (try simp only [List.cons_append, List.nil_append] at N'); (try dsimp only at hz' md'); (try dsimp only))) | fail) <;> k_steps))
   rename Fr _ _ _ _ => F9
   rename News _ _ _ _ => N9
   rw [show (Str.ofString "" == Str.ofString "") = true from by decide]
   exact @rest zz' _ _ _ _ _ _ _ _ p7 hz' F9 N9
  exact key rfl KX ho
 case r => delta id stq_it stq_out; (conv => zeta); exact k
section
theorem hold_of2 {P : Prop} (h : Hold P) : P := h
local macro_rules | `(tactic| walk_at "exec For Name Name cons nil") => `(tactic| (k_dflt (refine for_start ?_)))
local macro_rules | `(tactic| walk_at "pyIter ref") => `(tactic| (refine hold_of2 ?_))
theorem push_take {l : List Value} {i : Nat} {v : Value} (h : l.toArray[i]? = some v) : (l.take i).toArray.push v = (l.take (i + 1)).toArray := by
 have h' : l[i]? = some v := by simpa using h
 rw [List.take_add_one,h']
 simp
theorem six_off1 {L It : Addr} {o1 o2 o3 o4 o5 o6 : Obj} {zz : List (Addr × Obj)} (off : ∀ b ∈ six L o1 o2 o3 o4 o5 o6 zz,b.1 ≠ It) : (∀ b ∈ zz,b.1 ≠ It) ∧ ∀ zz' : List (Addr × Obj),(∀ b ∈ zz',b.1 ≠ It) -> ∀ b ∈ six L o1 o2 o3 o4 o5 o6 zz',b.1 ≠ It :=
 have h1 := List.forall_mem_cons.mp off
 have h2 := List.forall_mem_cons.mp h1.2
 have h3 := List.forall_mem_cons.mp h2.2
 have h4 := List.forall_mem_cons.mp h3.2
 have h5 := List.forall_mem_cons.mp h4.2
 have h6 := List.forall_mem_cons.mp h5.2
 ⟨h6.2,fun _ hz => List.forall_mem_cons.mpr ⟨h1.1,List.forall_mem_cons.mpr ⟨h2.1,List.forall_mem_cons.mpr ⟨h3.1,List.forall_mem_cons.mpr ⟨h4.1,List.forall_mem_cons.mpr ⟨h5.1,List.forall_mem_cons.mpr ⟨h6.1,hz⟩⟩⟩⟩⟩⟩⟩
noncomputable def Rd7 {w : World} {mg : Str -> Option Value} {X : Str} (q : Lx w mg X) (L Kc W H : Addr) (o1 o2 o3 o4 o5 o6 : Obj) (p n : Int) (tp tn : Tok) (nn : Nat) (W5 : List Value) (rs zz : List (Addr × Obj)) (i : Nat) (m' : Str -> Option Value) (news' : List (Addr × Obj)) : Prop :=
 ∀ G : List (Addr × Obj) -> Prop, (∀ (zz' : List (Addr × Obj)) (nl' : Nat), zz' = q.news p tp nn n tn (W5.take i).toArray nl' rs -> (∀ a : Addr, (∀ y ∈ zz, y.1 ≠ a) -> ∀ y ∈ zz', y.1 ≠ a) -> m' (Str.ofString "colours") = some (.ref Kc) -> m' (Str.ofString "words") = some (.ref W) -> m' (Str.ofString "hosts") = some (.ref H) -> G (six L o1 o2 o3 o4 o5 o6 zz')) -> G news'
theorem law7 {w : World} {mg mb : Str -> Option Value} {mean : ExcName -> Option Value} {loose : List Str} {g : Heap} {L fa : Addr} {cd : Value} {o : Obj} {fd : FuncData}
  (ho : (hd.heap_39 w.params).lookup 192 = some o) (hfd : o.data = .func fd) (CH : CodeHd g 146 142) (B : Below callerA g [] g) (KX : (hd.heap_39 w.params).In g) (T : Top topProg loose mean mg mb g) {m : Str -> Option Value} {s : Shared} {Q : Flow -> Shared -> Prop} {R : Result -> Shared -> Prop} {o1 o2 o3 o4 o5 o6 : Obj} {X : Str} {H W Kc : Addr} {A0 A1 A2 A3 A4 : List Int} {q : Lx w mg X} {p n : Int} {tp tn : Tok} {nn nl : Nat} {u0 u1 u2 u3 u4 : Tok} {zz rs : List (Addr × Obj)} {mR : Str -> Option Value}
  (hz0 : zz = q.news p tp nn n tn #[] nl rs) (hrest : ∀ b ∈ rs,b.1 ≠ q.sp ∧ b.1 ≠ q.d ∧ b.1 ≠ q.l) (hW : (W,LCg.lst [.str (hostF A0) u0,.str (hostF A1) u1,.str (hostF A2) u2,.str (hostF A3) u3,.str (hostF A4) u4]) ∈ rs) (z : Off6 L (zz)) (c6 : o6.data = .cell (some (.ref q.xl)))
  (F : Fr g L s.heap (fun z => if z = Str.ofString "colours" then some (.ref Kc) else if z = Str.ofString "words" then some (.ref W) else if z = Str.ofString "hosts" then some (.ref H) else mR z)) (N : News g L s.heap (six L o1 o2 o3 o4 o5 o6 zz))
  (rest : ∀ (zz2 : List (Addr × Obj)) (nl2 : Nat) (mR : Str -> Option Value) (h' : Heap) (tk' : Nat) (hz : zz2 = q.news p tp nn n tn #[.str (hostF A0) u0, .str (hostF A1) u1, .str (hostF A2) u2, .str (hostF A3) u3, .str (hostF A4) u4] nl2 rs) (z : Off6 L (zz2)) (F : Fr g L h' (fun z => if z = Str.ofString "colours" then some (.ref Kc) else if z = Str.ofString "words" then some (.ref W) else if z = Str.ofString "hosts" then some (.ref H) else mR z)) (N : News g L h' (six L o1 o2 o3 o4 o5 o6 zz2)), wpAny (model rw_xg0057_01.row.prog w) (callerA.deeper (envOfC fd.name fd.scope L fa cd)) (execs ((stmtsOf fd).drop 12) (envOfC fd.name fd.scope L fa cd)) Q (fun e s7 => wpAny (model rw_xg0057_01.row.prog w) (callerA.deeper (envOfC fd.name fd.scope L fa cd)) (leaving (envOfC fd.name fd.scope L fa cd) e) (fun _ s8 => R (.error e) s8) (fun e8 s8 => R (.error e8) s8) s7) { s with heap := h', toks := tk' }) : wpAny (model rw_xg0057_01.row.prog w) (callerA.deeper (envOfC fd.name fd.scope L fa cd)) (execs ((stmtsOf fd).drop 11) (envOfC fd.name fd.scope L fa cd)) Q (fun e s7 => wpAny (model rw_xg0057_01.row.prog w) (callerA.deeper (envOfC fd.name fd.scope L fa cd)) (leaving (envOfC fd.name fd.scope L fa cd) e) (fun _ s8 => R (.error e) s8) (fun e8 s8 => R (.error e8) s8) s7) s := by
 refine (?f : Cln _) ?p ⟨?q,fun B k => ?r⟩
 case f => exact fun x _ => x
 case q =>
  have key : rw_xg0057_01.row.prog = rw_xg0057_01.row.prog -> (hd.heap_39 w.params).In g -> (hd.heap_39 w.params).lookup 192 = some o -> wpAny (model rw_xg0057_01.row.prog w) (callerA.deeper (envOfC fd.name fd.scope L fa cd)) (execs ((stmtsOf fd).drop 11) (envOfC fd.name fd.scope L fa cd)) Q (fun e s7 => wpAny (model rw_xg0057_01.row.prog w) (callerA.deeper (envOfC fd.name fd.scope L fa cd)) (leaving (envOfC fd.name fd.scope L fa cd) e) (fun _ s8 => R (.error e) s8) (fun e8 s8 => R (.error e8) s8) s7) s := by
   clear KX ho
   k_fill
   intro _ KX ho
   have e9 := ho.symm.trans (show (hd.heap_39 w.params).lookup 192 = some _ from by k_is)
   cases e9
   cases hfd
   dsimp only [stmtsOf,List.drop]
   (try k_fold)
   have mx0 := Lx.mem_x hz0
   have md0 := Lx.mem_d hz0
   have mW0 := Lx.mem_r hz0 hW
   have z1 := z.1
   have z2 := z.2.1
   have z3 := z.2.2.1
   have z4 := z.2.2.2.1
   have z5 := z.2.2.2.2.1
   have z6 := z.2.2.2.2.2
   refine cut_at 1 ?_
   dsimp only [List.take,List.drop]
   (k_steps; repeat' ((first | (refine stq_out "call ref" ?_; (k_here; (with_reducible show wpAny _ _ (call (Value.ref 113) [Value.ref _, Value.str _ _]) _ _ _); k_dflt (refine' use_pushq q ?hi ?hsp ?hz ?hoff ?hrest ?hb ?k1 ?k2 ?k3 ?k4 ?k5 ?kK ?kd ?ku ?_); walk_at "my sides"; (case hsp => walk_at "my spl"); (case hz => assumption); (case hi => assumption); (case hrest => assumption); (case hb => first | exact tr' | exact fun _ k => k); (case hoff => (repeat (refine List.forall_mem_cons.mpr ⟨by (dsimp only; k_all), ?_⟩)); exact List.forall_mem_nil _); intro nl' h' tk' zz' hz' mx' md' tr' F' N' r'; (try simp only [List.cons_append, List.nil_append] at N'); (try dsimp only))) | fail) <;> k_steps))
   show wpAny _ _ (pyIter _) _ _ _
   obtain ⟨W5,hW5⟩ : ∃ W5 : List Value,W5 = [.str (hostF A0) u0,.str (hostF A1) u1,.str (hostF A2) u2,.str (hostF A3) u3,.str (hostF A4) u4] := ⟨_,rfl⟩
   have hstr : ∀ v ∈ W5,∃ y t,v = .str y t := by
    rw [hW5]
    simp only [List.forall_mem_cons]
    exact ⟨⟨_,_,rfl⟩,⟨_,_,rfl⟩,⟨_,_,rfl⟩,⟨_,_,rfl⟩,⟨_,_,rfl⟩,List.forall_mem_nil _⟩
   have hl5 : W5.length = 5 := by rw [hW5]; rfl
   rename Fr _ _ _ _ => F9
   rename News _ _ _ _ => N9
   refine for_list (its := W5.toArray) (kk := 5) (lo := LCg.lst [.str (hostF A0) u0,.str (hostF A1) u1,.str (hostF A2) u2,.str (hostF A3) u3,.str (hostF A4) u4]) (by rfl) (by first | passes_own | with_unfolding_all passes_own) (by rfl) (by rfl) F9 N9 (by k_mem) rfl (by rw [hW5]; rfl) (Rd7 q L Kc W H o1 o2 o3 o4 o5 o6 p n tp tn nn W5 rs zz) (fun _ k => k zz nl hz0 (fun _ k => k) rfl rfl rfl) ?step ?fin
   case step =>
    intro i m' news' h tk v It oIt hv hI
    apply hI
    intro zz' nl' hz' tr' k1 k2 k3 hl F N off
    have F := fr_env F
    have N := news_env N
    obtain ⟨y,t,rfl⟩ := hstr v (by simpa using List.mem_of_getElem? (l := W5) (by simpa using hv))
    have oz := (six_off1 off).1
    have hsz : (W5.take i).toArray.size <= 1000 := by rw [List.size_toArray,List.length_take]; lia
    have mx0 := Lx.mem_x hz'
    have md0 := Lx.mem_d hz'
    have hpt := push_take hv
    have hzo := hz'
    (k_steps; repeat' ((first | (refine stq_out "call ref" ?_; (k_here; (with_reducible show wpAny _ _ (call (Value.ref 113) [Value.ref _, Value.str _ _]) _ _ _); k_dflt (refine' use_pushq q ?hi ?hsp ?hz ?hoff ?hrest ?hb ?k1 ?k2 ?k3 ?k4 ?k5 ?kK ?kd ?ku ?_); walk_at "my sides"; (case hsp => walk_at "my spl"); (case hz => assumption); (case hi => assumption); (case hrest => assumption); (case hb => first | exact tr' | exact fun _ k => k); (case hoff => (repeat (refine List.forall_mem_cons.mpr ⟨by (dsimp only; k_all), ?_⟩)); exact List.forall_mem_nil _); intro nl' h' tk' zz' hz' mx' md' tr' F' N' r'; (try simp only [List.cons_append, List.nil_append] at N'); (try dsimp only))) | fail) <;> k_steps))
    (try dsimp only)
    rename Fr _ _ _ _ => F8
    rename News _ _ _ _ => N8
    refine LEnd.intro F8 N8 ?_ (by k_mem) (fun _ k => k _ _ (by rw [hz',hpt]) tr' ((if_neg (by decide)).trans k1) ((if_neg (by decide)).trans k2) ((if_neg (by decide)).trans k3))
    exact (six_off1 off).2 _ (Lx.off hzo hz' It oz)
   case fin =>
    intro m' news' h tk hI
    apply hI
    intro zz' nl' hz' tr' k1 k2 k3 F N
    have e5 : (W5.take W5.toArray.size).toArray = #[.str (hostF A0) u0,.str (hostF A1) u1,.str (hostF A2) u2,.str (hostF A3) u3,.str (hostF A4) u4] := by rw [List.size_toArray,List.take_length,hW5]
    rw [e5] at hz'
    (try dsimp only)
    (k_steps; repeat' ((first | (refine stq_out "call ref" ?_; (k_here; (with_reducible show wpAny _ _ (call (Value.ref 113) [Value.ref _, Value.str _ _]) _ _ _); k_dflt (refine' use_pushq q ?hi ?hsp ?hz ?hoff ?hrest ?hb ?k1 ?k2 ?k3 ?k4 ?k5 ?kK ?kd ?ku ?_); walk_at "my sides"; (case hsp => walk_at "my spl"); (case hz => assumption); (case hi => assumption); (case hrest => assumption); (case hb => first | exact tr' | exact fun _ k => k); (case hoff => (repeat (refine List.forall_mem_cons.mpr ⟨by (dsimp only; k_all), ?_⟩)); exact List.forall_mem_nil _); intro nl' h' tk' zz' hz' mx' md' tr' F' N' r'; (try simp only [List.cons_append, List.nil_append] at N'); (try dsimp only))) | fail) <;> k_steps))
    (try dsimp only)
    show wpAny _ _ _ _ _ _
    exact @rest zz' nl' _ _ _ hz' ⟨tr' _ z1, tr' _ z2, tr' _ z3, tr' _ z4, tr' _ z5, tr' _ z6⟩ (fr_has (fr_has (fr_has (fr_env F) (Str.ofString "hosts") k3) (Str.ofString "words") k2) (Str.ofString "colours") k1) (news_env N)
  exact key rfl KX ho
 case r => delta id stq_it stq_out; exact k
end

example {M : Model} {A : Around} {env : Env} {Q : Flow -> Shared -> Prop} {E : Value -> Shared -> Prop} {s : Shared} (h : Q .next s) : wpAny M A (execs [] env) Q E s := by first | (walk1; exact h) | exact wpAny_execs_nil h

end

example {M : Model} {A : Around} {env : Env} {Q : Flow -> Shared -> Prop} {E : Value -> Shared -> Prop} {s : Shared} (h : Q .next s) : wpAny M A (execs [] env) Q E s := by first | (walk1; exact h) | exact wpAny_execs_nil h

section
local macro_rules | `(tactic| walk_at $s) => if ["CompEnd","CompSrc"].contains s.getString then `(tactic| refine stq_it $s ?_) else Lean.Macro.throwUnsupported
local macro_rules | `(tactic| walk_at "CompRest") => `(tactic| (refine hold_c ?_))
theorem col_turn {w : World} {mg mb : Str -> Option Value} {mean : ExcName -> Option Value} {loose : List Str} {g : Heap} {L fa : Addr} {cd : Value} {o : Obj} {fd : FuncData}
  (ho : (hd.heap_39 w.params).lookup 192 = some o) (hfd : o.data = .func fd) (B : Below callerA g [] g) (KX : (hd.heap_39 w.params).In g) (T : Top topProg loose mean mg mb g) {m : Str -> Option Value} {s : Shared} {S : List (Addr × Obj) -> Prop} {P : Nat -> Value -> Prop} {Fin : List Value -> List (Addr × Obj) -> Prop} {k i : Nat} {ys : List Value} {news : List (Addr × Obj)} {l : Addr} {vs : List Value} {kk : Nat} {A : List Int} {q1 q2 q3 : UInt64}
  (hP : ∀ v,P i v -> v = .ref l) (ml : (l,PySem.W.listOf vs.toArray kk) ∈ news) (iA : IntsAre vs A) (hA : A.length <= 5) (gA : Dig A) (hc : colourF A = some (q1,q2,q3)) (hS : ∀ x,S (x :: news))
  (next : ∀ (C : Addr) (t1 t2 t3 : Tok), (∀ b ∈ news, b.1 ≠ C) -> LCg.CompRest rw_xg0057_01.row.prog w (callerA.deeper (envOfC fd.name fd.scope L fa cd)) g L m (envOfC fd.name fd.scope L fa cd) (eltOf (compAt 8 (stmtsOf fd))) (Str.ofString "labels") (scOf (compAt 8 (stmtsOf fd))) [] s S P Fin k (i + 1) (ys ++ [.ref C]) ((C, tupO [.float q1 t1, .float q2 t2, .float q3 t3]) :: news)) : LCg.CompRest rw_xg0057_01.row.prog w (callerA.deeper (envOfC fd.name fd.scope L fa cd)) g L m (envOfC fd.name fd.scope L fa cd) (eltOf (compAt 8 (stmtsOf fd))) (Str.ofString "labels") (scOf (compAt 8 (stmtsOf fd))) [] s S P Fin (k + 1) i ys news := by
 refine (?f : Cln _) ?p ⟨?q,fun B k => ?r⟩
 case f => exact fun x _ => x
 case q =>
  revert KX next ho
  k_fill
  intro ho KX next
  have e9 := ho.symm.trans (show (hd.heap_39 w.params).lookup 192 = some _ from by k_is)
  cases e9
  cases hfd
  refine LCg.CompRest.succ ?_
  intro v I oI C oC D m₂ h tk E' hv hC hx F N off ne
  obtain rfl := hP v hv
  unfold Dig at gA
  conv in eval _ _ => (arg 1; whnf)
  conv in compEnvC _ _ _ _ => (arg 1; whnf)
  (k_steps; repeat' ((first | (refine stq_out "CompEnd" ?_; (k_dflt (with_reducible refine' cend1 (by with_reducible assumption) (by with_reducible assumption) ?co ?cs ?_); (case co => (simp only [LCg.Off3, and_true]; (refine And.intro ⟨by k_ne, by k_ne, by k_ne⟩ ?_); with_reducible assumption)); (case cs => exact cs_of hS))) | (refine stq_out "CompSrc" ?_; (k_here; k_dflt (first
  | (refine LCg.CompSrc.ledger (by rfl) (by k_asm) (by k_asm) (by k_mem) (by first | size_fits | exact Nat.le_of_ble_eq_true rfl) ?_; intro g'; lcg_lit)
  | (refine LCg.CompSrc.range (by rfl) (by k_asm) (by k_asm) (by assumption) (by first | decide | rfl) (by first | rfl | decide) (by first | size_fits | exact Nat.le_of_ble_eq_true rfl) ?_; intro g'; lcg_lit)))) | (refine stq_out "call ref" ?_; (k_here; (with_reducible show wpAny _ _ (call (Value.ref 161) [Value.ref _]) _ _ _); k_dflt (refine' use_colour ?hi ?hn ?hf ?hm ?k1 ?k2 ?k3 ?k4 ?k5 ?kK ?kd ?ku ?_); walk_at "my sides"; (case hm => k_mem); (case hi => assumption); (case hn => first | assumption | omega); (case hf => assumption); intro D' u1 u2 u3 h' tk' F' N' l1; (try k_lt l1); (try dsimp only))) | fail) <;> k_steps))
  exact next _ _ _ _ (ltNe (by walk_at "my tl"))
 case r => delta id stq_it stq_out; exact k
theorem law4 {w : World} {mg mb : Str -> Option Value} {mean : ExcName -> Option Value} {loose : List Str} {g : Heap} {L fa : Addr} {cd : Value} {o : Obj} {fd : FuncData}
  (ho : (hd.heap_39 w.params).lookup 192 = some o) (hfd : o.data = .func fd) (CH : CodeHd g 146 142) (B : Below callerA g [] g) (KX : (hd.heap_39 w.params).In g) (T : Top topProg loose mean mg mb g) {m : Str -> Option Value} {s : Shared} {Q : Flow -> Shared -> Prop} {R : Result -> Shared -> Prop} {o1 o2 o3 o4 o5 o6 : Obj} {v1 v2 v3 v4 v5 v6 : Option Value} (c1 : o1.data = .cell v1) (c2 : o2.data = .cell v2) (c3 : o3.data = .cell v3) (c4 : o4.data = .cell v4) (c5 : o5.data = .cell v5) (c6 : o6.data = .cell v6) {H W : Addr} {A0 A1 A2 A3 A4 : List Int} (a0 : LongL A0) (a1 : LongL A1) (a2 : ShortL A2) (a3 : ShortL A3) (a4 : ShortL A4) {cr0 cg0 cb0 cr1 cg1 cb1 cr2 cg2 cb2 cr3 cg3 cb3 cr4 cg4 cb4 : UInt64} (f0 : colourF A0 = some (cr0,cg0,cb0)) (f1 : colourF A1 = some (cr1,cg1,cb1)) (f2 : colourF A2 = some (cr2,cg2,cb2)) (f3 : colourF A3 = some (cr3,cg3,cb3)) (f4 : colourF A4 = some (cr4,cg4,cb4)) {zz : List (Addr × Obj)} {mR : Str -> Option Value}
  (hs : HostsAre zz H A0 A1 A2 A3 A4) (z : Off6 L (zz))
  (F : Fr g L s.heap (fun z => if z = Str.ofString "words" then some (.ref W) else if z = Str.ofString "hosts" then some (.ref H) else mR z)) (N : News g L s.heap (six L o1 o2 o3 o4 o5 o6 zz))
  (rest : ∀ (K : Addr) (T0 T1 T2 T3 T4 : Addr) (tx0 ty0 tw0 tx1 ty1 tw1 tx2 ty2 tw2 tx3 ty3 tw3 tx4 ty4 tw4 : Tok) (mR : Str -> Option Value) (h' : Heap) (tk' : Nat) (new : List (Addr × Obj)) (hnew : new = [(K, LCg.lst [.ref T0, .ref T1, .ref T2, .ref T3, .ref T4]), (T0, tupO [.float cr0 tx0, .float cg0 ty0, .float cb0 tw0]), (T1, tupO [.float cr1 tx1, .float cg1 ty1, .float cb1 tw1]), (T2, tupO [.float cr2 tx2, .float cg2 ty2, .float cb2 tw2]), (T3, tupO [.float cr3 tx3, .float cg3 ty3, .float cb3 tw3]), (T4, tupO [.float cr4 tx4, .float cg4 ty4, .float cb4 tw4])]) (hoff : ∀ x ∈ new, ∀ b ∈ zz, b.1 ≠ x.1) (sz : Seqs new) (F : Fr g L h' (fun z => if z = Str.ofString "colours" then some (.ref K) else if z = Str.ofString "words" then some (.ref W) else if z = Str.ofString "hosts" then some (.ref H) else mR z)) (N : News g L h' (six L o1 o2 o3 o4 o5 o6 (new ++ zz))), wpAny (model rw_xg0057_01.row.prog w) (callerA.deeper (envOfC fd.name fd.scope L fa cd)) (execs ((stmtsOf fd).drop 9) (envOfC fd.name fd.scope L fa cd)) Q (fun e s7 => wpAny (model rw_xg0057_01.row.prog w) (callerA.deeper (envOfC fd.name fd.scope L fa cd)) (leaving (envOfC fd.name fd.scope L fa cd) e) (fun _ s8 => R (.error e) s8) (fun e8 s8 => R (.error e8) s8) s7) { s with heap := h', toks := tk' }) : wpAny (model rw_xg0057_01.row.prog w) (callerA.deeper (envOfC fd.name fd.scope L fa cd)) (execs ((stmtsOf fd).drop 8) (envOfC fd.name fd.scope L fa cd)) Q (fun e s7 => wpAny (model rw_xg0057_01.row.prog w) (callerA.deeper (envOfC fd.name fd.scope L fa cd)) (leaving (envOfC fd.name fd.scope L fa cd) e) (fun _ s8 => R (.error e) s8) (fun e8 s8 => R (.error e8) s8) s7) s := by
 refine (?f : Cln _) ?p ⟨?q,fun B k => ?r⟩
 case f => exact fun x _ => x
 case q =>
  have key : rw_xg0057_01.row.prog = rw_xg0057_01.row.prog -> (hd.heap_39 w.params).In g -> (hd.heap_39 w.params).lookup 192 = some o -> wpAny (model rw_xg0057_01.row.prog w) (callerA.deeper (envOfC fd.name fd.scope L fa cd)) (execs ((stmtsOf fd).drop 8) (envOfC fd.name fd.scope L fa cd)) Q (fun e s7 => wpAny (model rw_xg0057_01.row.prog w) (callerA.deeper (envOfC fd.name fd.scope L fa cd)) (leaving (envOfC fd.name fd.scope L fa cd) e) (fun _ s8 => R (.error e) s8) (fun e8 s8 => R (.error e8) s8) s7) s := by
   clear KX ho
   k_fill
   intro _ KX ho
   have e9 := ho.symm.trans (show (hd.heap_39 w.params).lookup 192 = some _ from by k_is)
   cases e9
   cases hfd
   dsimp only [stmtsOf,List.drop]
   (try k_fold)
   refine hs _ fun l0 l1 l2 l3 l4 v0 v1 v2 v3 v4 nh k0 k1 k2 k3 k4 hH m0 m1 m2 m3 m4 i0 i1 i2 i3 i4 => ?_
   have x0 := a0.1.2; have x1 := a1.1.2; have x2 := Nat.le_trans a2.1.2 (show 2 <= 5 by decide); have x3 := Nat.le_trans a3.1.2 (show 2 <= 5 by decide); have x4 := Nat.le_trans a4.1.2 (show 2 <= 5 by decide)
   refine cut_at 1 ?_
   dsimp only [List.take,List.drop]
   (k_steps; repeat' ((first | (refine stq_out "CompEnd" ?_; (k_dflt (with_reducible refine' cend1 (by with_reducible assumption) (by with_reducible assumption) ?co ?cs ?_); (case co => (simp only [LCg.Off3, and_true]; (refine And.intro ⟨by k_ne, by k_ne, by k_ne⟩ ?_); with_reducible assumption)); (case cs => exact cs_of hS))) | (refine stq_out "CompSrc" ?_; (k_here; k_dflt (first
  | (refine LCg.CompSrc.ledger (by rfl) (by k_asm) (by k_asm) (by k_mem) (by first | size_fits | exact Nat.le_of_ble_eq_true rfl) ?_; intro g'; lcg_lit)
  | (refine LCg.CompSrc.range (by rfl) (by k_asm) (by k_asm) (by assumption) (by first | decide | rfl) (by first | rfl | decide) (by first | size_fits | exact Nat.le_of_ble_eq_true rfl) ?_; intro g'; lcg_lit)))) | (refine stq_out "call ref" ?_; (k_here; (with_reducible show wpAny _ _ (call (Value.ref 161) [Value.ref _]) _ _ _); k_dflt (refine' use_colour ?hi ?hn ?hf ?hm ?k1 ?k2 ?k3 ?k4 ?k5 ?kK ?kd ?ku ?_); walk_at "my sides"; (case hm => k_mem); (case hi => assumption); (case hn => first | assumption | omega); (case hf => assumption); intro D' u1 u2 u3 h' tk' F' N' l1; (try k_lt l1); (try dsimp only))) | fail) <;> k_steps))
   dsimp only [Hold]
   refine col_turn ho rfl B KX T (fun v h => (Option.some.inj h).symm) (mem_six m0) i0 x0 a0.2 f0 (src_s (mem_six hH)) fun T0 tx0 ty0 tw0 n0 => ?_
   refine col_turn ho rfl B KX T (fun v h => (Option.some.inj h).symm) (.tail _ (mem_six m1)) i1 x1 a1.2 f1 (src_s (.tail _ (mem_six hH))) fun T1 tx1 ty1 tw1 n1 => ?_
   refine col_turn ho rfl B KX T (fun v h => (Option.some.inj h).symm) (.tail _ (.tail _ (mem_six m2))) i2 x2 a2.2 f2 (src_s (.tail _ (.tail _ (mem_six hH)))) fun T2 tx2 ty2 tw2 n2 => ?_
   refine col_turn ho rfl B KX T (fun v h => (Option.some.inj h).symm) (.tail _ (.tail _ (.tail _ (mem_six m3)))) i3 x3 a3.2 f3 (src_s (.tail _ (.tail _ (.tail _ (mem_six hH))))) fun T3 tx3 ty3 tw3 n3 => ?_
   refine col_turn ho rfl B KX T (fun v h => (Option.some.inj h).symm) (.tail _ (.tail _ (.tail _ (.tail _ (mem_six m4))))) i4 x4 a4.2 f4 (src_s (.tail _ (.tail _ (.tail _ (.tail _ (mem_six hH)))))) fun T4 tx4 ty4 tw4 n4 => ?_
   refine LCg.CompRest.zero ?_
   (k_steps; repeat' ((first | (refine stq_out "CompEnd" ?_; (k_dflt (with_reducible refine' cend1 (by with_reducible assumption) (by with_reducible assumption) ?co ?cs ?_); (case co => (simp only [LCg.Off3, and_true]; (refine And.intro ⟨by k_ne, by k_ne, by k_ne⟩ ?_); with_reducible assumption)); (case cs => exact cs_of hS))) | (refine stq_out "CompSrc" ?_; (k_here; k_dflt (first
  | (refine LCg.CompSrc.ledger (by rfl) (by k_asm) (by k_asm) (by k_mem) (by first | size_fits | exact Nat.le_of_ble_eq_true rfl) ?_; intro g'; lcg_lit)
  | (refine LCg.CompSrc.range (by rfl) (by k_asm) (by k_asm) (by assumption) (by first | decide | rfl) (by first | rfl | decide) (by first | size_fits | exact Nat.le_of_ble_eq_true rfl) ?_; intro g'; lcg_lit)))) | (refine stq_out "call ref" ?_; (k_here; (with_reducible show wpAny _ _ (call (Value.ref 161) [Value.ref _]) _ _ _); k_dflt (refine' use_colour ?hi ?hn ?hf ?hm ?k1 ?k2 ?k3 ?k4 ?k5 ?kK ?kd ?ku ?_); walk_at "my sides"; (case hm => k_mem); (case hi => assumption); (case hn => first | assumption | omega); (case hf => assumption); intro D' u1 u2 u3 h' tk' F' N' l1; (try k_lt l1); (try dsimp only))) | fail) <;> k_steps))
   dsimp only
   show wpAny _ _ _ _ _ _
   rename Fr _ _ _ _ => F9
   rename News _ _ _ _ => N9
   refine' @rest _ _ _ _ _ _ _ _ _ _ _ _ _ _ _ _ _ _ _ _ _ _ _ _ _ rfl ?hw (.cons ⟨_, _, rfl⟩ (.cons ⟨_, _, rfl⟩ (.cons ⟨_, _, rfl⟩ (.cons ⟨_, _, rfl⟩ (.cons ⟨_, _, rfl⟩ (.cons ⟨_, _, rfl⟩ .nil)))))) (fr_has (fr_has (fr_has F9 (Str.ofString "hosts") rfl) (Str.ofString "words") rfl) (Str.ofString "colours") rfl) (cb_drop N9 ?dr)
   case dr =>
    simp only [List.cons_append,List.nil_append]
    walk_at "my sub"
   case hw => exact List.forall_mem_cons.mpr ⟨by (dsimp only; (first | exact offNe (r3 (by with_reducible assumption)) | exact offNe (r4 (by with_reducible assumption)) | exact offNe (r5 (by with_reducible assumption)) | exact offNe (r6 (by with_reducible assumption)) | exact offNe (r7 (by with_reducible assumption)) | exact offNe (r8 (by with_reducible assumption)) | exact offNe (r9 (by with_reducible assumption)) | exact offNe (r10 (by with_reducible assumption)) | exact offNe (r11 (by with_reducible assumption)) | exact offNe (r12 (by with_reducible assumption)) | exact offNe (r13 (by with_reducible assumption)) | exact offNe (r14 (by with_reducible assumption)) | exact offNe (r15 (by with_reducible assumption)) | exact offNe (r16 (by with_reducible assumption)) | exact offNe (by with_reducible assumption) | k_all)),List.forall_mem_cons.mpr ⟨fun b hb => n0 b (mem_six hb),List.forall_mem_cons.mpr ⟨fun b hb => n1 b (.tail _ (mem_six hb)),List.forall_mem_cons.mpr ⟨fun b hb => n2 b (.tail _ (.tail _ (mem_six hb))),List.forall_mem_cons.mpr ⟨fun b hb => n3 b (.tail _ (.tail _ (.tail _ (mem_six hb)))),List.forall_mem_cons.mpr ⟨fun b hb => n4 b (.tail _ (.tail _ (.tail _ (.tail _ (mem_six hb))))),List.forall_mem_nil _⟩⟩⟩⟩⟩⟩
  exact key rfl KX ho
 case r => delta id stq_it stq_out; exact k
end

example {M : Model} {A : Around} {env : Env} {Q : Flow -> Shared -> Prop} {E : Value -> Shared -> Prop} {s : Shared} (h : Q .next s) : wpAny M A (execs [] env) Q E s := by first | (walk1; exact h) | exact wpAny_execs_nil h

section
local macro_rules | `(tactic| walk_at $s) => if ["SrcG","TurnEnd","TurnRest","exec Assign cons ListComp"].contains s.getString then `(tactic| refine stq_it $s ?_) else Lean.Macro.throwUnsupported
theorem law5 {w : World} {mg mb : Str -> Option Value} {mean : ExcName -> Option Value} {loose : List Str} {g : Heap} {L fa : Addr} {cd : Value} {o : Obj} {fd : FuncData}
  (ho : (hd.heap_39 w.params).lookup 192 = some o) (hfd : o.data = .func fd) (CH : CodeHd g 146 142) (B : Below callerA g [] g) (KX : (hd.heap_39 w.params).In g) (T : Top topProg loose mean mg mb g) {m : Str -> Option Value} {s : Shared} {Q : Flow -> Shared -> Prop} {R : Result -> Shared -> Prop} {o1 o2 o3 o4 o5 o6 : Obj} {v1 v2 v3 v4 v5 v6 : Option Value} (c1 : o1.data = .cell v1) (c2 : o2.data = .cell v2) (c3 : o3.data = .cell v3) (c4 : o4.data = .cell v4) (c5 : o5.data = .cell v5) (c6 : o6.data = .cell v6) {H W K T0 T1 T2 T3 T4 : Addr} {cr0 cg0 cb0 cr1 cg1 cb1 cr2 cg2 cb2 cr3 cg3 cb3 cr4 cg4 cb4 : UInt64} {h0 s0 e0 h1 s1 e1 h2 s2 e2 h3 s3 e3 h4 s4 e4 : UInt64} (q0 : rgbF cr0 cg0 cb0 = some (h0,s0,e0)) (q1 : rgbF cr1 cg1 cb1 = some (h1,s1,e1)) (q2 : rgbF cr2 cg2 cb2 = some (h2,s2,e2)) (q3 : rgbF cr3 cg3 cb3 = some (h3,s3,e3)) (q4 : rgbF cr4 cg4 cb4 = some (h4,s4,e4)) {tx0 ty0 tw0 tx1 ty1 tw1 tx2 ty2 tw2 tx3 ty3 tw3 tx4 ty4 tw4 : Tok} {zz : List (Addr × Obj)} {mR : Str -> Option Value} (hK : (K,LCg.lst [.ref T0,.ref T1,.ref T2,.ref T3,.ref T4]) ∈ zz) (mt0 : (T0,tupO [.float cr0 tx0,.float cg0 ty0,.float cb0 tw0]) ∈ zz) (mt1 : (T1,tupO [.float cr1 tx1,.float cg1 ty1,.float cb1 tw1]) ∈ zz) (mt2 : (T2,tupO [.float cr2 tx2,.float cg2 ty2,.float cb2 tw2]) ∈ zz) (mt3 : (T3,tupO [.float cr3 tx3,.float cg3 ty3,.float cb3 tw3]) ∈ zz) (mt4 : (T4,tupO [.float cr4 tx4,.float cg4 ty4,.float cb4 tw4]) ∈ zz)
  (z : Off6 L (zz)) (F : Fr g L s.heap (fun z => if z = Str.ofString "colours" then some (.ref K) else if z = Str.ofString "words" then some (.ref W) else if z = Str.ofString "hosts" then some (.ref H) else mR z)) (N : News g L s.heap (six L o1 o2 o3 o4 o5 o6 zz))
  (rest : ∀ (G U0 U1 U2 U3 U4 : Addr) (gx0 gy0 gw0 gx1 gy1 gw1 gx2 gy2 gw2 gx3 gy3 gw3 gx4 gy4 gw4 : Tok) (mR : Str -> Option Value) (h' : Heap) (tk' : Nat) (new : List (Addr × Obj)) (hnew : new = [(G, LCg.lst [.ref U0, .ref U1, .ref U2, .ref U3, .ref U4]), (U0, tupO [.float h0 gx0, .float s0 gy0, .float e0 gw0]), (U1, tupO [.float h1 gx1, .float s1 gy1, .float e1 gw1]), (U2, tupO [.float h2 gx2, .float s2 gy2, .float e2 gw2]), (U3, tupO [.float h3 gx3, .float s3 gy3, .float e3 gw3]), (U4, tupO [.float h4 gx4, .float s4 gy4, .float e4 gw4])]) (hoff : ∀ x ∈ new, ∀ b ∈ zz, b.1 ≠ x.1) (sz : Seqs new) (F : Fr g L h' (fun z => if z = Str.ofString "told" then some (.ref G) else if z = Str.ofString "colours" then some (.ref K) else if z = Str.ofString "words" then some (.ref W) else if z = Str.ofString "hosts" then some (.ref H) else mR z)) (N : News g L h' (six L o1 o2 o3 o4 o5 o6 (new ++ zz))), wpAny (model rw_xg0057_01.row.prog w) (callerA.deeper (envOfC fd.name fd.scope L fa cd)) (execs ((stmtsOf fd).drop 10) (envOfC fd.name fd.scope L fa cd)) Q (fun e s7 => wpAny (model rw_xg0057_01.row.prog w) (callerA.deeper (envOfC fd.name fd.scope L fa cd)) (leaving (envOfC fd.name fd.scope L fa cd) e) (fun _ s8 => R (.error e) s8) (fun e8 s8 => R (.error e8) s8) s7) { s with heap := h', toks := tk' }) : wpAny (model rw_xg0057_01.row.prog w) (callerA.deeper (envOfC fd.name fd.scope L fa cd)) (execs ((stmtsOf fd).drop 9) (envOfC fd.name fd.scope L fa cd)) Q (fun e s7 => wpAny (model rw_xg0057_01.row.prog w) (callerA.deeper (envOfC fd.name fd.scope L fa cd)) (leaving (envOfC fd.name fd.scope L fa cd) e) (fun _ s8 => R (.error e) s8) (fun e8 s8 => R (.error e8) s8) s7) s := by
 refine (?f : Cln _) ?p ⟨?q,fun B k => ?r⟩
 case f => exact fun x _ => x
 case q =>
  have key : rw_xg0057_01.row.prog = rw_xg0057_01.row.prog -> (hd.heap_39 w.params).In g -> (hd.heap_39 w.params).lookup 192 = some o -> wpAny (model rw_xg0057_01.row.prog w) (callerA.deeper (envOfC fd.name fd.scope L fa cd)) (execs ((stmtsOf fd).drop 9) (envOfC fd.name fd.scope L fa cd)) Q (fun e s7 => wpAny (model rw_xg0057_01.row.prog w) (callerA.deeper (envOfC fd.name fd.scope L fa cd)) (leaving (envOfC fd.name fd.scope L fa cd) e) (fun _ s8 => R (.error e) s8) (fun e8 s8 => R (.error e8) s8) s7) s := by
   clear KX ho
   k_fill
   intro _ KX ho
   have e9 := ho.symm.trans (show (hd.heap_39 w.params).lookup 192 = some _ from by k_is)
   cases e9
   cases hfd
   dsimp only [stmtsOf,List.drop]
   (try k_fold)
   have z1 := z.1
   have z2 := z.2.1
   have z3 := z.2.2.1
   have z4 := z.2.2.2.1
   have z5 := z.2.2.2.2.1
   have z6 := z.2.2.2.2.2
   refine cut_at 1 ?_
   dsimp only [List.take,List.drop]
   (k_steps; repeat' ((first | (refine stq_out "TurnRest" ?_; (with_unfolding_all first
  | (refine TurnRest.succ ?_; intro v' I' oI' C' oC' D' m0' h0' tk' E' hv' hC0' hit' F' N' off' ne'; lcg_open hv'; refine turn3 (by rfl) (by k_asm) (by k_asm) hC0' hit' off' ne' (by k_mem) (by rfl) (by rfl) (by rfl) (by rfl) (by decide) (by decide) (by decide) ?_; clear F' N' hC0'; intro oC'' m' h' tk'' hC' hr' hg' hb' F' N'; (try simp only [LCg.Off3,and_true] at off'); refine testsOf_nil ?_; rw [if_pos rfl])
  | refine TurnRest.zero ?_)) | (refine stq_out "SrcG" ?_; (k_here; k_dflt (refine SrcG.ledger (by rfl) (by k_asm) (by k_asm) (by k_mem) (by exact Nat.le_of_ble_eq_true rfl) ?_); intro g'; show TurnRest _ _ _ _ _ _ _ _ _ _ _ _ _ _ _ _ _ 5 _ _ _)) | (refine stq_out "TurnEnd" ?_; (k_dflt (first | (refine' TurnEnd.intro1 (by with_reducible assumption) (by assumption) (by first | with_reducible assumption | assumption) ?co ?cs ?_) | (refine' TurnEnd.intro (by with_reducible assumption) (by assumption) (by first | with_reducible assumption | assumption) ?co ?cs ?_)); (case co => (simp only [LCg.Off3, and_true]; first | with_reducible assumption | (refine And.intro ⟨by k_ne, by k_ne, by k_ne⟩ ?_; first | with_reducible assumption | walk_at "my off") | walk_at "my off")); (case cs => lcg_src))) | (refine stq_out "exec Assign cons ListComp" ?_; (k_here; lcg_calm; k_dflt (refine Assign_G (F₀ := by k_asm) (by rfl) (by with_unfolding_all rfl) (by with_unfolding_all rfl) (by decide) (by rfl) (by decide) (by rfl) (by rfl) ?_))) | (refine stq_out "call ref" ?_; (k_here; (with_reducible show wpAny _ _ (call (Value.ref 71) [Value.float _ _, Value.float _ _, Value.float _ _]) _ _ _); k_dflt (refine' use_rgbE ?hf ?k1 ?k2 ?k3 ?k4 ?k5 ?kK ?kd ?ku ?_); (case hf => assumption); walk_at "my sides"; intro D' u1 u2 u3 h' tk' F' N' l1; (try k_lt l1); (try dsimp only))) | fail) <;> k_steps))
   dsimp only
   show wpAny _ _ _ _ _ _
   rename Fr _ _ _ _ => F9
   rename News _ _ _ _ => N9
   refine' @rest _ _ _ _ _ _ _ _ _ _ _ _ _ _ _ _ _ _ _ _ _ _ _ _ _ rfl ?hw (.cons ⟨_, _, rfl⟩ (.cons ⟨_, _, rfl⟩ (.cons ⟨_, _, rfl⟩ (.cons ⟨_, _, rfl⟩ (.cons ⟨_, _, rfl⟩ (.cons ⟨_, _, rfl⟩ .nil)))))) (fr_has (fr_has (fr_has (fr_has F9 (Str.ofString "hosts") rfl) (Str.ofString "words") rfl) (Str.ofString "colours") rfl) (Str.ofString "told") rfl) (cb_drop N9 ?dr)
   case dr =>
    simp only [List.cons_append,List.nil_append]
    walk_at "my sub"
   case hw => (repeat (refine List.forall_mem_cons.mpr ⟨by (dsimp only; (first | exact offNe (r3 (by with_reducible assumption)) | exact offNe (r4 (by with_reducible assumption)) | exact offNe (r5 (by with_reducible assumption)) | exact offNe (r6 (by with_reducible assumption)) | exact offNe (r7 (by with_reducible assumption)) | exact offNe (r8 (by with_reducible assumption)) | exact offNe (r9 (by with_reducible assumption)) | exact offNe (r10 (by with_reducible assumption)) | exact offNe (r11 (by with_reducible assumption)) | exact offNe (r12 (by with_reducible assumption)) | exact offNe (r13 (by with_reducible assumption)) | exact offNe (r14 (by with_reducible assumption)) | exact offNe (r15 (by with_reducible assumption)) | exact offNe (r16 (by with_reducible assumption)) | exact offNe (by with_reducible assumption) | k_all)),?_⟩)); exact List.forall_mem_nil _
  exact key rfl KX ho
 case r => delta id stq_it stq_out; exact k
end

example {M : Model} {A : Around} {env : Env} {Q : Flow -> Shared -> Prop} {E : Value -> Shared -> Prop} {s : Shared} (h : Q .next s) : wpAny M A (execs [] env) Q E s := by first | (walk1; exact h) | exact wpAny_execs_nil h

theorem pair1 {w : World} {mg mb : Str -> Option Value} {mean : ExcName -> Option Value} {loose : List Str} {g : Heap} {L fa : Addr} {cd : Value} {o : Obj} {fd : FuncData}
  (ho : (hd.heap_39 w.params).lookup 192 = some o) (hfd : o.data = .func fd) (CH : CodeHd g 146 142) (B : Below callerA g [] g) (KX : (hd.heap_39 w.params).In g) (T : Top topProg loose mean mg mb g) {m : Str -> Option Value} {s : Shared} {Q : Flow -> Shared -> Prop} {R : Result -> Shared -> Prop} {o1 o2 o3 o4 o5 o6 : Obj} {v1 v2 v3 v4 v5 v6 : Option Value} (c1 : o1.data = .cell v1) (c2 : o2.data = .cell v2) (c3 : o3.data = .cell v3) (c4 : o4.data = .cell v4) (c5 : o5.data = .cell v5) (c6 : o6.data = .cell v6) {H G W O Kc : Addr} {a b : Int} {ta tb : Tok} {vsH vsG vsW : List Value} {nH nG nW : Nat} {lA lB : Addr} {vA vB : List Value} {kA kB : Nat} {A Bs : List Int} {uA uB : Tok} {UA UB : Addr} {hA sA eA hB sB eB : UInt64} {g1 g2 g3 g4 g5 g6 : Tok} {ds : List Addr} {os : List (UInt64 × UInt64)} {nO : Nat} {zz : List (Addr × Obj)} {mR : Str -> Option Value} (ha : 0 <= a ∧ a < 5) (hb : 0 <= b ∧ b < 5) (mH : (H,PySem.W.listOf vsH.toArray nH) ∈ zz) (mG : (G,PySem.W.listOf vsG.toArray nG) ∈ zz) (mW : (W,PySem.W.listOf vsW.toArray nW) ∈ zz) (mO : (O,PySem.W.listOf (ds.map Value.ref).toArray nO) ∈ zz) (pO : PairsAre zz ds os)
  (iA : IntsAre vA A) (iB : IntsAre vB Bs) (mA : (lA,PySem.W.listOf vA.toArray kA) ∈ zz) (mB : (lB,PySem.W.listOf vB.toArray kB) ∈ zz) (xHA : vsH[a.toNat]? = some (.ref lA)) (xHB : vsH[b.toNat]? = some (.ref lB)) (xWA : vsW[a.toNat]? = some (.str (hostF A) uA)) (xWB : vsW[b.toNat]? = some (.str (hostF Bs) uB))
  (xGA : vsG[a.toNat]? = some (.ref UA)) (xGB : vsG[b.toNat]? = some (.ref UB)) (mUA : (UA,tupO [.float hA g1,.float sA g2,.float eA g3]) ∈ zz) (mUB : (UB,tupO [.float hB g4,.float sB g5,.float eB g6]) ∈ zz)
  (z : Off6 L (zz)) (F : Fr g L s.heap (fun z => if z = Str.ofString "a" then some (.int a ta) else if z = Str.ofString "b" then some (.int b tb) else if z = Str.ofString "orbit" then some (.ref O) else if z = Str.ofString "told" then some (.ref G) else if z = Str.ofString "words" then some (.ref W) else if z = Str.ofString "colours" then some (.ref Kc) else if z = Str.ofString "hosts" then some (.ref H) else mR z)) (N : News g L s.heap (six L o1 o2 o3 o4 o5 o6 zz))
  (zB : Float64.isZero sB = false) (nB : Float64.isNaN (Float64.div (Float64.div hB sB) sB) = false) (fB : Float64.isInf (Float64.div (Float64.div hB sB) sB) = false) (rest : ∀ (o2' o3' o4' : Obj) (tp : Tok) (mR : Str -> Option Value) (h' : Heap) (tk' : Nat) (c2 : o2'.data = .cell (some (.int (Flt.toInt Float64.truncOf (Float64.div (Float64.div hB sB) sB)) tp))) (c3 : o3'.data = .cell (some (.float sB g5))) (c4 : o4'.data = .cell (some (.ref lB))) (F : Fr g L h' (fun z => if z = Str.ofString "hue" then some (.float hB g4) else if z = Str.ofString "a" then some (.int a ta) else if z = Str.ofString "b" then some (.int b tb) else if z = Str.ofString "orbit" then some (.ref O) else if z = Str.ofString "told" then some (.ref G) else if z = Str.ofString "words" then some (.ref W) else if z = Str.ofString "colours" then some (.ref Kc) else if z = Str.ofString "hosts" then some (.ref H) else mR z)) (N : News g L h' (six L o1 o2' o3' o4' o5 o6 zz)), wpAny (model rw_xg0057_01.row.prog w) (callerA.deeper (envOfC fd.name fd.scope L fa cd)) (execs ((pairB fd).drop 3) (envOfC fd.name fd.scope L fa cd)) Q (fun e s7 => wpAny (model rw_xg0057_01.row.prog w) (callerA.deeper (envOfC fd.name fd.scope L fa cd)) (leaving (envOfC fd.name fd.scope L fa cd) e) (fun _ s8 => R (.error e) s8) (fun e8 s8 => R (.error e8) s8) s7) { s with heap := h', toks := tk' }) : wpAny (model rw_xg0057_01.row.prog w) (callerA.deeper (envOfC fd.name fd.scope L fa cd)) (execs ((pairB fd).drop 0) (envOfC fd.name fd.scope L fa cd)) Q (fun e s7 => wpAny (model rw_xg0057_01.row.prog w) (callerA.deeper (envOfC fd.name fd.scope L fa cd)) (leaving (envOfC fd.name fd.scope L fa cd) e) (fun _ s8 => R (.error e) s8) (fun e8 s8 => R (.error e8) s8) s7) s := by
 refine (?f : Cln _) ?p ⟨?q,fun B k => ?r⟩
 case f => exact fun x _ => x
 case q =>
  have key : rw_xg0057_01.row.prog = rw_xg0057_01.row.prog -> (hd.heap_39 w.params).In g -> (hd.heap_39 w.params).lookup 192 = some o -> wpAny (model rw_xg0057_01.row.prog w) (callerA.deeper (envOfC fd.name fd.scope L fa cd)) (execs ((pairB fd).drop 0) (envOfC fd.name fd.scope L fa cd)) Q (fun e s7 => wpAny (model rw_xg0057_01.row.prog w) (callerA.deeper (envOfC fd.name fd.scope L fa cd)) (leaving (envOfC fd.name fd.scope L fa cd) e) (fun _ s8 => R (.error e) s8) (fun e8 s8 => R (.error e8) s8) s7) s := by
   clear KX ho
   k_fill
   intro _ KX ho
   have e9 := ho.symm.trans (show (hd.heap_39 w.params).lookup 192 = some _ from by k_is)
   cases e9
   cases hfd
   simp only [pairB,stmtsOf,bodyAt,forBody]
   dsimp only [List.drop]
   (try k_fold)
   have z1 := z.1
   have z2 := z.2.1
   have z3 := z.2.2.1
   have z4 := z.2.2.2.1
   have z5 := z.2.2.2.2.1
   have z6 := z.2.2.2.2.2
   refine cut_at 3 ?_
   dsimp only [List.take,List.drop]
   k_steps
   dsimp only
   show wpAny _ _ _ _ _ _
   rename Fr _ _ _ _ => F9
   rename News _ _ _ _ => N9
   exact @rest _ _ _ _ _ _ _ (by assumption) (by assumption) (by assumption) (fr_has (fr_has (fr_has (fr_has (fr_has (fr_has (fr_has (fr_has F9 (Str.ofString "hosts") rfl) (Str.ofString "colours") rfl) (Str.ofString "words") rfl) (Str.ofString "told") rfl) (Str.ofString "orbit") rfl) (Str.ofString "b") rfl) (Str.ofString "a") rfl) (Str.ofString "hue") rfl) N9
  exact key rfl KX ho
 case r => delta id stq_it stq_out; exact k
section
local macro_rules | `(tactic| walk_at $s) => if ["SrcG","TurnEnd","exec Assign cons ListComp"].contains s.getString then `(tactic| refine stq_it $s ?_) else Lean.Macro.throwUnsupported
noncomputable def metT (sB : UInt64) (pl : Int) (r : UInt64 × UInt64) : Bool := (Float64.cmp r.2 sB == some Ordering.lt) && (Flt.toInt Float64.truncOf (Float64.div (Float64.div r.1 sB) sB) == pl)
theorem pairs_at {zz : List (Addr × Obj)} : ∀ {ds : List Addr} {os : List (UInt64 × UInt64)},PairsAre zz ds os -> ∀ {i : Nat} {v : Value},(ds.map Value.ref).toArray[i]? = some v ->
  ∃ (d : Addr) (r : UInt64 × UInt64) (t1 t2 : Tok),v = .ref d ∧ os[i]? = some r ∧ (d,tupO [.float r.1 t1,.float r.2 t2]) ∈ zz
 | _,_,.nil,i,v,h => by simp at h
 | _,_,.cons (d := d) (t1 := t1) (t2 := t2) (h := h1) (s := s1) hm hr,0,v,h => by
  simp at h
  exact ⟨d,(h1,s1),t1,t2,h.symm,by simp,hm⟩
 | _,_,.cons hm hr,i + 1,v,h => by
  have := pairs_at hr (i := i) (v := v) (by simpa using h)
  simpa using this
theorem pairs_len {zz : List (Addr × Obj)} : ∀ {ds : List Addr} {os : List (UInt64 × UInt64)},PairsAre zz ds os -> ds.length = os.length
 | _,_,.nil => rfl
 | _,_,.cons _ r => by simp [pairs_len r]
theorem any_take {os : List (UInt64 × UInt64)} {p : UInt64 × UInt64 -> Bool} {i : Nat} {r : UInt64 × UInt64} (h : os[i]? = some r) : (os.take (i + 1)).any p = ((os.take i).any p || p r) := by
 rw [List.take_add_one,h,List.any_append]
 simp
theorem pair2 {w : World} {mg mb : Str -> Option Value} {mean : ExcName -> Option Value} {loose : List Str} {g : Heap} {L fa : Addr} {cd : Value} {o : Obj} {fd : FuncData}
  (ho : (hd.heap_39 w.params).lookup 192 = some o) (hfd : o.data = .func fd) (CH : CodeHd g 146 142) (B : Below callerA g [] g) (KX : (hd.heap_39 w.params).In g) (T : Top topProg loose mean mg mb g) {m : Str -> Option Value} {s : Shared} {Q : Flow -> Shared -> Prop} {R : Result -> Shared -> Prop} {o1 o2 o3 o4 o5 o6 : Obj} {v1 v6 : Option Value} {pl : Int} {tp : Tok} {H G W O Kc : Addr} {a b : Int} {ta tb : Tok} {vsH vsG vsW : List Value} {nH nG nW : Nat} {lA lB : Addr} {vA vB : List Value} {kA kB : Nat} {A Bs : List Int} {uA uB : Tok} {UA UB : Addr} {hA sA eA hB sB eB : UInt64} {g1 g2 g3 g4 g5 g6 : Tok} {ds : List Addr} {os : List (UInt64 × UInt64)} {nO : Nat} {zz : List (Addr × Obj)} {mR : Str -> Option Value} (ha : 0 <= a ∧ a < 5) (hb : 0 <= b ∧ b < 5) (mH : (H,PySem.W.listOf vsH.toArray nH) ∈ zz) (mG : (G,PySem.W.listOf vsG.toArray nG) ∈ zz) (mW : (W,PySem.W.listOf vsW.toArray nW) ∈ zz) (mO : (O,PySem.W.listOf (ds.map Value.ref).toArray nO) ∈ zz) (pO : PairsAre zz ds os)
  (iA : IntsAre vA A) (iB : IntsAre vB Bs) (mA : (lA,PySem.W.listOf vA.toArray kA) ∈ zz) (mB : (lB,PySem.W.listOf vB.toArray kB) ∈ zz) (xHA : vsH[a.toNat]? = some (.ref lA)) (xHB : vsH[b.toNat]? = some (.ref lB)) (xWA : vsW[a.toNat]? = some (.str (hostF A) uA)) (xWB : vsW[b.toNat]? = some (.str (hostF Bs) uB))
  (xGA : vsG[a.toNat]? = some (.ref UA)) (xGB : vsG[b.toNat]? = some (.ref UB)) (mUA : (UA,tupO [.float hA g1,.float sA g2,.float eA g3]) ∈ zz) (mUB : (UB,tupO [.float hB g4,.float sB g5,.float eB g6]) ∈ zz) (c1 : o1.data = .cell v1) (c2 : o2.data = .cell (some (.int pl tp))) (c3 : o3.data = .cell (some (.float sB g5))) (c4 : o4.data = .cell (some (.ref lB))) (c5 : o5.data = .cell (some (.ref lA))) (c6 : o6.data = .cell v6) (El : ∀ r ∈ os,Float64.isNaN (Float64.div (Float64.div r.1 sB) sB) = false ∧ Float64.isInf (Float64.div (Float64.div r.1 sB) sB) = false) (zB : Float64.isZero sB = false) (hsz : (ds.map Value.ref).toArray.size <= sizeLine)
  (z : Off6 L (zz)) (F : Fr g L s.heap (fun z => if z = Str.ofString "hue" then some (.float hB g4) else if z = Str.ofString "a" then some (.int a ta) else if z = Str.ofString "b" then some (.int b tb) else if z = Str.ofString "orbit" then some (.ref O) else if z = Str.ofString "told" then some (.ref G) else if z = Str.ofString "words" then some (.ref W) else if z = Str.ofString "colours" then some (.ref Kc) else if z = Str.ofString "hosts" then some (.ref H) else mR z)) (N : News g L s.heap (six L o1 o2 o3 o4 o5 o6 zz))
  (rest : ∀ (M : Addr) (ys : List Value) (mR : Str -> Option Value) (h' : Heap) (tk' : Nat) (hys : ys = [] ↔ os.any (metT sB pl) = false) (hM : ∀ b ∈ zz, b.1 ≠ M) (F : Fr g L h' (fun z => if z = Str.ofString "met" then some (.ref M) else if z = Str.ofString "hue" then some (.float hB g4) else if z = Str.ofString "a" then some (.int a ta) else if z = Str.ofString "b" then some (.int b tb) else if z = Str.ofString "orbit" then some (.ref O) else if z = Str.ofString "told" then some (.ref G) else if z = Str.ofString "words" then some (.ref W) else if z = Str.ofString "colours" then some (.ref Kc) else if z = Str.ofString "hosts" then some (.ref H) else mR z)) (N : News g L h' (six L o1 o2 o3 o4 o5 o6 ((M, LCg.lst ys) :: zz))), wpAny (model rw_xg0057_01.row.prog w) (callerA.deeper (envOfC fd.name fd.scope L fa cd)) (execs ((pairB fd).drop 4) (envOfC fd.name fd.scope L fa cd)) Q (fun e s7 => wpAny (model rw_xg0057_01.row.prog w) (callerA.deeper (envOfC fd.name fd.scope L fa cd)) (leaving (envOfC fd.name fd.scope L fa cd) e) (fun _ s8 => R (.error e) s8) (fun e8 s8 => R (.error e8) s8) s7) { s with heap := h', toks := tk' }) : wpAny (model rw_xg0057_01.row.prog w) (callerA.deeper (envOfC fd.name fd.scope L fa cd)) (execs ((pairB fd).drop 3) (envOfC fd.name fd.scope L fa cd)) Q (fun e s7 => wpAny (model rw_xg0057_01.row.prog w) (callerA.deeper (envOfC fd.name fd.scope L fa cd)) (leaving (envOfC fd.name fd.scope L fa cd) e) (fun _ s8 => R (.error e) s8) (fun e8 s8 => R (.error e8) s8) s7) s := by
 refine (?f : Cln _) ?p ⟨?q,fun B k => ?r⟩
 case f => exact fun x _ => x
 case q =>
  have key : rw_xg0057_01.row.prog = rw_xg0057_01.row.prog -> (hd.heap_39 w.params).In g -> (hd.heap_39 w.params).lookup 192 = some o -> wpAny (model rw_xg0057_01.row.prog w) (callerA.deeper (envOfC fd.name fd.scope L fa cd)) (execs ((pairB fd).drop 3) (envOfC fd.name fd.scope L fa cd)) Q (fun e s7 => wpAny (model rw_xg0057_01.row.prog w) (callerA.deeper (envOfC fd.name fd.scope L fa cd)) (leaving (envOfC fd.name fd.scope L fa cd) e) (fun _ s8 => R (.error e) s8) (fun e8 s8 => R (.error e8) s8) s7) s := by
   clear KX ho
   k_fill
   intro _ KX ho
   have e9 := ho.symm.trans (show (hd.heap_39 w.params).lookup 192 = some _ from by k_is)
   cases e9
   cases hfd
   simp only [pairB,stmtsOf,bodyAt,forBody]
   dsimp only [List.drop]
   (try k_fold)
   have z1 := z.1
   have z2 := z.2.1
   have z3 := z.2.2.1
   have z4 := z.2.2.2.1
   have z5 := z.2.2.2.2.1
   have z6 := z.2.2.2.2.2
   refine cut_at 1 ?_
   dsimp only [List.take,List.drop]
   (k_steps; repeat' ((first | (refine stq_out "SrcG" ?_; (k_here; k_dflt (refine SrcG.ledger (by rfl) (by k_asm) (by k_asm) (by k_mem) (by assumption) ?_); intro g')) | (refine stq_out "TurnEnd" ?_; (k_dflt (first | (refine' TurnEnd.intro1 (by with_reducible assumption) (by assumption) (by first | with_reducible assumption | assumption) ?co ?cs ?_) | (refine' TurnEnd.intro (by with_reducible assumption) (by assumption) (by first | with_reducible assumption | assumption) ?co ?cs ?_)); (case co => (simp only [LCg.Off3, and_true]; first | with_reducible assumption | (refine And.intro ⟨by k_ne, by k_ne, by k_ne⟩ ?_; first | with_reducible assumption | walk_at "my off") | walk_at "my off")); (case cs => lcg_src))) | (refine stq_out "exec Assign cons ListComp" ?_; (k_here; lcg_calm; k_dflt (refine Assign_G (F₀ := by k_asm) (by rfl) (by with_unfolding_all rfl) (by with_unfolding_all rfl) (by decide) (by rfl) (by decide) (by rfl) (by rfl) ?_))) | fail) <;> k_steps))
   refine turns_ind (fun i ys => ys = [] ↔ (os.take i).any (metT sB pl) = false) (by simp) ?hend ?step
   case step =>
    intro i ys v I' oI' C' oC' D' m0' h0' tk' E' hi hv hI hC0' hit' F' N' off' ne'
    obtain ⟨d,r,t1,t2,rfl,hr,hd⟩ := pairs_at pO hv
    obtain ⟨el1,el2⟩ := El r (List.mem_of_getElem? hr)
    have hat := any_take (p := metT sB pl) hr
    refine turn2 (by rfl) (by k_asm) (by k_asm) hC0' hit' off' ne' (by k_mem) (by rfl) (by rfl) (by rfl) (by decide) ?_
    clear F' N' hC0'
    intro oC'' m' h' tk'' hC' hx hy F' N'
    simp only [LCg.Off3] at off'
    refine testsOf_one ?_
    (k_steps; repeat' ((first | (refine stq_out "SrcG" ?_; (k_here; k_dflt (refine SrcG.ledger (by rfl) (by k_asm) (by k_asm) (by k_mem) (by assumption) ?_); intro g')) | (refine stq_out "TurnEnd" ?_; (k_dflt (first | (refine' TurnEnd.intro1 (by with_reducible assumption) (by assumption) (by first | with_reducible assumption | assumption) ?co ?cs ?_) | (refine' TurnEnd.intro (by with_reducible assumption) (by assumption) (by first | with_reducible assumption | assumption) ?co ?cs ?_)); (case co => (simp only [LCg.Off3, and_true]; first | with_reducible assumption | (refine And.intro ⟨by k_ne, by k_ne, by k_ne⟩ ?_; first | with_reducible assumption | walk_at "my off") | walk_at "my off")); (case cs => lcg_src))) | (refine stq_out "exec Assign cons ListComp" ?_; (k_here; lcg_calm; k_dflt (refine Assign_G (F₀ := by k_asm) (by rfl) (by with_unfolding_all rfl) (by with_unfolding_all rfl) (by decide) (by rfl) (by decide) (by rfl) (by rfl) ?_))) | fail) <;> k_steps))
    ·rename (Float64.cmp _ _ == _) = true => e1
     rename Flt.toInt _ _ = pl => e2
     have em : metT sB pl r = true := by unfold metT; rw [e1,e2]; simp
     rw [hat,em]; simp
    ·rename Flt.toInt _ _ ≠ pl => e2
     have em : metT sB pl r = false := by unfold metT; rw [beq_eq_false_iff_ne.mpr e2,Bool.and_false]
     rw [hat,em,Bool.or_false]; exact hI
    ·rename (Float64.cmp _ _ == _) = false => e1
     have em : metT sB pl r = false := by unfold metT; rw [e1,Bool.false_and]
     rw [hat,em,Bool.or_false]; exact hI
   case hend =>
    intro ys hI
    rw [List.size_toArray,List.length_map,pairs_len pO,List.take_length] at hI
    (k_steps; repeat' ((first | (refine stq_out "SrcG" ?_; (k_here; k_dflt (refine SrcG.ledger (by rfl) (by k_asm) (by k_asm) (by k_mem) (by assumption) ?_); intro g')) | (refine stq_out "TurnEnd" ?_; (k_dflt (first | (refine' TurnEnd.intro1 (by with_reducible assumption) (by assumption) (by first | with_reducible assumption | assumption) ?co ?cs ?_) | (refine' TurnEnd.intro (by with_reducible assumption) (by assumption) (by first | with_reducible assumption | assumption) ?co ?cs ?_)); (case co => (simp only [LCg.Off3, and_true]; first | with_reducible assumption | (refine And.intro ⟨by k_ne, by k_ne, by k_ne⟩ ?_; first | with_reducible assumption | walk_at "my off") | walk_at "my off")); (case cs => lcg_src))) | (refine stq_out "exec Assign cons ListComp" ?_; (k_here; lcg_calm; k_dflt (refine Assign_G (F₀ := by k_asm) (by rfl) (by with_unfolding_all rfl) (by with_unfolding_all rfl) (by decide) (by rfl) (by decide) (by rfl) (by rfl) ?_))) | fail) <;> k_steps))
    dsimp only
    show wpAny _ _ _ _ _ _
    rename Fr _ _ _ _ => F9
    rename News _ _ _ _ => N9
    refine' @rest _ ys _ _ _ hI ?of (fr_has (fr_has (fr_has (fr_has (fr_has (fr_has (fr_has (fr_has (fr_has F9 (Str.ofString "hosts") rfl) (Str.ofString "colours") rfl) (Str.ofString "words") rfl) (Str.ofString "told") rfl) (Str.ofString "orbit") rfl) (Str.ofString "b") rfl) (Str.ofString "a") rfl) (Str.ofString "hue") rfl) (Str.ofString "met") rfl) (cb_drop N9 ?dr)
    case of => (first | exact offNe (r3 (by with_reducible assumption)) | exact offNe (r4 (by with_reducible assumption)) | exact offNe (r5 (by with_reducible assumption)) | exact offNe (r6 (by with_reducible assumption)) | exact offNe (r7 (by with_reducible assumption)) | exact offNe (r8 (by with_reducible assumption)) | exact offNe (r9 (by with_reducible assumption)) | exact offNe (r10 (by with_reducible assumption)) | exact offNe (r11 (by with_reducible assumption)) | exact offNe (r12 (by with_reducible assumption)) | exact offNe (r13 (by with_reducible assumption)) | exact offNe (r14 (by with_reducible assumption)) | exact offNe (r15 (by with_reducible assumption)) | exact offNe (r16 (by with_reducible assumption)) | exact offNe (by with_reducible assumption) | k_all)
    case dr => walk_at "my sub"
  exact key rfl KX ho
 case r => delta id stq_it stq_out; exact k
end

example {M : Model} {A : Around} {env : Env} {Q : Flow -> Shared -> Prop} {E : Value -> Shared -> Prop} {s : Shared} (h : Q .next s) : wpAny M A (execs [] env) Q E s := by first | (walk1; exact h) | exact wpAny_execs_nil h

section
local macro_rules | `(tactic| walk_at $s) => if ["compareOp NotEq ref ref"].contains s.getString then `(tactic| refine stq_it $s ?_) else Lean.Macro.throwUnsupported
theorem pair3 {w : World} {mg mb : Str -> Option Value} {mean : ExcName -> Option Value} {loose : List Str} {g : Heap} {L fa : Addr} {cd : Value} {o : Obj} {fd : FuncData}
  (ho : (hd.heap_39 w.params).lookup 192 = some o) (hfd : o.data = .func fd) (CH : CodeHd g 146 142) (B : Below callerA g [] g) (KX : (hd.heap_39 w.params).In g) (T : Top topProg loose mean mg mb g) {m : Str -> Option Value} {s : Shared} {Q : Flow -> Shared -> Prop} {R : Result -> Shared -> Prop} {o1 o2 o3 o4 o5 o6 : Obj} {v1 v6 : Option Value} {pl : Int} {tp : Tok} {H G W O Kc : Addr} {a b : Int} {ta tb : Tok} {vsH vsG vsW : List Value} {nH nG nW : Nat} {lA lB : Addr} {vA vB : List Value} {kA kB : Nat} {A Bs : List Int} {uA uB : Tok} {UA UB : Addr} {hA sA eA hB sB eB : UInt64} {g1 g2 g3 g4 g5 g6 : Tok} {ds : List Addr} {os : List (UInt64 × UInt64)} {nO : Nat} {zz : List (Addr × Obj)} {mR : Str -> Option Value} (ha : 0 <= a ∧ a < 5) (hb : 0 <= b ∧ b < 5) (mH : (H,PySem.W.listOf vsH.toArray nH) ∈ zz) (mG : (G,PySem.W.listOf vsG.toArray nG) ∈ zz) (mW : (W,PySem.W.listOf vsW.toArray nW) ∈ zz) (mO : (O,PySem.W.listOf (ds.map Value.ref).toArray nO) ∈ zz) (pO : PairsAre zz ds os)
  (iA : IntsAre vA A) (iB : IntsAre vB Bs) (mA : (lA,PySem.W.listOf vA.toArray kA) ∈ zz) (mB : (lB,PySem.W.listOf vB.toArray kB) ∈ zz) (xHA : vsH[a.toNat]? = some (.ref lA)) (xHB : vsH[b.toNat]? = some (.ref lB)) (xWA : vsW[a.toNat]? = some (.str (hostF A) uA)) (xWB : vsW[b.toNat]? = some (.str (hostF Bs) uB))
  (xGA : vsG[a.toNat]? = some (.ref UA)) (xGB : vsG[b.toNat]? = some (.ref UB)) (mUA : (UA,tupO [.float hA g1,.float sA g2,.float eA g3]) ∈ zz) (mUB : (UB,tupO [.float hB g4,.float sB g5,.float eB g6]) ∈ zz) (c1 : o1.data = .cell v1) (c2 : o2.data = .cell (some (.int pl tp))) (c3 : o3.data = .cell (some (.float sB g5))) (c4 : o4.data = .cell (some (.ref lB))) (c5 : o5.data = .cell (some (.ref lA))) (c6 : o6.data = .cell v6) {M : Addr} {ys : List Value} (hys : ys = [] ↔ os.any (metT sB pl) = false) (hM : ∀ b ∈ zz,b.1 ≠ M)
  (z : Off6 L (zz)) (F : Fr g L s.heap (fun z => if z = Str.ofString "met" then some (.ref M) else if z = Str.ofString "hue" then some (.float hB g4) else if z = Str.ofString "a" then some (.int a ta) else if z = Str.ofString "b" then some (.int b tb) else if z = Str.ofString "orbit" then some (.ref O) else if z = Str.ofString "told" then some (.ref G) else if z = Str.ofString "words" then some (.ref W) else if z = Str.ofString "colours" then some (.ref Kc) else if z = Str.ofString "hosts" then some (.ref H) else mR z)) (N : News g L s.heap (six L o1 o2 o3 o4 o5 o6 ((M, LCg.lst ys) :: zz)))
  (rest : ∀ (c : Bool) (mR : Str -> Option Value) (h' : Heap) (tk' : Nat) (hc : c = ((os.any (metT sB pl) && !thirdF hA sA) && !thirdF hB sB)) (F : Fr g L h' (fun z => if z = Str.ofString "comes" then some (.bool c) else if z = Str.ofString "hue" then some (.float hB g4) else if z = Str.ofString "a" then some (.int a ta) else if z = Str.ofString "b" then some (.int b tb) else if z = Str.ofString "orbit" then some (.ref O) else if z = Str.ofString "told" then some (.ref G) else if z = Str.ofString "words" then some (.ref W) else if z = Str.ofString "colours" then some (.ref Kc) else if z = Str.ofString "hosts" then some (.ref H) else mR z)) (N : News g L h' (six L o1 o2 o3 o4 o5 o6 zz)), wpAny (model rw_xg0057_01.row.prog w) (callerA.deeper (envOfC fd.name fd.scope L fa cd)) (execs ((pairB fd).drop 5) (envOfC fd.name fd.scope L fa cd)) Q (fun e s7 => wpAny (model rw_xg0057_01.row.prog w) (callerA.deeper (envOfC fd.name fd.scope L fa cd)) (leaving (envOfC fd.name fd.scope L fa cd) e) (fun _ s8 => R (.error e) s8) (fun e8 s8 => R (.error e8) s8) s7) { s with heap := h', toks := tk' }) : wpAny (model rw_xg0057_01.row.prog w) (callerA.deeper (envOfC fd.name fd.scope L fa cd)) (execs ((pairB fd).drop 4) (envOfC fd.name fd.scope L fa cd)) Q (fun e s7 => wpAny (model rw_xg0057_01.row.prog w) (callerA.deeper (envOfC fd.name fd.scope L fa cd)) (leaving (envOfC fd.name fd.scope L fa cd) e) (fun _ s8 => R (.error e) s8) (fun e8 s8 => R (.error e8) s8) s7) s := by
 refine (?f : Cln _) ?p ⟨?q,fun B k => ?r⟩
 case f => exact fun x _ => x
 case q =>
  have key : rw_xg0057_01.row.prog = rw_xg0057_01.row.prog -> (hd.heap_39 w.params).In g -> (hd.heap_39 w.params).lookup 192 = some o -> wpAny (model rw_xg0057_01.row.prog w) (callerA.deeper (envOfC fd.name fd.scope L fa cd)) (execs ((pairB fd).drop 4) (envOfC fd.name fd.scope L fa cd)) Q (fun e s7 => wpAny (model rw_xg0057_01.row.prog w) (callerA.deeper (envOfC fd.name fd.scope L fa cd)) (leaving (envOfC fd.name fd.scope L fa cd) e) (fun _ s8 => R (.error e) s8) (fun e8 s8 => R (.error e8) s8) s7) s := by
   clear KX ho
   k_fill
   intro _ KX ho
   have e9 := ho.symm.trans (show (hd.heap_39 w.params).lookup 192 = some _ from by k_is)
   cases e9
   cases hfd
   simp only [pairB,stmtsOf,bodyAt,forBody]
   dsimp only [List.drop]
   (try k_fold)
   have z1 := z.1
   have z2 := z.2.1
   have z3 := z.2.2.1
   have z4 := z.2.2.2.1
   have z5 := z.2.2.2.2.1
   have z6 := z.2.2.2.2.2
   refine cut_at 1 ?_
   dsimp only [List.take,List.drop]
   have hy : os.any (metT sB pl) = !ys.isEmpty := by
    cases ys with
    | nil => rw [hys.mp rfl]; rfl
    | cons y r => cases e : os.any (metT sB pl) with
     | false => exact absurd (hys.mpr e) (by simp)
     | true => rfl
   (k_steps; repeat' ((first | (refine stq_out "compareOp NotEq ref ref" ?_; (k_here; (with_reducible show wpAny _ _ (compareOp CmpOp.NotEq (Value.ref _) (Value.ref _)) _ _ _); k_dflt (first | (refine' ne_nil ?k1 ?k2 ?k5 ?_; (case k2 => exact News.isList (by k_asm) (by k_mem)); (case k1 => exact News.isList (by k_asm) (by k_mem)); (case k5 => ktr_units); k_whole) | (refine' ne_bools ?k1 ?k2 ?k5 ?_; (case k1 => exact News.isList (by k_asm) (by k_mem)); (case k2 => exact News.isList (by k_asm) (by k_mem)); (case k5 => ktr_units); k_whole)))) | fail) <;> k_steps))
   ·dsimp only
    show wpAny _ _ _ _ _ _
    rename Fr _ _ _ _ => F9
    rename News _ _ _ _ => N9
    rename ys.isEmpty = true => e1
    refine' @rest _ _ _ _ ?e (fr_has (fr_has (fr_has (fr_has (fr_has (fr_has (fr_has (fr_has (fr_has F9 (Str.ofString "hosts") rfl) (Str.ofString "colours") rfl) (Str.ofString "words") rfl) (Str.ofString "told") rfl) (Str.ofString "orbit") rfl) (Str.ofString "b") rfl) (Str.ofString "a") rfl) (Str.ofString "hue") rfl) (Str.ofString "comes") rfl) (cb_drop N9 ?dr)
    case e => rw [hy,e1]; simp
    case dr => walk_at "my sub"
   ·dsimp only
    show wpAny _ _ _ _ _ _
    rename Fr _ _ _ _ => F9
    rename News _ _ _ _ => N9
    rename ys.isEmpty = false => e1
    rename thirdF hA sA = true => e2
    refine' @rest _ _ _ _ ?e (fr_has (fr_has (fr_has (fr_has (fr_has (fr_has (fr_has (fr_has (fr_has F9 (Str.ofString "hosts") rfl) (Str.ofString "colours") rfl) (Str.ofString "words") rfl) (Str.ofString "told") rfl) (Str.ofString "orbit") rfl) (Str.ofString "b") rfl) (Str.ofString "a") rfl) (Str.ofString "hue") rfl) (Str.ofString "comes") rfl) (cb_drop N9 ?dr)
    case e => rw [hy,e1,e2]; simp
    case dr => walk_at "my sub"
   ·dsimp only
    show wpAny _ _ _ _ _ _
    rename Fr _ _ _ _ => F9
    rename News _ _ _ _ => N9
    rename ys.isEmpty = false => e1
    rename thirdF hA sA = false => e2
    refine' @rest _ _ _ _ ?e (fr_has (fr_has (fr_has (fr_has (fr_has (fr_has (fr_has (fr_has (fr_has F9 (Str.ofString "hosts") rfl) (Str.ofString "colours") rfl) (Str.ofString "words") rfl) (Str.ofString "told") rfl) (Str.ofString "orbit") rfl) (Str.ofString "b") rfl) (Str.ofString "a") rfl) (Str.ofString "hue") rfl) (Str.ofString "comes") rfl) (cb_drop N9 ?dr)
    case e => rw [hy,e1,e2]; simp
    case dr => walk_at "my sub"
  exact key rfl KX ho
 case r => delta id stq_it stq_out; exact k
end

example {M : Model} {A : Around} {env : Env} {Q : Flow -> Shared -> Prop} {E : Value -> Shared -> Prop} {s : Shared} (h : Q .next s) : wpAny M A (execs [] env) Q E s := by first | (walk1; exact h) | exact wpAny_execs_nil h

section
local macro_rules | `(tactic| walk_at $s) => if ["TurnEnd","call builtin:len","compareOp Eq ref ref","exec Assign cons ListComp"].contains s.getString then `(tactic| refine stq_it $s ?_) else Lean.Macro.throwUnsupported
noncomputable def runT (A Bs : List Int) (k : Nat) : Bool := decide ((A.drop k).take Bs.length = Bs)
theorem any_range {p : Nat -> Bool} {i : Nat} : (List.range (i + 1)).any p = ((List.range i).any p || p i) := by
 rw [List.range_succ,List.any_append]; simp
theorem small_ok {b : Int} (h : 1 <= b ∧ b <= 4) : Builtin.Range.small 0 b 1 = true := by
 have : b = 1 ∨ b = 2 ∨ b = 3 ∨ b = 4 := by lia
 rcases this with rfl | rfl | rfl | rfl <;> decide +kernel
theorem run_len {i a b : Nat} (h : i < a - b) : min (0 + (i : Int) + (b : Int)).toNat a - (0 + (i : Int)).toNat = b := by
 rw [Int.zero_add,← Int.natCast_add,Int.toNat_natCast,Int.toNat_natCast,Nat.min_eq_left (Nat.le_of_lt (Nat.add_lt_of_lt_sub h)),Nat.add_sub_cancel_left]
theorem size_ok {x y : Nat} (h : y <= x) : Builtin.Range.rangeSize 0 ((x : Int) - (y : Int)) 1 = ((x - y : Nat) : Int) := by
 unfold Builtin.Range.rangeSize
 rw [if_pos (by decide)]
 split <;> lia
theorem pair4 {w : World} {mg mb : Str -> Option Value} {mean : ExcName -> Option Value} {loose : List Str} {g : Heap} {L fa : Addr} {cd : Value} {o : Obj} {fd : FuncData}
  (ho : (hd.heap_39 w.params).lookup 192 = some o) (hfd : o.data = .func fd) (CH : CodeHd g 146 142) (B : Below callerA g [] g) (KX : (hd.heap_39 w.params).In g) (T : Top topProg loose mean mg mb g) {m : Str -> Option Value} {s : Shared} {Q : Flow -> Shared -> Prop} {R : Result -> Shared -> Prop} {o1 o2 o3 o4 o5 o6 : Obj} {v1 v6 : Option Value} {pl : Int} {tp : Tok} {H G W O Kc : Addr} {a b : Int} {ta tb : Tok} {vsH vsG vsW : List Value} {nH nG nW : Nat} {lA lB : Addr} {vA vB : List Value} {kA kB : Nat} {A Bs : List Int} {uA uB : Tok} {UA UB : Addr} {hA sA eA hB sB eB : UInt64} {g1 g2 g3 g4 g5 g6 : Tok} {ds : List Addr} {os : List (UInt64 × UInt64)} {nO : Nat} {zz : List (Addr × Obj)} {mR : Str -> Option Value} (ha : 0 <= a ∧ a < 5) (hb : 0 <= b ∧ b < 5) (mH : (H,PySem.W.listOf vsH.toArray nH) ∈ zz) (mG : (G,PySem.W.listOf vsG.toArray nG) ∈ zz) (mW : (W,PySem.W.listOf vsW.toArray nW) ∈ zz) (mO : (O,PySem.W.listOf (ds.map Value.ref).toArray nO) ∈ zz) (pO : PairsAre zz ds os)
  (iA : IntsAre vA A) (iB : IntsAre vB Bs) (mA : (lA,PySem.W.listOf vA.toArray kA) ∈ zz) (mB : (lB,PySem.W.listOf vB.toArray kB) ∈ zz) (xHA : vsH[a.toNat]? = some (.ref lA)) (xHB : vsH[b.toNat]? = some (.ref lB)) (xWA : vsW[a.toNat]? = some (.str (hostF A) uA)) (xWB : vsW[b.toNat]? = some (.str (hostF Bs) uB))
  (xGA : vsG[a.toNat]? = some (.ref UA)) (xGB : vsG[b.toNat]? = some (.ref UB)) (mUA : (UA,tupO [.float hA g1,.float sA g2,.float eA g3]) ∈ zz) (mUB : (UB,tupO [.float hB g4,.float sB g5,.float eB g6]) ∈ zz) (c1 : o1.data = .cell v1) (c2 : o2.data = .cell (some (.int pl tp))) (c3 : o3.data = .cell (some (.float sB g5))) (c4 : o4.data = .cell (some (.ref lB))) (c5 : o5.data = .cell (some (.ref lA))) (c6 : o6.data = .cell v6) {c : Bool} (lA5 : A.length <= 5) (lB5 : Bs.length <= 2) (lB1 : 1 <= Bs.length) (lA3 : 3 <= A.length)
  (z : Off6 L (zz)) (F : Fr g L s.heap (fun z => if z = Str.ofString "comes" then some (.bool c) else if z = Str.ofString "hue" then some (.float hB g4) else if z = Str.ofString "a" then some (.int a ta) else if z = Str.ofString "b" then some (.int b tb) else if z = Str.ofString "orbit" then some (.ref O) else if z = Str.ofString "told" then some (.ref G) else if z = Str.ofString "words" then some (.ref W) else if z = Str.ofString "colours" then some (.ref Kc) else if z = Str.ofString "hosts" then some (.ref H) else mR z)) (N : News g L s.heap (six L o1 o2 o3 o4 o5 o6 zz))
  (rest : ∀ (Rn : Addr) (ys : List Value) (mR : Str -> Option Value) (h' : Heap) (tk' : Nat) (hys : ys = [] ↔ (List.range (A.length - Bs.length)).any (runT A Bs) = false) (hR : ∀ b ∈ zz, b.1 ≠ Rn) (F : Fr g L h' (fun z => if z = Str.ofString "runs" then some (.ref Rn) else if z = Str.ofString "comes" then some (.bool c) else if z = Str.ofString "hue" then some (.float hB g4) else if z = Str.ofString "a" then some (.int a ta) else if z = Str.ofString "b" then some (.int b tb) else if z = Str.ofString "orbit" then some (.ref O) else if z = Str.ofString "told" then some (.ref G) else if z = Str.ofString "words" then some (.ref W) else if z = Str.ofString "colours" then some (.ref Kc) else if z = Str.ofString "hosts" then some (.ref H) else mR z)) (N : News g L h' (six L o1 o2 o3 o4 o5 o6 ((Rn, LCg.lst ys) :: zz))), wpAny (model rw_xg0057_01.row.prog w) (callerA.deeper (envOfC fd.name fd.scope L fa cd)) (execs ((pairB fd).drop 6) (envOfC fd.name fd.scope L fa cd)) Q (fun e s7 => wpAny (model rw_xg0057_01.row.prog w) (callerA.deeper (envOfC fd.name fd.scope L fa cd)) (leaving (envOfC fd.name fd.scope L fa cd) e) (fun _ s8 => R (.error e) s8) (fun e8 s8 => R (.error e8) s8) s7) { s with heap := h', toks := tk' }) : wpAny (model rw_xg0057_01.row.prog w) (callerA.deeper (envOfC fd.name fd.scope L fa cd)) (execs ((pairB fd).drop 5) (envOfC fd.name fd.scope L fa cd)) Q (fun e s7 => wpAny (model rw_xg0057_01.row.prog w) (callerA.deeper (envOfC fd.name fd.scope L fa cd)) (leaving (envOfC fd.name fd.scope L fa cd) e) (fun _ s8 => R (.error e) s8) (fun e8 s8 => R (.error e8) s8) s7) s := by
 refine (?f : Cln _) ?p ⟨?q,fun B k => ?r⟩
 case f => exact fun x _ => x
 case q =>
  have key : rw_xg0057_01.row.prog = rw_xg0057_01.row.prog -> (hd.heap_39 w.params).In g -> (hd.heap_39 w.params).lookup 192 = some o -> wpAny (model rw_xg0057_01.row.prog w) (callerA.deeper (envOfC fd.name fd.scope L fa cd)) (execs ((pairB fd).drop 5) (envOfC fd.name fd.scope L fa cd)) Q (fun e s7 => wpAny (model rw_xg0057_01.row.prog w) (callerA.deeper (envOfC fd.name fd.scope L fa cd)) (leaving (envOfC fd.name fd.scope L fa cd) e) (fun _ s8 => R (.error e) s8) (fun e8 s8 => R (.error e8) s8) s7) s := by
   clear KX ho
   k_fill
   intro _ KX ho
   have e9 := ho.symm.trans (show (hd.heap_39 w.params).lookup 192 = some _ from by k_is)
   cases e9
   cases hfd
   simp only [pairB,stmtsOf,bodyAt,forBody]
   dsimp only [List.drop]
   (try k_fold)
   have z1 := z.1
   have z2 := z.2.1
   have z3 := z.2.2.1
   have z4 := z.2.2.2.1
   have z5 := z.2.2.2.2.1
   have z6 := z.2.2.2.2.2
   have eA : ((vA.toArray.size : Nat) : Int) = (A.length : Int) := by rw [List.size_toArray,IntsAre.length iA]
   have eB : ((vB.toArray.size : Nat) : Int) = (Bs.length : Int) := by rw [List.size_toArray,IntsAre.length iB]
   refine cut_at 1 ?_
   dsimp only [List.take,List.drop]
   (k_steps; repeat' ((first | (refine stq_out "compareOp Eq ref ref" ?_; (k_here; k_dflt (refine' ke_eq_ints ?k1 ?k2 ?k3 ?k4 ?k5 ?_; (case k1 => exact News.isList (by k_asm) (by k_mem)); (case k2 => exact News.isList (by k_asm) (by k_mem)); (case k3 => first | assumption | l_ints); (case k4 => first | assumption | l_ints); (case k5 => ktr_units); k_whole))) | (refine stq_out "TurnEnd" ?_; (k_dflt (refine' TurnEnd.introD (by with_reducible assumption) (by assumption) (by first | with_reducible assumption | assumption) ?co ?cs ?_; (case co => exact off'); (case cs => exact trivial)))) | (refine stq_out "exec Assign cons ListComp" ?_; (k_here; lcg_calm; k_dflt (refine Assign_GR (F₀ := by k_asm) (by rfl) (by with_unfolding_all rfl) (by with_unfolding_all rfl) (by decide) (by rfl) (by decide) (by rfl) (by rfl) ?_))) | (refine stq_out "call builtin:len" ?_; (k_here; (with_reducible show wpAny _ _ (call (Value.builtin "len") [Value.ref _]) _ _ _); k_dflt (refine' kun_lenL ?k1 ?k2 ?k3 ?_; (case k1 => exact News.isList (by k_asm) (by k_mem)); (case k2 => assumption); (case k3 => lia); k_whole))) | fail) <;> k_steps))
   refine SrcGR.intro (n := A.length - Bs.length) (by rfl) (by k_asm) (by k_asm) (by assumption) (small_ok (by lia)) (size_ok (by lia)) (by rw [PySem.sizeLine_eq]; lia) ?_
   intro g'
   refine turns_ind (fun i ys => ys = [] ↔ (List.range i).any (runT A Bs) = false) (by simp) ?hend ?step
   case step =>
    intro i ys v I' oI' C' oC' D' m0' h0' tk' E' hi hv hI hC0' hit' F' N' off' ne'
    obtain ⟨tv,rfl⟩ := hv
    have hat := any_range (p := runT A Bs) (i := i)
    refine turn1 (by k_asm) (by k_asm) hC0' off' ne' (by rfl) (by rfl) ?_
    clear F' N' hC0'
    intro oC'' m' h' tk'' hC' hx F' N'
    simp only [LCg.Off3] at off'
    refine testsOf_one ?_
    (k_steps; repeat' ((first | (refine stq_out "compareOp Eq ref ref" ?_; (k_here; k_dflt (refine' ke_eq_ints ?k1 ?k2 ?k3 ?k4 ?k5 ?_; (case k1 => exact News.isList (by k_asm) (by k_mem)); (case k2 => exact News.isList (by k_asm) (by k_mem)); (case k3 => first | assumption | l_ints); (case k4 => first | assumption | l_ints); (case k5 => ktr_units); k_whole))) | (refine stq_out "TurnEnd" ?_; (k_dflt (refine' TurnEnd.introD (by with_reducible assumption) (by assumption) (by first | with_reducible assumption | assumption) ?co ?cs ?_; (case co => exact off'); (case cs => exact trivial)))) | (refine stq_out "exec Assign cons ListComp" ?_; (k_here; lcg_calm; k_dflt (refine Assign_GR (F₀ := by k_asm) (by rfl) (by with_unfolding_all rfl) (by with_unfolding_all rfl) (by decide) (by rfl) (by decide) (by rfl) (by rfl) ?_))) | (refine stq_out "call builtin:len" ?_; (k_here; (with_reducible show wpAny _ _ (call (Value.builtin "len") [Value.ref _]) _ _ _); k_dflt (refine' kun_lenL ?k1 ?k2 ?k3 ?_; (case k1 => exact News.isList (by k_asm) (by k_mem)); (case k2 => assumption); (case k3 => lia); k_whole))) | fail) <;> k_steps))
    all_goals have en : (0 + (i : Int)).toNat = i := by rw [Int.zero_add,Int.toNat_natCast]
    all_goals have em : min (0 + (i : Int) + (Bs.length : Int)).toNat A.length - (0 + (i : Int)).toNat = Bs.length := run_len hi
    ·rename List.take _ _ = Bs => e1
     rw [em,en] at e1
     have er : runT A Bs i = true := decide_eq_true e1
     rw [hat,er]; simp
    ·rename ¬ List.take _ _ = Bs => e1
     rw [em,en] at e1
     have er : runT A Bs i = false := decide_eq_false e1
     rw [hat,er,Bool.or_false]; exact hI
   case hend =>
    intro ys hI
    (k_steps; repeat' ((first | (refine stq_out "compareOp Eq ref ref" ?_; (k_here; k_dflt (refine' ke_eq_ints ?k1 ?k2 ?k3 ?k4 ?k5 ?_; (case k1 => exact News.isList (by k_asm) (by k_mem)); (case k2 => exact News.isList (by k_asm) (by k_mem)); (case k3 => first | assumption | l_ints); (case k4 => first | assumption | l_ints); (case k5 => ktr_units); k_whole))) | (refine stq_out "TurnEnd" ?_; (k_dflt (refine' TurnEnd.introD (by with_reducible assumption) (by assumption) (by first | with_reducible assumption | assumption) ?co ?cs ?_; (case co => exact off'); (case cs => exact trivial)))) | (refine stq_out "exec Assign cons ListComp" ?_; (k_here; lcg_calm; k_dflt (refine Assign_GR (F₀ := by k_asm) (by rfl) (by with_unfolding_all rfl) (by with_unfolding_all rfl) (by decide) (by rfl) (by decide) (by rfl) (by rfl) ?_))) | (refine stq_out "call builtin:len" ?_; (k_here; (with_reducible show wpAny _ _ (call (Value.builtin "len") [Value.ref _]) _ _ _); k_dflt (refine' kun_lenL ?k1 ?k2 ?k3 ?_; (case k1 => exact News.isList (by k_asm) (by k_mem)); (case k2 => assumption); (case k3 => lia); k_whole))) | fail) <;> k_steps))
    dsimp only
    show wpAny _ _ _ _ _ _
    rename Fr _ _ _ _ => F9
    rename News _ _ _ _ => N9
    refine' @rest _ ys _ _ _ hI ?of (fr_has (fr_has (fr_has (fr_has (fr_has (fr_has (fr_has (fr_has (fr_has (fr_has F9 (Str.ofString "hosts") rfl) (Str.ofString "colours") rfl) (Str.ofString "words") rfl) (Str.ofString "told") rfl) (Str.ofString "orbit") rfl) (Str.ofString "b") rfl) (Str.ofString "a") rfl) (Str.ofString "hue") rfl) (Str.ofString "comes") rfl) (Str.ofString "runs") rfl) (cb_drop N9 ?dr)
    case of => (first | exact offNe (r3 (by with_reducible assumption)) | exact offNe (r4 (by with_reducible assumption)) | exact offNe (r5 (by with_reducible assumption)) | exact offNe (r6 (by with_reducible assumption)) | exact offNe (r7 (by with_reducible assumption)) | exact offNe (r8 (by with_reducible assumption)) | exact offNe (r9 (by with_reducible assumption)) | exact offNe (r10 (by with_reducible assumption)) | exact offNe (r11 (by with_reducible assumption)) | exact offNe (r12 (by with_reducible assumption)) | exact offNe (r13 (by with_reducible assumption)) | exact offNe (r14 (by with_reducible assumption)) | exact offNe (r15 (by with_reducible assumption)) | exact offNe (r16 (by with_reducible assumption)) | exact offNe (by with_reducible assumption) | k_all)
    case dr => walk_at "my sub"
  exact key rfl KX ho
 case r => delta id stq_it stq_out; exact k
end

example {M : Model} {A : Around} {env : Env} {Q : Flow -> Shared -> Prop} {E : Value -> Shared -> Prop} {s : Shared} (h : Q .next s) : wpAny M A (execs [] env) Q E s := by first | (walk1; exact h) | exact wpAny_execs_nil h

section
local macro_rules | `(tactic| walk_at $s) => if ["call builtin:len","compareOp NotEq ref ref"].contains s.getString then `(tactic| refine stq_it $s ?_) else Lean.Macro.throwUnsupported
theorem pair5 {w : World} {mg mb : Str -> Option Value} {mean : ExcName -> Option Value} {loose : List Str} {g : Heap} {L fa : Addr} {cd : Value} {o : Obj} {fd : FuncData}
  (ho : (hd.heap_39 w.params).lookup 192 = some o) (hfd : o.data = .func fd) (CH : CodeHd g 146 142) (B : Below callerA g [] g) (KX : (hd.heap_39 w.params).In g) (T : Top topProg loose mean mg mb g) {m : Str -> Option Value} {s : Shared} {Q : Flow -> Shared -> Prop} {R : Result -> Shared -> Prop} {o1 o2 o3 o4 o5 o6 : Obj} {v1 v6 : Option Value} {pl : Int} {tp : Tok} {H G W O Kc : Addr} {a b : Int} {ta tb : Tok} {vsH vsG vsW : List Value} {nH nG nW : Nat} {lA lB : Addr} {vA vB : List Value} {kA kB : Nat} {A Bs : List Int} {uA uB : Tok} {UA UB : Addr} {hA sA eA hB sB eB : UInt64} {g1 g2 g3 g4 g5 g6 : Tok} {ds : List Addr} {os : List (UInt64 × UInt64)} {nO : Nat} {zz : List (Addr × Obj)} {mR : Str -> Option Value} (ha : 0 <= a ∧ a < 5) (hb : 0 <= b ∧ b < 5) (mH : (H,PySem.W.listOf vsH.toArray nH) ∈ zz) (mG : (G,PySem.W.listOf vsG.toArray nG) ∈ zz) (mW : (W,PySem.W.listOf vsW.toArray nW) ∈ zz) (mO : (O,PySem.W.listOf (ds.map Value.ref).toArray nO) ∈ zz) (pO : PairsAre zz ds os)
  (iA : IntsAre vA A) (iB : IntsAre vB Bs) (mA : (lA,PySem.W.listOf vA.toArray kA) ∈ zz) (mB : (lB,PySem.W.listOf vB.toArray kB) ∈ zz) (xHA : vsH[a.toNat]? = some (.ref lA)) (xHB : vsH[b.toNat]? = some (.ref lB)) (xWA : vsW[a.toNat]? = some (.str (hostF A) uA)) (xWB : vsW[b.toNat]? = some (.str (hostF Bs) uB))
  (xGA : vsG[a.toNat]? = some (.ref UA)) (xGB : vsG[b.toNat]? = some (.ref UB)) (mUA : (UA,tupO [.float hA g1,.float sA g2,.float eA g3]) ∈ zz) (mUB : (UB,tupO [.float hB g4,.float sB g5,.float eB g6]) ∈ zz) (c1 : o1.data = .cell v1) (c2 : o2.data = .cell (some (.int pl tp))) (c3 : o3.data = .cell (some (.float sB g5))) (c4 : o4.data = .cell (some (.ref lB))) (c5 : o5.data = .cell (some (.ref lA))) (c6 : o6.data = .cell v6) {c : Bool} {Rn : Addr} {ys : List Value} (hys : ys = [] ↔ (List.range (A.length - Bs.length)).any (runT A Bs) = false) (hR : ∀ b ∈ zz,b.1 ≠ Rn) {a0 b0 : Int} {w0 w1 : Tok} (hA0 : vA[0]? = some (.int a0 w0)) (hB0 : vB[0]? = some (.int b0 w1)) (lB5 : Bs.length <= 2)
  (z : Off6 L (zz)) (F : Fr g L s.heap (fun z => if z = Str.ofString "runs" then some (.ref Rn) else if z = Str.ofString "comes" then some (.bool c) else if z = Str.ofString "hue" then some (.float hB g4) else if z = Str.ofString "a" then some (.int a ta) else if z = Str.ofString "b" then some (.int b tb) else if z = Str.ofString "orbit" then some (.ref O) else if z = Str.ofString "told" then some (.ref G) else if z = Str.ofString "words" then some (.ref W) else if z = Str.ofString "colours" then some (.ref Kc) else if z = Str.ofString "hosts" then some (.ref H) else mR z)) (N : News g L s.heap (six L o1 o2 o3 o4 o5 o6 ((Rn, LCg.lst ys) :: zz)))
  (rest : ∀ (e : Bool) (mR : Str -> Option Value) (h' : Heap) (tk' : Nat) (he : e = (((List.range (A.length - Bs.length)).any (runT A Bs) && (a0 != 2)) && (Bs.length == 1 || b0 != 2))) (F : Fr g L h' (fun z => if z = Str.ofString "due" then some (.bool e) else if z = Str.ofString "comes" then some (.bool c) else if z = Str.ofString "hue" then some (.float hB g4) else if z = Str.ofString "a" then some (.int a ta) else if z = Str.ofString "b" then some (.int b tb) else if z = Str.ofString "orbit" then some (.ref O) else if z = Str.ofString "told" then some (.ref G) else if z = Str.ofString "words" then some (.ref W) else if z = Str.ofString "colours" then some (.ref Kc) else if z = Str.ofString "hosts" then some (.ref H) else mR z)) (N : News g L h' (six L o1 o2 o3 o4 o5 o6 zz)), wpAny (model rw_xg0057_01.row.prog w) (callerA.deeper (envOfC fd.name fd.scope L fa cd)) (execs ((pairB fd).drop 7) (envOfC fd.name fd.scope L fa cd)) Q (fun e s7 => wpAny (model rw_xg0057_01.row.prog w) (callerA.deeper (envOfC fd.name fd.scope L fa cd)) (leaving (envOfC fd.name fd.scope L fa cd) e) (fun _ s8 => R (.error e) s8) (fun e8 s8 => R (.error e8) s8) s7) { s with heap := h', toks := tk' }) : wpAny (model rw_xg0057_01.row.prog w) (callerA.deeper (envOfC fd.name fd.scope L fa cd)) (execs ((pairB fd).drop 6) (envOfC fd.name fd.scope L fa cd)) Q (fun e s7 => wpAny (model rw_xg0057_01.row.prog w) (callerA.deeper (envOfC fd.name fd.scope L fa cd)) (leaving (envOfC fd.name fd.scope L fa cd) e) (fun _ s8 => R (.error e) s8) (fun e8 s8 => R (.error e8) s8) s7) s := by
 refine (?f : Cln _) ?p ⟨?q,fun B k => ?r⟩
 case f => exact fun x _ => x
 case q =>
  have key : rw_xg0057_01.row.prog = rw_xg0057_01.row.prog -> (hd.heap_39 w.params).In g -> (hd.heap_39 w.params).lookup 192 = some o -> wpAny (model rw_xg0057_01.row.prog w) (callerA.deeper (envOfC fd.name fd.scope L fa cd)) (execs ((pairB fd).drop 6) (envOfC fd.name fd.scope L fa cd)) Q (fun e s7 => wpAny (model rw_xg0057_01.row.prog w) (callerA.deeper (envOfC fd.name fd.scope L fa cd)) (leaving (envOfC fd.name fd.scope L fa cd) e) (fun _ s8 => R (.error e) s8) (fun e8 s8 => R (.error e8) s8) s7) s := by
   clear KX ho
   k_fill
   intro _ KX ho
   have e9 := ho.symm.trans (show (hd.heap_39 w.params).lookup 192 = some _ from by k_is)
   cases e9
   cases hfd
   simp only [pairB,stmtsOf,bodyAt,forBody]
   dsimp only [List.drop]
   (try k_fold)
   have z1 := z.1
   have z2 := z.2.1
   have z3 := z.2.2.1
   have z4 := z.2.2.2.1
   have z5 := z.2.2.2.2.1
   have z6 := z.2.2.2.2.2
   have eB : ((vB.toArray.size : Nat) : Int) = (Bs.length : Int) := by rw [List.size_toArray,IntsAre.length iB]
   have hy : (List.range (A.length - Bs.length)).any (runT A Bs) = !ys.isEmpty := by
    cases ys with
    | nil => rw [hys.mp rfl]; rfl
    | cons y r => cases e : (List.range (A.length - Bs.length)).any (runT A Bs) with
     | false => exact absurd (hys.mpr e) (by simp)
     | true => rfl
   refine cut_at 1 ?_
   dsimp only [List.take,List.drop]
   (k_steps; repeat' ((first | (refine stq_out "compareOp NotEq ref ref" ?_; (k_here; (with_reducible show wpAny _ _ (compareOp CmpOp.NotEq (Value.ref _) (Value.ref _)) _ _ _); k_dflt (first | (refine' ne_nil ?k1 ?k2 ?k5 ?_; (case k2 => exact News.isList (by k_asm) (by k_mem)); (case k1 => exact News.isList (by k_asm) (by k_mem)); (case k5 => ktr_units); k_whole) | (refine' ne_bools ?k1 ?k2 ?k5 ?_; (case k1 => exact News.isList (by k_asm) (by k_mem)); (case k2 => exact News.isList (by k_asm) (by k_mem)); (case k5 => ktr_units); k_whole)))) | (refine stq_out "call builtin:len" ?_; (k_here; (with_reducible show wpAny _ _ (call (Value.builtin "len") [Value.ref _]) _ _ _); k_dflt (refine' kun_lenL ?k1 ?k2 ?k3 ?_; (case k1 => exact News.isList (by k_asm) (by k_mem)); (case k2 => assumption); (case k3 => lia); k_whole))) | fail) <;> k_steps))
   ·rename ys.isEmpty = true => e1
    dsimp only
    show wpAny _ _ _ _ _ _
    rename Fr _ _ _ _ => F9
    rename News _ _ _ _ => N9
    refine' @rest _ _ _ _ ?e (fr_has (fr_has (fr_has (fr_has (fr_has (fr_has (fr_has (fr_has (fr_has (fr_has F9 (Str.ofString "hosts") rfl) (Str.ofString "colours") rfl) (Str.ofString "words") rfl) (Str.ofString "told") rfl) (Str.ofString "orbit") rfl) (Str.ofString "b") rfl) (Str.ofString "a") rfl) (Str.ofString "hue") rfl) (Str.ofString "comes") rfl) (Str.ofString "due") rfl) (cb_drop N9 ?dr)
    case e => rw [hy,e1]; simp
    case dr => walk_at "my sub"
   ·rename ys.isEmpty = false => e1
    rename a0 ≠ 2 => e2
    rename (Bs.length : Int) = 1 => e3
    have e4 : (Bs.length == 1) = true := beq_iff_eq.mpr (by lia)
    have e5 : (a0 != 2) = true := bne_iff_ne.mpr e2
    dsimp only
    show wpAny _ _ _ _ _ _
    rename Fr _ _ _ _ => F9
    rename News _ _ _ _ => N9
    refine' @rest _ _ _ _ ?e (fr_has (fr_has (fr_has (fr_has (fr_has (fr_has (fr_has (fr_has (fr_has (fr_has F9 (Str.ofString "hosts") rfl) (Str.ofString "colours") rfl) (Str.ofString "words") rfl) (Str.ofString "told") rfl) (Str.ofString "orbit") rfl) (Str.ofString "b") rfl) (Str.ofString "a") rfl) (Str.ofString "hue") rfl) (Str.ofString "comes") rfl) (Str.ofString "due") rfl) (cb_drop N9 ?dr)
    case e => rw [hy,e1,e4,e5]; simp [e3]
    case dr => walk_at "my sub"
   ·rename ys.isEmpty = false => e1
    rename a0 ≠ 2 => e2
    rename (Bs.length : Int) ≠ 1 => e3
    have e4 : (Bs.length == 1) = false := beq_eq_false_iff_ne.mpr (by lia)
    have e5 : (a0 != 2) = true := bne_iff_ne.mpr e2
    dsimp only
    show wpAny _ _ _ _ _ _
    rename Fr _ _ _ _ => F9
    rename News _ _ _ _ => N9
    refine' @rest _ _ _ _ ?e (fr_has (fr_has (fr_has (fr_has (fr_has (fr_has (fr_has (fr_has (fr_has (fr_has F9 (Str.ofString "hosts") rfl) (Str.ofString "colours") rfl) (Str.ofString "words") rfl) (Str.ofString "told") rfl) (Str.ofString "orbit") rfl) (Str.ofString "b") rfl) (Str.ofString "a") rfl) (Str.ofString "hue") rfl) (Str.ofString "comes") rfl) (Str.ofString "due") rfl) (cb_drop N9 ?dr)
    case e => rw [hy,e1,e4,e5]; simp
    case dr => walk_at "my sub"
   ·rename ys.isEmpty = false => e1
    rename a0 = 2 => e2
    dsimp only
    show wpAny _ _ _ _ _ _
    rename Fr _ _ _ _ => F9
    rename News _ _ _ _ => N9
    refine' @rest _ _ _ _ ?e (fr_has (fr_has (fr_has (fr_has (fr_has (fr_has (fr_has (fr_has (fr_has (fr_has F9 (Str.ofString "hosts") rfl) (Str.ofString "colours") rfl) (Str.ofString "words") rfl) (Str.ofString "told") rfl) (Str.ofString "orbit") rfl) (Str.ofString "b") rfl) (Str.ofString "a") rfl) (Str.ofString "hue") rfl) (Str.ofString "comes") rfl) (Str.ofString "due") rfl) (cb_drop N9 ?dr)
    case e => rw [hy,e1,e2]; simp
    case dr => walk_at "my sub"
  exact key rfl KX ho
 case r => delta id stq_it stq_out; exact k
end

example {M : Model} {A : Around} {env : Env} {Q : Flow -> Shared -> Prop} {E : Value -> Shared -> Prop} {s : Shared} (h : Q .next s) : wpAny M A (execs [] env) Q E s := by first | (walk1; exact h) | exact wpAny_execs_nil h

section
local macro_rules | `(tactic| walk_at $s) => if ["compareOp NotEq ref ref","newList"].contains s.getString then `(tactic| refine stq_it $s ?_) else Lean.Macro.throwUnsupported
theorem pair6 {w : World} {mg mb : Str -> Option Value} {mean : ExcName -> Option Value} {loose : List Str} {g : Heap} {L fa : Addr} {cd : Value} {o : Obj} {fd : FuncData}
  (ho : (hd.heap_39 w.params).lookup 192 = some o) (hfd : o.data = .func fd) (CH : CodeHd g 146 142) (B : Below callerA g [] g) (KX : (hd.heap_39 w.params).In g) (T : Top topProg loose mean mg mb g) {m : Str -> Option Value} {s : Shared} {Q : Flow -> Shared -> Prop} {R : Result -> Shared -> Prop} {o1 o2 o3 o4 o5 o6 : Obj} {v1 v6 : Option Value} {pl : Int} {tp : Tok} {H G W O Kc : Addr} {a b : Int} {ta tb : Tok} {vsH vsG vsW : List Value} {nH nG nW : Nat} {lA lB : Addr} {vA vB : List Value} {kA kB : Nat} {A Bs : List Int} {uA uB : Tok} {UA UB : Addr} {hA sA eA hB sB eB : UInt64} {g1 g2 g3 g4 g5 g6 : Tok} {ds : List Addr} {os : List (UInt64 × UInt64)} {nO : Nat} {zz : List (Addr × Obj)} {mR : Str -> Option Value} (ha : 0 <= a ∧ a < 5) (hb : 0 <= b ∧ b < 5) (mH : (H,PySem.W.listOf vsH.toArray nH) ∈ zz) (mG : (G,PySem.W.listOf vsG.toArray nG) ∈ zz) (mW : (W,PySem.W.listOf vsW.toArray nW) ∈ zz) (mO : (O,PySem.W.listOf (ds.map Value.ref).toArray nO) ∈ zz) (pO : PairsAre zz ds os)
  (iA : IntsAre vA A) (iB : IntsAre vB Bs) (mA : (lA,PySem.W.listOf vA.toArray kA) ∈ zz) (mB : (lB,PySem.W.listOf vB.toArray kB) ∈ zz) (xHA : vsH[a.toNat]? = some (.ref lA)) (xHB : vsH[b.toNat]? = some (.ref lB)) (xWA : vsW[a.toNat]? = some (.str (hostF A) uA)) (xWB : vsW[b.toNat]? = some (.str (hostF Bs) uB))
  (xGA : vsG[a.toNat]? = some (.ref UA)) (xGB : vsG[b.toNat]? = some (.ref UB)) (mUA : (UA, tupO [.float hA g1, .float sA g2, .float eA g3]) ∈ zz) (mUB : (UB, tupO [.float hB g4, .float sB g5, .float eB g6]) ∈ zz) (c1 : o1.data = .cell v1) (c2 : o2.data = .cell (some (.int pl tp))) (c3 : o3.data = .cell (some (.float sB g5))) (c4 : o4.data = .cell (some (.ref lB))) (c5 : o5.data = .cell (some (.ref lA))) (c6 : o6.data = .cell v6) {c e : Bool} (hD : dmF (Txt.upper (hostF A)) (Str.ofString "." ++ hostF Bs) = e) (hC : c = e) (d1 : (srchF (Txt.lower (Txt.upper (hostF A)))).isSome = true) (d2 : (srchF (Txt.slice (Txt.lower (Str.ofString "." ++ hostF Bs)) (some 1) none)).isSome = true) (lnA : (hostF A).length <= 14) (lnB : (hostF Bs).length <= 14)
  (z : Off6 L (zz)) (F : Fr g L s.heap (fun z => if z = Str.ofString "due" then some (.bool e) else if z = Str.ofString "comes" then some (.bool c) else if z = Str.ofString "hue" then some (.float hB g4) else if z = Str.ofString "a" then some (.int a ta) else if z = Str.ofString "b" then some (.int b tb) else if z = Str.ofString "orbit" then some (.ref O) else if z = Str.ofString "told" then some (.ref G) else if z = Str.ofString "words" then some (.ref W) else if z = Str.ofString "colours" then some (.ref Kc) else if z = Str.ofString "hosts" then some (.ref H) else mR z)) (N : News g L s.heap (six L o1 o2 o3 o4 o5 o6 zz))
  (rest : ∀ (mR : Str -> Option Value) (h' : Heap) (tk' : Nat) (F : Fr g L h' (fun z => if z = Str.ofString "a" then some (.int a ta) else if z = Str.ofString "b" then some (.int b tb) else if z = Str.ofString "orbit" then some (.ref O) else if z = Str.ofString "told" then some (.ref G) else if z = Str.ofString "words" then some (.ref W) else if z = Str.ofString "colours" then some (.ref Kc) else if z = Str.ofString "hosts" then some (.ref H) else mR z)) (N : News g L h' (six L o1 o2 o3 o4 o5 o6 zz)), Q .next { s with heap := h', toks := tk' }) : wpAny (model rw_xg0057_01.row.prog w) (callerA.deeper (envOfC fd.name fd.scope L fa cd)) (execs ((pairB fd).drop 7) (envOfC fd.name fd.scope L fa cd)) Q (fun e s7 => wpAny (model rw_xg0057_01.row.prog w) (callerA.deeper (envOfC fd.name fd.scope L fa cd)) (leaving (envOfC fd.name fd.scope L fa cd) e) (fun _ s8 => R (.error e) s8) (fun e8 s8 => R (.error e8) s8) s7) s := by
 refine (?f : Cln _) ?p ⟨?q,fun B k => ?r⟩
 case f => exact fun x _ => x
 case q =>
  have key : rw_xg0057_01.row.prog = rw_xg0057_01.row.prog -> (hd.heap_39 w.params).In g -> (hd.heap_39 w.params).lookup 192 = some o -> wpAny (model rw_xg0057_01.row.prog w) (callerA.deeper (envOfC fd.name fd.scope L fa cd)) (execs ((pairB fd).drop 7) (envOfC fd.name fd.scope L fa cd)) Q (fun e s7 => wpAny (model rw_xg0057_01.row.prog w) (callerA.deeper (envOfC fd.name fd.scope L fa cd)) (leaving (envOfC fd.name fd.scope L fa cd) e) (fun _ s8 => R (.error e) s8) (fun e8 s8 => R (.error e8) s8) s7) s := by
   clear KX ho
   k_fill
   intro _ KX ho
   have e9 := ho.symm.trans (show (hd.heap_39 w.params).lookup 192 = some _ from by k_is)
   cases e9
   cases hfd
   simp only [pairB,stmtsOf,bodyAt,forBody]
   dsimp only [List.drop]
   (try k_fold)
   have z1 := z.1
   have z2 := z.2.1
   have z3 := z.2.2.1
   have z4 := z.2.2.2.1
   have z5 := z.2.2.2.2.1
   have z6 := z.2.2.2.2.2
   have l0 : (Str.ofString ".").length = 1 := by decide
   subst hC
   (k_steps; repeat' ((first | (refine stq_out "newList" ?_; (k_here; k_dflt (refine' newList_K (hsz := ?z) ?k1 ?k2 ?_; (case z => exact Nat.le_of_ble_eq_true rfl); (case k1 => k_asm); (case k2 => k_asm); k_whole); intro l' h' F' N' l1; (try k_lt l1))) | (refine stq_out "compareOp NotEq ref ref" ?_; (k_here; (with_reducible show wpAny _ _ (compareOp CmpOp.NotEq (Value.ref _) (Value.ref _)) _ _ _); k_dflt (first | (refine' ne_nil ?k1 ?k2 ?k5 ?_; (case k2 => exact News.isList (by k_asm) (by k_mem)); (case k1 => exact News.isList (by k_asm) (by k_mem)); (case k5 => ktr_units); k_whole) | (refine' ne_bools ?k1 ?k2 ?k5 ?_; (case k1 => exact News.isList (by k_asm) (by k_mem)); (case k2 => exact News.isList (by k_asm) (by k_mem)); (case k5 => ktr_units); k_whole)))) | fail) <;> k_steps))
   ·rename Fr _ _ _ _ => F9
    rename News _ _ _ _ => N9
    exact @rest _ _ _ (fr_has (fr_has (fr_has (fr_has (fr_has (fr_has (fr_has F9 (Str.ofString "hosts") rfl) (Str.ofString "colours") rfl) (Str.ofString "words") rfl) (Str.ofString "told") rfl) (Str.ofString "orbit") rfl) (Str.ofString "b") rfl) (Str.ofString "a") rfl) (cb_drop N9 fun p hp => List.mem_cons_of_mem _ (List.mem_cons_of_mem _ hp))
   ·rename (_ && _) = false => e1
    rw [hD] at e1
    simp at e1
  exact key rfl KX ho
 case r => delta id stq_it stq_out; exact k
end

example {M : Model} {A : Around} {env : Env} {Q : Flow -> Shared -> Prop} {E : Value -> Shared -> Prop} {s : Shared} (h : Q .next s) : wpAny M A (execs [] env) Q E s := by first | (walk1; exact h) | exact wpAny_execs_nil h

section
local macro_rules | `(tactic| walk_at $s) => if ["CompEnd","CompSrc"].contains s.getString then `(tactic| refine stq_it $s ?_) else Lean.Macro.throwUnsupported
theorem use_rows3 {w : World} {mean : ExcName -> Option Value} {mg mb : Str -> Option Value} {loose : List Str}
  {dp un : Nat} {gd : Option (List Code)} {cn : Str} {cs : Scope} {a : Addr} {ccd : Value} {cl : List (Str × Addr)} {outer : List Env} {A₀ : Around} {base h₀ : Heap} {L : Addr} {m : Str -> Option Value} {s : Shared} {Q E : Value -> Shared -> Prop} {l : Addr} {nn : Nat} {vs : List Value} {ns : List Int} (hi : IntsAre vs ns) (h1 : 1 <= ns.length) (h5 : ns.length <= 5) {L0 I C D : Addr} {oI oC oD o1 o2 o3 o4 o5 o6 : Obj} {zz : List (Addr × Obj)} (hm : (l,PySem.W.listOf vs.toArray nn) ∈ zz) (off : LCg.Off3 I C D (six L0 o1 o2 o3 o4 o5 o6 zz))
  (B : Below A₀ base outer h₀) (F : Fr h₀ L s.heap m) (X : (hd.heap_39 w.params).In h₀) (N : News h₀ L s.heap ((I,oI) :: (C,oC) :: (D,oD) :: six L0 o1 o2 o3 o4 o5 o6 zz)) (T : Top topProg loose mean mg mb h₀) (hk : cs.kind = .function) (hd : dp + 3 < recursionLimit) (hu : un + 8 * 3 < cLine)
  (hret : ∀ (R : Addr) (ds : List Addr) (n : Nat) (pre : List (Addr × Obj)) (h' : Heap) (tk' : Nat),(R,PySem.W.listOf (ds.map Value.ref).toArray n) ∈ pre -> RowsAre pre ds (rowsF ns) -> (∀ p ∈ pre,∀ b ∈ zz,b.1 ≠ p.1) -> (Off6 L0 (pre)) -> LCg.Off3 I C D (six L0 o1 o2 o3 o4 o5 o6 (pre ++ zz)) -> Fr h₀ L h' m -> News h₀ L h' ((I,oI) :: (C,oC) :: (D,oD) :: six L0 o1 o2 o3 o4 o5 o6 (pre ++ zz)) -> Q (.ref R) { s with heap := h',toks := tk' }) :
  wpAny (model rw_xg0057_01.row.prog w) (ktrTop dp un gd cn cs L a ccd cl outer) (call (.ref 187) [.ref l]) Q E s :=
 ctr_use (ctr_rows w l nn vs ns ((I,oI) :: (C,oC) :: (D,oD) :: six L0 o1 o2 o3 o4 o5 o6 zz) hi h1 h5) B F X (cb_drop N (List.forall_mem_cons.mpr ⟨List.mem_append_right ([(I,oI),(C,oC),(D,oD)] ++ hd6 L0 o1 o2 o3 o4 o5 o6) hm,fun _ h => h⟩)) T hk hd hu (fun r new h' tk' hp F' N' => by
  obtain ⟨R,ds,n,pre,rfl,rfl,hR,hP,off'⟩ := hp
  have o := off.mem
  exact hret R ds n pre h' tk' hR hP (fun p hp b hb => off' p hp b (List.mem_append_right ([(l,PySem.W.listOf vs.toArray nn),(I,oI),(C,oC),(D,oD)] ++ hd6 L0 o1 o2 o3 o4 o5 o6) hb)) (off6_of off' fun y hy => List.mem_append_right [(l,PySem.W.listOf vs.toArray nn),(I,oI),(C,oC),(D,oD)] (List.mem_append_left zz hy))
   (LCg.Off3.of (ap_all (h := hd6 L0 o1 o2 o3 o4 o5 o6) (fun p h => o p (List.mem_append_left zz h)) (ap_all (fun p h => ⟨Ne.symm (off' p h (I,oI) (.tail _ (.head _))),Ne.symm (off' p h (C,oC) (.tail _ (.tail _ (.head _)))),Ne.symm (off' p h (D,oD) (.tail _ (.tail _ (.tail _ (.head _)))))⟩) fun p h => o p (List.mem_append_right (hd6 L0 o1 o2 o3 o4 o5 o6) h)))) F' (cb_drop N' (ap_pre (h := [(I,oI),(C,oC),(D,oD)] ++ hd6 L0 o1 o2 o3 o4 o5 o6) (h' := (l,PySem.W.listOf vs.toArray nn) :: ([(I,oI),(C,oC),(D,oD)] ++ hd6 L0 o1 o2 o3 o4 o5 o6)) (sb_skip sb_refl))))
set_option hygiene false in
local macro_rules | `(tactic| k_mem) => `(tactic| first | assumption | exact List.mem_cons_self .. | (refine List.mem_cons_of_mem _ ?_; k_mem) | (refine List.mem_append_right _ ?_; k_mem) | (refine List.mem_append_left _ ?_; k_mem))
local macro_rules | `(tactic| k_all) => `(tactic| (refine List.forall_mem_append.mpr ⟨?_,?_⟩ <;> k_all))
theorem rows_end {g h : Heap} {L L0 : Addr} {o1 o2 o3 o4 o5 o6 : Obj} {Rw R0 R1 R2 R3 R4 : Addr} {d0 d1 d2 d3 d4 : List Addr} {e0 e1 e2 e3 e4 : Nat} {A0 A1 A2 A3 A4 : List Int} {p0 p1 p2 p3 p4 zz : List (Addr × Obj)} (N : News g L h ((Rw,LCg.lst [.ref R0,.ref R1,.ref R2,.ref R3,.ref R4]) :: six L0 o1 o2 o3 o4 o5 o6 (p4 ++ (p3 ++ (p2 ++ (p1 ++ (p0 ++ zz)))))))
  (m0 : (R0,PySem.W.listOf (d0.map Value.ref).toArray e0) ∈ p0) (r0 : RowsAre p0 d0 (rowsF A0)) (m1 : (R1,PySem.W.listOf (d1.map Value.ref).toArray e1) ∈ p1) (r1 : RowsAre p1 d1 (rowsF A1)) (m2 : (R2,PySem.W.listOf (d2.map Value.ref).toArray e2) ∈ p2) (r2 : RowsAre p2 d2 (rowsF A2)) (m3 : (R3,PySem.W.listOf (d3.map Value.ref).toArray e3) ∈ p3) (r3 : RowsAre p3 d3 (rowsF A3)) (m4 : (R4,PySem.W.listOf (d4.map Value.ref).toArray e4) ∈ p4) (r4 : RowsAre p4 d4 (rowsF A4))
  (q0 : ∀ p ∈ p0,∀ b ∈ zz,b.1 ≠ p.1) (q1 : ∀ p ∈ p1,∀ b ∈ p0 ++ zz,b.1 ≠ p.1) (q2 : ∀ p ∈ p2,∀ b ∈ p1 ++ (p0 ++ zz),b.1 ≠ p.1) (q3 : ∀ p ∈ p3,∀ b ∈ p2 ++ (p1 ++ (p0 ++ zz)),b.1 ≠ p.1) (q4 : ∀ p ∈ p4,∀ b ∈ p3 ++ (p2 ++ (p1 ++ (p0 ++ zz))),b.1 ≠ p.1) (oR : ∀ b ∈ (p4 ++ (p3 ++ (p2 ++ (p1 ++ (p0 ++ zz))))),b.1 ≠ Rw) (y0 : Off6 L0 (p0)) (y1 : Off6 L0 (p1)) (y2 : Off6 L0 (p2)) (y3 : Off6 L0 (p3)) (y4 : Off6 L0 (p4)) (yR : (@Ne Nat Rw (L0 + 1)) ∧ (@Ne Nat Rw (L0 + 1 + 1)) ∧ (@Ne Nat Rw (L0 + 1 + 1 + 1)) ∧ (@Ne Nat Rw (L0 + 1 + 1 + 1 + 1)) ∧ (@Ne Nat Rw (L0 + 1 + 1 + 1 + 1 + 1)) ∧ (@Ne Nat Rw (L0 + 1 + 1 + 1 + 1 + 1 + 1))) :
  ∃ new,News g L h (six L0 o1 o2 o3 o4 o5 o6 (new ++ zz)) ∧ (∀ x ∈ new,∀ b ∈ zz,b.1 ≠ x.1) ∧ (Off6 L0 (new)) ∧ (Rw,LCg.lst [.ref R0,.ref R1,.ref R2,.ref R3,.ref R4]) ∈ new ∧ ((R0,PySem.W.listOf (d0.map Value.ref).toArray e0) ∈ new ∧ RowsAre new d0 (rowsF A0)) ∧ ((R1,PySem.W.listOf (d1.map Value.ref).toArray e1) ∈ new ∧ RowsAre new d1 (rowsF A1)) ∧ ((R2,PySem.W.listOf (d2.map Value.ref).toArray e2) ∈ new ∧ RowsAre new d2 (rowsF A2)) ∧ ((R3,PySem.W.listOf (d3.map Value.ref).toArray e3) ∈ new ∧ RowsAre new d3 (rowsF A3)) ∧ ((R4,PySem.W.listOf (d4.map Value.ref).toArray e4) ∈ new ∧ RowsAre new d4 (rowsF A4)) := by
 refine (?f : Cln _) ?p ⟨?q,fun B k => ?r⟩
 case f => exact fun x _ => x
 case q =>
  have e : (p4 ++ (p3 ++ (p2 ++ (p1 ++ p0)))) ++ zz = p4 ++ (p3 ++ (p2 ++ (p1 ++ (p0 ++ zz)))) := by simp only [List.append_assoc]
  rw [← e] at N
  refine ⟨(Rw,LCg.lst [.ref R0,.ref R1,.ref R2,.ref R3,.ref R4]) :: (p4 ++ (p3 ++ (p2 ++ (p1 ++ p0)))),cb_drop N (ap_up (a := hd6 L0 o1 o2 o3 o4 o5 o6) (h := [])),List.forall_mem_cons.mpr ⟨fun b hb => oR b (ap_r (ap_r (ap_r (ap_r ap_sr))) b hb),ap_all (fun x hx b hb => q4 x hx b (ap_r (ap_r (ap_r ap_sr)) b hb)) (ap_all (fun x hx b hb => q3 x hx b (ap_r (ap_r ap_sr) b hb)) (ap_all (fun x hx b hb => q2 x hx b (ap_r ap_sr b hb)) (ap_all (fun x hx b hb => q1 x hx b (ap_sr b hb)) q0)))⟩,off6_cons yR (off6_app y4 (off6_app y3 (off6_app y2 (off6_app y1 y0)))),.head _,?_⟩
  have s0 : ∀ y ∈ p0,y ∈ (Rw,LCg.lst [.ref R0,.ref R1,.ref R2,.ref R3,.ref R4]) :: (p4 ++ (p3 ++ (p2 ++ (p1 ++ p0)))) := sb_skip (ap_r (ap_r (ap_r ap_sr)))
  have s1 : ∀ y ∈ p1,y ∈ (Rw,LCg.lst [.ref R0,.ref R1,.ref R2,.ref R3,.ref R4]) :: (p4 ++ (p3 ++ (p2 ++ (p1 ++ p0)))) := sb_skip (ap_r (ap_r (ap_r ap_sl)))
  have s2 : ∀ y ∈ p2,y ∈ (Rw,LCg.lst [.ref R0,.ref R1,.ref R2,.ref R3,.ref R4]) :: (p4 ++ (p3 ++ (p2 ++ (p1 ++ p0)))) := sb_skip (ap_r (ap_r ap_sl))
  have s3 : ∀ y ∈ p3,y ∈ (Rw,LCg.lst [.ref R0,.ref R1,.ref R2,.ref R3,.ref R4]) :: (p4 ++ (p3 ++ (p2 ++ (p1 ++ p0)))) := sb_skip (ap_r ap_sl)
  have s4 : ∀ y ∈ p4,y ∈ (Rw,LCg.lst [.ref R0,.ref R1,.ref R2,.ref R3,.ref R4]) :: (p4 ++ (p3 ++ (p2 ++ (p1 ++ p0)))) := sb_skip ap_sl
  exact ⟨⟨s0 _ m0,r0.mono s0⟩,⟨s1 _ m1,r1.mono s1⟩,⟨s2 _ m2,r2.mono s2⟩,⟨s3 _ m3,r3.mono s3⟩,⟨s4 _ m4,r4.mono s4⟩⟩
 case r => (try delta id); (conv => zeta); exact k
theorem law8 {w : World} {mg mb : Str -> Option Value} {mean : ExcName -> Option Value} {loose : List Str} {g : Heap} {L fa : Addr} {cd : Value} {o : Obj} {fd : FuncData}
  (ho : (hd.heap_39 w.params).lookup 192 = some o) (hfd : o.data = .func fd) (CH : CodeHd g 146 142) (B : Below callerA g [] g) (KX : (hd.heap_39 w.params).In g) (T : Top topProg loose mean mg mb g) {m : Str -> Option Value} {s : Shared} {Q : Flow -> Shared -> Prop} {R : Result -> Shared -> Prop} {o1 o2 o3 o4 o5 o6 : Obj} {v1 v2 v3 v4 v5 v6 : Option Value} (c1 : o1.data = .cell v1) (c2 : o2.data = .cell v2) (c3 : o3.data = .cell v3) (c4 : o4.data = .cell v4) (c5 : o5.data = .cell v5) (c6 : o6.data = .cell v6) {H Kc : Addr} {A0 A1 A2 A3 A4 : List Int} (a0 : LongL A0) (a1 : LongL A1) (a2 : ShortL A2) (a3 : ShortL A3) (a4 : ShortL A4) {zz : List (Addr × Obj)} {mR : Str -> Option Value}
  (hs : HostsAre zz H A0 A1 A2 A3 A4) (z : Off6 L (zz))
  (F : Fr g L s.heap (fun z => if z = Str.ofString "colours" then some (.ref Kc) else if z = Str.ofString "hosts" then some (.ref H) else mR z)) (N : News g L s.heap (six L o1 o2 o3 o4 o5 o6 zz))
  (rest : ∀ (Rw R0 R1 R2 R3 R4 : Addr) (d0 d1 d2 d3 d4 : List Addr) (e0 e1 e2 e3 e4 : Nat) (new : List (Addr × Obj)) (o1' : Obj) (mR : Str -> Option Value) (h' : Heap) (tk' : Nat) (c1 : o1'.data = .cell (some (.ref Rw))) (hoff : ∀ x ∈ new, ∀ b ∈ zz, b.1 ≠ x.1) (ncz : Off6 L (new)) (hnew : (Rw, LCg.lst [.ref R0, .ref R1, .ref R2, .ref R3, .ref R4]) ∈ new ∧ ((R0, PySem.W.listOf (d0.map Value.ref).toArray e0) ∈ new ∧ RowsAre new d0 (rowsF A0)) ∧ ((R1, PySem.W.listOf (d1.map Value.ref).toArray e1) ∈ new ∧ RowsAre new d1 (rowsF A1)) ∧ ((R2, PySem.W.listOf (d2.map Value.ref).toArray e2) ∈ new ∧ RowsAre new d2 (rowsF A2)) ∧ ((R3, PySem.W.listOf (d3.map Value.ref).toArray e3) ∈ new ∧ RowsAre new d3 (rowsF A3)) ∧ ((R4, PySem.W.listOf (d4.map Value.ref).toArray e4) ∈ new ∧ RowsAre new d4 (rowsF A4))) (F : Fr g L h' (fun z => if z = Str.ofString "colours" then some (.ref Kc) else if z = Str.ofString "hosts" then some (.ref H) else mR z)) (N : News g L h' (six L o1' o2 o3 o4 o5 o6 (new ++ zz))), wpAny (model rw_xg0057_01.row.prog w) (callerA.deeper (envOfC fd.name fd.scope L fa cd)) (execs ((stmtsOf fd).drop 13) (envOfC fd.name fd.scope L fa cd)) Q (fun e s7 => wpAny (model rw_xg0057_01.row.prog w) (callerA.deeper (envOfC fd.name fd.scope L fa cd)) (leaving (envOfC fd.name fd.scope L fa cd) e) (fun _ s8 => R (.error e) s8) (fun e8 s8 => R (.error e8) s8) s7) { s with heap := h', toks := tk' }) : wpAny (model rw_xg0057_01.row.prog w) (callerA.deeper (envOfC fd.name fd.scope L fa cd)) (execs ((stmtsOf fd).drop 12) (envOfC fd.name fd.scope L fa cd)) Q (fun e s7 => wpAny (model rw_xg0057_01.row.prog w) (callerA.deeper (envOfC fd.name fd.scope L fa cd)) (leaving (envOfC fd.name fd.scope L fa cd) e) (fun _ s8 => R (.error e) s8) (fun e8 s8 => R (.error e8) s8) s7) s := by
 refine (?f : Cln _) ?p ⟨?q,fun B k => ?r⟩
 case f => exact fun x _ => x
 case q =>
  have key : rw_xg0057_01.row.prog = rw_xg0057_01.row.prog -> (hd.heap_39 w.params).In g -> (hd.heap_39 w.params).lookup 192 = some o -> wpAny (model rw_xg0057_01.row.prog w) (callerA.deeper (envOfC fd.name fd.scope L fa cd)) (execs ((stmtsOf fd).drop 12) (envOfC fd.name fd.scope L fa cd)) Q (fun e s7 => wpAny (model rw_xg0057_01.row.prog w) (callerA.deeper (envOfC fd.name fd.scope L fa cd)) (leaving (envOfC fd.name fd.scope L fa cd) e) (fun _ s8 => R (.error e) s8) (fun e8 s8 => R (.error e8) s8) s7) s := by
   clear KX ho
   k_fill
   intro _ KX ho
   have e9 := ho.symm.trans (show (hd.heap_39 w.params).lookup 192 = some _ from by k_is)
   cases e9
   cases hfd
   dsimp only [stmtsOf,List.drop]
   (try k_fold)
   refine hs _ fun l0 l1 l2 l3 l4 v0 v1' v2' v3' v4' nh k0 k1 k2 k3 k4 hH m0 m1 m2 m3 m4 i0 i1 i2 i3 i4 => ?_
   have x0 := a0.1.2; have x1 := a1.1.2; have x2 := Nat.le_trans a2.1.2 (show 2 <= 5 by decide); have x3 := Nat.le_trans a3.1.2 (show 2 <= 5 by decide); have x4 := Nat.le_trans a4.1.2 (show 2 <= 5 by decide)
   have w0 : 1 <= A0.length := by have := a0.1; lia
   have w1 : 1 <= A1.length := by have := a1.1; lia
   have w2 := a2.1.1; have w3 := a3.1.1; have w4 := a4.1.1
   have z1 := z.1
   have z2 := z.2.1
   have z3 := z.2.2.1
   have z4 := z.2.2.2.1
   have z5 := z.2.2.2.2.1
   have z6 := z.2.2.2.2.2
   refine cut_at 1 ?_
   dsimp only [List.take,List.drop]
   (k_steps; repeat' ((first | (refine stq_out "call ref" ?_; (k_here; (with_reducible show wpAny _ _ (call (Value.ref 187) [Value.ref _]) _ _ _); k_dflt (refine' use_rows3 ?hi ?h1 ?h5 ?hm ?off ?k1 ?k2 ?k3 ?k4 ?k5 ?kK ?kd ?ku ?_); walk_at "my sides"; (case hm => k_mem); (case hi => assumption); (case h1 => assumption); (case h5 => assumption); (case off => (simp only [LCg.Off3]; with_reducible assumption)); intro R' ds' n' pre' h' tk' mR' pR' op' zp' off' F' N'; have zp1 := zp'.1; have zp2 := zp'.2.1; have zp3 := zp'.2.2.1; have zp4 := zp'.2.2.2.1; have zp5 := zp'.2.2.2.2.1; have zp6 := zp'.2.2.2.2.2; (try dsimp only))) | (refine stq_out "CompEnd" ?_; (k_dflt (refine' cend0 (by with_reducible assumption) (by first | with_reducible assumption | assumption) ?co ?cs ?_; (case co => exact off'); (case cs => lcg_src)))) | (refine stq_out "CompSrc" ?_; (k_here; k_dflt (first
  | (refine LCg.CompSrc.ledger (by rfl) (by k_asm) (by k_asm) (by k_mem) (by first | size_fits | exact Nat.le_of_ble_eq_true rfl) ?_; intro g'; lcg_lit)
  | (refine LCg.CompSrc.range (by rfl) (by k_asm) (by k_asm) (by assumption) (by first | decide | rfl) (by first | rfl | decide) (by first | size_fits | exact Nat.le_of_ble_eq_true rfl) ?_; intro g'; lcg_lit)))) | fail) <;> k_steps))
   (try dsimp only)
   show wpAny _ _ _ _ _ _
   rename Fr _ _ _ _ => F9
   rename News _ _ _ _ => N9
   rename _ = Data.cell (some (Value.ref _)) => c9
   obtain ⟨new,N8,hoff,ncz,hn⟩ := rows_end (A0 := A0) (A1 := A1) (A2 := A2) (A3 := A3) (A4 := A4) N9 (by assumption) (by assumption) (by assumption) (by assumption) (by assumption) (by assumption) (by assumption) (by assumption) (by assumption) (by assumption) (by assumption) (by assumption) (by assumption) (by assumption) (by assumption) (by (first | exact offNe (r3 (by with_reducible assumption)) | exact offNe (r4 (by with_reducible assumption)) | exact offNe (r5 (by with_reducible assumption)) | exact offNe (r6 (by with_reducible assumption)) | exact offNe (r7 (by with_reducible assumption)) | exact offNe (r8 (by with_reducible assumption)) | exact offNe (r9 (by with_reducible assumption)) | exact offNe (r10 (by with_reducible assumption)) | exact offNe (r11 (by with_reducible assumption)) | exact offNe (r12 (by with_reducible assumption)) | exact offNe (r13 (by with_reducible assumption)) | exact offNe (r14 (by with_reducible assumption)) | exact offNe (r15 (by with_reducible assumption)) | exact offNe (r16 (by with_reducible assumption)) | exact offNe (by with_reducible assumption) | k_all)) (by assumption) (by assumption) (by assumption) (by assumption) (by assumption) ⟨by k_ne,by k_ne,by k_ne,by k_ne,by k_ne,by k_ne⟩
   exact @rest _ _ _ _ _ _ _ _ _ _ _ _ _ _ _ _ new _ _ _ _ c9 hoff ncz hn (fr_has (fr_has F9 (Str.ofString "hosts") rfl) (Str.ofString "colours") rfl) N8
  exact key rfl KX ho
 case r => delta id stq_it stq_out; exact k
end

example {M : Model} {A : Around} {env : Env} {Q : Flow -> Shared -> Prop} {E : Value -> Shared -> Prop} {s : Shared} (h : Q .next s) : wpAny M A (execs [] env) Q E s := by first | (walk1; exact h) | exact wpAny_execs_nil h

theorem pair_body {w : World} {mg mb : Str -> Option Value} {mean : ExcName -> Option Value} {loose : List Str} {g : Heap} {L fa : Addr} {cd : Value} {o : Obj} {fd : FuncData}
  (ho : (hd.heap_39 w.params).lookup 192 = some o) (hfd : o.data = .func fd) (CH : CodeHd g 146 142) (B : Below callerA g [] g) (KX : (hd.heap_39 w.params).In g) (T : Top topProg loose mean mg mb g) {m : Str -> Option Value} {s : Shared} {Q : Flow -> Shared -> Prop} {R : Result -> Shared -> Prop} {o1 o2 o3 o4 o5 o6 : Obj} {H G W O Kc : Addr} {a b : Int} {ta tb : Tok} {vsH vsG vsW : List Value} {nH nG nW : Nat} {lA lB : Addr} {vA vB : List Value} {kA kB : Nat} {A Bs : List Int} {uA uB : Tok} {UA UB : Addr} {hA sA eA hB sB eB : UInt64} {g1 g2 g3 g4 g5 g6 : Tok} {ds : List Addr} {os : List (UInt64 × UInt64)} {nO : Nat} {zz : List (Addr × Obj)} {mR : Str -> Option Value} {v1 v2 v3 v4 v6 : Option Value} (c1 : o1.data = .cell v1) (c2 : o2.data = .cell v2) (c3 : o3.data = .cell v3) (c4 : o4.data = .cell v4) (c5 : o5.data = .cell (some (.ref lA))) (c6 : o6.data = .cell v6) (ha : 0 <= a ∧ a < 5) (hb : 0 <= b ∧ b < 5) (mH : (H,PySem.W.listOf vsH.toArray nH) ∈ zz) (mG : (G,PySem.W.listOf vsG.toArray nG) ∈ zz) (mW : (W,PySem.W.listOf vsW.toArray nW) ∈ zz) (mO : (O,PySem.W.listOf (ds.map Value.ref).toArray nO) ∈ zz) (pO : PairsAre zz ds os)
  (iA : IntsAre vA A) (iB : IntsAre vB Bs) (mA : (lA,PySem.W.listOf vA.toArray kA) ∈ zz) (mB : (lB,PySem.W.listOf vB.toArray kB) ∈ zz) (xHA : vsH[a.toNat]? = some (.ref lA)) (xHB : vsH[b.toNat]? = some (.ref lB)) (xWA : vsW[a.toNat]? = some (.str (hostF A) uA)) (xWB : vsW[b.toNat]? = some (.str (hostF Bs) uB))
  (xGA : vsG[a.toNat]? = some (.ref UA)) (xGB : vsG[b.toNat]? = some (.ref UB)) (mUA : (UA,tupO [.float hA g1,.float sA g2,.float eA g3]) ∈ zz) (mUB : (UB,tupO [.float hB g4,.float sB g5,.float eB g6]) ∈ zz)
  (zB : Float64.isZero sB = false) (nB : Float64.isNaN (Float64.div (Float64.div hB sB) sB) = false) (fB : Float64.isInf (Float64.div (Float64.div hB sB) sB) = false) (El : ∀ r ∈ os,Float64.isNaN (Float64.div (Float64.div r.1 sB) sB) = false ∧ Float64.isInf (Float64.div (Float64.div r.1 sB) sB) = false) (hos : os.length <= 5)
  (lA5 : A.length <= 5) (lB5 : Bs.length <= 2) (lB1 : 1 <= Bs.length) (lA3 : 3 <= A.length) {a0 b0 : Int} {w0 w1 : Tok} (hA0 : vA[0]? = some (.int a0 w0)) (hB0 : vB[0]? = some (.int b0 w1))
  (hD : dmF (Txt.upper (hostF A)) (Str.ofString "." ++ hostF Bs) = (((List.range (A.length - Bs.length)).any (runT A Bs) && (a0 != 2)) && (Bs.length == 1 || b0 != 2))) (hC : ((os.any (metT sB (Flt.toInt Float64.truncOf (Float64.div (Float64.div hB sB) sB))) && !thirdF hA sA) && !thirdF hB sB) = (((List.range (A.length - Bs.length)).any (runT A Bs) && (a0 != 2)) && (Bs.length == 1 || b0 != 2))) (d1 : (srchF (Txt.lower (Txt.upper (hostF A)))).isSome = true) (d2 : (srchF (Txt.slice (Txt.lower (Str.ofString "." ++ hostF Bs)) (some 1) none)).isSome = true) (lnA : (hostF A).length <= 14) (lnB : (hostF Bs).length <= 14)
  (z : Off6 L (zz)) (F : Fr g L s.heap (fun z => if z = Str.ofString "a" then some (.int a ta) else if z = Str.ofString "b" then some (.int b tb) else if z = Str.ofString "orbit" then some (.ref O) else if z = Str.ofString "told" then some (.ref G) else if z = Str.ofString "words" then some (.ref W) else if z = Str.ofString "colours" then some (.ref Kc) else if z = Str.ofString "hosts" then some (.ref H) else mR z)) (N : News g L s.heap (six L o1 o2 o3 o4 o5 o6 zz))
  (rest : ∀ (o2' o3' o4' : Obj) (w2 w3 w4 : Option Value) (mR : Str -> Option Value) (h' : Heap) (tk' : Nat) (c2 : o2'.data = .cell w2) (c3 : o3'.data = .cell w3) (c4 : o4'.data = .cell w4) (F : Fr g L h' (fun z => if z = Str.ofString "a" then some (.int a ta) else if z = Str.ofString "b" then some (.int b tb) else if z = Str.ofString "orbit" then some (.ref O) else if z = Str.ofString "told" then some (.ref G) else if z = Str.ofString "words" then some (.ref W) else if z = Str.ofString "colours" then some (.ref Kc) else if z = Str.ofString "hosts" then some (.ref H) else mR z)) (N : News g L h' (six L o1 o2' o3' o4' o5 o6 zz)), Q .next { s with heap := h', toks := tk' }) : wpAny (model rw_xg0057_01.row.prog w) (callerA.deeper (envOfC fd.name fd.scope L fa cd)) (execs ((pairB fd).drop 0) (envOfC fd.name fd.scope L fa cd)) Q (fun e s7 => wpAny (model rw_xg0057_01.row.prog w) (callerA.deeper (envOfC fd.name fd.scope L fa cd)) (leaving (envOfC fd.name fd.scope L fa cd) e) (fun _ s8 => R (.error e) s8) (fun e8 s8 => R (.error e8) s8) s7) s := by
 refine pair1 (m := fun _ => none) ho hfd CH B KX T c1 c2 c3 c4 c5 c6 ha hb mH mG mW mO pO iA iB mA mB xHA xHB xWA xWB xGA xGB mUA mUB z F N zB nB fB ?_
 intro o2' o3' o4' tp mR h' tk' c2 c3 c4 F N
 refine pair2 (m := fun _ => none) ho hfd CH B KX T ha hb mH mG mW mO pO iA iB mA mB xHA xHB xWA xWB xGA xGB mUA mUB c1 c2 c3 c4 c5 c6 El zB ?_ z F N ?_
 ·rw [List.size_toArray,List.length_map,pairs_len pO,PySem.sizeLine_eq]; lia
 intro M ys mR h' tk' hys hM F N
 refine pair3 (m := fun _ => none) ho hfd CH B KX T ha hb mH mG mW mO pO iA iB mA mB xHA xHB xWA xWB xGA xGB mUA mUB c1 c2 c3 c4 c5 c6 hys hM z F N ?_
 intro c mR h' tk' hc F N
 refine pair4 (m := fun _ => none) ho hfd CH B KX T ha hb mH mG mW mO pO iA iB mA mB xHA xHB xWA xWB xGA xGB mUA mUB c1 c2 c3 c4 c5 c6 lA5 lB5 lB1 lA3 z F N ?_
 intro Rn ys mR h' tk' hys hR F N
 refine pair5 (m := fun _ => none) ho hfd CH B KX T ha hb mH mG mW mO pO iA iB mA mB xHA xHB xWA xWB xGA xGB mUA mUB c1 c2 c3 c4 c5 c6 hys hR hA0 hB0 lB5 z F N ?_
 intro e mR h' tk' he F N
 refine pair6 (m := fun _ => none) ho hfd CH B KX T ha hb mH mG mW mO pO iA iB mA mB xHA xHB xWA xWB xGA xGB mUA mUB c1 c2 c3 c4 c5 c6 (hD.trans he.symm) ((hc.trans hC).trans he.symm) d1 d2 lnA lnB z F N ?_
 intro mR h' tk' F N
 exact @rest o2' o3' o4' _ _ _ mR h' tk' c2 c3 c4 F N

noncomputable def PairOk (zz : List (Addr × Obj)) (vsH vsG vsW : List Value) (A : List Int) (a0 : Int) (hA sA : UInt64) (os : List (UInt64 × UInt64)) (b : Int) : Prop :=
 ∀ X : Prop,(∀ (lB : Addr) (vB : List Value) (kB : Nat) (Bs : List Int) (uB : Tok) (UB : Addr) (hB sB eB : UInt64) (g4 g5 g6 : Tok) (b0 : Int) (w1 : Tok),
  IntsAre vB Bs -> (lB,PySem.W.listOf vB.toArray kB) ∈ zz -> vsH[b.toNat]? = some (.ref lB) -> vsW[b.toNat]? = some (.str (hostF Bs) uB) -> vsG[b.toNat]? = some (.ref UB) -> (UB,tupO [.float hB g4,.float sB g5,.float eB g6]) ∈ zz ->
  Float64.isZero sB = false -> Float64.isNaN (Float64.div (Float64.div hB sB) sB) = false -> Float64.isInf (Float64.div (Float64.div hB sB) sB) = false ->
  (∀ r ∈ os,Float64.isNaN (Float64.div (Float64.div r.1 sB) sB) = false ∧ Float64.isInf (Float64.div (Float64.div r.1 sB) sB) = false) ->
  Bs.length <= 2 -> 1 <= Bs.length -> vB[0]? = some (.int b0 w1) ->
  dmF (Txt.upper (hostF A)) (Str.ofString "." ++ hostF Bs) = (((List.range (A.length - Bs.length)).any (runT A Bs) && (a0 != 2)) && (Bs.length == 1 || b0 != 2)) -> ((os.any (metT sB (Flt.toInt Float64.truncOf (Float64.div (Float64.div hB sB) sB))) && !thirdF hA sA) && !thirdF hB sB) = (((List.range (A.length - Bs.length)).any (runT A Bs) && (a0 != 2)) && (Bs.length == 1 || b0 != 2)) -> (srchF (Txt.slice (Txt.lower (Str.ofString "." ++ hostF Bs)) (some 1) none)).isSome = true -> (hostF Bs).length <= 14 -> X) -> X
theorem PairOk.mono {zz zz' : List (Addr × Obj)} {vsH vsG vsW : List Value} {A : List Int} {a0 : Int} {hA sA : UInt64} {os : List (UInt64 × UInt64)} {b : Int} (k : ∀ p ∈ zz,p ∈ zz') (h : PairOk zz vsH vsG vsW A a0 hA sA os b) : PairOk zz' vsH vsG vsW A a0 hA sA os b :=
 fun X kk => h X fun lB vB kB Bs uB UB hB sB eB g4 g5 g6 b0 w1 h1 h2 h3 h4 h5 h6 => kk lB vB kB Bs uB UB hB sB eB g4 g5 g6 b0 w1 h1 (k _ h2) h3 h4 h5 (k _ h6)
theorem pair_ok {w : World} {mg mb : Str -> Option Value} {mean : ExcName -> Option Value} {loose : List Str} {g : Heap} {L fa : Addr} {cd : Value} {o : Obj} {fd : FuncData}
  (ho : (hd.heap_39 w.params).lookup 192 = some o) (hfd : o.data = .func fd) (CH : CodeHd g 146 142) (B : Below callerA g [] g) (KX : (hd.heap_39 w.params).In g) (T : Top topProg loose mean mg mb g) {m : Str -> Option Value} {s : Shared} {Q : Flow -> Shared -> Prop} {R : Result -> Shared -> Prop} {o1 o2 o3 o4 o5 o6 : Obj} {H G W O Kc : Addr} {a : Int} {ta : Tok} {vsH vsG vsW : List Value} {nH nG nW : Nat} {lA : Addr} {vA : List Value} {kA : Nat} {A : List Int} {uA : Tok} {UA : Addr} {hA sA eA : UInt64} {g1 g2 g3 : Tok} {ds : List Addr} {os : List (UInt64 × UInt64)} {nO : Nat} {zz : List (Addr × Obj)} {mR : Str -> Option Value} {a0 : Int} {w0 : Tok} {v1 v2 v3 v4 v6 : Option Value} (c1 : o1.data = .cell v1) (c2 : o2.data = .cell v2) (c3 : o3.data = .cell v3) (c4 : o4.data = .cell v4) (c5 : o5.data = .cell (some (.ref lA))) (c6 : o6.data = .cell v6) (ha : 0 <= a ∧ a < 5) (mH : (H,PySem.W.listOf vsH.toArray nH) ∈ zz) (mG : (G,PySem.W.listOf vsG.toArray nG) ∈ zz) (mW : (W,PySem.W.listOf vsW.toArray nW) ∈ zz) (mO : (O,PySem.W.listOf (ds.map Value.ref).toArray nO) ∈ zz) (pO : PairsAre zz ds os)
  (iA : IntsAre vA A) (mA : (lA,PySem.W.listOf vA.toArray kA) ∈ zz) (xHA : vsH[a.toNat]? = some (.ref lA)) (xWA : vsW[a.toNat]? = some (.str (hostF A) uA)) (xGA : vsG[a.toNat]? = some (.ref UA)) (mUA : (UA,tupO [.float hA g1,.float sA g2,.float eA g3]) ∈ zz)
  (hos : os.length <= 5) (lA5 : A.length <= 5) (lA3 : 3 <= A.length) (hA0 : vA[0]? = some (.int a0 w0)) (d1 : (srchF (Txt.lower (Txt.upper (hostF A)))).isSome = true) (lnA : (hostF A).length <= 14) {b : Int} {tb : Tok} (hb : 0 <= b ∧ b < 5) (ok : PairOk zz vsH vsG vsW A a0 hA sA os b)
  (z : Off6 L (zz)) (F : Fr g L s.heap (fun z => if z = Str.ofString "a" then some (.int a ta) else if z = Str.ofString "b" then some (.int b tb) else if z = Str.ofString "orbit" then some (.ref O) else if z = Str.ofString "told" then some (.ref G) else if z = Str.ofString "words" then some (.ref W) else if z = Str.ofString "colours" then some (.ref Kc) else if z = Str.ofString "hosts" then some (.ref H) else mR z)) (N : News g L s.heap (six L o1 o2 o3 o4 o5 o6 zz))
  (rest : ∀ (o2' o3' o4' : Obj) (w2 w3 w4 : Option Value) (mR : Str -> Option Value) (h' : Heap) (tk' : Nat) (c2 : o2'.data = .cell w2) (c3 : o3'.data = .cell w3) (c4 : o4'.data = .cell w4) (F : Fr g L h' (fun z => if z = Str.ofString "a" then some (.int a ta) else if z = Str.ofString "b" then some (.int b tb) else if z = Str.ofString "orbit" then some (.ref O) else if z = Str.ofString "told" then some (.ref G) else if z = Str.ofString "words" then some (.ref W) else if z = Str.ofString "colours" then some (.ref Kc) else if z = Str.ofString "hosts" then some (.ref H) else mR z)) (N : News g L h' (six L o1 o2' o3' o4' o5 o6 zz)), Q .next { s with heap := h', toks := tk' }) : wpAny (model rw_xg0057_01.row.prog w) (callerA.deeper (envOfC fd.name fd.scope L fa cd)) (execs ((pairB fd).drop 0) (envOfC fd.name fd.scope L fa cd)) Q (fun e s7 => wpAny (model rw_xg0057_01.row.prog w) (callerA.deeper (envOfC fd.name fd.scope L fa cd)) (leaving (envOfC fd.name fd.scope L fa cd) e) (fun _ s8 => R (.error e) s8) (fun e8 s8 => R (.error e8) s8) s7) s := by
 exact ok _ fun lB vB kB Bs uB UB hB sB eB g4 g5 g6 b0 w1 iB mB xHB xWB xGB mUB zB nB fB El lB5 lB1 hB0 hD hC d2 lnB => pair_body (m := fun _ => none) ho hfd CH B KX T c1 c2 c3 c4 c5 c6 ha hb mH mG mW mO pO iA iB mA mB xHA xHB xWA xWB xGA xGB mUA mUB zB nB fB El hos lA5 lB5 lB1 lA3 hA0 hB0 hD hC d1 d2 lnA lnB z F N rest

section
theorem swap6 {g h : Heap} {L L0 : Addr} {o1 o2 o3 o4 o5 o6 : Obj} {x : Addr × Obj} {zz : List (Addr × Obj)} (N : News g L h (x :: six L0 o1 o2 o3 o4 o5 o6 zz)) : News g L h (six L0 o1 o2 o3 o4 o5 o6 (x :: zz)) :=
 cb_drop N (by walk_at "my sub")
theorem pull6 {g h : Heap} {L L0 : Addr} {o1 o2 o3 o4 o5 o6 : Obj} {x : Addr × Obj} {zz : List (Addr × Obj)} (N : News g L h (six L0 o1 o2 o3 o4 o5 o6 (x :: zz))) : News g L h (x :: six L0 o1 o2 o3 o4 o5 o6 zz) :=
 cb_drop N (by walk_at "my sub")
theorem hold_of {P : Prop} (h : Hold P) : P := h
local macro_rules | `(tactic| walk_at "RangeRest") => `(tactic| (refine hold_of ?_))
theorem pair_loop {w : World} {mg mb : Str -> Option Value} {mean : ExcName -> Option Value} {loose : List Str} {g : Heap} {L fa : Addr} {cd : Value} {o : Obj} {fd : FuncData}
  (ho : (hd.heap_39 w.params).lookup 192 = some o) (hfd : o.data = .func fd) (CH : CodeHd g 146 142) (B : Below callerA g [] g) (KX : (hd.heap_39 w.params).In g) (T : Top topProg loose mean mg mb g) {m : Str -> Option Value} {s : Shared} {Q : Flow -> Shared -> Prop} {R : Result -> Shared -> Prop} {o1 o2 o3 o4 o5 o6 : Obj} {H G W O Kc : Addr} {a : Int} {ta : Tok} {vsH vsG vsW : List Value} {nH nG nW : Nat} {lA : Addr} {vA : List Value} {kA : Nat} {A : List Int} {uA : Tok} {UA : Addr} {hA sA eA : UInt64} {g1 g2 g3 : Tok} {ds : List Addr} {os : List (UInt64 × UInt64)} {nO : Nat} {zz : List (Addr × Obj)} {mR : Str -> Option Value} {a0 : Int} {w0 : Tok} {v1 v2 v3 v4 v6 : Option Value} (c1 : o1.data = .cell v1) (c2 : o2.data = .cell v2) (c3 : o3.data = .cell v3) (c4 : o4.data = .cell v4) (c5 : o5.data = .cell (some (.ref lA))) (c6 : o6.data = .cell v6) (ha : 0 <= a ∧ a < 5) (mH : (H,PySem.W.listOf vsH.toArray nH) ∈ zz) (mG : (G,PySem.W.listOf vsG.toArray nG) ∈ zz) (mW : (W,PySem.W.listOf vsW.toArray nW) ∈ zz) (mO : (O,PySem.W.listOf (ds.map Value.ref).toArray nO) ∈ zz) (pO : PairsAre zz ds os)
  (iA : IntsAre vA A) (mA : (lA,PySem.W.listOf vA.toArray kA) ∈ zz) (xHA : vsH[a.toNat]? = some (.ref lA)) (xWA : vsW[a.toNat]? = some (.str (hostF A) uA)) (xGA : vsG[a.toNat]? = some (.ref UA)) (mUA : (UA,tupO [.float hA g1,.float sA g2,.float eA g3]) ∈ zz)
  (hos : os.length <= 5) (lA5 : A.length <= 5) (lA3 : 3 <= A.length) (hA0 : vA[0]? = some (.int a0 w0)) (d1 : (srchF (Txt.lower (Txt.upper (hostF A)))).isSome = true) (lnA : (hostF A).length <= 14) (ok2 : PairOk zz vsH vsG vsW A a0 hA sA os 2) (ok3 : PairOk zz vsH vsG vsW A a0 hA sA os 3) (ok4 : PairOk zz vsH vsG vsW A a0 hA sA os 4)
  (z : Off6 L (zz)) (F : Fr g L s.heap (fun z => if z = Str.ofString "a" then some (.int a ta) else if z = Str.ofString "orbit" then some (.ref O) else if z = Str.ofString "told" then some (.ref G) else if z = Str.ofString "words" then some (.ref W) else if z = Str.ofString "colours" then some (.ref Kc) else if z = Str.ofString "hosts" then some (.ref H) else mR z)) (N : News g L s.heap (six L o1 o2 o3 o4 o5 o6 zz))
  (rest : ∀ (o2' o3' o4' : Obj) (w2 w3 w4 : Option Value) (mR : Str -> Option Value) (h' : Heap) (tk' : Nat) (c2 : o2'.data = .cell w2) (c3 : o3'.data = .cell w3) (c4 : o4'.data = .cell w4) (F : Fr g L h' (fun z => if z = Str.ofString "a" then some (.int a ta) else if z = Str.ofString "orbit" then some (.ref O) else if z = Str.ofString "told" then some (.ref G) else if z = Str.ofString "words" then some (.ref W) else if z = Str.ofString "colours" then some (.ref Kc) else if z = Str.ofString "hosts" then some (.ref H) else mR z)) (N : News g L h' (six L o1 o2' o3' o4' o5 o6 zz)), Q .next { s with heap := h', toks := tk' }) : wpAny (model rw_xg0057_01.row.prog w) (callerA.deeper (envOfC fd.name fd.scope L fa cd)) (execs ((pairO fd).drop 2) (envOfC fd.name fd.scope L fa cd)) Q (fun e s7 => wpAny (model rw_xg0057_01.row.prog w) (callerA.deeper (envOfC fd.name fd.scope L fa cd)) (leaving (envOfC fd.name fd.scope L fa cd) e) (fun _ s8 => R (.error e) s8) (fun e8 s8 => R (.error e8) s8) s7) s := by
 refine (?f : Cln _) ?p ⟨?q,fun B k => ?r⟩
 case f => exact fun x _ => x
 case q =>
  have key : rw_xg0057_01.row.prog = rw_xg0057_01.row.prog -> (hd.heap_39 w.params).In g -> (hd.heap_39 w.params).lookup 192 = some o -> wpAny (model rw_xg0057_01.row.prog w) (callerA.deeper (envOfC fd.name fd.scope L fa cd)) (execs ((pairO fd).drop 2) (envOfC fd.name fd.scope L fa cd)) Q (fun e s7 => wpAny (model rw_xg0057_01.row.prog w) (callerA.deeper (envOfC fd.name fd.scope L fa cd)) (leaving (envOfC fd.name fd.scope L fa cd) e) (fun _ s8 => R (.error e) s8) (fun e8 s8 => R (.error e8) s8) s7) s := by
   clear KX ho
   k_fill
   intro _ KX ho
   have e9 := ho.symm.trans (show (hd.heap_39 w.params).lookup 192 = some _ from by k_is)
   cases e9
   cases hfd
   simp only [pairO,stmtsOf,bodyAt,forBody]
   dsimp only [List.drop]
   (try k_fold)
   have z1 := z.1
   have z2 := z.2.1
   have z3 := z.2.2.1
   have z4 := z.2.2.2.1
   have z5 := z.2.2.2.2.1
   have z6 := z.2.2.2.2.2
   k_steps
   rename _ ∧ _ ∧ _ ∧ _ ∧ _ ∧ _ ∧ AllLt _ zz => l9
   have hI := ltNe l9.2.2.2.2.2.2
   obtain ⟨y1,y2,y3,y4,y5,y6⟩ : _ ∧ _ ∧ _ ∧ _ ∧ _ ∧ _ := ⟨Ne.symm (Nat.ne_of_lt l9.2.2.2.2.2.1),Ne.symm (Nat.ne_of_lt l9.2.2.2.2.1),Ne.symm (Nat.ne_of_lt l9.2.2.2.1),Ne.symm (Nat.ne_of_lt l9.2.2.1),Ne.symm (Nat.ne_of_lt l9.2.1),Ne.symm (Nat.ne_of_lt l9.1)⟩
   (try clear F)
   (try clear N)
   show RangeRest _ _ _ _ _ _ _ _ _ _ _ _ _ 3 0 _ _
   refine RangeRest.succ (fun t1 h1 tk1 F1 N1 => ?_)
   refine pair_ok (m := fun _ => none) (zz := (_, _) :: zz) ho rfl CH B KX T c1 c2 c3 c4 c5 c6 ha (.tail _ mH) (.tail _ mG) (.tail _ mW) (.tail _ mO) (pO.mono fun p h => .tail _ h) iA (.tail _ mA) xHA xWA xGA (.tail _ mUA) hos lA5 lA3 hA0 d1 lnA (b := 2) (by decide) (ok2.mono fun p h => .tail _ h) ⟨List.forall_mem_cons.mpr ⟨y1, z1⟩, List.forall_mem_cons.mpr ⟨y2, z2⟩, List.forall_mem_cons.mpr ⟨y3, z3⟩, List.forall_mem_cons.mpr ⟨y4, z4⟩, List.forall_mem_cons.mpr ⟨y5, z5⟩, List.forall_mem_cons.mpr ⟨y6, z6⟩⟩ (fr_has (fr_has (fr_has (fr_has (fr_has (fr_has (fr_has (fr_env F1) (Str.ofString "hosts") rfl) (Str.ofString "colours") rfl) (Str.ofString "words") rfl) (Str.ofString "told") rfl) (Str.ofString "orbit") rfl) (Str.ofString "b") rfl) (Str.ofString "a") rfl) (swap6 (news_env N1)) ?_
   clear c2 c3 c4 F1 N1
   intro o2 o3 o4 w2 w3 w4 mR h' tk' c2 c3 c4 F9 N9
   refine UnrEnd.intro F9 (pull6 N9) _ (fun p hp => hp) (List.forall_mem_cons.mpr ⟨Ne.symm y6,List.forall_mem_cons.mpr ⟨Ne.symm y5,List.forall_mem_cons.mpr ⟨Ne.symm y4,List.forall_mem_cons.mpr ⟨Ne.symm y3,List.forall_mem_cons.mpr ⟨Ne.symm y2,List.forall_mem_cons.mpr ⟨Ne.symm y1,hI⟩⟩⟩⟩⟩⟩) ?_
   clear F9 N9
   refine RangeRest.succ (fun t1 h1 tk1 F1 N1 => ?_)
   refine pair_ok (m := fun _ => none) (zz := (_, _) :: zz) ho rfl CH B KX T c1 c2 c3 c4 c5 c6 ha (.tail _ mH) (.tail _ mG) (.tail _ mW) (.tail _ mO) (pO.mono fun p h => .tail _ h) iA (.tail _ mA) xHA xWA xGA (.tail _ mUA) hos lA5 lA3 hA0 d1 lnA (b := 3) (by decide) (ok3.mono fun p h => .tail _ h) ⟨List.forall_mem_cons.mpr ⟨y1, z1⟩, List.forall_mem_cons.mpr ⟨y2, z2⟩, List.forall_mem_cons.mpr ⟨y3, z3⟩, List.forall_mem_cons.mpr ⟨y4, z4⟩, List.forall_mem_cons.mpr ⟨y5, z5⟩, List.forall_mem_cons.mpr ⟨y6, z6⟩⟩ (fr_has (fr_has (fr_has (fr_has (fr_has (fr_has (fr_has (fr_env F1) (Str.ofString "hosts") rfl) (Str.ofString "colours") rfl) (Str.ofString "words") rfl) (Str.ofString "told") rfl) (Str.ofString "orbit") rfl) (Str.ofString "b") rfl) (Str.ofString "a") rfl) (swap6 (news_env N1)) ?_
   clear c2 c3 c4 F1 N1
   intro o2 o3 o4 w2 w3 w4 mR h' tk' c2 c3 c4 F9 N9
   refine UnrEnd.intro F9 (pull6 N9) _ (fun p hp => hp) (List.forall_mem_cons.mpr ⟨Ne.symm y6,List.forall_mem_cons.mpr ⟨Ne.symm y5,List.forall_mem_cons.mpr ⟨Ne.symm y4,List.forall_mem_cons.mpr ⟨Ne.symm y3,List.forall_mem_cons.mpr ⟨Ne.symm y2,List.forall_mem_cons.mpr ⟨Ne.symm y1,hI⟩⟩⟩⟩⟩⟩) ?_
   clear F9 N9
   refine RangeRest.succ (fun t1 h1 tk1 F1 N1 => ?_)
   refine pair_ok (m := fun _ => none) (zz := (_, _) :: zz) ho rfl CH B KX T c1 c2 c3 c4 c5 c6 ha (.tail _ mH) (.tail _ mG) (.tail _ mW) (.tail _ mO) (pO.mono fun p h => .tail _ h) iA (.tail _ mA) xHA xWA xGA (.tail _ mUA) hos lA5 lA3 hA0 d1 lnA (b := 4) (by decide) (ok4.mono fun p h => .tail _ h) ⟨List.forall_mem_cons.mpr ⟨y1, z1⟩, List.forall_mem_cons.mpr ⟨y2, z2⟩, List.forall_mem_cons.mpr ⟨y3, z3⟩, List.forall_mem_cons.mpr ⟨y4, z4⟩, List.forall_mem_cons.mpr ⟨y5, z5⟩, List.forall_mem_cons.mpr ⟨y6, z6⟩⟩ (fr_has (fr_has (fr_has (fr_has (fr_has (fr_has (fr_has (fr_env F1) (Str.ofString "hosts") rfl) (Str.ofString "colours") rfl) (Str.ofString "words") rfl) (Str.ofString "told") rfl) (Str.ofString "orbit") rfl) (Str.ofString "b") rfl) (Str.ofString "a") rfl) (swap6 (news_env N1)) ?_
   clear c2 c3 c4 F1 N1
   intro o2 o3 o4 w2 w3 w4 mR h' tk' c2 c3 c4 F9 N9
   refine UnrEnd.intro F9 (pull6 N9) _ (fun p hp => hp) (List.forall_mem_cons.mpr ⟨Ne.symm y6,List.forall_mem_cons.mpr ⟨Ne.symm y5,List.forall_mem_cons.mpr ⟨Ne.symm y4,List.forall_mem_cons.mpr ⟨Ne.symm y3,List.forall_mem_cons.mpr ⟨Ne.symm y2,List.forall_mem_cons.mpr ⟨Ne.symm y1,hI⟩⟩⟩⟩⟩⟩) ?_
   clear F9 N9
   refine RangeRest.zero (fun h1 tk1 F1 N1 => ?_)
   have F9 := fr_env F1
   have N9 := news_env N1
   clear F1 N1
   k_steps
   exact @rest o2 o3 o4 w2 w3 w4 _ _ _ c2 c3 c4 (fr_has (fr_has (fr_has (fr_has (fr_has (fr_has F9 (Str.ofString "hosts") rfl) (Str.ofString "colours") rfl) (Str.ofString "words") rfl) (Str.ofString "told") rfl) (Str.ofString "orbit") rfl) (Str.ofString "a") rfl) N9
  exact key rfl KX ho
 case r => delta id stq_it stq_out; exact k
end

example {M : Model} {A : Around} {env : Env} {Q : Flow -> Shared -> Prop} {E : Value -> Shared -> Prop} {s : Shared} (h : Q .next s) : wpAny M A (execs [] env) Q E s := by first | (walk1; exact h) | exact wpAny_execs_nil h

theorem use_orbit {w : World} {mean : ExcName -> Option Value} {mg mb : Str -> Option Value} {loose : List Str}
  {dp un : Nat} {gd : Option (List Code)} {cn : Str} {cs : Scope} {a : Addr} {ccd : Value} {cl : List (Str × Addr)} {outer : List Env} {A₀ : Around} {base h₀ : Heap} {L : Addr} {m : Str -> Option Value} {s : Shared} {Q E : Value -> Shared -> Prop} {h sh : UInt64} {os : List (UInt64 × UInt64)} {t1 t2 : Tok} (ok : OrbOk ((h,sh) :: os)) (h1 : 2 <= os.length) (h2 : os.length <= 4) {L0 : Addr} {o1 o2 o3 o4 o5 o6 : Obj} {zz : List (Addr × Obj)}
  (B : Below A₀ base outer h₀) (F : Fr h₀ L s.heap m) (X : (hd.heap_39 w.params).In h₀) (N : News h₀ L s.heap (six L0 o1 o2 o3 o4 o5 o6 zz)) (T : Top topProg loose mean mg mb h₀) (hk : cs.kind = .function) (hd : dp + 3 < recursionLimit) (hu : un + 8 * 3 < cLine)
  (hret : ∀ (D : Addr) (ds : List Addr) (n : Nat) (pre : List (Addr × Obj)) (h' : Heap) (tk' : Nat),(D,PySem.W.listOf (ds.map Value.ref).toArray n) ∈ pre -> PairsAre pre ds ((h,sh) :: os) -> (Off6 L0 (pre)) -> Fr h₀ L h' m -> News h₀ L h' (six L0 o1 o2 o3 o4 o5 o6 (pre ++ zz)) -> Q (.ref D) { s with heap := h',toks := tk' }) :
  wpAny (model rw_xg0057_01.row.prog w) (ktrTop dp un gd cn cs L a ccd cl outer) (call (.ref 182) [.float h t1,.float sh t2]) Q E s :=
 ctr_use (ctr_orbit w h sh os t1 t2 ok h2 (six L0 o1 o2 o3 o4 o5 o6 zz)) B F X N T hk hd hu (fun r new h' tk' hp F' N' => by
  obtain ⟨D,ds,n,pre,rfl,rfl,hD,hP,off⟩ := hp
  exact hret D ds n pre h' tk' hD hP (off6_of off fun y hy => List.mem_append_left zz hy) F' (cb_drop N' (ap_pre (h := hd6 L0 o1 o2 o3 o4 o5 o6) sb_refl)))
theorem pair_turn {w : World} {mg mb : Str -> Option Value} {mean : ExcName -> Option Value} {loose : List Str} {g : Heap} {L fa : Addr} {cd : Value} {o : Obj} {fd : FuncData}
  (ho : (hd.heap_39 w.params).lookup 192 = some o) (hfd : o.data = .func fd) (CH : CodeHd g 146 142) (B : Below callerA g [] g) (KX : (hd.heap_39 w.params).In g) (T : Top topProg loose mean mg mb g) {m : Str -> Option Value} {s : Shared} {Q : Flow -> Shared -> Prop} {R : Result -> Shared -> Prop} {o1 o2 o3 o4 o5 o6 : Obj} {H G W Kc : Addr} {a : Int} {ta : Tok} {vsH vsG vsW : List Value} {nH nG nW : Nat} {lA : Addr} {vA : List Value} {kA : Nat} {A : List Int} {uA : Tok} {UA : Addr} {hA sA eA : UInt64} {g1 g2 g3 : Tok} {os : List (UInt64 × UInt64)} {zz : List (Addr × Obj)} {mR : Str -> Option Value} {a0 : Int} {w0 : Tok} {v1 v2 v3 v4 v5 v6 : Option Value} (c1 : o1.data = .cell v1) (c2 : o2.data = .cell v2) (c3 : o3.data = .cell v3) (c4 : o4.data = .cell v4) (c5 : o5.data = .cell v5) (c6 : o6.data = .cell v6) (ha : 0 <= a ∧ a < 5) (mH : (H,PySem.W.listOf vsH.toArray nH) ∈ zz) (mG : (G,PySem.W.listOf vsG.toArray nG) ∈ zz) (mW : (W,PySem.W.listOf vsW.toArray nW) ∈ zz)
  (iA : IntsAre vA A) (mA : (lA,PySem.W.listOf vA.toArray kA) ∈ zz) (xHA : vsH[a.toNat]? = some (.ref lA)) (xWA : vsW[a.toNat]? = some (.str (hostF A) uA)) (xGA : vsG[a.toNat]? = some (.ref UA)) (mUA : (UA,tupO [.float hA g1,.float sA g2,.float eA g3]) ∈ zz)
  (ok : OrbOk ((hA,sA) :: os)) (hos2 : 2 <= os.length) (hos4 : os.length <= 4) (lA5 : A.length <= 5) (lA3 : 3 <= A.length) (hA0 : vA[0]? = some (.int a0 w0)) (d1 : (srchF (Txt.lower (Txt.upper (hostF A)))).isSome = true) (lnA : (hostF A).length <= 14) (ok2 : PairOk zz vsH vsG vsW A a0 hA sA ((hA,sA) :: os) 2) (ok3 : PairOk zz vsH vsG vsW A a0 hA sA ((hA,sA) :: os) 3) (ok4 : PairOk zz vsH vsG vsW A a0 hA sA ((hA,sA) :: os) 4)
  (z : Off6 L (zz)) (F : Fr g L s.heap (fun z => if z = Str.ofString "a" then some (.int a ta) else if z = Str.ofString "told" then some (.ref G) else if z = Str.ofString "words" then some (.ref W) else if z = Str.ofString "colours" then some (.ref Kc) else if z = Str.ofString "hosts" then some (.ref H) else mR z)) (N : News g L s.heap (six L o1 o2 o3 o4 o5 o6 zz))
  (rest : ∀ (o2' o3' o4' o5' : Obj) (w2 w3 w4 w5 : Option Value) (mR : Str -> Option Value) (h' : Heap) (tk' : Nat) (c2 : o2'.data = .cell w2) (c3 : o3'.data = .cell w3) (c4 : o4'.data = .cell w4) (c5 : o5'.data = .cell w5) (F : Fr g L h' (fun z => if z = Str.ofString "a" then some (.int a ta) else if z = Str.ofString "told" then some (.ref G) else if z = Str.ofString "words" then some (.ref W) else if z = Str.ofString "colours" then some (.ref Kc) else if z = Str.ofString "hosts" then some (.ref H) else mR z)) (N : News g L h' (six L o1 o2' o3' o4' o5' o6 zz)), Q .next { s with heap := h', toks := tk' }) : wpAny (model rw_xg0057_01.row.prog w) (callerA.deeper (envOfC fd.name fd.scope L fa cd)) (execs ((pairO fd).drop 0) (envOfC fd.name fd.scope L fa cd)) Q (fun e s7 => wpAny (model rw_xg0057_01.row.prog w) (callerA.deeper (envOfC fd.name fd.scope L fa cd)) (leaving (envOfC fd.name fd.scope L fa cd) e) (fun _ s8 => R (.error e) s8) (fun e8 s8 => R (.error e8) s8) s7) s := by
 refine (?f : Cln _) ?p ⟨?q,fun B k => ?r⟩
 case f => exact fun x _ => x
 case q =>
  have key : rw_xg0057_01.row.prog = rw_xg0057_01.row.prog -> (hd.heap_39 w.params).In g -> (hd.heap_39 w.params).lookup 192 = some o -> wpAny (model rw_xg0057_01.row.prog w) (callerA.deeper (envOfC fd.name fd.scope L fa cd)) (execs ((pairO fd).drop 0) (envOfC fd.name fd.scope L fa cd)) Q (fun e s7 => wpAny (model rw_xg0057_01.row.prog w) (callerA.deeper (envOfC fd.name fd.scope L fa cd)) (leaving (envOfC fd.name fd.scope L fa cd) e) (fun _ s8 => R (.error e) s8) (fun e8 s8 => R (.error e8) s8) s7) s := by
   clear KX ho
   k_fill
   intro _ KX ho
   have e9 := ho.symm.trans (show (hd.heap_39 w.params).lookup 192 = some _ from by k_is)
   cases e9
   cases hfd
   simp only [pairO,stmtsOf,bodyAt,forBody]
   dsimp only [List.drop]
   (try k_fold)
   have z1 := z.1
   have z2 := z.2.1
   have z3 := z.2.2.1
   have z4 := z.2.2.2.1
   have z5 := z.2.2.2.2.1
   have z6 := z.2.2.2.2.2
   refine cut_at 2 ?_
   dsimp only [List.take,List.drop]
   (k_steps; repeat' ((first | (refine stq_out "call ref" ?_; (k_here; (with_reducible show wpAny _ _ (call (Value.ref 182) [Value.float _ _, Value.float _ _]) _ _ _); k_dflt (refine' use_orbit ok hos2 hos4 ?k1 ?k2 ?k3 ?k4 ?k5 ?kK ?kd ?ku ?_); walk_at "my sides"; intro D' ds' n' pre' h' tk' mD' pD' zp' F' N'; (try dsimp only))) | fail) <;> k_steps))
   dsimp only
   show wpAny _ _ _ _ _ _
   rename Fr _ _ _ _ => F9
   rename News _ _ _ _ => N9
   rename _ = Data.cell (some (Value.ref lA)) => c9
   refine pair_loop (m := fun _ => none) (zz := pre' ++ zz) ho rfl CH B KX T c1 c2 c3 c4 c9 c6 ha (List.mem_append_right _ mH) (List.mem_append_right _ mG) (List.mem_append_right _ mW) (List.mem_append_left _ mD') (pD'.mono fun p h => List.mem_append_left _ h) iA (List.mem_append_right _ mA) xHA xWA xGA (List.mem_append_right _ mUA) (by rw [List.length_cons]; lia) lA5 lA3 hA0 d1 lnA (ok2.mono fun p h => List.mem_append_right _ h) (ok3.mono fun p h => List.mem_append_right _ h) (ok4.mono fun p h => List.mem_append_right _ h) (off6_app zp' z) (fr_has (fr_has (fr_has (fr_has (fr_has (fr_has F9 (Str.ofString "hosts") rfl) (Str.ofString "colours") rfl) (Str.ofString "words") rfl) (Str.ofString "told") rfl) (Str.ofString "orbit") rfl) (Str.ofString "a") rfl) N9 ?_
   intro o2' o3' o4' w2 w3 w4 mR' h' tk' c2' c3' c4' F8 N8
   refine @rest o2' o3' o4' _ w2 w3 w4 _ _ _ _ c2' c3' c4' c9 (fr_has (fr_has (fr_has (fr_has (fr_has F8 (Str.ofString "hosts") rfl) (Str.ofString "colours") rfl) (Str.ofString "words") rfl) (Str.ofString "told") rfl) (Str.ofString "a") rfl) (cb_drop N8 (sb_keep (sb_keep (sb_keep (sb_keep (sb_keep (sb_keep ap_sr)))))))
  exact key rfl KX ho
 case r => delta id stq_it stq_out; exact k
section
noncomputable def TurnOk (zz : List (Addr × Obj)) (vsH vsG vsW : List Value) (a : Int) : Prop :=
 ∀ X : Prop,(∀ (lA : Addr) (vA : List Value) (kA : Nat) (A : List Int) (uA : Tok) (UA : Addr) (hA sA eA : UInt64) (g1 g2 g3 : Tok) (os : List (UInt64 × UInt64)) (a0 : Int) (w0 : Tok),
  IntsAre vA A -> (lA,PySem.W.listOf vA.toArray kA) ∈ zz -> vsH[a.toNat]? = some (.ref lA) -> vsW[a.toNat]? = some (.str (hostF A) uA) -> vsG[a.toNat]? = some (.ref UA) -> (UA,tupO [.float hA g1,.float sA g2,.float eA g3]) ∈ zz ->
  OrbOk ((hA,sA) :: os) -> 2 <= os.length -> os.length <= 4 -> A.length <= 5 -> 3 <= A.length -> vA[0]? = some (.int a0 w0) -> (srchF (Txt.lower (Txt.upper (hostF A)))).isSome = true -> (hostF A).length <= 14 ->
  PairOk zz vsH vsG vsW A a0 hA sA ((hA,sA) :: os) 2 -> PairOk zz vsH vsG vsW A a0 hA sA ((hA,sA) :: os) 3 -> PairOk zz vsH vsG vsW A a0 hA sA ((hA,sA) :: os) 4 -> X) -> X
theorem TurnOk.mono {zz zz' : List (Addr × Obj)} {vsH vsG vsW : List Value} {a : Int} (k : ∀ p ∈ zz,p ∈ zz') (h : TurnOk zz vsH vsG vsW a) : TurnOk zz' vsH vsG vsW a :=
 fun X kk => h X fun lA vA kA A uA UA hA sA eA g1 g2 g3 os a0 w0 h1 h2 h3 h4 h5 h6 h7 h8 h9 h10 h11 h12 h13 h14 p2 p3 p4 => kk lA vA kA A uA UA hA sA eA g1 g2 g3 os a0 w0 h1 (k _ h2) h3 h4 h5 (k _ h6) h7 h8 h9 h10 h11 h12 h13 h14 (p2.mono k) (p3.mono k) (p4.mono k)
theorem turn_ok {w : World} {mg mb : Str -> Option Value} {mean : ExcName -> Option Value} {loose : List Str} {g : Heap} {L fa : Addr} {cd : Value} {o : Obj} {fd : FuncData}
  (ho : (hd.heap_39 w.params).lookup 192 = some o) (hfd : o.data = .func fd) (CH : CodeHd g 146 142) (B : Below callerA g [] g) (KX : (hd.heap_39 w.params).In g) (T : Top topProg loose mean mg mb g) {m : Str -> Option Value} {s : Shared} {Q : Flow -> Shared -> Prop} {R : Result -> Shared -> Prop} {o1 o2 o3 o4 o5 o6 : Obj} {H G W Kc : Addr} {vsH vsG vsW : List Value} {nH nG nW : Nat} {zz : List (Addr × Obj)} {mR : Str -> Option Value} {a : Int} {ta : Tok} {v1 v2 v3 v4 v5 v6 : Option Value} (c1 : o1.data = .cell v1) (c2 : o2.data = .cell v2) (c3 : o3.data = .cell v3) (c4 : o4.data = .cell v4) (c5 : o5.data = .cell v5) (c6 : o6.data = .cell v6) (mH : (H,PySem.W.listOf vsH.toArray nH) ∈ zz) (mG : (G,PySem.W.listOf vsG.toArray nG) ∈ zz) (mW : (W,PySem.W.listOf vsW.toArray nW) ∈ zz) (ha : 0 <= a ∧ a < 5) (ok : TurnOk zz vsH vsG vsW a)
  (z : Off6 L (zz)) (F : Fr g L s.heap (fun z => if z = Str.ofString "a" then some (.int a ta) else if z = Str.ofString "told" then some (.ref G) else if z = Str.ofString "words" then some (.ref W) else if z = Str.ofString "colours" then some (.ref Kc) else if z = Str.ofString "hosts" then some (.ref H) else mR z)) (N : News g L s.heap (six L o1 o2 o3 o4 o5 o6 zz))
  (rest : ∀ (o2' o3' o4' o5' : Obj) (w2 w3 w4 w5 : Option Value) (mR : Str -> Option Value) (h' : Heap) (tk' : Nat) (c2 : o2'.data = .cell w2) (c3 : o3'.data = .cell w3) (c4 : o4'.data = .cell w4) (c5 : o5'.data = .cell w5) (F : Fr g L h' (fun z => if z = Str.ofString "a" then some (.int a ta) else if z = Str.ofString "told" then some (.ref G) else if z = Str.ofString "words" then some (.ref W) else if z = Str.ofString "colours" then some (.ref Kc) else if z = Str.ofString "hosts" then some (.ref H) else mR z)) (N : News g L h' (six L o1 o2' o3' o4' o5' o6 zz)), Q .next { s with heap := h', toks := tk' }) : wpAny (model rw_xg0057_01.row.prog w) (callerA.deeper (envOfC fd.name fd.scope L fa cd)) (execs ((pairO fd).drop 0) (envOfC fd.name fd.scope L fa cd)) Q (fun e s7 => wpAny (model rw_xg0057_01.row.prog w) (callerA.deeper (envOfC fd.name fd.scope L fa cd)) (leaving (envOfC fd.name fd.scope L fa cd) e) (fun _ s8 => R (.error e) s8) (fun e8 s8 => R (.error e8) s8) s7) s := by
 exact ok _ fun lA vA kA A uA UA hA sA eA g1 g2 g3 os a0 w0 iA mA xHA xWA xGA mUA h7 h8 h9 h10 h11 h12 h13 h14 p2 p3 p4 => pair_turn (m := fun _ => none) ho hfd CH B KX T c1 c2 c3 c4 c5 c6 ha mH mG mW iA mA xHA xWA xGA mUA h7 h8 h9 h10 h11 h12 h13 h14 p2 p3 p4 z F N rest
local macro_rules | `(tactic| walk_at "RangeRest") => `(tactic| (refine hold_of ?_))
theorem law6 {w : World} {mg mb : Str -> Option Value} {mean : ExcName -> Option Value} {loose : List Str} {g : Heap} {L fa : Addr} {cd : Value} {o : Obj} {fd : FuncData}
  (ho : (hd.heap_39 w.params).lookup 192 = some o) (hfd : o.data = .func fd) (CH : CodeHd g 146 142) (B : Below callerA g [] g) (KX : (hd.heap_39 w.params).In g) (T : Top topProg loose mean mg mb g) {m : Str -> Option Value} {s : Shared} {Q : Flow -> Shared -> Prop} {R : Result -> Shared -> Prop} {o1 o2 o3 o4 o5 o6 : Obj} {H G W Kc : Addr} {vsH vsG vsW : List Value} {nH nG nW : Nat} {zz : List (Addr × Obj)} {mR : Str -> Option Value} {v1 v2 v3 v4 v5 v6 : Option Value} (c1 : o1.data = .cell v1) (c2 : o2.data = .cell v2) (c3 : o3.data = .cell v3) (c4 : o4.data = .cell v4) (c5 : o5.data = .cell v5) (c6 : o6.data = .cell v6) (mH : (H,PySem.W.listOf vsH.toArray nH) ∈ zz) (mG : (G,PySem.W.listOf vsG.toArray nG) ∈ zz) (mW : (W,PySem.W.listOf vsW.toArray nW) ∈ zz) (ok0 : TurnOk zz vsH vsG vsW 0) (ok1 : TurnOk zz vsH vsG vsW 1)
  (z : Off6 L (zz)) (F : Fr g L s.heap (fun z => if z = Str.ofString "told" then some (.ref G) else if z = Str.ofString "words" then some (.ref W) else if z = Str.ofString "colours" then some (.ref Kc) else if z = Str.ofString "hosts" then some (.ref H) else mR z)) (N : News g L s.heap (six L o1 o2 o3 o4 o5 o6 zz))
  (rest : ∀ (o2' o3' o4' o5' : Obj) (w2 w3 w4 w5 : Option Value) (mR : Str -> Option Value) (h' : Heap) (tk' : Nat) (c2 : o2'.data = .cell w2) (c3 : o3'.data = .cell w3) (c4 : o4'.data = .cell w4) (c5 : o5'.data = .cell w5) (F : Fr g L h' (fun z => if z = Str.ofString "told" then some (.ref G) else if z = Str.ofString "words" then some (.ref W) else if z = Str.ofString "colours" then some (.ref Kc) else if z = Str.ofString "hosts" then some (.ref H) else mR z)) (N : News g L h' (six L o1 o2' o3' o4' o5' o6 zz)), wpAny (model rw_xg0057_01.row.prog w) (callerA.deeper (envOfC fd.name fd.scope L fa cd)) (execs ((stmtsOf fd).drop 11) (envOfC fd.name fd.scope L fa cd)) Q (fun e s7 => wpAny (model rw_xg0057_01.row.prog w) (callerA.deeper (envOfC fd.name fd.scope L fa cd)) (leaving (envOfC fd.name fd.scope L fa cd) e) (fun _ s8 => R (.error e) s8) (fun e8 s8 => R (.error e8) s8) s7) { s with heap := h', toks := tk' }) : wpAny (model rw_xg0057_01.row.prog w) (callerA.deeper (envOfC fd.name fd.scope L fa cd)) (execs ((stmtsOf fd).drop 10) (envOfC fd.name fd.scope L fa cd)) Q (fun e s7 => wpAny (model rw_xg0057_01.row.prog w) (callerA.deeper (envOfC fd.name fd.scope L fa cd)) (leaving (envOfC fd.name fd.scope L fa cd) e) (fun _ s8 => R (.error e) s8) (fun e8 s8 => R (.error e8) s8) s7) s := by
 refine (?f : Cln _) ?p ⟨?q,fun B k => ?r⟩
 case f => exact fun x _ => x
 case q =>
  have key : rw_xg0057_01.row.prog = rw_xg0057_01.row.prog -> (hd.heap_39 w.params).In g -> (hd.heap_39 w.params).lookup 192 = some o -> wpAny (model rw_xg0057_01.row.prog w) (callerA.deeper (envOfC fd.name fd.scope L fa cd)) (execs ((stmtsOf fd).drop 10) (envOfC fd.name fd.scope L fa cd)) Q (fun e s7 => wpAny (model rw_xg0057_01.row.prog w) (callerA.deeper (envOfC fd.name fd.scope L fa cd)) (leaving (envOfC fd.name fd.scope L fa cd) e) (fun _ s8 => R (.error e) s8) (fun e8 s8 => R (.error e8) s8) s7) s := by
   clear KX ho
   k_fill
   intro _ KX ho
   have e9 := ho.symm.trans (show (hd.heap_39 w.params).lookup 192 = some _ from by k_is)
   cases e9
   cases hfd
   dsimp only [stmtsOf,List.drop]
   (try k_fold)
   have z1 := z.1
   have z2 := z.2.1
   have z3 := z.2.2.1
   have z4 := z.2.2.2.1
   have z5 := z.2.2.2.2.1
   have z6 := z.2.2.2.2.2
   refine cut_at 1 ?_
   dsimp only [List.take,List.drop]
   k_steps
   rename _ ∧ _ ∧ _ ∧ _ ∧ _ ∧ _ ∧ AllLt _ zz => l9
   have hI := ltNe l9.2.2.2.2.2.2
   obtain ⟨y1,y2,y3,y4,y5,y6⟩ : _ ∧ _ ∧ _ ∧ _ ∧ _ ∧ _ := ⟨Ne.symm (Nat.ne_of_lt l9.2.2.2.2.2.1),Ne.symm (Nat.ne_of_lt l9.2.2.2.2.1),Ne.symm (Nat.ne_of_lt l9.2.2.2.1),Ne.symm (Nat.ne_of_lt l9.2.2.1),Ne.symm (Nat.ne_of_lt l9.2.1),Ne.symm (Nat.ne_of_lt l9.1)⟩
   (try clear F)
   (try clear N)
   show RangeRest _ _ _ _ _ _ _ _ _ _ _ _ _ 2 0 _ _
   refine RangeRest.succ (fun t1 h1 tk1 F1 N1 => ?_)
   refine turn_ok (m := fun _ => none) (zz := (_, _) :: zz) ho rfl CH B KX T c1 c2 c3 c4 c5 c6 (.tail _ mH) (.tail _ mG) (.tail _ mW) (a := 0) (by decide) (ok0.mono fun p h => .tail _ h) ⟨List.forall_mem_cons.mpr ⟨y1, z1⟩, List.forall_mem_cons.mpr ⟨y2, z2⟩, List.forall_mem_cons.mpr ⟨y3, z3⟩, List.forall_mem_cons.mpr ⟨y4, z4⟩, List.forall_mem_cons.mpr ⟨y5, z5⟩, List.forall_mem_cons.mpr ⟨y6, z6⟩⟩ (fr_has (fr_has (fr_has (fr_has (fr_has (fr_env F1) (Str.ofString "hosts") rfl) (Str.ofString "colours") rfl) (Str.ofString "words") rfl) (Str.ofString "told") rfl) (Str.ofString "a") rfl) (swap6 (news_env N1)) ?_
   clear c2 c3 c4 c5 F1 N1
   intro o2 o3 o4 o5 w2 w3 w4 w5 mR h' tk' c2 c3 c4 c5 F9 N9
   refine UnrEnd.intro F9 (pull6 N9) _ (fun p hp => hp) (List.forall_mem_cons.mpr ⟨Ne.symm y6,List.forall_mem_cons.mpr ⟨Ne.symm y5,List.forall_mem_cons.mpr ⟨Ne.symm y4,List.forall_mem_cons.mpr ⟨Ne.symm y3,List.forall_mem_cons.mpr ⟨Ne.symm y2,List.forall_mem_cons.mpr ⟨Ne.symm y1,hI⟩⟩⟩⟩⟩⟩) ?_
   clear F9 N9
   refine RangeRest.succ (fun t1 h1 tk1 F1 N1 => ?_)
   refine turn_ok (m := fun _ => none) (zz := (_, _) :: zz) ho rfl CH B KX T c1 c2 c3 c4 c5 c6 (.tail _ mH) (.tail _ mG) (.tail _ mW) (a := 1) (by decide) (ok1.mono fun p h => .tail _ h) ⟨List.forall_mem_cons.mpr ⟨y1, z1⟩, List.forall_mem_cons.mpr ⟨y2, z2⟩, List.forall_mem_cons.mpr ⟨y3, z3⟩, List.forall_mem_cons.mpr ⟨y4, z4⟩, List.forall_mem_cons.mpr ⟨y5, z5⟩, List.forall_mem_cons.mpr ⟨y6, z6⟩⟩ (fr_has (fr_has (fr_has (fr_has (fr_has (fr_env F1) (Str.ofString "hosts") rfl) (Str.ofString "colours") rfl) (Str.ofString "words") rfl) (Str.ofString "told") rfl) (Str.ofString "a") rfl) (swap6 (news_env N1)) ?_
   clear c2 c3 c4 c5 F1 N1
   intro o2 o3 o4 o5 w2 w3 w4 w5 mR h' tk' c2 c3 c4 c5 F9 N9
   refine UnrEnd.intro F9 (pull6 N9) _ (fun p hp => hp) (List.forall_mem_cons.mpr ⟨Ne.symm y6,List.forall_mem_cons.mpr ⟨Ne.symm y5,List.forall_mem_cons.mpr ⟨Ne.symm y4,List.forall_mem_cons.mpr ⟨Ne.symm y3,List.forall_mem_cons.mpr ⟨Ne.symm y2,List.forall_mem_cons.mpr ⟨Ne.symm y1,hI⟩⟩⟩⟩⟩⟩) ?_
   clear F9 N9
   refine RangeRest.zero (fun h1 tk1 F1 N1 => ?_)
   have F9 := fr_env F1
   have N9 := news_env N1
   clear F1 N1
   k_steps
   dsimp only
   show wpAny _ _ _ _ _ _
   exact @rest o2 o3 o4 o5 w2 w3 w4 w5 _ _ _ c2 c3 c4 c5 (fr_has (fr_has (fr_has (fr_has F9 (Str.ofString "hosts") rfl) (Str.ofString "colours") rfl) (Str.ofString "words") rfl) (Str.ofString "told") rfl) N9
  exact key rfl KX ho
 case r => delta id stq_it stq_out; exact k
end

example {M : Model} {A : Around} {env : Env} {Q : Flow -> Shared -> Prop} {E : Value -> Shared -> Prop} {s : Shared} (h : Q .next s) : wpAny M A (execs [] env) Q E s := by first | (walk1; exact h) | exact wpAny_execs_nil h

section

local macro_rules | `(tactic| walk_at "my spl") => `(tactic| first | (refine' Spl.cons ?h9; (case h9 => walk_at "my spl")) | exact Spl.nil)
set_option hygiene false in
local macro_rules | `(tactic| k_all) => `(tactic| (refine tr' _ ?_; k_all))
set_option hygiene false in
local macro_rules | `(tactic| k_mem) => `(tactic| first | assumption | exact Lx.mem_r (by with_reducible assumption) (by with_reducible assumption) | exact List.mem_cons_self .. | (refine List.mem_cons_of_mem _ ?_; k_mem))
set_option hygiene false in
local macro_rules | `(tactic| walk_at "callWith ref") => `(tactic| (first | (k_dflt (refine @callWith_K0 _ _ _ _ _ _ _ _ _ _ (by k_in) (by k_is) ?_; k_whole); (try dsimp only [List.cons_append, List.nil_append])) | k_dflt (refine callWith_K (by k_asm) (by k_is) ?_; k_whole)))
local macro_rules | `(tactic| walk_at "getMethod ref") => `(tactic| ((first | (with_reducible show wpAny _ _ (getMethod (Value.ref _) (PySem.Str.ofString "get_token") _) _ _ _) | (with_reducible show wpAny _ _ (getMethod (Value.ref _) (PySem.Str.ofString "push_token") _) _ _ _)); k_dflt (refine method_inst (by k_asm) (by k_asm) (by k_inst) (by k_is) (by k_is) (by k_is) (by k_get) ?_; k_whole)))

section
local macro_rules | `(tactic| walk_at $s) => if ["call builtin:list.pop"].contains s.getString then `(tactic| refine stq_it $s ?_) else Lean.Macro.throwUnsupported
noncomputable def roundB (fd : FuncData) : List Stmt := bodyAt 13 (stmtsOf fd)
theorem round1 {w : World} {mg mb : Str -> Option Value} {mean : ExcName -> Option Value} {loose : List Str} {g : Heap} {L fa : Addr} {cd : Value} {o : Obj} {fd : FuncData}
  (ho : (hd.heap_39 w.params).lookup 192 = some o) (hfd : o.data = .func fd) (CH : CodeHd g 146 142) (B : Below callerA g [] g) (KX : (hd.heap_39 w.params).In g) (T : Top topProg loose mean mg mb g) {m : Str -> Option Value} {s : Shared} {Q : Flow -> Shared -> Prop} {R : Result -> Shared -> Prop} {o1 o2 o3 o4 o5 o6 : Obj} {X : Str} {Kc It d Tt : Addr} {oIt : Obj} {A : List Int} {vA : List Value} {nA nk nl : Nat} {q : Lx w mg X} {p n : Int} {tp tn u : Tok} {nn : Nat} {ys ks : List Value} {c1v c2v c3v hv sv vv : UInt64} {x1 x2 x3 : Tok} {zz rs : List (Addr × Obj)} {mR : Str -> Option Value} {w3 : Option Value} (c3 : o3.data = .cell w3) (c6 : o6.data = .cell (some (.ref q.xl))) (hits : ys.length <= 1000) (hks : ks.length <= 1000) (hz : zz = q.news p tp nn n tn (Value.str (hostF A) u :: ys).toArray nl rs) (hrest : ∀ b ∈ rs,b.1 ≠ q.sp ∧ b.1 ≠ q.d ∧ b.1 ≠ q.l) (z : Off6 L (zz)) (kz : (@Ne Nat Kc (L + 1)) ∧ (@Ne Nat Kc (L + 1 + 1)) ∧ (@Ne Nat Kc (L + 1 + 1 + 1)) ∧ (@Ne Nat Kc (L + 1 + 1 + 1 + 1)) ∧ (@Ne Nat Kc (L + 1 + 1 + 1 + 1 + 1)) ∧ (@Ne Nat Kc (L + 1 + 1 + 1 + 1 + 1 + 1))) (iz : (@Ne Nat It (L + 1)) ∧ (@Ne Nat It (L + 1 + 1)) ∧ (@Ne Nat It (L + 1 + 1 + 1)) ∧ (@Ne Nat It (L + 1 + 1 + 1 + 1)) ∧ (@Ne Nat It (L + 1 + 1 + 1 + 1 + 1)) ∧ (@Ne Nat It (L + 1 + 1 + 1 + 1 + 1 + 1))) (ik : @Ne Nat It Kc) (zk : ∀ b ∈ zz,b.1 ≠ Kc) (zi : ∀ b ∈ zz,b.1 ≠ It)
  (mA : (d,PySem.W.listOf (vA).toArray nA) ∈ rs) (iA : IntsAre vA A) (gA : Dig A) (lA1 : 1 <= A.length) (lA5 : A.length <= 5) (mT : (Tt,tupO [.float c1v x1,.float c2v x2,.float c3v x3]) ∈ rs) (hrgb : rgbF c1v c2v c3v = some (hv,sv,vv))
  (F : Fr g L s.heap (fun z => if z = Str.ofString "labels" then some (.ref d) else if z = Str.ofString "colours" then some (.ref Kc) else mR z)) (N : News g L s.heap ((It, oIt) :: six L o1 o2 o3 o4 o5 o6 ((Kc, PySem.W.listOf (Value.ref Tt :: ks).toArray nk) :: zz)))
  (rest : ∀ (o3' : Obj) (y1 y2 y3 : Tok) (zz2 : List (Addr × Obj)) (nl2 nk2 : Nat) (mR : Str -> Option Value) (h' : Heap) (tk' : Nat) (c3 : o3'.data = .cell (some (.float sv y2))) (hz2 : zz2 = q.news p tp nn n tn (ys).toArray nl2 rs) (tr : ∀ a : Addr, (∀ y ∈ zz, y.1 ≠ a) -> ∀ y ∈ zz2, y.1 ≠ a) (F : Fr g L h' (fun z => if z = Str.ofString "plain" then some (.bool (!thirdF hv sv)) else if z = Str.ofString "value" then some (.float vv y3) else if z = Str.ofString "hue" then some (.float hv y1) else if z = Str.ofString "word" then some (.str (hostF A) u) else if z = Str.ofString "labels" then some (.ref d) else if z = Str.ofString "colours" then some (.ref Kc) else mR z)) (N : News g L h' ((It, oIt) :: six L o1 o2 o3' o4 o5 o6 ((Kc, PySem.W.listOf (ks).toArray nk2) :: zz2))), wpAny (model rw_xg0057_01.row.prog w) (callerA.deeper (envOfC fd.name fd.scope L fa cd)) (execs ((roundB fd).drop 5) (envOfC fd.name fd.scope L fa cd)) Q (fun e s7 => wpAny (model rw_xg0057_01.row.prog w) (callerA.deeper (envOfC fd.name fd.scope L fa cd)) (leaving (envOfC fd.name fd.scope L fa cd) e) (fun _ s8 => R (.error e) s8) (fun e8 s8 => R (.error e8) s8) s7) { s with heap := h', toks := tk' }) : wpAny (model rw_xg0057_01.row.prog w) (callerA.deeper (envOfC fd.name fd.scope L fa cd)) (execs ((roundB fd).drop 0) (envOfC fd.name fd.scope L fa cd)) Q (fun e s7 => wpAny (model rw_xg0057_01.row.prog w) (callerA.deeper (envOfC fd.name fd.scope L fa cd)) (leaving (envOfC fd.name fd.scope L fa cd) e) (fun _ s8 => R (.error e) s8) (fun e8 s8 => R (.error e8) s8) s7) s := by
 refine (?f : Cln _) ?p ⟨?q,fun B k => ?r⟩
 case f => exact fun x _ => x
 case q =>
  have key : rw_xg0057_01.row.prog = rw_xg0057_01.row.prog -> (hd.heap_39 w.params).In g -> (hd.heap_39 w.params).lookup 192 = some o -> wpAny (model rw_xg0057_01.row.prog w) (callerA.deeper (envOfC fd.name fd.scope L fa cd)) (execs ((roundB fd).drop 0) (envOfC fd.name fd.scope L fa cd)) Q (fun e s7 => wpAny (model rw_xg0057_01.row.prog w) (callerA.deeper (envOfC fd.name fd.scope L fa cd)) (leaving (envOfC fd.name fd.scope L fa cd) e) (fun _ s8 => R (.error e) s8) (fun e8 s8 => R (.error e8) s8) s7) s := by
   clear KX ho
   k_fill
   intro _ KX ho
   have e9 := ho.symm.trans (show (hd.heap_39 w.params).lookup 192 = some _ from by k_is)
   cases e9
   cases hfd
   simp only [roundB,stmtsOf,bodyAt,forBody]
   dsimp only [List.drop]
   (try k_fold)
   have mx0 := Lx.mem_x hz
   have md0 := Lx.mem_d hz
   have z1 := z.1
   have z2 := z.2.1
   have z3 := z.2.2.1
   have z4 := z.2.2.2.1
   have z5 := z.2.2.2.2.1
   have z6 := z.2.2.2.2.2
   obtain ⟨kz1,kz2,kz3,kz4,kz5,kz6⟩ := kz
   obtain ⟨iz1,iz2,iz3,iz4,iz5,iz6⟩ := iz
   unfold Dig at gA
   have gl := host_len gA lA1 lA5
   refine cut_at 5 ?_
   dsimp only [List.take,List.drop]
   (k_steps; repeat' ((first | (refine stq_out "call ref" ?_; (k_here; (with_reducible show wpAny _ _ (call (Value.ref 106) [Value.ref _]) _ _ _); k_dflt (refine' use_popq q ?hi ?hsp ?hz ?hoff ?hrest ?hb ?k1 ?k2 ?k3 ?k4 ?k5 ?kK ?kd ?ku ?_); walk_at "my sides"; (case hsp => walk_at "my spl"); (case hz => assumption); (case hi => assumption); (case hrest => assumption); (case hb => exact fun _ k => k); (case hoff => (repeat (refine List.forall_mem_cons.mpr ⟨by (dsimp only; k_all), ?_⟩)); exact List.forall_mem_nil _); intro nl' h' tk' zz' hz' mx' md' tr' F' N'; (try simp only [List.cons_append, List.nil_append] at N'); (try dsimp only))) | (refine stq_out "call ref" ?_; (k_here; (with_reducible show wpAny _ _ (call (Value.ref 135) [Value.ref _]) _ _ _); k_dflt (refine' use_host ?hi ?hn ?hb ?hm ?k1 ?k2 ?k3 ?k4 ?k5 ?kK ?kd ?ku ?_); walk_at "my sides"; (case hm => k_mem); (case hi => assumption); (case hn => first | assumption | omega); (case hb => assumption); intro u2 h' tk' F' N'; (try dsimp only))) | (refine stq_out "call ref" ?_; (k_here; (with_reducible show wpAny _ _ (call (Value.ref 71) [Value.float _ _, Value.float _ _, Value.float _ _]) _ _ _); k_dflt (refine' use_rgbE ?hf ?k1 ?k2 ?k3 ?k4 ?k5 ?kK ?kd ?ku ?_); (case hf => assumption); walk_at "my sides"; intro D' u1 u2 u3 h' tk' F' N' l1; (try k_lt l1); (try dsimp only))) | (refine stq_out "call builtin:list.pop" ?_; (k_here; k_dflt (refine' kl_popAt ?F ?N ?f ?k ?e ?U ?z ?_; (case F => k_asm); (case N => k_asm); (case U => k_upd); (case f => rfl); (case k => exact idx0 _); (case e => rfl); (case z => (rw [PySem.sizeLine_eq]; simp only [List.length_cons]; omega))); kl_rest)) | fail) <;> k_steps))
   ·rename (hostF A != hostF A) = true => e9
    simp at e9
   dsimp only
   show wpAny _ _ _ _ _ _
   rename Fr _ _ _ _ => F9
   rename News _ _ _ _ => N9
   rename _ = Data.cell (some (Value.float sv _)) => c9
   refine' @rest _ _ _ _ zz' _ (nk + 1) _ _ _ c9 hz' tr' (fr_has (fr_has (fr_has (fr_has (fr_has (fr_has F9 (Str.ofString "colours") rfl) (Str.ofString "labels") rfl) (Str.ofString "word") rfl) (Str.ofString "hue") rfl) (Str.ofString "value") rfl) (Str.ofString "plain") rfl) (cb_drop N9 ?dr)
   case dr => (walk_at "my sub")
  exact key rfl KX ho
 case r => delta id stq_it stq_out; exact k
end

example {M : Model} {A : Around} {env : Env} {Q : Flow -> Shared -> Prop} {E : Value -> Shared -> Prop} {s : Shared} (h : Q .next s) : wpAny M A (execs [] env) Q E s := by first | (walk1; exact h) | exact wpAny_execs_nil h

section
local macro_rules | `(tactic| walk_at $s) => if ["call builtin:len","compareOp NotEq ref ref","newList"].contains s.getString then `(tactic| refine stq_it $s ?_) else Lean.Macro.throwUnsupported
theorem small4 {k : Nat} (h : k <= 5) : ¬ 2^1024 - 2^970 <= ((4 : Int)^(k : Int).toNat).natAbs := by
 have : ∀ j : Fin 6,¬ 2^1024 - 2^970 <= ((4 : Int)^(j.1 : Int).toNat).natAbs := by decide +kernel
 exact this ⟨k,by lia⟩
theorem small2 {k : Nat} (h : k <= 5) : ¬ 2^1024 - 2^970 <= ((2 : Int)^(k : Int).toNat).natAbs := by
 have : ∀ j : Fin 6,¬ 2^1024 - 2^970 <= ((2 : Int)^(j.1 : Int).toNat).natAbs := by decide +kernel
 exact this ⟨k,by lia⟩
theorem round2 {w : World} {mg mb : Str -> Option Value} {mean : ExcName -> Option Value} {loose : List Str} {g : Heap} {L fa : Addr} {cd : Value} {o : Obj} {fd : FuncData}
  (ho : (hd.heap_39 w.params).lookup 192 = some o) (hfd : o.data = .func fd) (CH : CodeHd g 146 142) (B : Below callerA g [] g) (KX : (hd.heap_39 w.params).In g) (T : Top topProg loose mean mg mb g) {m : Str -> Option Value} {s : Shared} {Q : Flow -> Shared -> Prop} {R : Result -> Shared -> Prop} {o1 o2 o3 o4 o5 o6 : Obj} {X : Str} {Kc It d : Addr} {oIt : Obj} {A : List Int} {vA : List Value} {nA nk nl : Nat} {q : Lx w mg X} {p n : Int} {tp tn u y1 y2 y3 : Tok} {nn : Nat} {ys ks : List Value} {hv sv vv : UInt64} {zz rs : List (Addr × Obj)} {mR : Str -> Option Value} (c3 : o3.data = .cell (some (.float sv y2))) (c6 : o6.data = .cell (some (.ref q.xl))) (hits : ys.length <= 1000) (hks : ks.length <= 1000) (hz : zz = q.news p tp nn n tn (ys).toArray nl rs) (hrest : ∀ b ∈ rs,b.1 ≠ q.sp ∧ b.1 ≠ q.d ∧ b.1 ≠ q.l) (z : Off6 L (zz)) (kz : (@Ne Nat Kc (L + 1)) ∧ (@Ne Nat Kc (L + 1 + 1)) ∧ (@Ne Nat Kc (L + 1 + 1 + 1)) ∧ (@Ne Nat Kc (L + 1 + 1 + 1 + 1)) ∧ (@Ne Nat Kc (L + 1 + 1 + 1 + 1 + 1)) ∧ (@Ne Nat Kc (L + 1 + 1 + 1 + 1 + 1 + 1))) (iz : (@Ne Nat It (L + 1)) ∧ (@Ne Nat It (L + 1 + 1)) ∧ (@Ne Nat It (L + 1 + 1 + 1)) ∧ (@Ne Nat It (L + 1 + 1 + 1 + 1)) ∧ (@Ne Nat It (L + 1 + 1 + 1 + 1 + 1)) ∧ (@Ne Nat It (L + 1 + 1 + 1 + 1 + 1 + 1))) (ik : @Ne Nat It Kc) (zk : ∀ b ∈ zz,b.1 ≠ Kc) (zi : ∀ b ∈ zz,b.1 ≠ It)
  (mA : (d,PySem.W.listOf (vA).toArray nA) ∈ rs) (iA : IntsAre vA A) (gA : Dig A) (lA1 : 1 <= A.length) (lA5 : A.length <= 5) (e1 : Float64.cmpInt (Float64.mul (Float64.mul hv (Float64.ofInt 2)) (Float64.ofInt (4^(A.length : Int).toNat))) (2 * arcF A + 1) = some Ordering.eq) (e2 : Float64.cmpInt (Float64.mul sv (Float64.ofInt (2^(A.length : Int).toNat))) 1 = some Ordering.eq) (e3 : Float64.cmpInt vv 1 = some Ordering.eq)
  (F : Fr g L s.heap (fun z => if z = Str.ofString "plain" then some (.bool (!thirdF hv sv)) else if z = Str.ofString "value" then some (.float vv y3) else if z = Str.ofString "hue" then some (.float hv y1) else if z = Str.ofString "word" then some (.str (hostF A) u) else if z = Str.ofString "labels" then some (.ref d) else if z = Str.ofString "colours" then some (.ref Kc) else mR z)) (N : News g L s.heap ((It, oIt) :: six L o1 o2 o3 o4 o5 o6 ((Kc, PySem.W.listOf (ks).toArray nk) :: zz)))
  (rest : ∀ (mR : Str -> Option Value) (h' : Heap) (tk' : Nat) (F : Fr g L h' (fun z => if z = Str.ofString "plain" then some (.bool (!thirdF hv sv)) else if z = Str.ofString "value" then some (.float vv y3) else if z = Str.ofString "hue" then some (.float hv y1) else if z = Str.ofString "word" then some (.str (hostF A) u) else if z = Str.ofString "labels" then some (.ref d) else if z = Str.ofString "colours" then some (.ref Kc) else mR z)) (N : News g L h' ((It, oIt) :: six L o1 o2 o3 o4 o5 o6 ((Kc, PySem.W.listOf (ks).toArray nk) :: zz))), wpAny (model rw_xg0057_01.row.prog w) (callerA.deeper (envOfC fd.name fd.scope L fa cd)) (execs ((roundB fd).drop 6) (envOfC fd.name fd.scope L fa cd)) Q (fun e s7 => wpAny (model rw_xg0057_01.row.prog w) (callerA.deeper (envOfC fd.name fd.scope L fa cd)) (leaving (envOfC fd.name fd.scope L fa cd) e) (fun _ s8 => R (.error e) s8) (fun e8 s8 => R (.error e8) s8) s7) { s with heap := h', toks := tk' }) : wpAny (model rw_xg0057_01.row.prog w) (callerA.deeper (envOfC fd.name fd.scope L fa cd)) (execs ((roundB fd).drop 5) (envOfC fd.name fd.scope L fa cd)) Q (fun e s7 => wpAny (model rw_xg0057_01.row.prog w) (callerA.deeper (envOfC fd.name fd.scope L fa cd)) (leaving (envOfC fd.name fd.scope L fa cd) e) (fun _ s8 => R (.error e) s8) (fun e8 s8 => R (.error e8) s8) s7) s := by
 refine (?f : Cln _) ?p ⟨?q,fun B k => ?r⟩
 case f => exact fun x _ => x
 case q =>
  have key : rw_xg0057_01.row.prog = rw_xg0057_01.row.prog -> (hd.heap_39 w.params).In g -> (hd.heap_39 w.params).lookup 192 = some o -> wpAny (model rw_xg0057_01.row.prog w) (callerA.deeper (envOfC fd.name fd.scope L fa cd)) (execs ((roundB fd).drop 5) (envOfC fd.name fd.scope L fa cd)) Q (fun e s7 => wpAny (model rw_xg0057_01.row.prog w) (callerA.deeper (envOfC fd.name fd.scope L fa cd)) (leaving (envOfC fd.name fd.scope L fa cd) e) (fun _ s8 => R (.error e) s8) (fun e8 s8 => R (.error e8) s8) s7) s := by
   clear KX ho
   k_fill
   intro _ KX ho
   have e9 := ho.symm.trans (show (hd.heap_39 w.params).lookup 192 = some _ from by k_is)
   cases e9
   cases hfd
   simp only [roundB,stmtsOf,bodyAt,forBody]
   dsimp only [List.drop]
   (try k_fold)
   have mx0 := Lx.mem_x hz
   have md0 := Lx.mem_d hz
   have z1 := z.1
   have z2 := z.2.1
   have z3 := z.2.2.1
   have z4 := z.2.2.2.1
   have z5 := z.2.2.2.2.1
   have z6 := z.2.2.2.2.2
   obtain ⟨kz1,kz2,kz3,kz4,kz5,kz6⟩ := kz
   obtain ⟨iz1,iz2,iz3,iz4,iz5,iz6⟩ := iz
   have hy0 := hz
   have eB : ((vA.toArray.size : Nat) : Int) = (A.length : Int) := by rw [List.size_toArray,IntsAre.length iA]
   refine cut_at 1 ?_
   dsimp only [List.take,List.drop]
   (k_steps; repeat' ((first | (refine stq_out "compareOp NotEq ref ref" ?_; (k_here; (with_reducible show wpAny _ _ (compareOp CmpOp.NotEq (Value.ref _) (Value.ref _)) _ _ _); k_dflt (refine' ne_fi3 ?k1 ?k2 ?k5 ?e1 ?e2 ?e3 ?_; (case k1 => exact News.isList (by k_asm) (by k_mem)); (case k2 => exact News.isList (by k_asm) (by k_mem)); (case k5 => ktr_units); (case e1 => assumption); (case e2 => assumption); (case e3 => assumption); k_whole))) | (refine stq_out "newList" ?_; (k_here; k_dflt (refine' newList_K (hsz := ?z) ?k1 ?k2 ?_; (case z => exact Nat.le_of_ble_eq_true rfl); (case k1 => k_asm); (case k2 => k_asm); k_whole); intro l' h' F' N' l1; (try k_lt l1))) | (refine stq_out "call builtin:len" ?_; (k_here; (with_reducible show wpAny _ _ (call (Value.builtin "len") [Value.ref _]) _ _ _); k_dflt (refine' kun_lenL ?k1 ?k2 ?k3 ?_; (case k1 => exact News.isList (by k_asm) (by k_mem)); (case k2 => assumption); (case k3 => lia); k_whole))) | (refine stq_out "call ref" ?_; (k_here; (with_reducible show wpAny _ _ (call (Value.ref 154) [Value.ref _]) _ _ _); k_dflt (refine' use_arc ?hi ?hn ?hm ?k1 ?k2 ?k3 ?k4 ?k5 ?kK ?kd ?ku ?_); walk_at "my sides"; (case hm => k_mem); (case hi => assumption); (case hn => first | assumption | omega); intro u2 h' tk' F' N'; (try dsimp only))) | fail) <;> k_steps))
   ·exact absurd (by assumption) (small4 lA5)
   ·exact absurd (by assumption) (small2 lA5)
   (try dsimp only)
   show wpAny _ _ _ _ _ _
   rename Fr _ _ _ _ => F9
   rename News _ _ _ _ => N9
   refine' @rest _ _ _ (fr_has (fr_has (fr_has (fr_has (fr_has (fr_has F9 (Str.ofString "colours") rfl) (Str.ofString "labels") rfl) (Str.ofString "word") rfl) (Str.ofString "hue") rfl) (Str.ofString "value") rfl) (Str.ofString "plain") rfl) (cb_drop N9 ?dr)
   case dr => (walk_at "my sub")
  exact key rfl KX ho
 case r => delta id stq_it stq_out; exact k
end

example {M : Model} {A : Around} {env : Env} {Q : Flow -> Shared -> Prop} {E : Value -> Shared -> Prop} {s : Shared} (h : Q .next s) : wpAny M A (execs [] env) Q E s := by first | (walk1; exact h) | exact wpAny_execs_nil h

section
local macro_rules | `(tactic| walk_at $s) => if ["call builtin:re.Pattern.search","compareOp NotEq ref ref","getMethod ref","newList"].contains s.getString then `(tactic| refine stq_it $s ?_) else Lean.Macro.throwUnsupported
theorem round3a {w : World} {mg mb : Str -> Option Value} {mean : ExcName -> Option Value} {loose : List Str} {g : Heap} {L fa : Addr} {cd : Value} {o : Obj} {fd : FuncData}
  (ho : (hd.heap_39 w.params).lookup 192 = some o) (hfd : o.data = .func fd) (CH : CodeHd g 146 142) (B : Below callerA g [] g) (KX : (hd.heap_39 w.params).In g) (T : Top topProg loose mean mg mb g) {m : Str -> Option Value} {s : Shared} {Q : Flow -> Shared -> Prop} {R : Result -> Shared -> Prop} {o1 o2 o3 o4 o5 o6 : Obj} {X : Str} {Kc It d : Addr} {oIt : Obj} {A : List Int} {vA : List Value} {nA nk nl : Nat} {q : Lx w mg X} {p n : Int} {tp tn u y1 y2 y3 : Tok} {nn : Nat} {ys ks : List Value} {hv sv vv : UInt64} {zz rs : List (Addr × Obj)} {mR : Str -> Option Value} (c3 : o3.data = .cell (some (.float sv y2))) (c6 : o6.data = .cell (some (.ref q.xl))) (hits : ys.length <= 1000) (hks : ks.length <= 1000) (hz : zz = q.news p tp nn n tn (ys).toArray nl rs) (hrest : ∀ b ∈ rs,b.1 ≠ q.sp ∧ b.1 ≠ q.d ∧ b.1 ≠ q.l) (z : Off6 L (zz)) (kz : (@Ne Nat Kc (L + 1)) ∧ (@Ne Nat Kc (L + 1 + 1)) ∧ (@Ne Nat Kc (L + 1 + 1 + 1)) ∧ (@Ne Nat Kc (L + 1 + 1 + 1 + 1)) ∧ (@Ne Nat Kc (L + 1 + 1 + 1 + 1 + 1)) ∧ (@Ne Nat Kc (L + 1 + 1 + 1 + 1 + 1 + 1))) (iz : (@Ne Nat It (L + 1)) ∧ (@Ne Nat It (L + 1 + 1)) ∧ (@Ne Nat It (L + 1 + 1 + 1)) ∧ (@Ne Nat It (L + 1 + 1 + 1 + 1)) ∧ (@Ne Nat It (L + 1 + 1 + 1 + 1 + 1)) ∧ (@Ne Nat It (L + 1 + 1 + 1 + 1 + 1 + 1))) (ik : @Ne Nat It Kc) (zk : ∀ b ∈ zz,b.1 ≠ Kc) (zi : ∀ b ∈ zz,b.1 ≠ It)
  (mA : (d,PySem.W.listOf (vA).toArray nA) ∈ rs) (iA : IntsAre vA A) (gA : Dig A) (lA1 : 1 <= A.length) (lA5 : A.length <= 5) (d0 : (srchF (hostF A)).isSome = true) (d1 : (srchF (Txt.lower (hostF A))).isSome = true) (d2 : (srchF (Txt.slice (Txt.lower (reachF (hostF A))) (some 1) none)).isSome = true) (lu : (reachF (hostF A)).length <= 15) (hdm : dmF (hostF A) (reachF (hostF A)) = true) {b9 e9 : Nat} (hsr : srchF (hostF A) = some (some (b9,e9))) (hhd : hdnF (hostF A) = false) (hth : thirdF hv sv = true) (hup : reachF (hostF A) = hostF A)
  (F : Fr g L s.heap (fun z => if z = Str.ofString "plain" then some (.bool (!thirdF hv sv)) else if z = Str.ofString "value" then some (.float vv y3) else if z = Str.ofString "hue" then some (.float hv y1) else if z = Str.ofString "word" then some (.str (hostF A) u) else if z = Str.ofString "labels" then some (.ref d) else if z = Str.ofString "colours" then some (.ref Kc) else mR z)) (N : News g L s.heap ((It, oIt) :: six L o1 o2 o3 o4 o5 o6 ((Kc, PySem.W.listOf (ks).toArray nk) :: zz)))
  (rest : ∀ (y4 : Tok) (D9 T9 : Addr) (n9 : Nat) (li9 : Int) (mR : Str -> Option Value) (h' : Heap) (tk' : Nat) (o7 : ∀ b ∈ zz, b.1 ≠ T9) (o8 : ∀ b ∈ zz, b.1 ≠ D9) (F : Fr g L h' (fun z => if z = Str.ofString "found" then some (.ref D9) else if z = Str.ofString "up" then some (.str (reachF (hostF A)) y4) else if z = Str.ofString "hue" then some (.float hv y1) else if z = Str.ofString "word" then some (.str (hostF A) u) else if z = Str.ofString "colours" then some (.ref Kc) else mR z)) (N : News g L h' ((D9, matchO (hostF A) u n9 li9 T9) :: (T9, tupO [rawInt b9, rawInt e9]) :: (It, oIt) :: six L o1 o2 o3 o4 o5 o6 ((Kc, PySem.W.listOf (ks).toArray nk) :: zz))), wpAny (model rw_xg0057_01.row.prog w) (callerA.deeper (envOfC fd.name fd.scope L fa cd)) (execs ((roundB fd).drop 10) (envOfC fd.name fd.scope L fa cd)) Q (fun e s7 => wpAny (model rw_xg0057_01.row.prog w) (callerA.deeper (envOfC fd.name fd.scope L fa cd)) (leaving (envOfC fd.name fd.scope L fa cd) e) (fun _ s8 => R (.error e) s8) (fun e8 s8 => R (.error e8) s8) s7) { s with heap := h', toks := tk' }) : wpAny (model rw_xg0057_01.row.prog w) (callerA.deeper (envOfC fd.name fd.scope L fa cd)) (execs ((roundB fd).drop 6) (envOfC fd.name fd.scope L fa cd)) Q (fun e s7 => wpAny (model rw_xg0057_01.row.prog w) (callerA.deeper (envOfC fd.name fd.scope L fa cd)) (leaving (envOfC fd.name fd.scope L fa cd) e) (fun _ s8 => R (.error e) s8) (fun e8 s8 => R (.error e8) s8) s7) s := by
 refine (?f : Cln _) ?p ⟨?q,fun B k => ?r⟩
 case f => exact fun x _ => x
 case q =>
  have key : rw_xg0057_01.row.prog = rw_xg0057_01.row.prog -> (hd.heap_39 w.params).In g -> (hd.heap_39 w.params).lookup 192 = some o -> wpAny (model rw_xg0057_01.row.prog w) (callerA.deeper (envOfC fd.name fd.scope L fa cd)) (execs ((roundB fd).drop 6) (envOfC fd.name fd.scope L fa cd)) Q (fun e s7 => wpAny (model rw_xg0057_01.row.prog w) (callerA.deeper (envOfC fd.name fd.scope L fa cd)) (leaving (envOfC fd.name fd.scope L fa cd) e) (fun _ s8 => R (.error e) s8) (fun e8 s8 => R (.error e8) s8) s7) s := by
   clear KX ho
   k_fill
   intro _ KX ho
   have e9 := ho.symm.trans (show (hd.heap_39 w.params).lookup 192 = some _ from by k_is)
   cases e9
   cases hfd
   simp only [roundB,stmtsOf,bodyAt,forBody]
   dsimp only [List.drop]
   (try k_fold)
   have mx0 := Lx.mem_x hz
   have md0 := Lx.mem_d hz
   obtain ⟨z1,z2,z3,z4,z5,z6⟩ := z
   obtain ⟨kz1,kz2,kz3,kz4,kz5,kz6⟩ := kz
   obtain ⟨iz1,iz2,iz3,iz4,iz5,iz6⟩ := iz
   have hy0 := hz
   unfold Dig at gA
   have gl := host_len gA lA1 lA5
   refine cut_at 4 ?_
   dsimp only [List.take,List.drop]
   (k_steps; repeat' ((first | (refine stq_out "compareOp NotEq ref ref" ?_; (k_here; (with_reducible show wpAny _ _ (compareOp CmpOp.NotEq (Value.ref _) (Value.ref _)) _ _ _); k_dflt (refine' ne_bools ?k1 ?k2 ?k5 ?_; (case k1 => exact News.isList (by k_asm) (by k_mem)); (case k2 => exact News.isList (by k_asm) (by k_mem)); (case k5 => ktr_units); k_whole))) | (refine stq_out "newList" ?_; (k_here; k_dflt (refine' newList_K (hsz := ?z) ?k1 ?k2 ?_; (case z => exact Nat.le_of_ble_eq_true rfl); (case k1 => k_asm); (case k2 => k_asm); k_whole); intro l' h' F' N' l1; (try k_lt l1))) | (refine stq_out "call builtin:re.Pattern.search" ?_; (k_here; first
  | ((refine' call_search none ?k1 ?k2 ?k3 ?k4 ?k5 ?_ ?k6); (case k5 => with_reducible assumption); (case k1 => k_asm); (case k2 => k_asm); (case k3 => k_asm); (case k4 => omega); (case k6 => intro _ _ _ _ _ _ e9; cases e9); intro _; (try dsimp only))
  | ((refine' call_search (some (_, _)) ?k1 ?k2 ?k3 ?k4 ?k5 ?k6 ?_); (case k5 => with_reducible assumption); (case k1 => k_asm); (case k2 => k_asm); (case k3 => k_asm); (case k4 => omega); (case k6 => intro e9; cases e9); intro b9 e9 li9 D' T9 h' he9 F' N' l1 l2; (cases he9); (try k_lt l1); (try dsimp only)))) | (refine stq_out "getMethod ref" ?_; (k_here; (with_reducible show wpAny _ _ (getMethod (Value.ref 43) _ _) _ _ _); (with_unfolding_all refine' getm_search ?k1 ?k2 ?_); (case k1 => k_asm); (case k2 => k_asm); (try dsimp only))) | fail) <;> k_steps))
   any_goals (exfalso; with_reducible rename (reachF _ != _) = true => e9; rw [hup] at e9; simp at e9; done)
   any_goals (exfalso; with_reducible rename (_ && _) = false => e9; rw [hth,hhd] at e9; simp at e9; done)
   (try dsimp only)
   show wpAny _ _ _ _ _ _
   rename Fr _ _ _ _ => F9
   rename News _ _ _ _ => N9
   with_reducible rename It < T9 ∧ _ => l7
   with_reducible rename @LT.lt Nat _ T9 D' => l8
   have o7 : ∀ b ∈ zz,b.1 ≠ T9 := ltNe (r8 l7)
   have o8 : ∀ b ∈ zz,b.1 ≠ D' := fun b hb => Nat.ne_of_lt (Nat.lt_trans (allLt_to (r8 l7) b hb) l8)
   refine' @rest _ D' T9 (hostF A).cps.size li9 _ _ _ o7 o8 (fr_has (fr_has (fr_has (fr_has (fr_has F9 (Str.ofString "colours") rfl) (Str.ofString "word") rfl) (Str.ofString "hue") rfl) (Str.ofString "up") rfl) (Str.ofString "found") rfl) (cb_drop N9 ?dr)
   case dr => (walk_at "my sub")
  exact key rfl KX ho
 case r => delta id stq_it stq_out; exact k
end

example {M : Model} {A : Around} {env : Env} {Q : Flow -> Shared -> Prop} {E : Value -> Shared -> Prop} {s : Shared} (h : Q .next s) : wpAny M A (execs [] env) Q E s := by first | (walk1; exact h) | exact wpAny_execs_nil h

section
local macro_rules | `(tactic| walk_at $s) => if ["call builtin:re.Pattern.search","compareOp NotEq ref ref","getMethod ref","newList"].contains s.getString then `(tactic| refine stq_it $s ?_) else Lean.Macro.throwUnsupported
theorem round3n {w : World} {mg mb : Str -> Option Value} {mean : ExcName -> Option Value} {loose : List Str} {g : Heap} {L fa : Addr} {cd : Value} {o : Obj} {fd : FuncData}
  (ho : (hd.heap_39 w.params).lookup 192 = some o) (hfd : o.data = .func fd) (CH : CodeHd g 146 142) (B : Below callerA g [] g) (KX : (hd.heap_39 w.params).In g) (T : Top topProg loose mean mg mb g) {m : Str -> Option Value} {s : Shared} {Q : Flow -> Shared -> Prop} {R : Result -> Shared -> Prop} {o1 o2 o3 o4 o5 o6 : Obj} {X : Str} {Kc It d : Addr} {oIt : Obj} {A : List Int} {vA : List Value} {nA nk nl : Nat} {q : Lx w mg X} {p n : Int} {tp tn u y1 y2 y3 : Tok} {nn : Nat} {ys ks : List Value} {hv sv vv : UInt64} {zz rs : List (Addr × Obj)} {mR : Str -> Option Value} (c3 : o3.data = .cell (some (.float sv y2))) (c6 : o6.data = .cell (some (.ref q.xl))) (hits : ys.length <= 1000) (hks : ks.length <= 1000) (hz : zz = q.news p tp nn n tn (ys).toArray nl rs) (hrest : ∀ b ∈ rs,b.1 ≠ q.sp ∧ b.1 ≠ q.d ∧ b.1 ≠ q.l) (z : Off6 L (zz)) (kz : (@Ne Nat Kc (L + 1)) ∧ (@Ne Nat Kc (L + 1 + 1)) ∧ (@Ne Nat Kc (L + 1 + 1 + 1)) ∧ (@Ne Nat Kc (L + 1 + 1 + 1 + 1)) ∧ (@Ne Nat Kc (L + 1 + 1 + 1 + 1 + 1)) ∧ (@Ne Nat Kc (L + 1 + 1 + 1 + 1 + 1 + 1))) (iz : (@Ne Nat It (L + 1)) ∧ (@Ne Nat It (L + 1 + 1)) ∧ (@Ne Nat It (L + 1 + 1 + 1)) ∧ (@Ne Nat It (L + 1 + 1 + 1 + 1)) ∧ (@Ne Nat It (L + 1 + 1 + 1 + 1 + 1)) ∧ (@Ne Nat It (L + 1 + 1 + 1 + 1 + 1 + 1))) (ik : @Ne Nat It Kc) (zk : ∀ b ∈ zz,b.1 ≠ Kc) (zi : ∀ b ∈ zz,b.1 ≠ It)
  (mA : (d,PySem.W.listOf (vA).toArray nA) ∈ rs) (iA : IntsAre vA A) (gA : Dig A) (lA1 : 1 <= A.length) (lA5 : A.length <= 5) (d0 : (srchF (hostF A)).isSome = true) (d1 : (srchF (Txt.lower (hostF A))).isSome = true) (d2 : (srchF (Txt.slice (Txt.lower (reachF (hostF A))) (some 1) none)).isSome = true) (lu : (reachF (hostF A)).length <= 15) (hdm : dmF (hostF A) (reachF (hostF A)) = true) (hsr : srchF (hostF A) = some none) (hhd : hdnF (hostF A) = true) (hth : thirdF hv sv = false)
  (F : Fr g L s.heap (fun z => if z = Str.ofString "plain" then some (.bool (!thirdF hv sv)) else if z = Str.ofString "value" then some (.float vv y3) else if z = Str.ofString "hue" then some (.float hv y1) else if z = Str.ofString "word" then some (.str (hostF A) u) else if z = Str.ofString "labels" then some (.ref d) else if z = Str.ofString "colours" then some (.ref Kc) else mR z)) (N : News g L s.heap ((It, oIt) :: six L o1 o2 o3 o4 o5 o6 ((Kc, PySem.W.listOf (ks).toArray nk) :: zz)))
  (rest : ∀ (y4 : Tok) (mR : Str -> Option Value) (h' : Heap) (tk' : Nat) (F : Fr g L h' (fun z => if z = Str.ofString "found" then some (.none) else if z = Str.ofString "up" then some (.str (reachF (hostF A)) y4) else if z = Str.ofString "hue" then some (.float hv y1) else if z = Str.ofString "word" then some (.str (hostF A) u) else if z = Str.ofString "colours" then some (.ref Kc) else mR z)) (N : News g L h' ((It, oIt) :: six L o1 o2 o3 o4 o5 o6 ((Kc, PySem.W.listOf (ks).toArray nk) :: zz))), wpAny (model rw_xg0057_01.row.prog w) (callerA.deeper (envOfC fd.name fd.scope L fa cd)) (execs ((roundB fd).drop 10) (envOfC fd.name fd.scope L fa cd)) Q (fun e s7 => wpAny (model rw_xg0057_01.row.prog w) (callerA.deeper (envOfC fd.name fd.scope L fa cd)) (leaving (envOfC fd.name fd.scope L fa cd) e) (fun _ s8 => R (.error e) s8) (fun e8 s8 => R (.error e8) s8) s7) { s with heap := h', toks := tk' }) : wpAny (model rw_xg0057_01.row.prog w) (callerA.deeper (envOfC fd.name fd.scope L fa cd)) (execs ((roundB fd).drop 6) (envOfC fd.name fd.scope L fa cd)) Q (fun e s7 => wpAny (model rw_xg0057_01.row.prog w) (callerA.deeper (envOfC fd.name fd.scope L fa cd)) (leaving (envOfC fd.name fd.scope L fa cd) e) (fun _ s8 => R (.error e) s8) (fun e8 s8 => R (.error e8) s8) s7) s := by
 refine (?f : Cln _) ?p ⟨?q,fun B k => ?r⟩
 case f => exact fun x _ => x
 case q =>
  have key : rw_xg0057_01.row.prog = rw_xg0057_01.row.prog -> (hd.heap_39 w.params).In g -> (hd.heap_39 w.params).lookup 192 = some o -> wpAny (model rw_xg0057_01.row.prog w) (callerA.deeper (envOfC fd.name fd.scope L fa cd)) (execs ((roundB fd).drop 6) (envOfC fd.name fd.scope L fa cd)) Q (fun e s7 => wpAny (model rw_xg0057_01.row.prog w) (callerA.deeper (envOfC fd.name fd.scope L fa cd)) (leaving (envOfC fd.name fd.scope L fa cd) e) (fun _ s8 => R (.error e) s8) (fun e8 s8 => R (.error e8) s8) s7) s := by
   clear KX ho
   k_fill
   intro _ KX ho
   have e9 := ho.symm.trans (show (hd.heap_39 w.params).lookup 192 = some _ from by k_is)
   cases e9
   cases hfd
   simp only [roundB,stmtsOf,bodyAt,forBody]
   dsimp only [List.drop]
   (try k_fold)
   have mx0 := Lx.mem_x hz
   have md0 := Lx.mem_d hz
   obtain ⟨z1,z2,z3,z4,z5,z6⟩ := z
   obtain ⟨kz1,kz2,kz3,kz4,kz5,kz6⟩ := kz
   obtain ⟨iz1,iz2,iz3,iz4,iz5,iz6⟩ := iz
   have hy0 := hz
   unfold Dig at gA
   have gl := host_len gA lA1 lA5
   refine cut_at 4 ?_
   dsimp only [List.take,List.drop]
   (k_steps; repeat' ((first | (refine stq_out "compareOp NotEq ref ref" ?_; (k_here; (with_reducible show wpAny _ _ (compareOp CmpOp.NotEq (Value.ref _) (Value.ref _)) _ _ _); k_dflt (refine' ne_bools ?k1 ?k2 ?k5 ?_; (case k1 => exact News.isList (by k_asm) (by k_mem)); (case k2 => exact News.isList (by k_asm) (by k_mem)); (case k5 => ktr_units); k_whole))) | (refine stq_out "newList" ?_; (k_here; k_dflt (refine' newList_K (hsz := ?z) ?k1 ?k2 ?_; (case z => exact Nat.le_of_ble_eq_true rfl); (case k1 => k_asm); (case k2 => k_asm); k_whole); intro l' h' F' N' l1; (try k_lt l1))) | (refine stq_out "call builtin:re.Pattern.search" ?_; (k_here; first
  | ((refine' call_search none ?k1 ?k2 ?k3 ?k4 ?k5 ?_ ?k6); (case k5 => with_reducible assumption); (case k1 => k_asm); (case k2 => k_asm); (case k3 => k_asm); (case k4 => omega); (case k6 => intro _ _ _ _ _ _ e9; cases e9); intro _; (try dsimp only))
  | ((refine' call_search (some (_, _)) ?k1 ?k2 ?k3 ?k4 ?k5 ?k6 ?_); (case k5 => with_reducible assumption); (case k1 => k_asm); (case k2 => k_asm); (case k3 => k_asm); (case k4 => omega); (case k6 => intro e9; cases e9); intro b9 e9 li9 D' T9 h' he9 F' N' l1 l2; (cases he9); (try k_lt l1); (try dsimp only)))) | (refine stq_out "getMethod ref" ?_; (k_here; (with_reducible show wpAny _ _ (getMethod (Value.ref 43) _ _) _ _ _); (with_unfolding_all refine' getm_search ?k1 ?k2 ?_); (case k1 => k_asm); (case k2 => k_asm); (try dsimp only))) | fail) <;> k_steps))
   any_goals (exfalso; with_reducible rename (_ && _) = false => e9; rw [hth,hhd] at e9; simp at e9; done)
   (try dsimp only)
   show wpAny _ _ _ _ _ _
   rename Fr _ _ _ _ => F9
   rename News _ _ _ _ => N9
   refine' @rest _ _ _ _ (fr_has (fr_has (fr_has (fr_has (fr_has F9 (Str.ofString "colours") rfl) (Str.ofString "word") rfl) (Str.ofString "hue") rfl) (Str.ofString "up") rfl) (Str.ofString "found") rfl) (cb_drop N9 ?dr)
   case dr => (walk_at "my sub")
  exact key rfl KX ho
 case r => delta id stq_it stq_out; exact k
end

example {M : Model} {A : Around} {env : Env} {Q : Flow -> Shared -> Prop} {E : Value -> Shared -> Prop} {s : Shared} (h : Q .next s) : wpAny M A (execs [] env) Q E s := by first | (walk1; exact h) | exact wpAny_execs_nil h

theorem round4a {w : World} {mg mb : Str -> Option Value} {mean : ExcName -> Option Value} {loose : List Str} {g : Heap} {L fa : Addr} {cd : Value} {o : Obj} {fd : FuncData}
  (ho : (hd.heap_39 w.params).lookup 192 = some o) (hfd : o.data = .func fd) (CH : CodeHd g 146 142) (B : Below callerA g [] g) (KX : (hd.heap_39 w.params).In g) (T : Top topProg loose mean mg mb g) {m : Str -> Option Value} {s : Shared} {Q : Flow -> Shared -> Prop} {R : Result -> Shared -> Prop} {o1 o2 o3 o4 o5 o6 : Obj} {X : Str} {Kc It d : Addr} {oIt : Obj} {A : List Int} {vA : List Value} {nA nk nl : Nat} {q : Lx w mg X} {p n : Int} {tp tn u y1 y2 y3 : Tok} {nn : Nat} {ys ks : List Value} {hv sv vv : UInt64} {zz rs : List (Addr × Obj)} {mR : Str -> Option Value} {y4 : Tok} (c3 : o3.data = .cell (some (.float sv y2))) (c6 : o6.data = .cell (some (.ref q.xl))) (hits : ys.length <= 1000) (hks : ks.length <= 1000) (hz : zz = q.news p tp nn n tn (ys).toArray nl rs) (hrest : ∀ b ∈ rs,b.1 ≠ q.sp ∧ b.1 ≠ q.d ∧ b.1 ≠ q.l) (z : Off6 L (zz)) (kz : (@Ne Nat Kc (L + 1)) ∧ (@Ne Nat Kc (L + 1 + 1)) ∧ (@Ne Nat Kc (L + 1 + 1 + 1)) ∧ (@Ne Nat Kc (L + 1 + 1 + 1 + 1)) ∧ (@Ne Nat Kc (L + 1 + 1 + 1 + 1 + 1)) ∧ (@Ne Nat Kc (L + 1 + 1 + 1 + 1 + 1 + 1))) (iz : (@Ne Nat It (L + 1)) ∧ (@Ne Nat It (L + 1 + 1)) ∧ (@Ne Nat It (L + 1 + 1 + 1)) ∧ (@Ne Nat It (L + 1 + 1 + 1 + 1)) ∧ (@Ne Nat It (L + 1 + 1 + 1 + 1 + 1)) ∧ (@Ne Nat It (L + 1 + 1 + 1 + 1 + 1 + 1))) (ik : @Ne Nat It Kc) (zk : ∀ b ∈ zz,b.1 ≠ Kc) (zi : ∀ b ∈ zz,b.1 ≠ It)
  (mA : (d, PySem.W.listOf (vA).toArray nA) ∈ rs) (iA : IntsAre vA A) (gA : Dig A) (lA1 : 1 <= A.length) (lA5 : A.length <= 5) (lu : (reachF (hostF A)).length <= 15) {b9 e9 n9 : Nat} {li9 : Int} {D9 T9 : Addr} (o7 : ∀ b ∈ zz, b.1 ≠ T9) (o8 : ∀ b ∈ zz, b.1 ≠ D9) {Bh : Str} (hbe : (Txt.slice (hostF A) none (some (b9 : Int)) ++ Txt.slice (hostF A) (some (e9 : Int)) none) = Bh) (hbn : Bh ≠ Str.ofString "")
  (F : Fr g L s.heap (fun z => if z = Str.ofString "found" then some (.ref D9) else if z = Str.ofString "up" then some (.str (reachF (hostF A)) y4) else if z = Str.ofString "hue" then some (.float hv y1) else if z = Str.ofString "word" then some (.str (hostF A) u) else if z = Str.ofString "colours" then some (.ref Kc) else mR z)) (N : News g L s.heap ((D9, matchO (hostF A) u n9 li9 T9) :: (T9, tupO [rawInt b9, rawInt e9]) :: (It, oIt) :: six L o1 o2 o3 o4 o5 o6 ((Kc, PySem.W.listOf (ks).toArray nk) :: zz)))
  (rest : ∀ (t4 : Tok) (zz2 : List (Addr × Obj)) (nl2 : Nat) (mR : Str -> Option Value) (h' : Heap) (tk' : Nat) (hz2 : zz2 = q.news p tp nn n tn (ys ++ [Value.str Bh t4]).toArray nl2 rs) (tr : ∀ a : Addr, (∀ y ∈ zz, y.1 ≠ a) -> ∀ y ∈ zz2, y.1 ≠ a) (F : Fr g L h' (fun z => if z = Str.ofString "hue" then some (.float hv y1) else if z = Str.ofString "colours" then some (.ref Kc) else mR z)) (N : News g L h' ((It, oIt) :: six L o1 o2 o3 o4 o5 o6 ((Kc, PySem.W.listOf (ks).toArray nk) :: zz2))), wpAny (model rw_xg0057_01.row.prog w) (callerA.deeper (envOfC fd.name fd.scope L fa cd)) (execs ((roundB fd).drop 12) (envOfC fd.name fd.scope L fa cd)) Q (fun e s7 => wpAny (model rw_xg0057_01.row.prog w) (callerA.deeper (envOfC fd.name fd.scope L fa cd)) (leaving (envOfC fd.name fd.scope L fa cd) e) (fun _ s8 => R (.error e) s8) (fun e8 s8 => R (.error e8) s8) s7) { s with heap := h', toks := tk' }) : wpAny (model rw_xg0057_01.row.prog w) (callerA.deeper (envOfC fd.name fd.scope L fa cd)) (execs ((roundB fd).drop 10) (envOfC fd.name fd.scope L fa cd)) Q (fun e s7 => wpAny (model rw_xg0057_01.row.prog w) (callerA.deeper (envOfC fd.name fd.scope L fa cd)) (leaving (envOfC fd.name fd.scope L fa cd) e) (fun _ s8 => R (.error e) s8) (fun e8 s8 => R (.error e8) s8) s7) s := by
 refine (?f : Cln _) ?p ⟨?q,fun B k => ?r⟩
 case f => exact fun x _ => x
 case q =>
  have key : rw_xg0057_01.row.prog = rw_xg0057_01.row.prog -> (hd.heap_39 w.params).In g -> (hd.heap_39 w.params).lookup 192 = some o -> wpAny (model rw_xg0057_01.row.prog w) (callerA.deeper (envOfC fd.name fd.scope L fa cd)) (execs ((roundB fd).drop 10) (envOfC fd.name fd.scope L fa cd)) Q (fun e s7 => wpAny (model rw_xg0057_01.row.prog w) (callerA.deeper (envOfC fd.name fd.scope L fa cd)) (leaving (envOfC fd.name fd.scope L fa cd) e) (fun _ s8 => R (.error e) s8) (fun e8 s8 => R (.error e8) s8) s7) s := by
   clear KX ho
   k_fill
   intro _ KX ho
   have e9 := ho.symm.trans (show (hd.heap_39 w.params).lookup 192 = some _ from by k_is)
   cases e9
   cases hfd
   simp only [roundB,stmtsOf,bodyAt,forBody]
   dsimp only [List.drop]
   (try k_fold)
   have mx0 := Lx.mem_x hz
   have md0 := Lx.mem_d hz
   obtain ⟨z1,z2,z3,z4,z5,z6⟩ := z
   obtain ⟨kz1,kz2,kz3,kz4,kz5,kz6⟩ := kz
   obtain ⟨iz1,iz2,iz3,iz4,iz5,iz6⟩ := iz
   have hy0 := hz
   unfold Dig at gA
   have gl := host_len gA lA1 lA5
   have hys : ys.toArray.size <= 1000 := by rw [List.size_toArray]; exact hits
   refine cut_at 2 ?_
   dsimp only [List.take,List.drop]
   (k_steps; repeat' ((first | (refine stq_out "call ref" ?_; (k_here; (with_reducible show wpAny _ _ (call (Value.ref 113) [Value.ref _, Value.str _ _]) _ _ _); k_dflt (refine' use_pushq q ?hi ?hsp ?hz ?hoff ?hrest ?hb ?k1 ?k2 ?k3 ?k4 ?k5 ?kK ?kd ?ku ?_); walk_at "my sides"; (case hsp => walk_at "my spl"); (case hz => assumption); (case hi => assumption); (case hrest => assumption); (case hb => exact fun _ k => k); (case hoff => (repeat (refine List.forall_mem_cons.mpr ⟨by (dsimp only; k_all), ?_⟩)); exact List.forall_mem_nil _); intro nl' h' tk' zz' hz' mx' md' tr' F' N' r'; (try simp only [List.cons_append, List.nil_append] at N'); (try dsimp only))) | (refine stq_out "call ref" ?_; (k_here; (with_reducible show wpAny _ _ (call (Value.ref 38) [Value.ref _]) _ _ _); k_dflt (refine' use_unm ?hx ?hf ?hg ?k1 ?k2 ?k3 ?k4 ?k5 ?kK ?kd ?ku ?_); walk_at "my sides"; (case hf => k_mem); (case hg => k_mem); (case hx => omega); intro u2 h' tk' F' N'; (try dsimp only))) | fail) <;> k_steps))
   any_goals (exfalso; with_reducible rename (_ != Str.ofString "") = false => e9; rw [hbe] at e9; simp at e9; exact absurd e9 hbn; done)
   (try dsimp only)
   show wpAny _ _ _ _ _ _
   rename Fr _ _ _ _ => F9
   rename News _ _ _ _ => N9
   rw [hbe,List.push_toArray] at hz'
   refine' @rest _ zz' _ _ _ _ hz' tr' (fr_has (fr_has F9 (Str.ofString "colours") rfl) (Str.ofString "hue") rfl) (cb_drop N9 ?dr)
   case dr => (walk_at "my sub")
  exact key rfl KX ho
 case r => delta id stq_it stq_out; exact k
theorem round4b {w : World} {mg mb : Str -> Option Value} {mean : ExcName -> Option Value} {loose : List Str} {g : Heap} {L fa : Addr} {cd : Value} {o : Obj} {fd : FuncData}
  (ho : (hd.heap_39 w.params).lookup 192 = some o) (hfd : o.data = .func fd) (CH : CodeHd g 146 142) (B : Below callerA g [] g) (KX : (hd.heap_39 w.params).In g) (T : Top topProg loose mean mg mb g) {m : Str -> Option Value} {s : Shared} {Q : Flow -> Shared -> Prop} {R : Result -> Shared -> Prop} {o1 o2 o3 o4 o5 o6 : Obj} {X : Str} {Kc It d : Addr} {oIt : Obj} {A : List Int} {vA : List Value} {nA nk nl : Nat} {q : Lx w mg X} {p n : Int} {tp tn u y1 y2 y3 : Tok} {nn : Nat} {ys ks : List Value} {hv sv vv : UInt64} {zz rs : List (Addr × Obj)} {mR : Str -> Option Value} {y4 : Tok} (c3 : o3.data = .cell (some (.float sv y2))) (c6 : o6.data = .cell (some (.ref q.xl))) (hits : ys.length <= 1000) (hks : ks.length <= 1000) (hz : zz = q.news p tp nn n tn (ys).toArray nl rs) (hrest : ∀ b ∈ rs,b.1 ≠ q.sp ∧ b.1 ≠ q.d ∧ b.1 ≠ q.l) (z : Off6 L (zz)) (kz : (@Ne Nat Kc (L + 1)) ∧ (@Ne Nat Kc (L + 1 + 1)) ∧ (@Ne Nat Kc (L + 1 + 1 + 1)) ∧ (@Ne Nat Kc (L + 1 + 1 + 1 + 1)) ∧ (@Ne Nat Kc (L + 1 + 1 + 1 + 1 + 1)) ∧ (@Ne Nat Kc (L + 1 + 1 + 1 + 1 + 1 + 1))) (iz : (@Ne Nat It (L + 1)) ∧ (@Ne Nat It (L + 1 + 1)) ∧ (@Ne Nat It (L + 1 + 1 + 1)) ∧ (@Ne Nat It (L + 1 + 1 + 1 + 1)) ∧ (@Ne Nat It (L + 1 + 1 + 1 + 1 + 1)) ∧ (@Ne Nat It (L + 1 + 1 + 1 + 1 + 1 + 1))) (ik : @Ne Nat It Kc) (zk : ∀ b ∈ zz,b.1 ≠ Kc) (zi : ∀ b ∈ zz,b.1 ≠ It)
  (mA : (d, PySem.W.listOf (vA).toArray nA) ∈ rs) (iA : IntsAre vA A) (gA : Dig A) (lA1 : 1 <= A.length) (lA5 : A.length <= 5) (lu : (reachF (hostF A)).length <= 15) (hup : reachF (hostF A) ≠ hostF A) {Bh : Str} (hbe : (Txt.slice (reachF (hostF A)) (some 1) none) = Bh) (hbn : Bh ≠ Str.ofString "")
  (F : Fr g L s.heap (fun z => if z = Str.ofString "found" then some (.none) else if z = Str.ofString "up" then some (.str (reachF (hostF A)) y4) else if z = Str.ofString "hue" then some (.float hv y1) else if z = Str.ofString "word" then some (.str (hostF A) u) else if z = Str.ofString "colours" then some (.ref Kc) else mR z)) (N : News g L s.heap ((It, oIt) :: six L o1 o2 o3 o4 o5 o6 ((Kc, PySem.W.listOf (ks).toArray nk) :: zz)))
  (rest : ∀ (t4 : Tok) (zz2 : List (Addr × Obj)) (nl2 : Nat) (mR : Str -> Option Value) (h' : Heap) (tk' : Nat) (hz2 : zz2 = q.news p tp nn n tn (ys ++ [Value.str Bh t4]).toArray nl2 rs) (tr : ∀ a : Addr, (∀ y ∈ zz, y.1 ≠ a) -> ∀ y ∈ zz2, y.1 ≠ a) (F : Fr g L h' (fun z => if z = Str.ofString "hue" then some (.float hv y1) else if z = Str.ofString "colours" then some (.ref Kc) else mR z)) (N : News g L h' ((It, oIt) :: six L o1 o2 o3 o4 o5 o6 ((Kc, PySem.W.listOf (ks).toArray nk) :: zz2))), wpAny (model rw_xg0057_01.row.prog w) (callerA.deeper (envOfC fd.name fd.scope L fa cd)) (execs ((roundB fd).drop 12) (envOfC fd.name fd.scope L fa cd)) Q (fun e s7 => wpAny (model rw_xg0057_01.row.prog w) (callerA.deeper (envOfC fd.name fd.scope L fa cd)) (leaving (envOfC fd.name fd.scope L fa cd) e) (fun _ s8 => R (.error e) s8) (fun e8 s8 => R (.error e8) s8) s7) { s with heap := h', toks := tk' }) : wpAny (model rw_xg0057_01.row.prog w) (callerA.deeper (envOfC fd.name fd.scope L fa cd)) (execs ((roundB fd).drop 10) (envOfC fd.name fd.scope L fa cd)) Q (fun e s7 => wpAny (model rw_xg0057_01.row.prog w) (callerA.deeper (envOfC fd.name fd.scope L fa cd)) (leaving (envOfC fd.name fd.scope L fa cd) e) (fun _ s8 => R (.error e) s8) (fun e8 s8 => R (.error e8) s8) s7) s := by
 refine (?f : Cln _) ?p ⟨?q,fun B k => ?r⟩
 case f => exact fun x _ => x
 case q =>
  have key : rw_xg0057_01.row.prog = rw_xg0057_01.row.prog -> (hd.heap_39 w.params).In g -> (hd.heap_39 w.params).lookup 192 = some o -> wpAny (model rw_xg0057_01.row.prog w) (callerA.deeper (envOfC fd.name fd.scope L fa cd)) (execs ((roundB fd).drop 10) (envOfC fd.name fd.scope L fa cd)) Q (fun e s7 => wpAny (model rw_xg0057_01.row.prog w) (callerA.deeper (envOfC fd.name fd.scope L fa cd)) (leaving (envOfC fd.name fd.scope L fa cd) e) (fun _ s8 => R (.error e) s8) (fun e8 s8 => R (.error e8) s8) s7) s := by
   clear KX ho
   k_fill
   intro _ KX ho
   have e9 := ho.symm.trans (show (hd.heap_39 w.params).lookup 192 = some _ from by k_is)
   cases e9
   cases hfd
   simp only [roundB,stmtsOf,bodyAt,forBody]
   dsimp only [List.drop]
   (try k_fold)
   have mx0 := Lx.mem_x hz
   have md0 := Lx.mem_d hz
   obtain ⟨z1,z2,z3,z4,z5,z6⟩ := z
   obtain ⟨kz1,kz2,kz3,kz4,kz5,kz6⟩ := kz
   obtain ⟨iz1,iz2,iz3,iz4,iz5,iz6⟩ := iz
   have hy0 := hz
   unfold Dig at gA
   have gl := host_len gA lA1 lA5
   have hys : ys.toArray.size <= 1000 := by rw [List.size_toArray]; exact hits
   refine cut_at 2 ?_
   dsimp only [List.take,List.drop]
   (k_steps; repeat' ((first | (refine stq_out "call ref" ?_; (k_here; (with_reducible show wpAny _ _ (call (Value.ref 113) [Value.ref _, Value.str _ _]) _ _ _); k_dflt (refine' use_pushq q ?hi ?hsp ?hz ?hoff ?hrest ?hb ?k1 ?k2 ?k3 ?k4 ?k5 ?kK ?kd ?ku ?_); walk_at "my sides"; (case hsp => walk_at "my spl"); (case hz => assumption); (case hi => assumption); (case hrest => assumption); (case hb => exact fun _ k => k); (case hoff => (repeat (refine List.forall_mem_cons.mpr ⟨by (dsimp only; k_all), ?_⟩)); exact List.forall_mem_nil _); intro nl' h' tk' zz' hz' mx' md' tr' F' N' r'; (try simp only [List.cons_append, List.nil_append] at N'); (try dsimp only))) | fail) <;> k_steps))
   any_goals (exfalso; with_reducible rename (reachF _ != _) = false => e9; simp at e9; exact absurd e9 hup; done)
   any_goals (exfalso; with_reducible rename (_ != Str.ofString "") = false => e9; rw [hbe] at e9; simp at e9; exact absurd e9 hbn; done)
   (try dsimp only)
   show wpAny _ _ _ _ _ _
   rename Fr _ _ _ _ => F9
   rename News _ _ _ _ => N9
   rw [hbe,List.push_toArray] at hz'
   refine' @rest _ zz' _ _ _ _ hz' tr' (fr_has (fr_has F9 (Str.ofString "colours") rfl) (Str.ofString "hue") rfl) (cb_drop N9 ?dr)
   case dr => (walk_at "my sub")
  exact key rfl KX ho
 case r => delta id stq_it stq_out; exact k
theorem round4c {w : World} {mg mb : Str -> Option Value} {mean : ExcName -> Option Value} {loose : List Str} {g : Heap} {L fa : Addr} {cd : Value} {o : Obj} {fd : FuncData}
  (ho : (hd.heap_39 w.params).lookup 192 = some o) (hfd : o.data = .func fd) (CH : CodeHd g 146 142) (B : Below callerA g [] g) (KX : (hd.heap_39 w.params).In g) (T : Top topProg loose mean mg mb g) {m : Str -> Option Value} {s : Shared} {Q : Flow -> Shared -> Prop} {R : Result -> Shared -> Prop} {o1 o2 o3 o4 o5 o6 : Obj} {X : Str} {Kc It d : Addr} {oIt : Obj} {A : List Int} {vA : List Value} {nA nk nl : Nat} {q : Lx w mg X} {p n : Int} {tp tn u y1 y2 y3 : Tok} {nn : Nat} {ys ks : List Value} {hv sv vv : UInt64} {zz rs : List (Addr × Obj)} {mR : Str -> Option Value} {y4 : Tok} (c3 : o3.data = .cell (some (.float sv y2))) (c6 : o6.data = .cell (some (.ref q.xl))) (hits : ys.length <= 1000) (hks : ks.length <= 1000) (hz : zz = q.news p tp nn n tn (ys).toArray nl rs) (hrest : ∀ b ∈ rs,b.1 ≠ q.sp ∧ b.1 ≠ q.d ∧ b.1 ≠ q.l) (z : Off6 L (zz)) (kz : (@Ne Nat Kc (L + 1)) ∧ (@Ne Nat Kc (L + 1 + 1)) ∧ (@Ne Nat Kc (L + 1 + 1 + 1)) ∧ (@Ne Nat Kc (L + 1 + 1 + 1 + 1)) ∧ (@Ne Nat Kc (L + 1 + 1 + 1 + 1 + 1)) ∧ (@Ne Nat Kc (L + 1 + 1 + 1 + 1 + 1 + 1))) (iz : (@Ne Nat It (L + 1)) ∧ (@Ne Nat It (L + 1 + 1)) ∧ (@Ne Nat It (L + 1 + 1 + 1)) ∧ (@Ne Nat It (L + 1 + 1 + 1 + 1)) ∧ (@Ne Nat It (L + 1 + 1 + 1 + 1 + 1)) ∧ (@Ne Nat It (L + 1 + 1 + 1 + 1 + 1 + 1))) (ik : @Ne Nat It Kc) (zk : ∀ b ∈ zz,b.1 ≠ Kc) (zi : ∀ b ∈ zz,b.1 ≠ It)
  (mA : (d,PySem.W.listOf (vA).toArray nA) ∈ rs) (iA : IntsAre vA A) (gA : Dig A) (lA1 : 1 <= A.length) (lA5 : A.length <= 5) (lu : (reachF (hostF A)).length <= 15) (hup : reachF (hostF A) = hostF A)
  (F : Fr g L s.heap (fun z => if z = Str.ofString "found" then some (.none) else if z = Str.ofString "up" then some (.str (reachF (hostF A)) y4) else if z = Str.ofString "hue" then some (.float hv y1) else if z = Str.ofString "word" then some (.str (hostF A) u) else if z = Str.ofString "colours" then some (.ref Kc) else mR z)) (N : News g L s.heap ((It, oIt) :: six L o1 o2 o3 o4 o5 o6 ((Kc, PySem.W.listOf (ks).toArray nk) :: zz)))
  (rest : ∀ (mR : Str -> Option Value) (h' : Heap) (tk' : Nat) (F : Fr g L h' (fun z => if z = Str.ofString "hue" then some (.float hv y1) else if z = Str.ofString "colours" then some (.ref Kc) else mR z)) (N : News g L h' ((It, oIt) :: six L o1 o2 o3 o4 o5 o6 ((Kc, PySem.W.listOf (ks).toArray nk) :: zz))), wpAny (model rw_xg0057_01.row.prog w) (callerA.deeper (envOfC fd.name fd.scope L fa cd)) (execs ((roundB fd).drop 12) (envOfC fd.name fd.scope L fa cd)) Q (fun e s7 => wpAny (model rw_xg0057_01.row.prog w) (callerA.deeper (envOfC fd.name fd.scope L fa cd)) (leaving (envOfC fd.name fd.scope L fa cd) e) (fun _ s8 => R (.error e) s8) (fun e8 s8 => R (.error e8) s8) s7) { s with heap := h', toks := tk' }) : wpAny (model rw_xg0057_01.row.prog w) (callerA.deeper (envOfC fd.name fd.scope L fa cd)) (execs ((roundB fd).drop 10) (envOfC fd.name fd.scope L fa cd)) Q (fun e s7 => wpAny (model rw_xg0057_01.row.prog w) (callerA.deeper (envOfC fd.name fd.scope L fa cd)) (leaving (envOfC fd.name fd.scope L fa cd) e) (fun _ s8 => R (.error e) s8) (fun e8 s8 => R (.error e8) s8) s7) s := by
 refine (?f : Cln _) ?p ⟨?q,fun B k => ?r⟩
 case f => exact fun x _ => x
 case q =>
  have key : rw_xg0057_01.row.prog = rw_xg0057_01.row.prog -> (hd.heap_39 w.params).In g -> (hd.heap_39 w.params).lookup 192 = some o -> wpAny (model rw_xg0057_01.row.prog w) (callerA.deeper (envOfC fd.name fd.scope L fa cd)) (execs ((roundB fd).drop 10) (envOfC fd.name fd.scope L fa cd)) Q (fun e s7 => wpAny (model rw_xg0057_01.row.prog w) (callerA.deeper (envOfC fd.name fd.scope L fa cd)) (leaving (envOfC fd.name fd.scope L fa cd) e) (fun _ s8 => R (.error e) s8) (fun e8 s8 => R (.error e8) s8) s7) s := by
   clear KX ho
   k_fill
   intro _ KX ho
   have e9 := ho.symm.trans (show (hd.heap_39 w.params).lookup 192 = some _ from by k_is)
   cases e9
   cases hfd
   simp only [roundB,stmtsOf,bodyAt,forBody]
   dsimp only [List.drop]
   (try k_fold)
   have mx0 := Lx.mem_x hz
   have md0 := Lx.mem_d hz
   obtain ⟨z1,z2,z3,z4,z5,z6⟩ := z
   obtain ⟨kz1,kz2,kz3,kz4,kz5,kz6⟩ := kz
   obtain ⟨iz1,iz2,iz3,iz4,iz5,iz6⟩ := iz
   have hy0 := hz
   unfold Dig at gA
   have gl := host_len gA lA1 lA5
   have hys : ys.toArray.size <= 1000 := by rw [List.size_toArray]; exact hits
   refine cut_at 2 ?_
   dsimp only [List.take,List.drop]
   (k_steps; repeat' ((first | (refine stq_out "call ref" ?_; (k_here; (with_reducible show wpAny _ _ (call (Value.ref 113) [Value.ref _, Value.str _ _]) _ _ _); k_dflt (refine' use_pushq q ?hi ?hsp ?hz ?hoff ?hrest ?hb ?k1 ?k2 ?k3 ?k4 ?k5 ?kK ?kd ?ku ?_); walk_at "my sides"; (case hsp => walk_at "my spl"); (case hz => assumption); (case hi => assumption); (case hrest => assumption); (case hb => exact fun _ k => k); (case hoff => (repeat (refine List.forall_mem_cons.mpr ⟨by (dsimp only; k_all), ?_⟩)); exact List.forall_mem_nil _); intro nl' h' tk' zz' hz' mx' md' tr' F' N' r'; (try simp only [List.cons_append, List.nil_append] at N'); (try dsimp only))) | fail) <;> k_steps))
   any_goals (exfalso; with_reducible rename (reachF _ != _) = true => e9; rw [hup] at e9; simp at e9; done)
   (try dsimp only)
   show wpAny _ _ _ _ _ _
   rename Fr _ _ _ _ => F9
   rename News _ _ _ _ => N9
   refine' @rest _ _ _ (fr_has (fr_has F9 (Str.ofString "colours") rfl) (Str.ofString "hue") rfl) (cb_drop N9 ?dr)
   case dr => (walk_at "my sub")
  exact key rfl KX ho
 case r => delta id stq_it stq_out; exact k
section
local macro_rules | `(tactic| walk_at $s) => if ["compareOp NotEq ref ref"].contains s.getString then `(tactic| refine stq_it $s ?_) else Lean.Macro.throwUnsupported
theorem round_end {g h : Heap} {L L0 It : Addr} {a T K : Addr × Obj} {oIt o1 o2 o3 o4 o5 o6 : Obj} {zz zz2 : List (Addr × Obj)} (N : News g L h (a :: T :: (It,oIt) :: six L0 o1 o2 o3 o4 o5 o6 (K :: zz))) (hs : ∀ y ∈ zz2,y = T ∨ y ∈ zz) : News g L h ((It,oIt) :: six L0 o1 o2 o3 o4 o5 o6 (K :: zz2)) :=
 cb_drop N (ap_all (h := (It,oIt) :: hd6 L0 o1 o2 o3 o4 o5 o6 ++ [K]) (fun p h => .tail _ (.tail _ (List.mem_append_left zz h))) fun p h => (hs p h).elim (fun e => e ▸ .tail _ (.head _)) fun h => .tail _ (.tail _ (List.mem_append_right ((It,oIt) :: hd6 L0 o1 o2 o3 o4 o5 o6 ++ [K]) h)))
theorem round5s {w : World} {mg mb : Str -> Option Value} {mean : ExcName -> Option Value} {loose : List Str} {g : Heap} {L fa : Addr} {cd : Value} {o : Obj} {fd : FuncData}
  (ho : (hd.heap_39 w.params).lookup 192 = some o) (hfd : o.data = .func fd) (CH : CodeHd g 146 142) (B : Below callerA g [] g) (KX : (hd.heap_39 w.params).In g) (T : Top topProg loose mean mg mb g) {m : Str -> Option Value} {s : Shared} {Q : Flow -> Shared -> Prop} {R : Result -> Shared -> Prop} {o1 o2 o3 o4 o5 o6 : Obj} {X : Str} {Kc It d : Addr} {oIt : Obj} {A : List Int} {vA : List Value} {nA nk nl : Nat} {q : Lx w mg X} {p n : Int} {tp tn u y1 y2 y3 : Tok} {nn : Nat} {ys ks : List Value} {hv sv vv : UInt64} {zz rs : List (Addr × Obj)} {mR : Str -> Option Value} (c3 : o3.data = .cell (some (.float sv y2))) (c6 : o6.data = .cell (some (.ref q.xl))) (hits : ys.length <= 1000) (hks : ks.length <= 1000) (hz : zz = q.news p tp nn n tn (ys).toArray nl rs) (hrest : ∀ b ∈ rs,b.1 ≠ q.sp ∧ b.1 ≠ q.d ∧ b.1 ≠ q.l) (z : Off6 L (zz)) (kz : (@Ne Nat Kc (L + 1)) ∧ (@Ne Nat Kc (L + 1 + 1)) ∧ (@Ne Nat Kc (L + 1 + 1 + 1)) ∧ (@Ne Nat Kc (L + 1 + 1 + 1 + 1)) ∧ (@Ne Nat Kc (L + 1 + 1 + 1 + 1 + 1)) ∧ (@Ne Nat Kc (L + 1 + 1 + 1 + 1 + 1 + 1))) (iz : (@Ne Nat It (L + 1)) ∧ (@Ne Nat It (L + 1 + 1)) ∧ (@Ne Nat It (L + 1 + 1 + 1)) ∧ (@Ne Nat It (L + 1 + 1 + 1 + 1)) ∧ (@Ne Nat It (L + 1 + 1 + 1 + 1 + 1)) ∧ (@Ne Nat It (L + 1 + 1 + 1 + 1 + 1 + 1))) (ik : @Ne Nat It Kc) (zk : ∀ b ∈ zz,b.1 ≠ Kc) (zi : ∀ b ∈ zz,b.1 ≠ It)
  (mA : (d,PySem.W.listOf (vA).toArray nA) ∈ rs) (iA : IntsAre vA A) (gA : Dig A) (lA1 : 1 <= A.length) (lA5 : A.length <= 5) {c4v c5v c6v : UInt64} (hnx : nextF hv sv = some (some (c4v,c5v,c6v)))
  (F : Fr g L s.heap (fun z => if z = Str.ofString "hue" then some (.float hv y1) else if z = Str.ofString "colours" then some (.ref Kc) else mR z)) (N : News g L s.heap ((It, oIt) :: six L o1 o2 o3 o4 o5 o6 ((Kc, PySem.W.listOf (ks).toArray nk) :: zz)))
  (rest : ∀ (Tn : Addr) (x4 x5 x6 : Tok) (nk2 : Nat) (zz2 : List (Addr × Obj)) (mR : Str -> Option Value) (h' : Heap) (tk' : Nat) (hz2 : zz2 = q.news p tp nn n tn (ys).toArray nl ((Tn, tupO [.float c4v x4, .float c5v x5, .float c6v x6]) :: rs)) (hr2 : ∀ b ∈ (Tn, tupO [.float c4v x4, .float c5v x5, .float c6v x6]) :: rs, b.1 ≠ q.sp ∧ b.1 ≠ q.d ∧ b.1 ≠ q.l) (hsub : ∀ y ∈ zz2, y = (Tn, tupO [.float c4v x4, .float c5v x5, .float c6v x6]) ∨ y ∈ zz) (nT : @Ne Nat Tn Kc ∧ @Ne Nat Tn It ∧ (@Ne Nat Tn (L + 1)) ∧ (@Ne Nat Tn (L + 1 + 1)) ∧ (@Ne Nat Tn (L + 1 + 1 + 1)) ∧ (@Ne Nat Tn (L + 1 + 1 + 1 + 1)) ∧ (@Ne Nat Tn (L + 1 + 1 + 1 + 1 + 1)) ∧ (@Ne Nat Tn (L + 1 + 1 + 1 + 1 + 1 + 1))) (F : Fr g L h' (fun z => if z = Str.ofString "colours" then some (.ref Kc) else mR z)) (N : News g L h' ((It, oIt) :: six L o1 o2 o3 o4 o5 o6 ((Kc, PySem.W.listOf (ks ++ [Value.ref Tn]).toArray nk2) :: zz2))), Q .next { s with heap := h', toks := tk' }) : wpAny (model rw_xg0057_01.row.prog w) (callerA.deeper (envOfC fd.name fd.scope L fa cd)) (execs ((roundB fd).drop 12) (envOfC fd.name fd.scope L fa cd)) Q (fun e s7 => wpAny (model rw_xg0057_01.row.prog w) (callerA.deeper (envOfC fd.name fd.scope L fa cd)) (leaving (envOfC fd.name fd.scope L fa cd) e) (fun _ s8 => R (.error e) s8) (fun e8 s8 => R (.error e8) s8) s7) s := by
 refine (?f : Cln _) ?p ⟨?q,fun B k => ?r⟩
 case f => exact fun x _ => x
 case q =>
  have key : rw_xg0057_01.row.prog = rw_xg0057_01.row.prog -> (hd.heap_39 w.params).In g -> (hd.heap_39 w.params).lookup 192 = some o -> wpAny (model rw_xg0057_01.row.prog w) (callerA.deeper (envOfC fd.name fd.scope L fa cd)) (execs ((roundB fd).drop 12) (envOfC fd.name fd.scope L fa cd)) Q (fun e s7 => wpAny (model rw_xg0057_01.row.prog w) (callerA.deeper (envOfC fd.name fd.scope L fa cd)) (leaving (envOfC fd.name fd.scope L fa cd) e) (fun _ s8 => R (.error e) s8) (fun e8 s8 => R (.error e8) s8) s7) s := by
   clear KX ho
   k_fill
   intro _ KX ho
   have e9 := ho.symm.trans (show (hd.heap_39 w.params).lookup 192 = some _ from by k_is)
   cases e9
   cases hfd
   simp only [roundB,stmtsOf,bodyAt,forBody]
   dsimp only [List.drop]
   (try k_fold)
   have mx0 := Lx.mem_x hz
   have md0 := Lx.mem_d hz
   have z1 := z.1
   have z2 := z.2.1
   have z3 := z.2.2.1
   have z4 := z.2.2.2.1
   have z5 := z.2.2.2.2.1
   have z6 := z.2.2.2.2.2
   obtain ⟨kz1,kz2,kz3,kz4,kz5,kz6⟩ := kz
   obtain ⟨iz1,iz2,iz3,iz4,iz5,iz6⟩ := iz
   have hy0 := hz
   (k_steps; repeat' ((first | (refine stq_out "compareOp NotEq ref ref" ?_; (k_here; (with_reducible show wpAny _ _ (compareOp CmpOp.NotEq (Value.ref _) (Value.ref _)) _ _ _); k_dflt (refine' ne_tup0 ?k1 ?k2 ?k5 ?_; (case k1 => exact tup_at (by k_asm) (by k_mem)); (case k2 => exact tup_at (by k_asm) (by k_mem)); (case k5 => ktr_units); k_whole))) | fail) <;> k_steps))
   any_goals (exfalso; with_reducible rename List.isEmpty _ = true => e9; simp at e9; done)
   rename Fr _ _ _ _ => F9
   rename News _ _ _ _ => N9
   with_reducible rename It < _ ∧ _ ∧ _ ∧ _ ∧ _ ∧ _ ∧ _ ∧ _ ∧ _ => l7
   obtain ⟨hr8,hy8⟩ := Lx.push hz (tupO [.float c4v u1,.float c5v u2,.float c6v u3]) (ltNe (r8 l7)) hrest
   simp only [List.push_toArray] at N9
   refine' @rest _ _ _ _ _ _ _ _ _ rfl hr8 hy8 ⟨?n1, ?n2, ?n3, ?n4, ?n5, ?n6, ?n7, ?n8⟩ (fr_has F9 (Str.ofString "colours") rfl) (round_end N9 hy8)
   all_goals (first | exact Ne.symm (Nat.ne_of_lt l7.1) | exact Ne.symm (Nat.ne_of_lt l7.2.1) | exact Ne.symm (Nat.ne_of_lt l7.2.2.1) | exact Ne.symm (Nat.ne_of_lt l7.2.2.2.1) | exact Ne.symm (Nat.ne_of_lt l7.2.2.2.2.1) | exact Ne.symm (Nat.ne_of_lt l7.2.2.2.2.2.1) | exact Ne.symm (Nat.ne_of_lt l7.2.2.2.2.2.2.1) | exact Ne.symm (Nat.ne_of_lt l7.2.2.2.2.2.2.2.1))
  exact key rfl KX ho
 case r => delta id stq_it stq_out; exact k
end

example {M : Model} {A : Around} {env : Env} {Q : Flow -> Shared -> Prop} {E : Value -> Shared -> Prop} {s : Shared} (h : Q .next s) : wpAny M A (execs [] env) Q E s := by first | (walk1; exact h) | exact wpAny_execs_nil h

section
local macro_rules | `(tactic| walk_at $s) => if ["compareOp NotEq ref ref"].contains s.getString then `(tactic| refine stq_it $s ?_) else Lean.Macro.throwUnsupported
theorem round5n {w : World} {mg mb : Str -> Option Value} {mean : ExcName -> Option Value} {loose : List Str} {g : Heap} {L fa : Addr} {cd : Value} {o : Obj} {fd : FuncData}
  (ho : (hd.heap_39 w.params).lookup 192 = some o) (hfd : o.data = .func fd) (CH : CodeHd g 146 142) (B : Below callerA g [] g) (KX : (hd.heap_39 w.params).In g) (T : Top topProg loose mean mg mb g) {m : Str -> Option Value} {s : Shared} {Q : Flow -> Shared -> Prop} {R : Result -> Shared -> Prop} {o1 o2 o3 o4 o5 o6 : Obj} {X : Str} {Kc It d : Addr} {oIt : Obj} {A : List Int} {vA : List Value} {nA nk nl : Nat} {q : Lx w mg X} {p n : Int} {tp tn u y1 y2 y3 : Tok} {nn : Nat} {ys ks : List Value} {hv sv vv : UInt64} {zz rs : List (Addr × Obj)} {mR : Str -> Option Value} (c3 : o3.data = .cell (some (.float sv y2))) (c6 : o6.data = .cell (some (.ref q.xl))) (hits : ys.length <= 1000) (hks : ks.length <= 1000) (hz : zz = q.news p tp nn n tn (ys).toArray nl rs) (hrest : ∀ b ∈ rs,b.1 ≠ q.sp ∧ b.1 ≠ q.d ∧ b.1 ≠ q.l) (z : Off6 L (zz)) (kz : (@Ne Nat Kc (L + 1)) ∧ (@Ne Nat Kc (L + 1 + 1)) ∧ (@Ne Nat Kc (L + 1 + 1 + 1)) ∧ (@Ne Nat Kc (L + 1 + 1 + 1 + 1)) ∧ (@Ne Nat Kc (L + 1 + 1 + 1 + 1 + 1)) ∧ (@Ne Nat Kc (L + 1 + 1 + 1 + 1 + 1 + 1))) (iz : (@Ne Nat It (L + 1)) ∧ (@Ne Nat It (L + 1 + 1)) ∧ (@Ne Nat It (L + 1 + 1 + 1)) ∧ (@Ne Nat It (L + 1 + 1 + 1 + 1)) ∧ (@Ne Nat It (L + 1 + 1 + 1 + 1 + 1)) ∧ (@Ne Nat It (L + 1 + 1 + 1 + 1 + 1 + 1))) (ik : @Ne Nat It Kc) (zk : ∀ b ∈ zz,b.1 ≠ Kc) (zi : ∀ b ∈ zz,b.1 ≠ It)
  (mA : (d,PySem.W.listOf (vA).toArray nA) ∈ rs) (iA : IntsAre vA A) (gA : Dig A) (lA1 : 1 <= A.length) (lA5 : A.length <= 5) (hnx : nextF hv sv = some none)
  (F : Fr g L s.heap (fun z => if z = Str.ofString "hue" then some (.float hv y1) else if z = Str.ofString "colours" then some (.ref Kc) else mR z)) (N : News g L s.heap ((It, oIt) :: six L o1 o2 o3 o4 o5 o6 ((Kc, PySem.W.listOf (ks).toArray nk) :: zz)))
  (rest : ∀ (mR : Str -> Option Value) (h' : Heap) (tk' : Nat) (F : Fr g L h' (fun z => if z = Str.ofString "colours" then some (.ref Kc) else mR z)) (N : News g L h' ((It, oIt) :: six L o1 o2 o3 o4 o5 o6 ((Kc, PySem.W.listOf (ks).toArray nk) :: zz))), Q .next { s with heap := h', toks := tk' }) : wpAny (model rw_xg0057_01.row.prog w) (callerA.deeper (envOfC fd.name fd.scope L fa cd)) (execs ((roundB fd).drop 12) (envOfC fd.name fd.scope L fa cd)) Q (fun e s7 => wpAny (model rw_xg0057_01.row.prog w) (callerA.deeper (envOfC fd.name fd.scope L fa cd)) (leaving (envOfC fd.name fd.scope L fa cd) e) (fun _ s8 => R (.error e) s8) (fun e8 s8 => R (.error e8) s8) s7) s := by
 refine (?f : Cln _) ?p ⟨?q,fun B k => ?r⟩
 case f => exact fun x _ => x
 case q =>
  have key : rw_xg0057_01.row.prog = rw_xg0057_01.row.prog -> (hd.heap_39 w.params).In g -> (hd.heap_39 w.params).lookup 192 = some o -> wpAny (model rw_xg0057_01.row.prog w) (callerA.deeper (envOfC fd.name fd.scope L fa cd)) (execs ((roundB fd).drop 12) (envOfC fd.name fd.scope L fa cd)) Q (fun e s7 => wpAny (model rw_xg0057_01.row.prog w) (callerA.deeper (envOfC fd.name fd.scope L fa cd)) (leaving (envOfC fd.name fd.scope L fa cd) e) (fun _ s8 => R (.error e) s8) (fun e8 s8 => R (.error e8) s8) s7) s := by
   clear KX ho
   k_fill
   intro _ KX ho
   have e9 := ho.symm.trans (show (hd.heap_39 w.params).lookup 192 = some _ from by k_is)
   cases e9
   cases hfd
   simp only [roundB,stmtsOf,bodyAt,forBody]
   dsimp only [List.drop]
   (try k_fold)
   have mx0 := Lx.mem_x hz
   have md0 := Lx.mem_d hz
   have z1 := z.1
   have z2 := z.2.1
   have z3 := z.2.2.1
   have z4 := z.2.2.2.1
   have z5 := z.2.2.2.2.1
   have z6 := z.2.2.2.2.2
   obtain ⟨kz1,kz2,kz3,kz4,kz5,kz6⟩ := kz
   obtain ⟨iz1,iz2,iz3,iz4,iz5,iz6⟩ := iz
   have hy0 := hz
   (k_steps; repeat' ((first | (refine stq_out "compareOp NotEq ref ref" ?_; (k_here; (with_reducible show wpAny _ _ (compareOp CmpOp.NotEq (Value.ref _) (Value.ref _)) _ _ _); k_dflt (refine' ne_tup0 ?k1 ?k2 ?k5 ?_; (case k1 => exact tup_at (by k_asm) (by k_mem)); (case k2 => exact tup_at (by k_asm) (by k_mem)); (case k5 => ktr_units); k_whole))) | fail) <;> k_steps))
   rename Fr _ _ _ _ => F9
   rename News _ _ _ _ => N9
   refine' @rest _ _ _ (fr_has F9 (Str.ofString "colours") rfl) (cb_drop N9 ?dr)
   case dr => (walk_at "my sub")
  exact key rfl KX ho
 case r => delta id stq_it stq_out; (conv => zeta); exact k
end

example {M : Model} {A : Around} {env : Env} {Q : Flow -> Shared -> Prop} {E : Value -> Shared -> Prop} {s : Shared} (h : Q .next s) : wpAny M A (execs [] env) Q E s := by first | (walk1; exact h) | exact wpAny_execs_nil h

end

example {M : Model} {A : Around} {env : Env} {Q : Flow -> Shared -> Prop} {E : Value -> Shared -> Prop} {s : Shared} (h : Q .next s) : wpAny M A (execs [] env) Q E s := by first | (walk1; exact h) | exact wpAny_execs_nil h

inductive QEnt (rs : List (Addr × Obj)) : List (List Int) -> List Value -> List Value -> Prop
 | nil : QEnt rs [] [] []
 | cons {A As ys ks T u c1 c2 c3 x1 x2 x3} : colourF A = some (c1,c2,c3) -> (T,tupO [.float c1 x1,.float c2 x2,.float c3 x3]) ∈ rs -> QEnt rs As ys ks -> QEnt rs (A :: As) (.str (hostF A) u :: ys) (.ref T :: ks)
theorem QEnt.mono {a b : List (Addr × Obj)} (h : ∀ p ∈ a,p ∈ b) {As ys ks} (x : QEnt a As ys ks) : QEnt b As ys ks := by
 induction x with
 | nil => exact .nil
 | cons hc hm _ ih => exact .cons hc (h _ hm) ih
theorem QEnt.snoc {rs : List (Addr × Obj)} {As ys ks} (x : QEnt rs As ys ks) {A T u c1 c2 c3 x1 x2 x3} (hc : colourF A = some (c1,c2,c3)) (hm : (T,tupO [.float c1 x1,.float c2 x2,.float c3 x3]) ∈ rs) : QEnt rs (As ++ [A]) (ys ++ [.str (hostF A) u]) (ks ++ [.ref T]) := by
 induction x with
 | nil => exact .cons hc hm .nil
 | cons hc' hm' _ ih => exact .cons hc' hm' ih
theorem QEnt.len {rs : List (Addr × Obj)} {As ys ks} (x : QEnt rs As ys ks) : ys.length = As.length ∧ ks.length = As.length := by
 induction x with
 | nil => exact ⟨rfl,rfl⟩
 | cons _ _ _ ih => simp [ih.1,ih.2]
theorem QEnt.inv {rs : List (Addr × Obj)} {A : List Int} {As : List (List Int)} {ys ks : List Value} (x : QEnt rs (A :: As) ys ks) {G : List Value -> List Value -> Prop}
  (k : ∀ (ys ks : List Value) (T : Addr) (u : Tok) (c1 c2 c3 : UInt64) (x1 x2 x3 : Tok),colourF A = some (c1,c2,c3) -> (T,tupO [.float c1 x1,.float c2 x2,.float c3 x3]) ∈ rs -> QEnt rs As ys ks -> G (.str (hostF A) u :: ys) (.ref T :: ks)) : G ys ks := by
 cases x with
 | cons hc hm hq => exact k _ _ _ _ _ _ _ _ _ _ hc hm hq
noncomputable def WordWays (A : List Int) (hv sv : UInt64) : Prop := ∀ G : Prop,
 (∀ (b e : Nat) (Bl : List Int) (c4 c5 c6 : UInt64), srchF (hostF A) = some (some (b, e)) -> hdnF (hostF A) = false -> thirdF hv sv = true -> reachF (hostF A) = hostF A -> Txt.slice (hostF A) none (some (b : Int)) ++ Txt.slice (hostF A) (some (e : Int)) none = hostF Bl -> hostF Bl ≠ Str.ofString "" -> nxtF A = some Bl -> nextF hv sv = some (some (c4, c5, c6)) -> colourF Bl = some (c4, c5, c6) -> G) ->
 (∀ (Bl : List Int) (c4 c5 c6 : UInt64), srchF (hostF A) = some none -> hdnF (hostF A) = true -> thirdF hv sv = false -> reachF (hostF A) ≠ hostF A -> Txt.slice (reachF (hostF A)) (some 1) none = hostF Bl -> hostF Bl ≠ Str.ofString "" -> nxtF A = some Bl -> nextF hv sv = some (some (c4, c5, c6)) -> colourF Bl = some (c4, c5, c6) -> G) ->
 (srchF (hostF A) = some none -> hdnF (hostF A) = true -> thirdF hv sv = false -> reachF (hostF A) = hostF A -> nxtF A = none -> nextF hv sv = some none -> G) -> G
noncomputable def WordOk (A : List Int) : Prop :=
 ∀ (c1 c2 c3 : UInt64),colourF A = some (c1,c2,c3) -> ∀ G : Prop,(∀ (hv sv vv : UInt64),Dig A -> 1 <= A.length -> A.length <= 5 -> rgbF c1 c2 c3 = some (hv,sv,vv) ->
  Float64.cmpInt (Float64.mul (Float64.mul hv (Float64.ofInt 2)) (Float64.ofInt (4^(A.length : Int).toNat))) (2 * arcF A + 1) = some Ordering.eq -> Float64.cmpInt (Float64.mul sv (Float64.ofInt (2^(A.length : Int).toNat))) 1 = some Ordering.eq -> Float64.cmpInt vv 1 = some Ordering.eq ->
  (srchF (hostF A)).isSome = true -> (srchF (Txt.lower (hostF A))).isSome = true -> (srchF (Txt.slice (Txt.lower (reachF (hostF A))) (some 1) none)).isSome = true -> (reachF (hostF A)).length <= 15 -> dmF (hostF A) (reachF (hostF A)) = true -> WordWays A hv sv -> G) -> G
theorem push_off6 {L : Addr} {x : Addr × Obj} {z z2 : List (Addr × Obj)} (h : ∀ y ∈ z2,y = x ∨ y ∈ z) (hx : Ne6 x.1 L) (hz : Off6 L z) : Off6 L z2 :=
 ⟨push_off h hx.1 hz.1,push_off h hx.2.1 hz.2.1,push_off h hx.2.2.1 hz.2.2.1,push_off h hx.2.2.2.1 hz.2.2.2.1,push_off h hx.2.2.2.2.1 hz.2.2.2.2.1,push_off h hx.2.2.2.2.2 hz.2.2.2.2.2⟩
theorem off6_tr {L : Addr} {z z2 : List (Addr × Obj)} (t : ∀ a : Addr,(∀ y ∈ z,y.1 ≠ a) -> ∀ y ∈ z2,y.1 ≠ a) (h : Off6 L z) : Off6 L z2 := ⟨t _ h.1,t _ h.2.1,t _ h.2.2.1,t _ h.2.2.2.1,t _ h.2.2.2.2.1,t _ h.2.2.2.2.2⟩
theorem round_turn {w : World} {mg mb : Str -> Option Value} {mean : ExcName -> Option Value} {loose : List Str} {g : Heap} {L fa : Addr} {cd : Value} {o : Obj} {fd : FuncData}
  (ho : (hd.heap_39 w.params).lookup 192 = some o) (hfd : o.data = .func fd) (CH : CodeHd g 146 142) (B : Below callerA g [] g) (KX : (hd.heap_39 w.params).In g) (T : Top topProg loose mean mg mb g) {m : Str -> Option Value} {s : Shared} {Q : Flow -> Shared -> Prop} {R : Result -> Shared -> Prop} {o1 o2 o3 o4 o5 o6 : Obj} {X : Str} {Kc It d : Addr} {oIt : Obj} {A : List Int} {vA : List Value} {nA nk nl : Nat} {q : Lx w mg X} {p n : Int} {tp tn : Tok} {nn : Nat} {As : List (List Int)} {ys ks : List Value} {zz rs : List (Addr × Obj)} {mR : Str -> Option Value} {w3 : Option Value} (c3 : o3.data = .cell w3) (c6 : o6.data = .cell (some (.ref q.xl))) (hq : QEnt rs (A :: As) ys ks) (hl5 : As.length <= 5) (hz : zz = q.news p tp nn n tn (ys).toArray nl rs) (hrest : ∀ b ∈ rs,b.1 ≠ q.sp ∧ b.1 ≠ q.d ∧ b.1 ≠ q.l) (z : Off6 L (zz)) (kz : (@Ne Nat Kc (L + 1)) ∧ (@Ne Nat Kc (L + 1 + 1)) ∧ (@Ne Nat Kc (L + 1 + 1 + 1)) ∧ (@Ne Nat Kc (L + 1 + 1 + 1 + 1)) ∧ (@Ne Nat Kc (L + 1 + 1 + 1 + 1 + 1)) ∧ (@Ne Nat Kc (L + 1 + 1 + 1 + 1 + 1 + 1))) (iz : (@Ne Nat It (L + 1)) ∧ (@Ne Nat It (L + 1 + 1)) ∧ (@Ne Nat It (L + 1 + 1 + 1)) ∧ (@Ne Nat It (L + 1 + 1 + 1 + 1)) ∧ (@Ne Nat It (L + 1 + 1 + 1 + 1 + 1)) ∧ (@Ne Nat It (L + 1 + 1 + 1 + 1 + 1 + 1))) (ik : @Ne Nat It Kc) (zk : ∀ b ∈ zz,b.1 ≠ Kc) (zi : ∀ b ∈ zz,b.1 ≠ It)
  (mA : (d,PySem.W.listOf (vA).toArray nA) ∈ rs) (iA : IntsAre vA A) (ok : WordOk A)
  (F : Fr g L s.heap (fun z => if z = Str.ofString "labels" then some (.ref d) else if z = Str.ofString "colours" then some (.ref Kc) else mR z)) (N : News g L s.heap ((It, oIt) :: six L o1 o2 o3 o4 o5 o6 ((Kc, PySem.W.listOf (ks).toArray nk) :: zz)))
  (rest : ∀ (o3' : Obj) (w3' : Option Value) (ys2 ks2 : List Value) (nl2 nk2 : Nat) (zz2 rs2 : List (Addr × Obj)) (mR : Str -> Option Value) (h' : Heap) (tk' : Nat) (c3 : o3'.data = .cell w3') (hz2 : zz2 = q.news p tp nn n tn (ys2).toArray nl2 rs2) (hr2 : ∀ b ∈ rs2, b.1 ≠ q.sp ∧ b.1 ≠ q.d ∧ b.1 ≠ q.l) (sub : ∀ y ∈ rs, y ∈ rs2) (hq2 : QEnt rs2 (As ++ nxL A) ys2 ks2) (z2 : Off6 L (zz2)) (zk2 : ∀ b ∈ zz2, b.1 ≠ Kc) (zi2 : ∀ b ∈ zz2, b.1 ≠ It) (F : Fr g L h' (fun z => if z = Str.ofString "colours" then some (.ref Kc) else mR z)) (N : News g L h' ((It, oIt) :: six L o1 o2 o3' o4 o5 o6 ((Kc, PySem.W.listOf (ks2).toArray nk2) :: zz2))), Q .next { s with heap := h', toks := tk' }) : wpAny (model rw_xg0057_01.row.prog w) (callerA.deeper (envOfC fd.name fd.scope L fa cd)) (execs ((roundB fd).drop 0) (envOfC fd.name fd.scope L fa cd)) Q (fun e s7 => wpAny (model rw_xg0057_01.row.prog w) (callerA.deeper (envOfC fd.name fd.scope L fa cd)) (leaving (envOfC fd.name fd.scope L fa cd) e) (fun _ s8 => R (.error e) s8) (fun e8 s8 => R (.error e8) s8) s7) s := by
 refine (?f : Cln _) ?p ⟨?q,fun B k => ?r⟩
 case f => exact fun x _ => x
 case q =>
  revert hz N
  apply QEnt.inv hq
  intro ys ks Tt u c1v c2v c3v x1 x2 x3 hcA hm hq' hz N
  refine ok c1v c2v c3v hcA _ fun hv sv vv gA lA1 lA5 hrgb e1 e2 e3 d0 d1 d2 lu hdm cs => ?_
  have hl := hq'.len
  have hits : ys.length <= 1000 := by lia
  have hks : ks.length <= 1000 := by lia
  refine round1 (m := fun _ => none) ho hfd CH B KX T c3 c6 hits hks hz hrest z kz iz ik zk zi mA iA gA lA1 lA5 hm hrgb F N ?_
  intro o3' y1 y2 y3 zz1 nl1 nk1 mR h1 tk1 c3 hz1 tr1 F N
  have z1 := off6_tr tr1 z
  have zk1 := tr1 _ zk
  have zi1 := tr1 _ zi
  refine round2 (m := fun _ => none) ho hfd CH B KX T c3 c6 hits hks hz1 hrest z1 kz iz ik zk1 zi1 mA iA gA lA1 lA5 e1 e2 e3 F N ?_
  intro mR h2 tk2 F N
  refine cs _ (fun b9 e9 Bl c4 c5 c6' hsr hhd hth hup hbe hbn hnxt hnx hcol => ?_) (fun Bl c4 c5 c6' hsr hhd hth hup hbe hbn hnxt hnx hcol => ?_) (fun hsr hhd hth hup hnxt hnx => ?_)
  ·skip
   refine round3a (m := fun _ => none) ho hfd CH B KX T c3 c6 hits hks hz1 hrest z1 kz iz ik zk1 zi1 mA iA gA lA1 lA5 d0 d1 d2 lu hdm hsr hhd hth hup F N ?_
   intro y4 D9 T9 n9 li9 mR h3 tk3 o7 o8 F N
   refine round4a (m := fun _ => none) (vv := vv) (y3 := y3) ho hfd CH B KX T c3 c6 hits hks hz1 hrest z1 kz iz ik zk1 zi1 mA iA gA lA1 lA5 lu o7 o8 hbe hbn F N ?_
   intro t4 zz2 nl2 mR h4 tk4 hz2 tr2 F N
   have z2 := off6_tr tr2 z1
   refine round5s (m := fun _ => none) (vv := vv) (y3 := y3) (u := u) ho hfd CH B KX T c3 c6 (by rw [List.length_append]; have := hq'.len.1; simp only [List.length_singleton]; lia) hks hz2 hrest z2 kz iz ik (tr2 _ zk1) (tr2 _ zi1) mA iA gA lA1 lA5 hnx F N ?_
   intro Tn x4 x5 x6 nk2 zz3 mR h5 tk5 hz3 hr3 hsub nT F N
   refine @rest o3' _ _ _ _ _ zz3 _ _ _ _ c3 hz3 hr3 (fun y hy => .tail _ hy) ?_ (push_off6 hsub nT.2.2 z2) (push_off hsub nT.1 (tr2 _ zk1)) (push_off hsub nT.2.1 (tr2 _ zi1)) F N
   show QEnt _ (As ++ (nxtF A).toList) _ _
   rw [hnxt]
   exact QEnt.snoc (hq'.mono fun y hy => .tail _ hy) hcol (.head _)
  ·skip
   refine round3n (m := fun _ => none) ho hfd CH B KX T c3 c6 hits hks hz1 hrest z1 kz iz ik zk1 zi1 mA iA gA lA1 lA5 d0 d1 d2 lu hdm hsr hhd hth F N ?_
   intro y4 mR h3 tk3 F N
   refine round4b (m := fun _ => none) (vv := vv) (y3 := y3) ho hfd CH B KX T c3 c6 hits hks hz1 hrest z1 kz iz ik zk1 zi1 mA iA gA lA1 lA5 lu hup hbe hbn F N ?_
   intro t4 zz2 nl2 mR h4 tk4 hz2 tr2 F N
   have z2 := off6_tr tr2 z1
   refine round5s (m := fun _ => none) (vv := vv) (y3 := y3) (u := u) ho hfd CH B KX T c3 c6 (by rw [List.length_append]; have := hq'.len.1; simp only [List.length_singleton]; lia) hks hz2 hrest z2 kz iz ik (tr2 _ zk1) (tr2 _ zi1) mA iA gA lA1 lA5 hnx F N ?_
   intro Tn x4 x5 x6 nk2 zz3 mR h5 tk5 hz3 hr3 hsub nT F N
   refine @rest o3' _ _ _ _ _ zz3 _ _ _ _ c3 hz3 hr3 (fun y hy => .tail _ hy) ?_ (push_off6 hsub nT.2.2 z2) (push_off hsub nT.1 (tr2 _ zk1)) (push_off hsub nT.2.1 (tr2 _ zi1)) F N
   show QEnt _ (As ++ (nxtF A).toList) _ _
   rw [hnxt]
   exact QEnt.snoc (hq'.mono fun y hy => .tail _ hy) hcol (.head _)
  ·refine round3n (m := fun _ => none) ho hfd CH B KX T c3 c6 hits hks hz1 hrest z1 kz iz ik zk1 zi1 mA iA gA lA1 lA5 d0 d1 d2 lu hdm hsr hhd hth F N ?_
   intro y4 mR h3 tk3 F N
   refine round4c (m := fun _ => none) (vv := vv) (y3 := y3) ho hfd CH B KX T c3 c6 hits hks hz1 hrest z1 kz iz ik zk1 zi1 mA iA gA lA1 lA5 lu hup F N ?_
   intro mR h4 tk4 F N
   refine round5n (m := fun _ => none) (vv := vv) (y3 := y3) (u := u) ho hfd CH B KX T c3 c6 hits hks hz1 hrest z1 kz iz ik zk1 zi1 mA iA gA lA1 lA5 hnx F N ?_
   intro mR h5 tk5 F N
   refine @rest o3' _ _ _ _ _ zz1 _ _ _ _ c3 hz1 hrest (fun y hy => hy) ?_ z1 zk1 zi1 F N
   show QEnt _ (As ++ (nxtF A).toList) _ _
   rw [hnxt]
   simpa using hq'
 case r => delta id stq_it stq_out; exact k
section
local macro_rules | `(tactic| walk_at $s) => if ["call builtin:len","exec For Name ListComp cons nil"].contains s.getString then `(tactic| refine stq_it $s ?_) else Lean.Macro.throwUnsupported
theorem hold_of3 {P : Prop} (h : Hold P) : P := h
theorem qAt_len (q : List (List Int)) : ∀ i,(qAt q i).length <= q.length
 | 0 => Nat.le_refl _
 | i + 1 => by
  have ih := qAt_len q i
  show (match qAt q i with | [] => [] | A :: t => t ++ nxL A).length <= _
  cases e : qAt q i with
  | nil => exact Nat.zero_le _
  | cons A t =>
   rw [e,List.length_cons] at ih
   show (t ++ (nxtF A).toList).length <= _
   rw [List.length_append]
   have : (nxtF A).toList.length <= 1 := by cases nxtF A <;> simp
   lia
theorem hold_in {P : Prop} (h : P) : Hold P := h
theorem hold_post {M : Model} {A : Around} {α : Type} {t : Sem α} {Q : α -> Shared -> Prop} {E : Value -> Shared -> Prop} {s : Shared} (h : wpAny M A t (fun v s' => Hold (Q v s')) E s) : wpAny M A t Q E s := h
theorem hold_post2 {M : Model} {A : Around} {t : Sem Bool} {u : Sem Value} {Q : Value -> Shared -> Prop} {P : Shared -> Prop} {E : Value -> Shared -> Prop} {s : Shared} (h : wpAny M A t (fun ok s₃ => if ok = true then wpAny M A u (fun v s' => Hold (Q v s')) E s₃ else Hold (P s₃)) E s) : wpAny M A t (fun ok s₃ => if ok = true then wpAny M A u Q E s₃ else P s₃) E s := h
set_option hygiene false in
local macro_rules | `(tactic| k_mem) => `(tactic| first | assumption | exact Lx.mem_r (by with_reducible assumption) (by with_reducible assumption) | exact List.mem_cons_self .. | (refine List.mem_cons_of_mem _ ?_; k_mem))
theorem six_it {L It Kc : Addr} {o1 o2 o3 o4 o5 o6 oK : Obj} {zz : List (Addr × Obj)} (off : ∀ b ∈ six L o1 o2 o3 o4 o5 o6 ((Kc,oK) :: zz),b.1 ≠ It) {G : Prop}
  (k : Ne6 It L -> @Ne Nat It Kc -> (∀ b ∈ zz,b.1 ≠ It) -> (∀ (o3' oK' : Obj) (zz' : List (Addr × Obj)),(∀ b ∈ zz',b.1 ≠ It) -> ∀ b ∈ six L o1 o2 o3' o4 o5 o6 ((Kc,oK') :: zz'),b.1 ≠ It) -> G) : G :=
 have h1 := List.forall_mem_cons.mp off
 have h2 := List.forall_mem_cons.mp h1.2
 have h3 := List.forall_mem_cons.mp h2.2
 have h4 := List.forall_mem_cons.mp h3.2
 have h5 := List.forall_mem_cons.mp h4.2
 have h6 := List.forall_mem_cons.mp h5.2
 have h7 := List.forall_mem_cons.mp h6.2
 k ⟨Ne.symm h6.1,Ne.symm h5.1,Ne.symm h4.1,Ne.symm h3.1,Ne.symm h2.1,Ne.symm h1.1⟩ (Ne.symm h7.1) h7.2 fun _ _ _ hz => List.forall_mem_cons.mpr ⟨h1.1,List.forall_mem_cons.mpr ⟨h2.1,List.forall_mem_cons.mpr ⟨h3.1,List.forall_mem_cons.mpr ⟨h4.1,List.forall_mem_cons.mpr ⟨h5.1,List.forall_mem_cons.mpr ⟨h6.1,List.forall_mem_cons.mpr ⟨h7.1,hz⟩⟩⟩⟩⟩⟩⟩
theorem push_sub {L Kc : Addr} {o1 o2 o3 o4 o5 o6 oK : Obj} {x : Addr × Obj} {zn zz : List (Addr × Obj)} (hy : ∀ y ∈ zn,y = x ∨ y ∈ zz) : ∀ y ∈ six L o1 o2 o3 o4 o5 o6 ((Kc,oK) :: zn),y ∈ x :: six L o1 o2 o3 o4 o5 o6 ((Kc,oK) :: zz) :=
 List.forall_mem_cons.mpr ⟨.tail _ (.head _),List.forall_mem_cons.mpr ⟨.tail _ (.tail _ (.head _)),List.forall_mem_cons.mpr ⟨.tail _ (.tail _ (.tail _ (.head _))),List.forall_mem_cons.mpr ⟨.tail _ (.tail _ (.tail _ (.tail _ (.head _)))),List.forall_mem_cons.mpr ⟨.tail _ (.tail _ (.tail _ (.tail _ (.tail _ (.head _))))),List.forall_mem_cons.mpr ⟨.tail _ (.tail _ (.tail _ (.tail _ (.tail _ (.tail _ (.head _)))))),List.forall_mem_cons.mpr ⟨.tail _ (.tail _ (.tail _ (.tail _ (.tail _ (.tail _ (.tail _ (.head _))))))),fun y h => (hy y h).elim (fun e => e ▸ .head _) fun h => .tail _ (.tail _ (.tail _ (.tail _ (.tail _ (.tail _ (.tail _ (.tail _ h)))))))⟩⟩⟩⟩⟩⟩⟩
theorem off_push {L D : Addr} {o1 o2 o3 o4 o5 o6 : Obj} {z : List (Addr × Obj)} (h : ∀ b ∈ six L o1 o2 o3 o4 o5 o6 z,b.1 ≠ D) : Ne6 D L ∧ ∀ b ∈ z,b.1 ≠ D :=
 have h1 := List.forall_mem_cons.mp h
 have h2 := List.forall_mem_cons.mp h1.2
 have h3 := List.forall_mem_cons.mp h2.2
 have h4 := List.forall_mem_cons.mp h3.2
 have h5 := List.forall_mem_cons.mp h4.2
 have h6 := List.forall_mem_cons.mp h5.2
 ⟨⟨Ne.symm h6.1,Ne.symm h5.1,Ne.symm h4.1,Ne.symm h3.1,Ne.symm h2.1,Ne.symm h1.1⟩,h6.2⟩
noncomputable def Rd9 {w : World} {mg : Str -> Option Value} {X : Str} (q : Lx w mg X) (L Kc : Addr) (o1 o2 o4 o5 o6 : Obj) (p n : Int) (tp tn : Tok) (nn : Nat) (base : List (Addr × Obj)) (As : List (List Int)) (i : Nat) (m' : Str -> Option Value) (news' : List (Addr × Obj)) : Prop :=
 ∀ G : List (Addr × Obj) -> Prop, (∀ (o3' : Obj) (w3' : Option Value) (ys2 ks2 : List Value) (nl2 nk2 : Nat) (zz2 rs2 : List (Addr × Obj)), o3'.data = .cell w3' -> zz2 = q.news p tp nn n tn ys2.toArray nl2 rs2 -> (∀ b ∈ rs2, b.1 ≠ q.sp ∧ b.1 ≠ q.d ∧ b.1 ≠ q.l) -> (∀ y ∈ base, y ∈ rs2) -> QEnt rs2 (qAt As i) ys2 ks2 -> Off6 L zz2 -> (∀ b ∈ zz2, b.1 ≠ Kc) -> m' (Str.ofString "colours") = some (.ref Kc) -> G (six L o1 o2 o3' o4 o5 o6 ((Kc, PySem.W.listOf ks2.toArray nk2) :: zz2))) -> G news'
theorem turn5 {rs : List (Addr × Obj)} {R0 R1 R2 R3 R4 : Addr} {d0 d1 d2 d3 d4 : List Addr} {e0 e1 e2 e3 e4 : Nat} (mr0 : (R0,PySem.W.listOf (d0.map Value.ref).toArray e0) ∈ rs) (mr1 : (R1,PySem.W.listOf (d1.map Value.ref).toArray e1) ∈ rs) (mr2 : (R2,PySem.W.listOf (d2.map Value.ref).toArray e2) ∈ rs) (mr3 : (R3,PySem.W.listOf (d3.map Value.ref).toArray e3) ∈ rs) (mr4 : (R4,PySem.W.listOf (d4.map Value.ref).toArray e4) ∈ rs)
  (hd5 : d0.length <= 5 ∧ d1.length <= 5 ∧ d2.length <= 5 ∧ d3.length <= 5 ∧ d4.length <= 5) {i j : Nat} {v : Value} (hv : [Value.ref R0,.ref R1,.ref R2,.ref R3,.ref R4][j]? = some v) {G : Value -> Prop}
  (k : ∀ (Rr : Addr) (ds : List Addr) (e : Nat),(Rr,PySem.W.listOf (ds.map Value.ref).toArray e) ∈ rs -> pickOf [d0,d1,d2,d3,d4] i j = (ds.map Value.ref)[i]? -> ds.length <= 5 -> G (.ref Rr)) : G v := by
 rcases j with _ | _ | _ | _ | _ | j
 ·cases hv; exact k _ _ _ mr0 rfl hd5.1
 ·cases hv; exact k _ _ _ mr1 rfl hd5.2.1
 ·cases hv; exact k _ _ _ mr2 rfl hd5.2.2.1
 ·cases hv; exact k _ _ _ mr3 rfl hd5.2.2.2.1
 ·cases hv; exact k _ _ _ mr4 rfl hd5.2.2.2.2
 ·cases hv
theorem side5 {rs : List (Addr × Obj)} {d0 d1 d2 d3 d4 : List Addr} {A0 A1 A2 A3 A4 : List (List Int)} (ra0 : RowsAre rs d0 A0) (ra1 : RowsAre rs d1 A1) (ra2 : RowsAre rs d2 A2) (ra3 : RowsAre rs d3 A3) (ra4 : RowsAre rs d4 A4) : ∀ (j : Nat) ds r,[d0,d1,d2,d3,d4][j]? = some ds -> [A0,A1,A2,A3,A4][j]? = some r -> RowsAre rs ds r := by
 intro j ds r h1 h2
 rcases j with _ | _ | _ | _ | _ | j
 ·cases h1; cases h2; exact ra0
 ·cases h1; cases h2; exact ra1
 ·cases h1; cases h2; exact ra2
 ·cases h1; cases h2; exact ra3
 ·cases h1; cases h2; exact ra4
 ·cases h1
theorem law9 {w : World} {mg mb : Str -> Option Value} {mean : ExcName -> Option Value} {loose : List Str} {g : Heap} {L fa : Addr} {cd : Value} {o : Obj} {fd : FuncData}
  (ho : (hd.heap_39 w.params).lookup 192 = some o) (hfd : o.data = .func fd) (CH : CodeHd g 146 142) (B : Below callerA g [] g) (KX : (hd.heap_39 w.params).In g) (T : Top topProg loose mean mg mb g) {m : Str -> Option Value} {s : Shared} {Q : Flow -> Shared -> Prop} {R : Result -> Shared -> Prop} {o1 o2 o3 o4 o5 o6 : Obj} {v1 v2 v3 v4 v5 v6 : Option Value} (c1 : o1.data = .cell v1) (c2 : o2.data = .cell v2) (c3 : o3.data = .cell v3) (c4 : o4.data = .cell v4) (c5 : o5.data = .cell v5) (c6 : o6.data = .cell v6) {X : Str} {H Kc Rw R0 R1 R2 R3 R4 T0 T1 T2 T3 T4 : Addr} {d0 d1 d2 d3 d4 : List Addr} {e0 e1 e2 e3 e4 : Nat} {A0 A1 A2 A3 A4 : List Int} {cr0 cg0 cb0 cr1 cg1 cb1 cr2 cg2 cb2 cr3 cg3 cb3 cr4 cg4 cb4 : UInt64} {tx0 ty0 tw0 tx1 ty1 tw1 tx2 ty2 tw2 tx3 ty3 tw3 tx4 ty4 tw4 : Tok} {q : Lx w mg X} {p n : Int} {tp tn u0 u1 u2 u3 u4 : Tok} {nn nl : Nat} {zz rs : List (Addr × Obj)} {mR : Str -> Option Value}
  (hz : zz = q.news p tp nn n tn #[.str (hostF A0) u0,.str (hostF A1) u1,.str (hostF A2) u2,.str (hostF A3) u3,.str (hostF A4) u4] nl rs) (hrest : ∀ b ∈ rs,b.1 ≠ q.sp ∧ b.1 ≠ q.d ∧ b.1 ≠ q.l) (z : Off6 L (zz)) (kz : (@Ne Nat Kc (L + 1)) ∧ (@Ne Nat Kc (L + 1 + 1)) ∧ (@Ne Nat Kc (L + 1 + 1 + 1)) ∧ (@Ne Nat Kc (L + 1 + 1 + 1 + 1)) ∧ (@Ne Nat Kc (L + 1 + 1 + 1 + 1 + 1)) ∧ (@Ne Nat Kc (L + 1 + 1 + 1 + 1 + 1 + 1))) (zk : ∀ b ∈ zz,b.1 ≠ Kc) (mt0 : (T0,tupO [.float cr0 tx0,.float cg0 ty0,.float cb0 tw0]) ∈ rs) (hc0 : colourF A0 = some (cr0,cg0,cb0)) (mt1 : (T1,tupO [.float cr1 tx1,.float cg1 ty1,.float cb1 tw1]) ∈ rs) (hc1 : colourF A1 = some (cr1,cg1,cb1)) (mt2 : (T2,tupO [.float cr2 tx2,.float cg2 ty2,.float cb2 tw2]) ∈ rs) (hc2 : colourF A2 = some (cr2,cg2,cb2)) (mt3 : (T3,tupO [.float cr3 tx3,.float cg3 ty3,.float cb3 tw3]) ∈ rs) (hc3 : colourF A3 = some (cr3,cg3,cb3)) (mt4 : (T4,tupO [.float cr4 tx4,.float cg4 ty4,.float cb4 tw4]) ∈ rs) (hc4 : colourF A4 = some (cr4,cg4,cb4)) (mRw : (Rw,LCg.lst [.ref R0,.ref R1,.ref R2,.ref R3,.ref R4]) ∈ rs) (mr0 : (R0,PySem.W.listOf (d0.map Value.ref).toArray e0) ∈ rs) (ra0 : RowsAre rs d0 (rowsF A0)) (mr1 : (R1,PySem.W.listOf (d1.map Value.ref).toArray e1) ∈ rs) (ra1 : RowsAre rs d1 (rowsF A1)) (mr2 : (R2,PySem.W.listOf (d2.map Value.ref).toArray e2) ∈ rs) (ra2 : RowsAre rs d2 (rowsF A2)) (mr3 : (R3,PySem.W.listOf (d3.map Value.ref).toArray e3) ∈ rs) (ra3 : RowsAre rs d3 (rowsF A3)) (mr4 : (R4,PySem.W.listOf (d4.map Value.ref).toArray e4) ∈ rs) (ra4 : RowsAre rs d4 (rowsF A4)) (s6 : v6 = some (.ref q.xl)) (s1 : v1 = some (.ref Rw))
  (hrow : ∀ r ∈ [rowsF A0,rowsF A1,rowsF A2,rowsF A3,rowsF A4],RowOk r) (hq0 : roundS [rowsF A0,rowsF A1,rowsF A2,rowsF A3,rowsF A4] 0 = [A0,A1,A2,A3,A4]) (hq5 : roundS [rowsF A0,rowsF A1,rowsF A2,rowsF A3,rowsF A4] 5 = []) (hW : ∀ A ∈ seqS [rowsF A0,rowsF A1,rowsF A2,rowsF A3,rowsF A4] 5,WordOk A) (hd5 : d0.length <= 5 ∧ d1.length <= 5 ∧ d2.length <= 5 ∧ d3.length <= 5 ∧ d4.length <= 5)
  (F : Fr g L s.heap (fun z => if z = Str.ofString "colours" then some (.ref Kc) else if z = Str.ofString "hosts" then some (.ref H) else mR z)) (N : News g L s.heap (six L o1 o2 o3 o4 o5 o6 ((Kc, LCg.lst [.ref T0, .ref T1, .ref T2, .ref T3, .ref T4]) :: zz)))
  (rest : ∀ (o3' : Obj) (w3' : Option Value) (nl2 : Nat) (kO : Obj) (zz2 rs2 : List (Addr × Obj)) (mR : Str -> Option Value) (h' : Heap) (tk' : Nat) (c3 : o3'.data = .cell w3') (hz2 : zz2 = q.news p tp nn n tn #[] nl2 rs2) (hr2 : ∀ b ∈ rs2, b.1 ≠ q.sp ∧ b.1 ≠ q.d ∧ b.1 ≠ q.l) (z2 : Off6 L (zz2)) (zk2 : ∀ b ∈ zz2, b.1 ≠ Kc) (sub : ∀ y ∈ rs, y ∈ rs2) (F : Fr g L h' (fun z => if z = Str.ofString "colours" then some (.ref Kc) else mR z)) (N : News g L h' (six L o1 o2 o3' o4 o5 o6 ((Kc, kO) :: zz2))), wpAny (model rw_xg0057_01.row.prog w) (callerA.deeper (envOfC fd.name fd.scope L fa cd)) (execs ((stmtsOf fd).drop 14) (envOfC fd.name fd.scope L fa cd)) Q (fun e s7 => wpAny (model rw_xg0057_01.row.prog w) (callerA.deeper (envOfC fd.name fd.scope L fa cd)) (leaving (envOfC fd.name fd.scope L fa cd) e) (fun _ s8 => R (.error e) s8) (fun e8 s8 => R (.error e8) s8) s7) { s with heap := h', toks := tk' }) : wpAny (model rw_xg0057_01.row.prog w) (callerA.deeper (envOfC fd.name fd.scope L fa cd)) (execs ((stmtsOf fd).drop 13) (envOfC fd.name fd.scope L fa cd)) Q (fun e s7 => wpAny (model rw_xg0057_01.row.prog w) (callerA.deeper (envOfC fd.name fd.scope L fa cd)) (leaving (envOfC fd.name fd.scope L fa cd) e) (fun _ s8 => R (.error e) s8) (fun e8 s8 => R (.error e8) s8) s7) s := by
 refine (?f : Cln _) ?p ⟨?q,fun B k => ?r⟩
 case f => exact fun x _ => x
 case q =>
  subst s6 s1
  have key : rw_xg0057_01.row.prog = rw_xg0057_01.row.prog -> (hd.heap_39 w.params).In g -> (hd.heap_39 w.params).lookup 192 = some o -> wpAny (model rw_xg0057_01.row.prog w) (callerA.deeper (envOfC fd.name fd.scope L fa cd)) (execs ((stmtsOf fd).drop 13) (envOfC fd.name fd.scope L fa cd)) Q (fun e s7 => wpAny (model rw_xg0057_01.row.prog w) (callerA.deeper (envOfC fd.name fd.scope L fa cd)) (leaving (envOfC fd.name fd.scope L fa cd) e) (fun _ s8 => R (.error e) s8) (fun e8 s8 => R (.error e8) s8) s7) s := by
   clear KX ho
   k_fill
   intro _ KX ho
   have e9 := ho.symm.trans (show (hd.heap_39 w.params).lookup 192 = some _ from by k_is)
   cases e9
   cases hfd
   dsimp only [stmtsOf,List.drop]
   (try k_fold)
   refine cut_at 1 ?_
   dsimp only [List.take,List.drop]
   (k_steps; repeat' ((first | (refine stq_out "exec For Name ListComp cons nil" ?_; (k_here; k_dflt (refine for_start ?_); refine hold_of3 ?_)) | (refine stq_out "call builtin:len" ?_; (k_here; (with_reducible show wpAny _ _ (call (Value.builtin "len") [Value.ref _]) _ _ _); k_dflt (refine' kun_lenL ?k1 ?k2 ?k3 ?_; (case k1 => exact News.isList (by k_asm) (by k_mem)); (case k2 => assumption); (case k3 => lia); k_whole))) | fail) <;> k_steps))
   show wpAny _ _ _ _ _ _
   rename Fr _ _ _ _ => F9
   rename News _ _ _ _ => N9
   refine two_G (pickOf [d0, d1, d2, d3, d4]) (h₀ := g) (L := L) (m := fun z => if z = Str.ofString "colours" then some (.ref Kc) else if z = Str.ofString "hosts" then some (.ref H) else mR z) (news := six L o1 o2 o3 o4 o5 o6 ((Kc, LCg.lst [.ref T0, .ref T1, .ref T2, .ref T3, .ref T4]) :: zz)) (ax := Rw) (lo := LCg.lst [.ref R0, .ref R1, .ref R2, .ref R3, .ref R4]) (its := [.ref R0, .ref R1, .ref R2, .ref R3, .ref R4]) (kk := 5) (n := 5) (by with_unfolding_all rfl) (by decide) (by rfl) (by decide) (by rfl) (by rfl) (by decide) (by rfl) (by k_mem) rfl rfl (by exact Nat.le_of_ble_eq_true rfl) ?src0 ?src1 ?turn ?fin
   case src0 =>
    refine hold_post ?_
    (k_steps; repeat' ((first | (refine stq_out "exec For Name ListComp cons nil" ?_; (k_here; k_dflt (refine for_start ?_); refine hold_of3 ?_)) | (refine stq_out "call builtin:len" ?_; (k_here; (with_reducible show wpAny _ _ (call (Value.builtin "len") [Value.ref _]) _ _ _); k_dflt (refine' kun_lenL ?k1 ?k2 ?k3 ?_; (case k1 => exact News.isList (by k_asm) (by k_mem)); (case k2 => assumption); (case k3 => lia); k_whole))) | fail) <;> k_steps))
    refine hold_in ?_
    rename Fr _ _ _ _ => F8
    rename News _ _ _ _ => N8
    exact ⟨_,_,_,_,_,rfl,fun _ k => k _ _ rfl F8 N8,by assumption,by decide,by decide⟩
   case src1 =>
    intro i t J0 oJ0 C oC D oD m₂ h tk E' hi hC hx F N
    refine hold_post ?_
    (k_steps; repeat' ((first | (refine stq_out "exec For Name ListComp cons nil" ?_; (k_here; k_dflt (refine for_start ?_); refine hold_of3 ?_)) | (refine stq_out "call builtin:len" ?_; (k_here; (with_reducible show wpAny _ _ (call (Value.builtin "len") [Value.ref _]) _ _ _); k_dflt (refine' kun_lenL ?k1 ?k2 ?k3 ?_; (case k1 => exact News.isList (by k_asm) (by k_mem)); (case k2 => assumption); (case k3 => lia); k_whole))) | fail) <;> k_steps))
    refine hold_in ?_
    exact ⟨rfl,fun _ k => k _ _ rfl F N⟩
   case turn =>
    intro i j t v J1 oJ1 J0 oJ0 C oC D oD m₂ h tk E' hi hv
    apply turn5 mr0 mr1 mr2 mr3 mr4 hd5 hv
    intro Rr ds e hR hp h5 hC hx hy F N
    rw [hp]
    refine hold_post2 (testsOf_one ?_)
    have hsz : (((ds.map Value.ref).toArray.size : Nat) : Int) = (ds.length : Int) := by simp
    by_cases hlt : i < ds.length
    ·obtain ⟨y,hy9⟩ : ∃ y,(ds.map Value.ref)[i]? = some y := ⟨.ref ds[i],by simp [hlt]⟩
     have hy8 : (ds.map Value.ref)[((i : Int)).toNat]? = some y := by rw [Int.toNat_natCast]; exact hy9
     (k_steps; repeat' ((first | (refine stq_out "exec For Name ListComp cons nil" ?_; (k_here; k_dflt (refine for_start ?_); refine hold_of3 ?_)) | (refine stq_out "call builtin:len" ?_; (k_here; (with_reducible show wpAny _ _ (call (Value.builtin "len") [Value.ref _]) _ _ _); k_dflt (refine' kun_lenL ?k1 ?k2 ?k3 ?_; (case k1 => exact News.isList (by k_asm) (by k_mem)); (case k2 => assumption); (case k3 => lia); k_whole))) | fail) <;> k_steps))
     exact hold_in ⟨hy9,fun _ k => k _ _ rfl F N⟩
    ·have hn : (ds.map Value.ref)[i]? = none := by rw [List.getElem?_eq_none_iff]; simp; lia
     (k_steps; repeat' ((first | (refine stq_out "exec For Name ListComp cons nil" ?_; (k_here; k_dflt (refine for_start ?_); refine hold_of3 ?_)) | (refine stq_out "call builtin:len" ?_; (k_here; (with_reducible show wpAny _ _ (call (Value.builtin "len") [Value.ref _]) _ _ _); k_dflt (refine' kun_lenL ?k1 ?k2 ?k3 ?_; (case k1 => exact News.isList (by k_asm) (by k_mem)); (case k2 => assumption); (case k3 => lia); k_whole))) | fail) <;> k_steps))
     exact hold_in ⟨hn,fun _ k => k _ _ rfl F N⟩
   case fin =>
    intro D h1 tk1 F1 N0 offD
    obtain ⟨ysq,hysq⟩ : ∃ ysq,ysq = allPick (pickOf [d0,d1,d2,d3,d4]) 5 5 := ⟨_,rfl⟩
    have N1 : News g L h1 ((D,LCg.lst ysq) :: six L o1 o2 o3 o4 o5 o6 ((Kc,LCg.lst [.ref T0,.ref T1,.ref T2,.ref T3,.ref T4]) :: zz)) := by rw [hysq]; exact N0
    clear N0
    have side : Side (RowAt rs) ysq (seqS [rowsF A0,rowsF A1,rowsF A2,rowsF A3,rowsF A4] 5) := by
     rw [hysq]
     exact all_side (dss := [d0,d1,d2,d3,d4]) rfl (side5 ra0 ra1 ra2 ra3 ra4) 5
    clear hysq
    have oD := off_push offD
    have hp1 := Lx.push hz (LCg.lst ysq) (fun b hb => oD.2 b (.tail _ hb)) hrest
    have z1 := push_off6 hp1.2 oD.1 z
    have zk1 := push_off hp1.2 (Ne.symm (oD.2 (Kc,LCg.lst [.ref T0,.ref T1,.ref T2,.ref T3,.ref T4]) (.head _))) zk
    have N2 := cb_drop N1 (push_sub hp1.2)
    refine for_list (its := ysq.toArray) (kk := ysq.length) (lo := LCg.lst ysq) (by rfl) (by first | passes_own | with_unfolding_all passes_own) (by rfl) (by rfl) F1 N2 (.tail _ (.tail _ (.tail _ (.tail _ (.tail _ (.tail _ (.tail _ (Lx.mem_r rfl (.head _))))))))) rfl rfl
     (Rd9 q L Kc o1 o2 o4 o5 o6 p n tp tn nn ((D,LCg.lst ysq) :: rs) [A0,A1,A2,A3,A4])
     (fun _ k => k o3 v3 _ _ nl 5 _ _ c3 rfl hp1.1 (fun y hy => hy) (.cons hc0 (.tail _ mt0) (.cons hc1 (.tail _ mt1) (.cons hc2 (.tail _ mt2) (.cons hc3 (.tail _ mt3) (.cons hc4 (.tail _ mt4) .nil))))) z1 zk1 rfl) ?step ?fin
    case step =>
     intro i m' news' h tk v It oIt hv hI
     apply hI
     intro o3' w3' ys2 ks2 nl2 nk2 zz2 rs2 c3' hz2 hr2 sub2 hq2 z2 zk2 k1 hl F N off
     refine six_it off fun n6 nK zi offN => ?_
     obtain ⟨A,hA,dd,vs,nv,rfl,hm,hi⟩ := side.get (by simpa using hv)
     have hi' : i < (seqS [rowsF A0,rowsF A1,rowsF A2,rowsF A3,rowsF A4] 5).length := (List.getElem?_eq_some_iff.mp hA).1
     have hd := (seq_heads hrow 5).2 i hi'
     rw [hq0,hA] at hd
     obtain ⟨t,ht1,ht2⟩ := q_turn hd
     have tl : t.length <= 5 := by
      have := qAt_len [A0,A1,A2,A3,A4] i
      rw [ht1,List.length_cons] at this
      exact Nat.le_of_succ_le this
     rw [ht1] at hq2
     have ok := hW A (List.mem_of_getElem? hA)
     refine round_turn (m := fun _ => none) (vA := vs.toList) (nA := nv) ho rfl CH B KX T c3' c6 hq2 tl hz2 hr2 z2 kz n6 nK zk2 zi (by rw [Array.toArray_toList]; exact sub2 _ (.tail _ hm)) hi ok (fr_has (fr_has (fr_env F) (Str.ofString "colours") ((if_neg (by decide)).trans k1)) (Str.ofString "labels") rfl) N ?_
     intro o3'' w3'' ys3 ks3 nl3 nk3 zz3 rs3 mR h' tk' c3'' hz3 hr3 sub3 hq3 z3 zk3 zi3 F N
     refine LEnd.intro F N ?_ (.tail _ (.tail _ (.tail _ (.tail _ (.tail _ (.tail _ (.tail _ (Lx.mem_r hz3 (sub3 _ (sub2 _ (.head _))))))))))) (fun _ k => k o3'' w3'' ys3 ks3 nl3 nk3 zz3 rs3 c3'' hz3 hr3 (fun y hy => sub3 y (sub2 y hy)) (ht2 ▸ hq3) z3 zk3 (if_pos rfl))
     exact offN _ _ _ zi3
    case fin =>
     intro m' news' h tk hI
     apply hI
     intro o3' w3' ys2 ks2 nl2 nk2 zz2 rs2 c3' hz2 hr2 sub2 hq2 z2 zk2 k1 F N
     have hend : qAt [A0,A1,A2,A3,A4] ysq.toArray.size = [] := by
      have := (seq_heads hrow 5).1
      rw [hq0,hq5] at this
      rw [List.size_toArray,side.len]; exact this
     rw [hend] at hq2
     cases hq2
     dsimp only
     (k_steps; repeat' ((first | (refine stq_out "exec For Name ListComp cons nil" ?_; (k_here; k_dflt (refine for_start ?_); refine hold_of3 ?_)) | (refine stq_out "call builtin:len" ?_; (k_here; (with_reducible show wpAny _ _ (call (Value.builtin "len") [Value.ref _]) _ _ _); k_dflt (refine' kun_lenL ?k1 ?k2 ?k3 ?_; (case k1 => exact News.isList (by k_asm) (by k_mem)); (case k2 => assumption); (case k3 => lia); k_whole))) | fail) <;> k_steps))
     (try dsimp only)
     show wpAny _ _ _ _ _ _
     exact @rest o3' w3' nl2 _ zz2 rs2 _ _ _ c3' hz2 hr2 z2 zk2 (fun y hy => sub2 y (.tail _ hy)) (fr_has (fr_env F) (Str.ofString "colours") k1) (news_env N)
  exact key rfl KX ho
 case r => delta id stq_it stq_out; exact k
end

example {M : Model} {A : Around} {env : Env} {Q : Flow -> Shared -> Prop} {E : Value -> Shared -> Prop} {s : Shared} (h : Q .next s) : wpAny M A (execs [] env) Q E s := by first | (walk1; exact h) | exact wpAny_execs_nil h

end

example {M : Model} {A : Around} {env : Env} {Q : Flow -> Shared -> Prop} {E : Value -> Shared -> Prop} {s : Shared} (h : Q .next s) : wpAny M A (execs [] env) Q E s := by first | (walk1; exact h) | exact wpAny_execs_nil h

theorem host_chars15 : (all15.all fun A => (hostF A).cps.toList.all (fun c => [97,98,55,48,99,46].contains c) && !(hostF A).cps.toList.isEmpty) = true := by decide +kernel
theorem plain_six {c : Nat} (h : [97,98,55,48,99,46].contains c = true) : PlainC c := by
 have : c = 97 ∨ c = 98 ∨ c = 55 ∨ c = 48 ∨ c = 99 ∨ c = 46 := by simpa using h
 unfold PlainC
 rcases this with rfl | rfl | rfl | rfl | rfl | rfl <;> (refine ⟨?_,?_,?_,?_,?_⟩ <;> decide +kernel)
theorem host_plain {A : List Int} (h : Dig A) (h1 : 1 <= A.length) (h5 : A.length <= 5) : (∀ b ∈ (hostF A).cps.toList,PlainC b) ∧ (hostF A).cps.toList ≠ [] := by
 have := List.all_eq_true.mp host_chars15 A (mem15 h h1 h5)
 rw [Bool.and_eq_true] at this
 refine ⟨fun b hb => plain_six (List.all_eq_true.mp this.1 b hb),fun e => ?_⟩
 rw [e] at this
 exact absurd this.2 (by decide)
theorem wrF_list (A : List Int) (n : Int) (hn : 0 <= n ∧ n < 9216) : (wrF A n).cps.toList = wrL (n.fdiv 3072) (hostF A).cps.toList ∧ (n.fdiv 3072 = 0 ∨ n.fdiv 3072 = 1 ∨ n.fdiv 3072 = 2) := by
 refine (?f : Cln _) ?p ⟨?q,fun B k => ?r⟩
 case f => exact fun x _ => x
 case q =>
  have m := manner_ok hn
  have : n.fdiv 3072 = 0 ∨ n.fdiv 3072 = 1 ∨ n.fdiv 3072 = 2 := by lia
  refine ⟨?_,this⟩
  unfold wrF wrL
  rcases this with e | e | e <;> rw [e]
  ·rw [written0]; rfl
  ·rw [written1]; rfl
  ·rw [written2]; rfl
 case r => delta id stq_it stq_out; exact k
theorem sep_list : (sepF 0).cps.toList = [32] ∧ (sepF 1).cps.toList = [10] ∧ (sepF 2).cps.toList = [9] ∧ (sepF 3).cps.toList = [13] ∧ (sepF 4).cps.toList = [10] := by decide +kernel
theorem text_list (A0 A1 A2 A3 A4 : List Int) (n0 n1 n2 n3 n4 : Int) : (textF A0 A1 A2 A3 A4 n0 n1 n2 n3 n4).cps.toList = (wrF A0 n0).cps.toList ++ 32 :: ((wrF A1 n1).cps.toList ++ 10 :: ((wrF A2 n2).cps.toList ++ 9 :: ((wrF A3 n3).cps.toList ++ 13 :: ((wrF A4 n4).cps.toList ++ 10 :: [])))) := by
 refine (?f : Cln _) ?p ⟨?q,fun B k => ?r⟩
 case f => exact fun x _ => x
 case q =>
  obtain ⟨s0,s1,s2,s3,s4⟩ := sep_list
  unfold textF
  simp only [Str.cps_append,Array.toList_append,s0,s1,s2,s3,s4]
  have e : (Str.ofString "").cps.toList = [] := by decide
  rw [e]
  simp
 case r => delta id stq_it stq_out; exact k
theorem ws_list : WsC 32 ∧ WsC 10 ∧ WsC 9 ∧ WsC 13 ∧ lineUp (one 32) = 0 ∧ lineUp (one 10) = 1 ∧ lineUp (one 9) = 0 ∧ lineUp (one 13) = 0 := by
 unfold WsC
 refine ⟨⟨?_,?_,?_,?_⟩,⟨?_,?_,?_,?_⟩,⟨?_,?_,?_,?_⟩,⟨?_,?_,?_,?_⟩,?_,?_,?_,?_⟩ <;> decide +kernel
theorem str_list (x : Str) : (⟨x.cps.toList.toArray⟩ : Str) = x := by apply str_ext; simp
theorem scan_all {A0 A1 A2 A3 A4 : List Int} {n0 n1 n2 n3 n4 : Int} (b0 : 0 <= n0 ∧ n0 < 9216) (b1 : 0 <= n1 ∧ n1 < 9216) (b2 : 0 <= n2 ∧ n2 < 9216) (b3 : 0 <= n3 ∧ n3 < 9216) (b4 : 0 <= n4 ∧ n4 < 9216) (a0 : LongL A0) (a1 : LongL A1) (a2 : ShortL A2) (a3 : ShortL A3) (a4 : ShortL A4) {X : Str} (hX : X = textF A0 A1 A2 A3 A4 n0 n1 n2 n3 n4) {G : Prop}
  (k : ∀ (p1 p2 p3 p4 p5 p6 p7 : Nat) (m1 m2 m3 m4 m5 : Int), scanO X 100 0 1 = some (hostF A0, p1, m1) -> scanO X 100 p1 m1 = some (hostF A1, p2, m2) -> scanO X 100 p2 m2 = some (hostF A2, p3, m3) -> scanO X 100 p3 m3 = some (hostF A3, p4, m4) -> scanO X 100 p4 m4 = some (hostF A4, p5, m5) -> scanO X 100 p5 m5 = some (Str.ofString "", p6, 3) -> scanO X 100 p6 3 = some (Str.ofString "", p7, 3) ->
   (p1 <= 1000 ∧ p2 <= 1000 ∧ p3 <= 1000 ∧ p4 <= 1000 ∧ p5 <= 1000) -> p6 <= 1000 -> ((0 <= m1 ∧ m1 <= 20) ∧ (0 <= m2 ∧ m2 <= 20) ∧ (0 <= m3 ∧ m3 <= 20) ∧ (0 <= m4 ∧ m4 <= 20) ∧ (0 <= m5 ∧ m5 <= 20)) -> G) : G := by
 refine (?f : Cln _) ?p ⟨?q,fun B k => ?r⟩
 case f => exact fun x _ => x
 case q =>
  subst hX
  have L5 : ∀ {A},ShortL A -> A.length <= 5 := fun h => Nat.le_trans h.1.2 (by decide)
  have L1 : ∀ {A},LongL A -> 1 <= A.length := fun h => by have := h.1; lia
  have f : ∀ {A},Dig A -> 1 <= A.length -> A.length <= 5 -> (hostF A).cps.toList.length <= 14 := fun h h1 h5 => by have := host_len h h1 h5; simpa [Str.length] using this
  obtain ⟨q0,y0⟩ := wrF_list A0 n0 b0; obtain ⟨q1,y1⟩ := wrF_list A1 n1 b1; obtain ⟨q2,y2⟩ := wrF_list A2 n2 b2; obtain ⟨q3,y3⟩ := wrF_list A3 n3 b3; obtain ⟨q4,y4⟩ := wrF_list A4 n4 b4
  obtain ⟨w32,w10,w9,w13,l32,l10,l9,l13⟩ := ws_list
  have h := text_list A0 A1 A2 A3 A4 n0 n1 n2 n3 n4
  rw [q0,q1,q2,q3,q4] at h
  obtain ⟨z0,g0⟩ := host_plain a0.2 (L1 a0) a0.1.2; obtain ⟨z1,g1⟩ := host_plain a1.2 (L1 a1) a1.1.2; obtain ⟨z2,g2⟩ := host_plain a2.2 a2.1.1 (L5 a2); obtain ⟨z3,g3⟩ := host_plain a3.2 a3.1.1 (L5 a3); obtain ⟨z4,g4⟩ := host_plain a4.2 a4.1.1 (L5 a4)
  have P0 : Pend (textF A0 A1 A2 A3 A4 n0 n1 n2 n3 n4) 0 1 _ 1 := .inl ⟨(List.drop_zero).trans h,rfl⟩
  obtain ⟨p1,m1,e1,P1,c1,d1,d1'⟩ := tok_step y0 z0 g0 (f a0.2 (L1 a0) a0.1.2) w32 P0
  obtain ⟨p2,m2,e2,P2,c2,d2,d2'⟩ := tok_step y1 z1 g1 (f a1.2 (L1 a1) a1.1.2) w10 P1
  obtain ⟨p3,m3,e3,P3,c3,d3,d3'⟩ := tok_step y2 z2 g2 (f a2.2 a2.1.1 (L5 a2)) w9 P2
  obtain ⟨p4,m4,e4,P4,c4,d4,d4'⟩ := tok_step y3 z3 g3 (f a3.2 a3.1.1 (L5 a3)) w13 P3
  obtain ⟨p5,m5,e5,P5,c5,d5,d5'⟩ := tok_step y4 z4 g4 (f a4.2 a4.1.1 (L5 a4)) w10 P4
  have eN : (1 : Int) + lineUp (one 32) + lineUp (one 10) + lineUp (one 9) + lineUp (one 13) + lineUp (one 10) = 3 := by rw [l32,l10,l9,l13]; rfl
  rw [eN] at P5
  obtain ⟨p6,e6,P6,c6⟩ := end_step P5
  obtain ⟨p7,e7,P7,c7⟩ := end_step P6
  rw [str_list] at e1 e2 e3 e4 e5
  exact k p1 p2 p3 p4 p5 p6 p7 m1 m2 m3 m4 m5 e1 e2 e3 e4 e5 e6 e7 ⟨by lia,by lia,by lia,by lia,by lia⟩ (by lia) ⟨by lia,by lia,by lia,by lia,by lia⟩
 case r => (try delta id); (conv => zeta); exact k
theorem case_six {x : Str} (hx : ∀ c ∈ x.cps.toList,c = 97 ∨ c = 98 ∨ c = 55 ∨ c = 48 ∨ c = 99 ∨ c = 46) : Txt.lower (Txt.upper x) = x ∧ Txt.lower x = x := by
 refine (?f : Cln _) ?p ⟨?q,fun B k => ?r⟩
 case f => exact fun x _ => x
 case q =>
  have lt : ∀ c ∈ x.cps.toList,c < 128 := fun c hc => by have := hx c hc; lia
  have u6 : ∀ c,(c = 97 ∨ c = 98 ∨ c = 55 ∨ c = 48 ∨ c = 99 ∨ c = 46) -> up1 c < 128 ∧ lo1 (up1 c) = c ∧ lo1 c = c := by
   intro c hc
   rcases hc with rfl | rfl | rfl | rfl | rfl | rfl <;> decide
  constructor
  ·rw [upper_ascii lt,lower_ascii (by
    intro c hc
    simp only [Array.toList_map,List.mem_map] at hc
    obtain ⟨d,hd,rfl⟩ := hc
    exact (u6 d (hx d hd)).1)]
   apply str_ext
   apply Array.toList_inj.mp
   simp only [Array.toList_map,List.map_map]
   conv => rhs; rw [← List.map_id x.cps.toList]
   exact List.map_congr_left fun c hc => (u6 c (hx c hc)).2.1
  ·rw [lower_ascii lt]
   apply str_ext
   apply Array.toList_inj.mp
   simp only [Array.toList_map]
   conv => rhs; rw [← List.map_id x.cps.toList]
   exact List.map_congr_left fun c hc => (u6 c (hx c hc)).2.2
 case r => delta id stq_it stq_out; exact k
section
open Sre
noncomputable def stepN : Nat -> Sre.M -> Sre.M
 | 0,m => m
 | n + 1,m => stepN n m.step
theorem stepN_add (a b : Nat) : ∀ m,stepN (a + b) m = stepN b (stepN a m) := by
 induction a with
 | zero => intro m; rw [Nat.zero_add]; rfl
 | succ a ih => intro m; rw [Nat.succ_add]; exact ih m.step
noncomputable def St (text : Array Nat) (lim s : Nat) (first : Bool) (seen : Sre.Seen) : Sre.M :=
 { code := reCode,text := text,lim := lim,start := s,lastStart := lim,wholeText := false,mustAdvance := false,pc := 9,pos := s,handed := s,outermost := first,marks := #[],lastmark := -1,lastindex := -1,loops := #[],inner := none,
   frames := [{ wait := .nextStart,pc := 9,pos := s,outermost := first }],weight := 1,answer := none,seen := seen,outcome := none }
theorem st_begin (text : Array Nat) (lim : Nat) (h : 2 <= lim) : ∃ seen,Sre.forSearch reCode text 0 0 lim false = St text lim 0 true seen := by
 refine (?f : Cln _) ?p ⟨?q,fun B k => ?r⟩
 case f => exact fun x _ => x
 case q =>
  unfold Sre.forSearch
  have h0 : (decide (0 > lim) || decide (lim - 0 < (header reCode).1)) = false := by
   have : (header reCode).1 = 2 := rfl
   rw [this]; simp; omega
  simp only []
  rw [if_neg (by simpa using h0)]
  exact ⟨_,rfl⟩
 case r => delta id stq_it stq_out; exact k
variable {text : Array Nat} {lim s : Nat} {first : Bool} {seen : Sre.Seen}
theorem lit_no (h : s ≥ lim) : (St text lim s first seen).step = { St text lim s first (seen.add 16) with answer := some false } := by
 show (if s ≥ lim then _ else _) = _
 rw [if_pos h]
 rfl
theorem lit_yes (h : ¬ s ≥ lim) : (St text lim s first seen).step = match text.getD s 0 == 46 with | false => { St text lim s first (seen.add 16) with answer := some false } | true => { St text lim s first (seen.add 16) with pc := 11,pos := s + 1 } := by
 refine (?f : Cln _) ?p ⟨?q,fun B k => ?r⟩
 case f => exact fun x _ => x
 case q =>
  show (if s ≥ lim then _ else _) = _
  rw [if_neg h]
  have e : accepts reCode 9 (text.getD s 0) (seen.add 16) = .ok (text.getD s 0 == 46,seen.add 16) := rfl
  show (match accepts reCode 9 (text.getD s 0) (seen.add 16) with | .error why => _ | .ok (false,seen) => _ | .ok (true,seen) => _) = _
  rw [e]
  cases text.getD s 0 == 46 <;> rfl
 case r => (try delta id); (conv => zeta); exact k
theorem no_step (hs : s < lim) : M.step { St text lim s first seen with answer := some false } = St text lim (s + 1) false seen := by
 show (if s < lim then _ else _) = _
 rw [if_pos hs]
 rfl
theorem st_plain (hs : s < lim) (hc : (text.getD s 0 == 46) = false) : ∃ seen',stepN 2 (St text lim s first seen) = St text lim (s + 1) false seen' := by
 refine ⟨seen.add 16,?_⟩
 show (St text lim s first seen).step.step = _
 rw [lit_yes (by omega),hc]
 exact no_step hs
theorem st_end (hs : lim <= s) : (stepN 3 (St text lim s first seen)).outcome = some .failed := by
 show (St text lim s first seen).step.step.step.outcome = _
 rw [lit_no hs]
 have e : M.step { St text lim s first (seen.add 16) with answer := some false } = { St text lim s first (seen.add 16) with answer := some false,frames := [],weight := 0 } := by
  show (if s < lim then _ else _) = _
  rw [if_neg (by lia)]
  rfl
 rw [e]
 rfl
noncomputable abbrev Dt (text : Array Nat) (lim s : Nat) (first : Bool) (seen : Sre.Seen) : Sre.M := { St text lim s first seen with pc := 11,pos := s + 1 }
theorem st_dot (hs : s < lim) (hc : (text.getD s 0 == 46) = true) : ∃ seen',(St text lim s first seen).step = Dt text lim s first seen' := by
 refine ⟨seen.add 16,?_⟩
 rw [lit_yes (by omega),hc]
theorem set_step (c : Nat) : ∃ seen',accepts reCode 15 c seen = .ok (Sre.isDigit c,seen') := by
 have e : accepts reCode 15 c seen = (match (Except.ok (Sre.isDigit c != false) : Except String Bool) with
  | .error e => .error e
  | .ok yes => if yes then .ok (true,(((seen.add 8).add 55))) else .ok (false,((((seen.add 8).add 55)).add 0))) := rfl
 rw [e]
 cases Sre.isDigit c
 ·exact ⟨_,rfl⟩
 ·exact ⟨_,rfl⟩
theorem run_stop {n p f : Nat} (h : Sre.isDigit (text.getD p 0) = false) : ∃ seen',run reCode text 15 (n + 1) p f seen = .ok (f,seen') := by
 obtain ⟨seen',e⟩ := set_step (seen := seen) (text.getD p 0)
 refine ⟨seen',?_⟩
 show (accepts reCode 15 (text.getD p 0) seen >>= _) = _
 rw [e,h]
 rfl
theorem run_more {n p f : Nat} (h : Sre.isDigit (text.getD p 0) = true) : ∃ seen',run reCode text 15 (n + 1) p f seen = run reCode text 15 n (p + 1) (f + 1) seen' := by
 obtain ⟨seen',e⟩ := set_step (seen := seen) (text.getD p 0)
 refine ⟨seen',?_⟩
 show (accepts reCode 15 (text.getD p 0) seen >>= _) = _
 rw [e,h]
 rfl
noncomputable abbrev Gt (text : Array Nat) (lim s k c : Nat) (first : Bool) (seen : Sre.Seen) : Sre.M :=
 { St text lim s first seen with frames := [{ wait := .giveBack,pc := 11,pos := s + 1 + k,outermost := first,count := c },{ wait := .nextStart,pc := 9,pos := s,outermost := first }],weight := 2,pc := 21,pos := s + 1 + k,handed := s + 1 + k }
theorem rep_none (h : lim <= s + 1) : (Dt text lim s first seen).step = { Dt text lim s first (seen.add 24) with answer := some false } := by
 show (if ((1 : Nat) : Int) > (lim : Int) - ((s + 1 : Nat) : Int) then _ else _) = _
 rw [if_pos (by lia)]
 rfl
theorem rep_run {n : Nat} {seen' : Sre.Seen} (h : s + 1 < lim) (hl : lim <= 1000) (hr : run reCode text 15 (lim - (s + 1)) (s + 1) 0 ((seen.add 24).add 13) = .ok (n,seen')) :
  (Dt text lim s first seen).step = if n < 1 then { Dt text lim s first seen' with answer := some false } else Gt text lim s n n first seen' := by
 refine (?f : Cln _) ?p ⟨?q,fun B k => ?r⟩
 case f => exact fun x _ => x
 case q =>
  show (if ((1 : Nat) : Int) > (lim : Int) - ((s + 1 : Nat) : Int) then _ else _) = _
  rw [if_neg (by lia)]
  have e : min 4294967295 ((lim : Int) - ((s + 1 : Nat) : Int)).toNat = lim - (s + 1) := by lia
  show (match run reCode text 15 (min 4294967295 ((lim : Int) - ((s + 1 : Nat) : Int)).toNat) (s + 1) 0 ((seen.add 24).add 13) with | .error why => _ | .ok (n,seen) => _) = _
  rw [e,hr]
  show (if n < 1 then _ else _) = _
  by_cases hn : n < 1
  ·rw [if_pos hn,if_pos hn]; rfl
  ·rw [if_neg hn,if_neg hn]; rfl
 case r => delta id stq_it stq_out; exact k
theorem at_yes {k c : Nat} (h : s + 1 + k = lim) : ∃ m,stepN 5 (Gt text lim s k c first seen) = m ∧ m.outcome = some .matched ∧ m.start = s ∧ m.handed = lim := by
 refine (?f : Cln _) ?p ⟨?q,fun B k => ?r⟩
 case f => exact fun x _ => x
 case q =>
  refine ⟨_,rfl,?_⟩
  have e : (s + 1 + k == lim || (s + 1 + k + 1 == lim && text.getD (s + 1 + k) 0 == 10)) = true := by rw [beq_iff_eq.mpr h,Bool.true_or]
  have e1 : (Gt text lim s k c first seen).step = { Gt text lim s k c first ((seen.add 6).add 48) with pc := 23 } := by
   show (if (s + 1 + k == lim || (s + 1 + k + 1 == lim && text.getD (s + 1 + k) 0 == 10)) = true then _ else _) = _
   rw [if_pos e]
   rfl
  have e2 : M.step { Gt text lim s k c first ((seen.add 6).add 48) with pc := 23 } = { Gt text lim s k c first (((seen.add 6).add 48).add 1) with pc := 23,answer := some true } := by
   cases first <;> rfl
  show M.outcome (stepN 4 (Gt text lim s k c first seen).step) = _ ∧ M.start (stepN 4 (Gt text lim s k c first seen).step) = _ ∧ M.handed (stepN 4 (Gt text lim s k c first seen).step) = _
  rw [e1]
  show M.outcome (stepN 3 (M.step { Gt text lim s k c first ((seen.add 6).add 48) with pc := 23 })) = _ ∧ M.start (stepN 3 (M.step { Gt text lim s k c first ((seen.add 6).add 48) with pc := 23 })) = _ ∧ M.handed (stepN 3 (M.step { Gt text lim s k c first ((seen.add 6).add 48) with pc := 23 })) = _
  rw [e2]
  exact ⟨rfl,rfl,h⟩
 case r => delta id stq_it stq_out; exact k
theorem at_no {k c : Nat} (h : s + 1 + k ≠ lim) (hn : (text.getD (s + 1 + k) 0 == 10) = false) : (Gt text lim s k c first seen).step = { Gt text lim s k c first ((seen.add 6).add 48) with answer := some false } := by
 refine (?f : Cln _) ?p ⟨?q,fun B k => ?r⟩
 case f => exact fun x _ => x
 case q =>
  have e : (s + 1 + k == lim || (s + 1 + k + 1 == lim && text.getD (s + 1 + k) 0 == 10)) = false := by rw [beq_eq_false_iff_ne.mpr h,hn,Bool.and_false,Bool.or_false]
  show (if (s + 1 + k == lim || (s + 1 + k + 1 == lim && text.getD (s + 1 + k) 0 == 10)) = true then _ else _) = _
  rw [if_neg (by rw [e]; decide)]
  rfl
 case r => delta id stq_it stq_out; exact k
theorem back_two {k : Nat} : M.step { Gt text lim s (k + 1) 2 first seen with answer := some false } = Gt text lim s k 1 first seen := rfl
theorem back_one {k : Nat} (hs : s < lim) : M.step (M.step { Gt text lim s k 1 first seen with answer := some false }) = St text lim (s + 1) false seen := by
 show (if s < lim then _ else _) = _
 rw [if_pos hs]
 rfl
theorem dt_no (hs : s < lim) : M.step { Dt text lim s first seen with answer := some false } = St text lim (s + 1) false seen := by
 show (if s < lim then _ else _) = _
 rw [if_pos hs]
 rfl
theorem st_dot0 (hs : s < lim) (hl : lim <= 1000) (hc : (text.getD s 0 == 46) = true) (hd : s + 1 < lim -> Sre.isDigit (text.getD (s + 1) 0) = false) : ∃ seen',stepN 3 (St text lim s first seen) = St text lim (s + 1) false seen' := by
 refine (?f : Cln _) ?p ⟨?q,fun B k => ?r⟩
 case f => exact fun x _ => x
 case q =>
  obtain ⟨seen1,e1⟩ := st_dot (first := first) (seen := seen) hs hc
  by_cases h : s + 1 < lim
  ·obtain ⟨n,hn⟩ : ∃ n,lim - (s + 1) = n + 1 := ⟨lim - (s + 1) - 1,by lia⟩
   obtain ⟨seen2,e2⟩ := run_stop (n := n) (p := s + 1) (f := 0) (seen := (seen1.add 24).add 13) (hd h)
   refine ⟨seen2,?_⟩
   show M.step (M.step (M.step (St text lim s first seen))) = _
   rw [e1,rep_run h hl (by rw [hn]; exact e2),if_pos (by decide)]
   exact dt_no hs
  ·refine ⟨seen1.add 24,?_⟩
   show M.step (M.step (M.step (St text lim s first seen))) = _
   rw [e1,rep_none (by lia)]
   exact dt_no hs
 case r => delta id stq_it stq_out; exact k
theorem st_dot2 (hl : lim <= 1000) (hc : (text.getD s 0 == 46) = true) (h1 : Sre.isDigit (text.getD (s + 1) 0) = true) (h2 : Sre.isDigit (text.getD (s + 1 + 1) 0) = true) (he : s + 3 = lim) :
  ∃ m,stepN 7 (St text lim s first seen) = m ∧ m.outcome = some .matched ∧ m.start = s ∧ m.handed = lim := by
 obtain ⟨seen1,e1⟩ := st_dot (first := first) (seen := seen) (lim := lim) (by lia) hc
 obtain ⟨seen2,e2⟩ := run_more (n := 1) (p := s + 1) (f := 0) (seen := (seen1.add 24).add 13) h1
 obtain ⟨seen3,e3⟩ := run_more (n := 0) (p := s + 1 + 1) (f := 1) (seen := seen2) h2
 have er : run reCode text 15 (lim - (s + 1)) (s + 1) 0 ((seen1.add 24).add 13) = .ok (2,seen3) := by
  rw [show lim - (s + 1) = 1 + 1 by lia,e2]
  exact e3
 have e4 := rep_run (first := first) (by lia) hl er
 rw [if_neg (by decide)] at e4
 obtain ⟨m,e5,r⟩ := at_yes (text := text) (c := 2) (first := first) (seen := seen3) (show s + 1 + 2 = lim by lia)
 refine ⟨m,?_,r⟩
 show stepN 5 (M.step (M.step (St text lim s first seen))) = _
 rw [e1,e4]
 exact e5
theorem st_dot3 (hl : lim <= 1000) (hc : (text.getD s 0 == 46) = true) (h1 : Sre.isDigit (text.getD (s + 1) 0) = true) (h2 : Sre.isDigit (text.getD (s + 1 + 1) 0) = true) (h3 : Sre.isDigit (text.getD (s + 1 + 1 + 1) 0) = false) (he : s + 3 < lim) (n2 : (text.getD (s + 1 + 1) 0 == 10) = false) (n3 : (text.getD (s + 1 + 1 + 1) 0 == 10) = false) :
  ∃ seen',stepN 7 (St text lim s first seen) = St text lim (s + 1) false seen' := by
 refine (?f : Cln _) ?p ⟨?q,fun B k => ?r⟩
 case f => exact fun x _ => x
 case q =>
  obtain ⟨seen1,e1⟩ := st_dot (first := first) (seen := seen) (lim := lim) (by lia) hc
  obtain ⟨n,hn⟩ : ∃ n,lim - (s + 1) = n + 1 + 1 + 1 := ⟨lim - s - 4,by lia⟩
  obtain ⟨seen2,e2⟩ := run_more (n := n + 1 + 1) (p := s + 1) (f := 0) (seen := (seen1.add 24).add 13) h1
  obtain ⟨seen3,e3⟩ := run_more (n := n + 1) (p := s + 1 + 1) (f := 1) (seen := seen2) h2
  obtain ⟨seen4,e3'⟩ := run_stop (n := n) (p := s + 1 + 1 + 1) (f := 2) (seen := seen3) h3
  have er : run reCode text 15 (lim - (s + 1)) (s + 1) 0 ((seen1.add 24).add 13) = .ok (2,seen4) := by
   rw [hn,e2,e3]
   exact e3'
  have e4 := rep_run (first := first) (by lia) hl er
  rw [if_neg (by decide)] at e4
  refine ⟨(((seen4.add 6).add 48).add 6).add 48,?_⟩
  show M.step (M.step (M.step (M.step (M.step (M.step (M.step (St text lim s first seen))))))) = _
  rw [e1,e4,at_no (k := 2) (by lia) (show (text.getD (s + 1 + 2) 0 == 10) = false from n3),back_two,at_no (k := 1) (by lia) n2]
  exact back_one (by lia)
 case r => delta id stq_it stq_out; exact k
noncomputable def Res (text : Array Nat) (lim s : Nat) (o : Option (Nat × Nat)) (b : Nat) : Prop := ∀ (first : Bool) (seen : Sre.Seen),∃ j m,j <= b ∧ stepN j (St text lim s first seen) = m ∧ (match o with | none => m.outcome = some .failed | some (x,y) => m.outcome = some .matched ∧ m.start = x ∧ m.handed = y)
theorem res_step {o : Option (Nat × Nat)} {b k : Nat} (h : ∀ (first : Bool) (seen : Sre.Seen),∃ seen',stepN k (St text lim s first seen) = St text lim (s + 1) false seen') (r : Res text lim (s + 1) o b) : Res text lim s o (k + b) := by
 intro first seen
 obtain ⟨seen',e⟩ := h first seen
 obtain ⟨j,m,hj,e2,r⟩ := r false seen'
 exact ⟨k + j,m,by lia,by rw [stepN_add,e]; exact e2,r⟩
theorem res_mono {o : Option (Nat × Nat)} {b c : Nat} (r : Res text lim s o b) (h : b <= c) : Res text lim s o c := fun first seen => by
 obtain ⟨j,m,hj,r⟩ := r first seen
 exact ⟨j,m,Nat.le_trans hj h,r⟩
theorem res_end (h : lim <= s) : Res text lim s none 3 := fun first seen => ⟨3,_,Nat.le_refl _,rfl,st_end h⟩
theorem at_suf {l : List Nat} (h : text.toList.drop s = l) (i : Nat) : text.getD (s + i) 0 = l.getD i 0 := by
 rw [← h,List.getD_eq_getElem?_getD,List.getElem?_drop,Array.getElem?_toList,Array.getD_eq_getD_getElem?]
theorem size_suf {l : List Nat} (h : text.toList.drop s = l) (hl : l ≠ []) : text.size = s + l.length := by
 have := congrArg List.length h
 rw [List.length_drop,Array.length_toList] at this
 have : l.length ≠ 0 := fun e => hl (List.length_eq_zero_iff.mp e)
 lia
noncomputable def codeL (r : Int) : List Nat := if r = 0 then [97] else if r = 1 then [98] else if r = 2 then [55,48] else [99]
noncomputable def encL : List Int -> List Nat
 | [] => []
 | [r] => codeL r
 | r :: q :: t => codeL r ++ 46 :: encL (q :: t)
noncomputable def endO (lim : Nat) : List Int -> Option (Nat × Nat)
 | [] => none
 | [_] => none
 | [_,q] => if q = 2 then some (lim - 3,lim) else none
 | _ :: b :: c :: t => endO lim (b :: c :: t)
theorem suf_next {l : List Nat} {a : Nat} (h : text.toList.drop s = a :: l) : text.toList.drop (s + 1) = l := by
 rw [← List.drop_drop,h]; rfl
theorem plain_one {l : List Nat} {a : Nat} {o : Option (Nat × Nat)} {b : Nat} (h : text.toList.drop s = a :: l) (ha : (a == 46) = false) (r : Res text text.size (s + 1) o b) : Res text text.size s o (2 + b) := by
 have e := size_suf h (by simp)
 simp only [List.length_cons] at e
 have e0 : text.getD s 0 = a := by have := at_suf h 0; simpa using this
 exact res_step (fun first seen => st_plain (by lia) (by rw [e0]; exact ha)) r
theorem plain_code {r : Int} {l : List Nat} {o : Option (Nat × Nat)} {b : Nat} (hr : 0 <= r ∧ r < 4) (h : text.toList.drop s = codeL r ++ l) (k : ∀ s',text.toList.drop s' = l -> Res text text.size s' o b) : Res text text.size s o (4 + b) := by
 refine (?f : Cln _) ?p ⟨?q,fun B k => ?r⟩
 case f => exact fun x _ => x
 case q =>
  have : r = 0 ∨ r = 1 ∨ r = 2 ∨ r = 3 := by lia
  rcases this with rfl | rfl | rfl | rfl
  ·exact res_mono (plain_one h (by decide) (k _ (suf_next h))) (by lia)
  ·exact res_mono (plain_one h (by decide) (k _ (suf_next h))) (by lia)
  ·exact res_mono (plain_one h (by decide) (plain_one (suf_next h) (by decide) (k _ (suf_next (suf_next h))))) (by lia)
  ·exact res_mono (plain_one h (by decide) (k _ (suf_next h))) (by lia)
 case r => delta id stq_it stq_out; exact k
theorem dot_step (hl : text.size <= 1000) {q : Int} {t : List Int} {b : Nat} (hq : 0 <= q ∧ q < 4) (ih : ∀ s,text.toList.drop s = encL (q :: t) -> Res text text.size s (endO text.size (q :: t)) b) (h' : text.toList.drop s = 46 :: encL (q :: t)) (r : Int) : Res text text.size s (endO text.size (r :: q :: t)) (7 + b) := by
 refine (?f : Cln _) ?p ⟨?q,fun B k => ?r⟩
 case f => exact fun x _ => x
 case q =>
  have ez := size_suf h' (by simp)
  have e0 : (text.getD s 0 == 46) = true := by have := at_suf h' 0; rw [Nat.add_zero] at this; rw [this]; rfl
  have nx := suf_next h'
  have eq_ : ∀ i,text.getD (s + (i + 1)) 0 = (encL (q :: t)).getD i 0 := fun i => by have := at_suf h' (i + 1); simpa using this
  by_cases h2 : q = 2
  ·subst h2
   cases t with
   | nil =>
    have f1 : text.getD (s + 1) 0 = 55 := eq_ 0
    have f2 : text.getD (s + 1 + 1) 0 = 48 := eq_ 1
    have e3 : s + 3 = text.size := by rw [ez]; rfl
    intro first seen
    obtain ⟨m,e,r1,r2,r3⟩ := st_dot2 (first := first) (seen := seen) hl e0 (by rw [f1]; decide) (by rw [f2]; decide) e3
    refine ⟨7,m,by lia,e,?_⟩
    show m.outcome = _ ∧ m.start = text.size - 3 ∧ m.handed = text.size
    exact ⟨r1,by lia,r3⟩
   | cons c t =>
    have el : encL (2 :: c :: t) = 55 :: 48 :: 46 :: encL (c :: t) := rfl
    have f1 : text.getD (s + 1) 0 = 55 := eq_ 0
    have f2 : text.getD (s + 1 + 1) 0 = 48 := eq_ 1
    have f3 : text.getD (s + 1 + 1 + 1) 0 = 46 := eq_ 2
    have e3 : s + 3 < text.size := by rw [ez,el]; simp only [List.length_cons]; lia
    exact res_step (fun first seen => st_dot3 hl e0 (by rw [f1]; decide) (by rw [f2]; decide) (by rw [f3]; decide) e3 (by rw [f2]; decide) (by rw [f3]; decide)) (ih _ nx)
  ·have hnd : Sre.isDigit (text.getD (s + 1) 0) = false := by
    rw [eq_ 0]
    have : q = 0 ∨ q = 1 ∨ q = 3 := by lia
    rcases this with rfl | rfl | rfl <;> cases t <;> rfl
   have hlt : s < text.size := by rw [ez]; simp only [List.length_cons]; lia
   refine res_mono (b := 3 + b) (res_step (fun first seen => st_dot0 hlt hl e0 (fun _ => hnd)) ?_) (by lia)
   have := ih _ nx
   cases t with
   | nil => rw [show endO text.size [r,q] = none from if_neg h2]; exact this
   | cons c t => exact this
 case r => delta id stq_it stq_out; exact k
theorem res_lab (hl : text.size <= 1000) : ∀ (t : List Int) (r : Int) (s : Nat),(∀ n ∈ r :: t,0 <= n ∧ n < 4) -> text.toList.drop s = encL (r :: t) -> Res text text.size s (endO text.size (r :: t)) (14 * (t.length + 1))
 | [],r,s,hd,h => by
  have hr := hd r (.head _)
  refine res_mono (b := 4 + 3) (plain_code (l := []) hr (by simpa [encL] using h) fun s' h' => ?_) (by simp)
  have := congrArg List.length h'
  rw [List.length_drop,Array.length_toList,List.length_nil] at this
  exact res_end (by lia)
 | q :: t,r,s,hd,h => by
  have hr := hd r (.head _)
  have ih := res_lab hl t q
  have hd' : ∀ n ∈ q :: t,0 <= n ∧ n < 4 := fun n hn => hd n (.tail _ hn)
  refine res_mono (b := 4 + (7 + 14 * (t.length + 1))) (plain_code (l := 46 :: encL (q :: t)) hr (by simpa [encL] using h) fun s' h' => ?_) (by simp only [List.length_cons]; lia)
  exact dot_step hl (hd' q (.head _)) (fun s hs => ih s hd' hs) h' r
theorem step_stop {m : Sre.M} (h : m.outcome.isSome = true) : m.step = m := by unfold M.step; rw [if_pos h]
theorem stepN_stop {m : Sre.M} (h : m.outcome.isSome = true) : ∀ n,stepN n m = m
 | 0 => rfl
 | n + 1 => by show stepN n m.step = m; rw [step_stop h]; exact stepN_stop h n
theorem runFor_stepN : ∀ (n : Nat) (m : Sre.M),m.runFor n = stepN n m
 | 0,_ => rfl
 | n + 1,m => by
  unfold M.runFor
  by_cases h : m.outcome.isSome = true
  ·rw [if_pos h,stepN_stop h]
  ·rw [if_neg h]; exact runFor_stepN n m.step
theorem drive_of : ∀ (n : Nat) (m0 m : Sre.M) (j : Nat),j <= 4 * (n + 1) -> stepN j m0 = m -> m.outcome.isSome = true -> driveF (n + 1) m0 = some m := by
 refine (?f : Cln _) ?p ⟨?q,fun B k => ?r⟩
 case f => exact fun x _ => x
 case q =>
  intro n
  induction n with
  | zero =>
   intro m0 m j hj e hm
   have e4 : stepN 4 m0 = m := by
    rw [show 4 = j + (4 - j) by omega,stepN_add,e]; exact stepN_stop hm _
   unfold driveF
   rw [runFor_stepN,e4]
   obtain ⟨o,ho⟩ := Option.isSome_iff_exists.mp hm
   rw [ho]
  | succ n ih =>
   intro m0 m j hj e hm
   unfold driveF
   rw [runFor_stepN]
   cases h4 : (stepN 4 m0).outcome with
   | some o =>
    have hs : (stepN 4 m0).outcome.isSome = true := by rw [h4]; rfl
    have e9 : stepN 4 m0 = m := by
     by_cases h : j <= 4
     ·rw [show 4 = j + (4 - j) by omega,stepN_add,e]; exact stepN_stop hm _
     ·rw [show j = 4 + (j - 4) by omega,stepN_add,stepN_stop hs] at e; exact e
    rw [e9]
   | none =>
    have h5 : 4 <= j := by
     refine Nat.le_of_not_lt fun h => ?_
     rw [show 4 = j + (4 - j) by omega,stepN_add,e,stepN_stop hm] at h4
     rw [h4] at hm; exact absurd hm (by decide)
    exact ih _ m (j - 4) (by omega) (by rw [← stepN_add,show 4 + (j - 4) = j by omega]; exact e) hm
 case r => delta id stq_it stq_out; (conv => zeta); exact k
theorem srch_res {x : Str} {o : Option (Nat × Nat)} {b : Nat} (h2 : 2 <= x.cps.size) (hb : b <= 1600) (r : Res x.cps x.cps.size 0 o b) : srchF x = some o := by
 refine (?f : Cln _) ?p ⟨?q,fun B k => ?r⟩
 case f => exact fun x _ => x
 case q =>
  obtain ⟨seen,e0⟩ := st_begin x.cps x.cps.size h2
  obtain ⟨j,m,hj,e,hm⟩ := r true seen
  have hs : m.outcome.isSome = true := by
   cases o with
   | none => rw [hm]; rfl
   | some p => rw [hm.1]; rfl
  have d := drive_of 399 _ m j (by lia) e hs
  unfold srchF
  rw [e0,d]
  cases o with
  | none => dsimp only; rw [hm]
  | some p => dsimp only; rw [hm.1,hm.2.1,hm.2.2]
 case r => delta id stq_it stq_out; (conv => zeta); exact k
theorem srch_short {x : Str} (h : x.cps.size < 2) : srchF x = some none := by
 refine (?f : Cln _) ?p ⟨?q,fun B k => ?r⟩
 case f => exact fun x _ => x
 case q =>
  unfold srchF Sre.forSearch
  have h0 : (decide (0 > x.cps.size) || decide (x.cps.size - 0 < (header reCode).1)) = true := by
   have : (header reCode).1 = 2 := rfl
   rw [this]; simp; omega
  simp only []
  rw [if_pos (by simpa using h0)]
  rfl
 case r => delta id stq_it stq_out; exact k
end

section
open StrLaws Builtin.Str
theorem str_toList {x y : Str} (h : x.cps.toList = y.cps.toList) : x = y := Str.ext' (Array.toList_inj.mp h)
theorem tab_code {r : Int} (hr : 0 <= r ∧ r < 4) : (tab4.getD r.toNat Str.empty).cps.toList = codeL r := by
 have : r = 0 ∨ r = 1 ∨ r = 2 ∨ r = 3 := by lia
 rcases this with rfl | rfl | rfl | rfl <;> decide
theorem join_enc : ∀ (R : List Int), (∀ n ∈ R, 0 <= n ∧ n < 4) -> (Str.join (Str.ofString ".") (R.map fun a => tab4.getD a.toNat Str.empty)).cps.toList = encL R
 | [],_ => rfl
 | [r],h => tab_code (h r (.head _))
 | r :: q :: t,h => by
  have ih := join_enc (q :: t) fun n hn => h n (.tail _ hn)
  show ((tab4.getD r.toNat Str.empty) ++ Str.ofString "." ++ Str.join (Str.ofString ".") ((q :: t).map fun a => tab4.getD a.toNat Str.empty)).cps.toList = codeL r ++ 46 :: encL (q :: t)
  rw [Str.cps_append,Str.cps_append,Array.toList_append,Array.toList_append,ih,tab_code (h r (.head _)),List.append_assoc]
  rfl
theorem host_enc {A : List Int} (h : Dig A) : (hostF A).cps.toList = encL A.reverse := by
 unfold hostF Txt.join
 rw [glued_eq_join]
 exact join_enc A.reverse fun n hn => h n (List.mem_reverse.mp hn)
theorem at_iff (x y : Str) (i : Nat) : At x y x.length i ↔ i + y.cps.toList.length <= x.cps.toList.length ∧ (x.cps.toList.drop i).take y.cps.toList.length = y.cps.toList := by
 unfold At
 rw [subAt_eq,beq_iff_eq]
 simp only [Str.length,Array.length_toList]
theorem slice_from {x : Str} {i : Nat} (h : i <= x.cps.toList.length) : (Txt.slice x (some (i : Int)) none).cps.toList = x.cps.toList.drop i := by
 have := sliceText_from (x := x) (i := (i : Int)) ⟨by lia,by lia⟩
 have e : Txt.slice x (some (i : Int)) none = sliceText x (some (i : Int)) none := rfl
 rw [e,this]
 show ((x.cps.toList.drop (i : Int).toNat).take ((x.cps.toList.length : Int) - i).toNat).toArray.toList = _
 rw [Int.toNat_natCast,List.take_of_length_le]
 rw [List.length_drop]; lia
theorem slice_to {x : Str} {j : Nat} (h : j <= x.cps.toList.length) : (Txt.slice x none (some (j : Int))).cps.toList = x.cps.toList.take j := by
 have := sliceText_to (x := x) (j := (j : Int)) ⟨by omega,by omega⟩
 have e : Txt.slice x none (some (j : Int)) = sliceText x none (some (j : Int)) := rfl
 rw [e,this]
 show ((x.cps.toList.drop 0).take ((j : Int) - 0).toNat).toArray.toList = _
 rw [List.drop_zero,Int.sub_zero,Int.toNat_natCast]
end

section
open StrLaws Builtin.Str
noncomputable def dotL (R : List Int) : List Nat := R.flatMap fun r => 46 :: codeL r
theorem dotL_cons (r : Int) (t : List Int) : dotL (r :: t) = 46 :: (codeL r ++ dotL t) := by simp [dotL]
theorem dot_enc : ∀ (R : List Int),R ≠ [] -> 46 :: encL R = dotL R
 | [],h => absurd rfl h
 | [r],_ => by rw [dotL_cons]; show 46 :: codeL r = _; simp [dotL]
 | r :: q :: t,_ => by
  rw [dotL_cons,← dot_enc (q :: t) (by simp)]
  rfl
theorem code_no (r : Int) : ∀ c ∈ codeL r,c ≠ 46 := by
 intro c hc
 unfold codeL at hc
 split at hc
 ·simp at hc; lia
 ·split at hc
  ·simp at hc; lia
  ·split at hc
   ·simp at hc; lia
   ·simp at hc; lia
theorem code_ne (r : Int) : codeL r ≠ [] := by
 unfold codeL
 split
 ·simp
 ·split
  ·simp
  ·split <;> simp
theorem code_head : ∀ b ∈ [(0 : Int),1,2,3],∀ c ∈ [(0 : Int),1,2,3],(codeL b).head? = (codeL c).head? -> b = c := by decide
theorem dig_mem {n : Int} (h : 0 <= n ∧ n < 4) : n ∈ [(0 : Int),1,2,3] := by
 have : n = 0 ∨ n = 1 ∨ n = 2 ∨ n = 3 := by lia
 simpa using this
theorem head_app {α : Type} {a x : List α} (h : a ≠ []) : (a ++ x).head? = a.head? := by
 cases a with
 | nil => exact absurd rfl h
 | cons _ _ => rfl
theorem head_pre {α : Type} {a b : List α} (h : a <+: b) (ha : a ≠ []) : a.head? = b.head? := by
 obtain ⟨t,rfl⟩ := h
 exact (head_app ha).symm
theorem code_pre {b c : Int} {x y : List Nat} (hb : 0 <= b ∧ b < 4) (hc : 0 <= c ∧ c < 4) : (codeL b ++ x <+: codeL c ++ y) ↔ (b = c ∧ x <+: y) := by
 constructor
 ·intro h
  have e := head_pre h (by intro q; exact code_ne b (List.append_eq_nil_iff.mp q).1)
  rw [head_app (code_ne b),head_app (code_ne c)] at e
  have e2 := code_head b (dig_mem hb) c (dig_mem hc) e
  subst e2
  exact ⟨rfl,(List.prefix_append_right_inj _).mp h⟩
 ·rintro ⟨rfl,h⟩
  exact (List.prefix_append_right_inj _).mpr h
theorem dot_prefix (RB : List Int) : ∀ (RC : List Int),(∀ n ∈ RB,0 <= n ∧ n < 4) -> (∀ n ∈ RC,0 <= n ∧ n < 4) -> (dotL RB <+: dotL RC ↔ RB <+: RC) := by
 refine (?f : Cln _) ?p ⟨?q,fun B k => ?r⟩
 case f => exact fun x _ => x
 case q =>
  induction RB with
  | nil => intro RC _ _; exact ⟨fun _ => List.nil_prefix,fun _ => List.nil_prefix⟩
  | cons b B ih =>
   intro RC hb hc
   cases RC with
   | nil => rw [dotL_cons]; simp [dotL]
   | cons c C => rw [dotL_cons,dotL_cons,List.cons_prefix_cons,List.cons_prefix_cons,← ih C (fun n hn => hb n (.tail _ hn)) (fun n hn => hc n (.tail _ hn)),code_pre (hb b (.head _)) (hc c (.head _)),and_iff_right rfl]
 case r => delta id stq_it stq_out; exact k
theorem dot_occ {RB : List Int} (hB : ∀ n ∈ RB,0 <= n ∧ n < 4) (hne : RB ≠ []) (RA : List Int) (hA : ∀ n ∈ RA,0 <= n ∧ n < 4) : ((∃ p,1 <= p ∧ dotL RB <+: (dotL RA).drop p) ↔ ∃ j,1 <= j ∧ RB <+: RA.drop j) := by
 induction RA with
 | nil =>
  constructor
  ·rintro ⟨p,_,h⟩
   obtain ⟨b,t,rfl⟩ := List.exists_cons_of_ne_nil hne
   rw [dotL_cons] at h
   simp [dotL] at h
  ·rintro ⟨j,_,h⟩
   simp at h
   exact absurd h hne
 | cons a A ih =>
  have ih := ih fun n hn => hA n (.tail _ hn)
  have pre := dot_prefix RB A hB fun n hn => hA n (.tail _ hn)
  rw [dotL_cons]
  constructor
  ·rintro ⟨p,hp,h⟩
   obtain ⟨q,rfl⟩ : ∃ q,p = q + 1 := ⟨p - 1,by lia⟩
   rw [List.drop_succ_cons] at h
   by_cases hq : q < (codeL a).length
   ·exfalso
    rw [List.drop_append_of_le_length (by lia)] at h
    obtain ⟨b,t,rfl⟩ := List.exists_cons_of_ne_nil hne
    rw [dotL_cons] at h
    cases e : (codeL a).drop q with
    | nil => have := congrArg List.length e; rw [List.length_drop,List.length_nil] at this; lia
    | cons c l =>
     rw [e,List.cons_append,List.cons_prefix_cons] at h
     exact code_no a c (List.mem_of_mem_drop (by rw [e]; exact .head _)) h.1.symm
   ·obtain ⟨q',rfl⟩ : ∃ q',q = (codeL a).length + q' := ⟨q - (codeL a).length,by lia⟩
    rw [List.drop_append,List.drop_of_length_le (by lia),List.nil_append,Nat.add_sub_cancel_left] at h
    cases q' with
    | zero => exact ⟨1,Nat.le_refl _,pre.mp h⟩
    | succ q' =>
     obtain ⟨j,hj,h'⟩ := ih.mp ⟨q' + 1,by lia,h⟩
     exact ⟨j + 1,by lia,h'⟩
  ·rintro ⟨j,hj,h⟩
   obtain ⟨i,rfl⟩ : ∃ i,j = i + 1 := ⟨j - 1,by lia⟩
   rw [List.drop_succ_cons] at h
   have key : ∀ p',dotL RB <+: (dotL A).drop p' -> ∃ p,1 <= p ∧ dotL RB <+: (46 :: (codeL a ++ dotL A)).drop p := fun p' h' => by
    refine ⟨(codeL a).length + p' + 1,by lia,?_⟩
    rw [List.drop_succ_cons,List.drop_append,List.drop_of_length_le (by lia),List.nil_append,Nat.add_sub_cancel_left]
    exact h'
   cases i with
   | zero => exact key 0 (pre.mpr h)
   | succ i =>
    obtain ⟨p,hp,h'⟩ := ih.mpr ⟨i + 1,by lia,h⟩
    exact key p h'
theorem at_pre {x y : Str} {i : Nat} (hy : y.cps.toList ≠ []) : At x y x.length i ↔ y.cps.toList <+: x.cps.toList.drop i := by
 rw [at_iff,List.prefix_iff_eq_take]
 constructor
 ·exact fun h => h.2.symm
 ·intro h
  refine ⟨?_,h.symm⟩
  have := congrArg List.length h
  rw [List.length_take,List.length_drop] at this
  have : y.cps.toList.length ≠ 0 := fun e => hy (List.length_eq_zero_iff.mp e)
  lia
theorem dot_str (B : List Int) (hB : Dig B) (hne : B ≠ []) : (Str.ofString "." ++ hostF B).cps.toList = dotL B.reverse := by
 rw [← dot_enc _ (by simpa using hne),Str.cps_append,Array.toList_append,host_enc hB]
 rfl
theorem occ_iff {A B : List Int} (hA : Dig A) (hB : Dig B) (hne : B ≠ []) (hA0 : A ≠ []) : (∃ i, At (hostF A) (Str.ofString "." ++ hostF B) (hostF A).length i) ↔ ∃ j, 1 <= j ∧ B.reverse <+: A.reverse.drop j := by
 refine (?f : Cln _) ?p ⟨?q,fun B k => ?r⟩
 case f => exact fun x _ => x
 case q =>
  have hd : dotL B.reverse ≠ [] := by
   obtain ⟨b,t,e⟩ := List.exists_cons_of_ne_nil (show B.reverse ≠ [] by simpa using hne)
   rw [e,dotL_cons]; simp
  rw [← dot_occ (fun n hn => hB n (List.mem_reverse.mp hn)) (by simpa using hne) A.reverse (fun n hn => hA n (List.mem_reverse.mp hn)),← dot_enc A.reverse (by simpa using hA0)]
  constructor
  ·rintro ⟨i,h⟩
   rw [at_pre (by rw [dot_str B hB hne]; exact hd),dot_str B hB hne,host_enc hA] at h
   exact ⟨i + 1,by lia,h⟩
  ·rintro ⟨p,hp,h⟩
   obtain ⟨i,rfl⟩ : ∃ i,p = i + 1 := ⟨p - 1,by lia⟩
   refine ⟨i,?_⟩
   rw [at_pre (by rw [dot_str B hB hne]; exact hd),dot_str B hB hne,host_enc hA]
   exact h
 case r => delta id stq_it stq_out; exact k
theorem runs_iff {A B : List Int} (hne : B ≠ []) : (List.range (A.length - B.length)).any (runT A B) = true ↔ ∃ j,1 <= j ∧ B.reverse <+: A.reverse.drop j := by
 refine (?f : Cln _) ?p ⟨?q,fun B k => ?r⟩
 case f => exact fun x _ => x
 case q =>
  rw [List.any_eq_true]
  constructor
  ·rintro ⟨k,hk,h⟩
   rw [List.mem_range] at hk
   have e : (A.drop k).take B.length = B := of_decide_eq_true h
   refine ⟨A.length - (k + B.length),by omega,?_⟩
   rw [← List.reverse_take,List.reverse_prefix]
   refine ⟨A.take k,?_⟩
   rw [List.take_add,e]
  ·rintro ⟨j,hj,h⟩
   rw [List.drop_reverse,List.reverse_prefix] at h
   obtain ⟨P,hP⟩ := h
   have hl := congrArg List.length hP
   rw [List.length_append,List.length_take] at hl
   refine ⟨P.length,List.mem_range.mpr ?_,?_⟩
   ·have : B.length ≠ 0 := fun e => hne (List.length_eq_zero_iff.mp e)
    omega
   ·refine decide_eq_true ?_
    have e : A = P ++ B ++ A.drop (A.length - j) := by rw [hP,List.take_append_drop]
    rw [e,List.append_assoc,List.drop_left,List.take_left]
 case r => delta id stq_it stq_out; exact k
end

section
open StrLaws Builtin.Str
noncomputable def thirdL : List Int -> Bool
 | a :: _ :: _ => a == 2
 | _ => false
theorem code_len (r : Int) : 1 <= (codeL r).length ∧ (codeL r).length <= 2 := by
 unfold codeL
 split
 ·simp
 ·split
  ·simp
  ·split <;> simp
theorem enc_len : ∀ (R : List Int),R ≠ [] -> (encL R).length + 1 <= 3 * R.length ∧ R.length * 2 <= (encL R).length + 1
 | [],h => absurd rfl h
 | [r],_ => by have := code_len r; show (codeL r).length + 1 <= 3 * 1 ∧ 1 * 2 <= (codeL r).length + 1; lia
 | r :: q :: t,_ => by
  have ih := enc_len (q :: t) (by simp)
  have := code_len r
  show (codeL r ++ 46 :: encL (q :: t)).length + 1 <= _ ∧ _ <= (codeL r ++ 46 :: encL (q :: t)).length + 1
  rw [List.length_append,List.length_cons]
  simp only [List.length_cons] at ih ⊢
  lia
theorem end_app {lim : Nat} {q a : Int} : ∀ (P : List Int),endO lim (P ++ [q,a]) = if a = 2 then some (lim - 3,lim) else none
 | [] => rfl
 | [p] => rfl
 | p :: p2 :: P => by
  have ih := end_app (lim := lim) (q := q) (a := a) (p2 :: P)
  cases P with
  | nil => exact ih
  | cons x P => exact ih
theorem end_third {lim : Nat} {A : List Int} : endO lim A.reverse = if thirdL A = true then some (lim - 3,lim) else none := by
 match A with
 | [] => rfl
 | [_] => rfl
 | a :: b :: t =>
  rw [List.reverse_cons,List.reverse_cons,List.append_assoc,List.singleton_append,end_app]
  show _ = if (a == 2) = true then _ else _
  simp only [beq_iff_eq]
theorem rev_cons {A : List Int} (h : 1 <= A.length) : ∃ r t,A.reverse = r :: t := List.exists_cons_of_ne_nil (by intro e; have := congrArg List.length e; simp at this; simp [this] at h)
theorem host_size {A : List Int} (h : Dig A) : (hostF A).cps.size = (encL A.reverse).length := by rw [← host_enc h,Array.length_toList]
theorem host_srch {A : List Int} (h : Dig A) (h1 : 1 <= A.length) (h5 : A.length <= 5) : srchF (hostF A) = some (if thirdL A = true then some ((hostF A).cps.size - 3,(hostF A).cps.size) else none) := by
 refine (?f : Cln _) ?p ⟨?q,fun B k => ?r⟩
 case f => exact fun x _ => x
 case q =>
  obtain ⟨r,t,e⟩ := rev_cons h1
  have hl : t.length + 1 = A.length := by have := congrArg List.length e; rw [List.length_reverse,List.length_cons] at this; lia
  have el := enc_len (r :: t) (by simp)
  rw [List.length_cons] at el
  have hs := host_size h
  rw [e] at hs
  rw [← end_third,e]
  by_cases h2 : (hostF A).cps.size < 2
  ·rw [srch_short h2]
   have : t = [] := List.length_eq_zero_iff.mp (by lia)
   subst this
   rfl
  ·exact srch_res (by lia) (b := 14 * (t.length + 1)) (by lia) (res_lab (by lia) t r 0 (fun n hn => h n (List.mem_reverse.mp (by rw [e]; exact hn))) (by rw [List.drop_zero,host_enc h,e]))
 case r => (try delta id); (conv => zeta); exact k
theorem host_srch1 {A : List Int} (h : Dig A) (h1 : 1 <= A.length) (h5 : A.length <= 5) {x : Str} (hx : x.cps.toList = (encL A.reverse).drop 1) : (srchF x).isSome = true := by
 refine (?f : Cln _) ?p ⟨?q,fun B k => ?r⟩
 case f => exact fun x _ => x
 case q =>
  obtain ⟨r,t,e⟩ := rev_cons h1
  have hl : t.length + 1 = A.length := by have := congrArg List.length e; rw [List.length_reverse,List.length_cons] at this; lia
  have el := enc_len (r :: t) (by simp)
  rw [List.length_cons] at el
  rw [e] at hx
  have hs : x.cps.size = (encL (r :: t)).length - 1 := by rw [← Array.length_toList,hx,List.length_drop]
  have hd : ∀ n ∈ r :: t,0 <= n ∧ n < 4 := fun n hn => h n (List.mem_reverse.mp (by rw [e]; exact hn))
  by_cases h2 : x.cps.size < 2
  ·rw [srch_short h2]; rfl
  ·cases t with
   | nil =>
    have := code_len r
    rw [hs] at h2
    exact absurd (show (codeL r).length - 1 < 2 by lia) h2
   | cons q t =>
    have hq : ∀ n ∈ q :: t,0 <= n ∧ n < 4 := fun n hn => hd n (.tail _ hn)
    have sz : x.cps.size <= 1000 := by lia
    have dot : ∀ s,x.cps.toList.drop s = 46 :: encL (q :: t) -> Res x.cps x.cps.size s (endO x.cps.size (0 :: q :: t)) (7 + 14 * (t.length + 1)) := fun s hs => dot_step sz (hq q (.head _)) (fun s hs => res_lab sz t q s hq hs) hs 0
    have hr := hd r (.head _)
    have lt : t.length <= 4 := by simp only [List.length_cons] at hl; lia
    have : r = 0 ∨ r = 1 ∨ r = 2 ∨ r = 3 := by lia
    rcases this with rfl | rfl | rfl | rfl
    ·rw [srch_res (by lia) (by lia) (dot 0 (by rw [List.drop_zero,hx]; rfl))]; rfl
    ·rw [srch_res (by lia) (by lia) (dot 0 (by rw [List.drop_zero,hx]; rfl))]; rfl
    ·have e0 : x.cps.toList.drop 0 = 48 :: 46 :: encL (q :: t) := by rw [List.drop_zero,hx]; rfl
     rw [srch_res (by lia) (by lia) (plain_one e0 (by decide) (dot 1 (suf_next e0)))]; rfl
    ·rw [srch_res (by lia) (by lia) (dot 0 (by rw [List.drop_zero,hx]; rfl))]; rfl
 case r => delta id stq_it stq_out; exact k
theorem enc_first {R : List Int} (h : R ≠ []) : ∃ c,(encL R)[0]? = some c ∧ c ≠ 46 := by
 match R,h with
 | [r],_ =>
  obtain ⟨c,l,e⟩ := List.exists_cons_of_ne_nil (code_ne r)
  exact ⟨c,by show (codeL r)[0]? = _; rw [e]; rfl,code_no r c (by rw [e]; exact .head _)⟩
 | r :: q :: t,_ =>
  obtain ⟨c,l,e⟩ := List.exists_cons_of_ne_nil (code_ne r)
  exact ⟨c,by show (codeL r ++ _)[0]? = _; rw [e]; rfl,code_no r c (by rw [e]; exact .head _)⟩
theorem enc_last : ∀ {R : List Int},R ≠ [] -> ∃ c,(encL R)[(encL R).length - 1]? = some c ∧ c ≠ 46
 | [],h => absurd rfl h
 | [r],_ => by
  show ∃ c,(codeL r)[(codeL r).length - 1]? = some c ∧ c ≠ 46
  have hl := code_len r
  have hlt : (codeL r).length - 1 < (codeL r).length := by lia
  exact ⟨(codeL r)[(codeL r).length - 1],by simp [hlt],code_no r _ (List.getElem_mem _)⟩
 | r :: q :: t,_ => by
  obtain ⟨c,h,hc⟩ := enc_last (R := q :: t) (by simp)
  refine ⟨c,?_,hc⟩
  show (codeL r ++ 46 :: encL (q :: t))[(codeL r ++ 46 :: encL (q :: t)).length - 1]? = some c
  have el := enc_len (q :: t) (by simp)
  simp only [List.length_cons] at el
  rw [List.length_append,List.length_cons,List.getElem?_append_right (by lia),show (codeL r).length + ((encL (q :: t)).length + 1) - 1 - (codeL r).length = ((encL (q :: t)).length - 1) + 1 by lia,List.getElem?_cons_succ]
  exact h
theorem item_ne {x : Str} {i : Int} {c : Nat} (h : (seqIndex? i x.length).bind (x.cps[·]?) = some c) (hc : c ≠ 46) : (Txt.item x i == Str.ofString ".") = false := by
 refine beq_eq_false_iff_ne.mpr fun e => ?_
 unfold Txt.item Txt.charAt at e
 rw [h] at e
 have := congrArg Str.cps e
 have e2 : (#[c] : Array Nat) = #[46] := this
 have e3 := congrArg (fun a : Array Nat => a.getD 0 0) e2
 exact hc e3
theorem host_hdn {A : List Int} (h : Dig A) (h1 : 1 <= A.length) (h5 : A.length <= 5) : hdnF (hostF A) = !thirdL A := by
 refine (?f : Cln _) ?p ⟨?q,fun B k => ?r⟩
 case f => exact fun x _ => x
 case q =>
  unfold hdnF
  rw [host_srch h h1 h5]
  cases ht : thirdL A with
  | true => rfl
  | false =>
   have hne : A.reverse ≠ [] := by intro e; have := congrArg List.length e; simp at this; simp [this] at h1
   have el := enc_len _ hne
   have hs := host_size h
   have hr : A.reverse.length = A.length := List.length_reverse
   simp only [Bool.false_eq_true,if_false,Bool.not_false]
   have n0 : (hostF A == Str.ofString "") = false := by
    refine beq_eq_false_iff_ne.mpr fun e => ?_
    have : (hostF A).cps.size = 0 := by rw [e]; rfl
    lia
   obtain ⟨c,hc,hc'⟩ := enc_first hne
   obtain ⟨d,hd,hd'⟩ := enc_last hne
   rw [← host_enc h,Array.getElem?_toList] at hc hd
   have n1 : (Txt.item (hostF A) 0 == Str.ofString ".") = false := item_ne (at_nonneg (by decide) hc) hc'
   have n2 : (Txt.item (hostF A) (-1) == Str.ofString ".") = false := by
    refine item_ne (at_neg (by decide) (by show -((hostF A).cps.size : Int) <= -1; lia) ?_) hd'
    rw [show (-1 + ((hostF A).length : Int)).toNat = (hostF A).cps.toList.length - 1 by show (-1 + ((hostF A).cps.size : Int)).toNat = _; rw [Array.length_toList]; lia]
    exact hd
   rw [n0,n1,n2]
   rfl
 case r => delta id stq_it stq_out; exact k
end

section
open StrLaws Builtin.Str
theorem dot_at {x : Str} {i : Nat} : At x (Str.ofString ".") x.length i ↔ x.cps.toList[i]? = some 46 := by
 refine (?f : Cln _) ?p ⟨?q,fun B k => ?r⟩
 case f => exact fun x _ => x
 case q =>
  have e : (Str.ofString ".").cps.toList = [46] := rfl
  rw [at_pre (by rw [e]; simp),e]
  constructor
  ·rintro ⟨l,h⟩
   have : (x.cps.toList.drop i)[0]? = some 46 := by rw [← h]; rfl
   rw [List.getElem?_drop] at this
   simpa using this
  ·intro h
   cases e2 : x.cps.toList.drop i with
   | nil =>
    have : (x.cps.toList.drop i)[0]? = some 46 := by rw [List.getElem?_drop]; simpa using h
    rw [e2] at this
    simp at this
   | cons c l =>
    have : (x.cps.toList.drop i)[0]? = some 46 := by rw [List.getElem?_drop]; simpa using h
    rw [e2] at this
    simp at this
    subst this
    exact ⟨l,rfl⟩
 case r => delta id stq_it stq_out; (conv => zeta); exact k
theorem find_none {x : Str} {r : Int} (h : x.cps.toList = codeL r) : ¬ 0 <= Txt.find x (Str.ofString ".") := by
 rcases find_whole x (Str.ofString ".") with ⟨e, _⟩ | ⟨i, _, ha, _⟩
 ·rw [e]; decide
 ·rw [dot_at,h] at ha
  exact absurd rfl (code_no r 46 (List.mem_of_getElem? ha))
theorem find_code {x : Str} {r : Int} {l : List Nat} (h : x.cps.toList = codeL r ++ 46 :: l) : Txt.find x (Str.ofString ".") = ((codeL r).length : Int) := by
 have a0 : At x (Str.ofString ".") x.length (codeL r).length := by rw [dot_at, h, List.getElem?_append_right (Nat.le_refl _), Nat.sub_self]; rfl
 rcases find_whole x (Str.ofString ".") with ⟨_, hn⟩ | ⟨i, e, ha, hm⟩
 ·exact absurd a0 (hn _)
 ·rw [e]
  have h1 : ¬ (codeL r).length < i := fun hlt => hm _ hlt a0
  have h2 : ¬ i < (codeL r).length := fun hlt => by
   rw [dot_at,h,List.getElem?_append_left hlt] at ha
   exact absurd rfl (code_no r 46 (List.mem_of_getElem? ha))
  rw [show i = (codeL r).length by lia]
theorem drop_rev (A : List Int) {r : Int} {t : List Int} (e : A.reverse = r :: t) : A.dropLast.reverse = t := by
 have : A.dropLast.reverse = A.reverse.tail := by simp
 rw [this,e]; rfl
theorem dig_drop {A : List Int} (h : Dig A) : Dig A.dropLast := fun n hn => h n (by rw [List.dropLast_eq_take] at hn; exact List.mem_of_mem_take hn)
theorem reach_host {A : List Int} (h : Dig A) (h1 : 1 <= A.length) (h5 : A.length <= 5) : reachF (hostF A) = if thirdL A = false ∧ 3 <= A.length then Str.ofString "." ++ hostF A.dropLast else hostF A := by
 refine (?f : Cln _) ?p ⟨?q,fun B k => ?r⟩
 case f => exact fun x _ => x
 case q =>
  obtain ⟨r,t,e⟩ := rev_cons h1
  have hl : t.length + 1 = A.length := by have := congrArg List.length e; rw [List.length_reverse,List.length_cons] at this; lia
  have hx := host_enc h
  rw [e] at hx
  unfold reachF
  rw [host_hdn h h1 h5]
  cases t with
  | nil =>
   rw [if_neg (find_none (r := r) hx),if_neg (by rw [List.length_nil] at hl; lia)]
  | cons q t =>
   have hf := find_code (r := r) hx
   rw [if_pos (by rw [hf]; lia)]
   have hb : (Txt.slice (hostF A) (some (Txt.find (hostF A) (Str.ofString ".") + 1)) none).cps.toList = encL (q :: t) := by
    rw [hf,show ((codeL r).length : Int) + 1 = (((codeL r).length + 1 : Nat) : Int) by lia,slice_from (by rw [hx]; show _ <= (codeL r ++ 46 :: encL (q :: t)).length; rw [List.length_append,List.length_cons]; lia),hx]
    show (codeL r ++ 46 :: encL (q :: t)).drop ((codeL r).length + 1) = _
    rw [List.drop_append,List.drop_of_length_le (by lia),List.nil_append,Nat.add_sub_cancel_left]
    rfl
   cases ht : thirdL A with
   | true => rw [if_neg (by decide),if_neg (by simp)]
   | false =>
    rw [if_pos (by decide)]
    cases t with
    | nil =>
     have n1 : ¬ 0 <= Txt.find (Txt.slice (hostF A) (some (Txt.find (hostF A) (Str.ofString ".") + 1)) none) (Str.ofString ".") := find_none (r := q) hb
     have n2 : ¬ (Txt.slice (hostF A) (some (Txt.find (hostF A) (Str.ofString ".") + 1)) none == Str.ofString "local") = true := by
      rw [beq_iff_eq]
      intro e9
      have := congrArg (fun x : Str => x.cps.toList.length) e9
      simp only [hb] at this
      have hc := code_len q
      have e5 : (Str.ofString "local").cps.toList.length = 5 := rfl
      rw [e5] at this
      have e6 : (encL [q]).length = (codeL q).length := rfl
      lia
     rw [if_neg n1,if_neg n2,if_neg (by simp only [List.length_cons,List.length_nil] at hl; lia)]
    | cons p t =>
     have f2 := find_code (x := Txt.slice (hostF A) (some (Txt.find (hostF A) (Str.ofString ".") + 1)) none) (r := q) (l := encL (p :: t)) hb
     rw [if_pos (by rw [f2]; lia),if_pos ⟨rfl,by simp only [List.length_cons] at hl; lia⟩]
     congr 1
     apply str_toList
     rw [hb,host_enc (dig_drop h),drop_rev A e]
 case r => delta id stq_it stq_out; exact k
theorem enc_six {R : List Int} : ∀ c ∈ encL R,c = 97 ∨ c = 98 ∨ c = 55 ∨ c = 48 ∨ c = 99 ∨ c = 46 := by
 have hc : ∀ r : Int,∀ c ∈ codeL r,c = 97 ∨ c = 98 ∨ c = 55 ∨ c = 48 ∨ c = 99 ∨ c = 46 := by
  intro r c hc
  unfold codeL at hc
  split at hc
  ·simp at hc; lia
  ·split at hc
   ·simp at hc; lia
   ·split at hc
    ·simp at hc; lia
    ·simp at hc; lia
 match R with
 | [] => intro c h; exact absurd h List.not_mem_nil
 | [r] => exact hc r
 | r :: q :: t =>
  intro c h
  have h' : c ∈ codeL r ++ 46 :: encL (q :: t) := h
  rw [List.mem_append,List.mem_cons] at h'
  rcases h' with h' | h' | h'
  ·exact hc r c h'
  ·simp [h']
  ·exact enc_six c h'
theorem host_case {A : List Int} (h : Dig A) : Txt.lower (Txt.upper (hostF A)) = hostF A ∧ Txt.lower (hostF A) = hostF A := case_six (by rw [host_enc h]; exact enc_six)
theorem dot_case {A : List Int} (h : Dig A) : Txt.lower (Str.ofString "." ++ hostF A) = Str.ofString "." ++ hostF A := by
 refine (case_six fun c hc => ?_).2
 rw [Str.cps_append,Array.toList_append,host_enc h] at hc
 rcases List.mem_append.mp hc with hc | hc
 ·have : c = 46 := by simpa using (show c ∈ [46] from hc)
  simp [this]
 ·exact enc_six c hc
theorem dot_slice (y : Str) : Txt.slice (Str.ofString "." ++ y) (some 1) none = y := by
 apply str_toList
 have e : (Str.ofString "." ++ y).cps.toList = 46 :: y.cps.toList := by rw [Str.cps_append, Array.toList_append]; rfl
 have : (Txt.slice (Str.ofString "." ++ y) (some 1) none).cps.toList = (Str.ofString "." ++ y).cps.toList.drop 1 := slice_from (x := Str.ofString "." ++ y) (i := 1) (by rw [e]; simp)
 rw [this,e]; rfl
theorem dot_starts (y : Str) : Txt.startswith (Str.ofString "." ++ y) (Str.ofString ".") = true := by
 refine (?f : Cln _) ?p ⟨?q,fun B k => ?r⟩
 case f => exact fun x _ => x
 case q =>
  have e : (Str.ofString "." ++ y).cps.toList = 46 :: y.cps.toList := by rw [Str.cps_append, Array.toList_append]; rfl
  have a : At (Str.ofString "." ++ y) (Str.ofString ".") (Str.ofString "." ++ y).length 0 := by rw [dot_at, e]; rfl
  unfold Txt.startswith
  rw [a.2,Bool.and_true]
  exact decide_eq_true a.1
 case r => delta id stq_it stq_out; exact k
theorem dm_dot {A B : List Int} (hA : Dig A) (hB : Dig B) (a1 : 1 <= A.length) (a5 : A.length <= 5) (b1 : 1 <= B.length) (b5 : B.length <= 5) {x : Str} (hx : Txt.lower x = hostF A) :
  dmF x (Str.ofString "." ++ hostF B) = ((!thirdL A && (List.range (A.length - B.length)).any (runT A B)) && !thirdL B) := by
 refine (?f : Cln _) ?p ⟨?q,fun B k => ?r⟩
 case f => exact fun x _ => x
 case q =>
  have bne : B ≠ [] := by intro e; rw [e] at b1; exact absurd b1 (by decide)
  have ane : A ≠ [] := by intro e; rw [e] at a1; exact absurd a1 (by decide)
  have first : ∀ i, At (hostF A) (Str.ofString "." ++ hostF B) (hostF A).length i -> i ≠ 0 := by
   rintro i h rfl
   obtain ⟨b,t,e⟩ := List.exists_cons_of_ne_nil (show B.reverse ≠ [] by simpa using bne)
   rw [at_pre (by rw [dot_str B hB bne,e,dotL_cons]; simp),dot_str B hB bne,e,dotL_cons,host_enc hA,List.drop_zero] at h
   obtain ⟨c,hc,hc'⟩ := enc_first (R := A.reverse) (by simpa using ane)
   obtain ⟨l,hl⟩ := h
   rw [← hl] at hc
   simp at hc
   exact hc' hc.symm
  unfold dmF
  rw [hx,dot_case hB,host_hdn hA a1 a5,dot_slice,host_hdn hB b1 b5,dot_starts]
  have n0 : (hostF A == Str.ofString "." ++ hostF B) = false := by
   refine beq_eq_false_iff_ne.mpr fun e => ?_
   have := congrArg (fun x : Str => x.cps.toList) e
   simp only [host_enc hA,dot_str B hB bne] at this
   obtain ⟨b,t,e⟩ := List.exists_cons_of_ne_nil (show B.reverse ≠ [] by simpa using bne)
   obtain ⟨c,hc,hc'⟩ := enc_first (R := A.reverse) (by simpa using ane)
   rw [this,e,dotL_cons] at hc
   simp at hc
   exact hc' hc.symm
  rw [n0,if_neg (by decide)]
  cases ht : thirdL A with
  | true => rfl
  | false =>
   rw [if_pos (by decide),if_pos rfl]
   have ro : (List.range (A.length - B.length)).any (runT A B) = true ↔ ∃ i, At (hostF A) (Str.ofString "." ++ hostF B) (hostF A).length i := by rw [runs_iff bne, occ_iff hA hB bne ane]
   rcases rfind_whole (hostF A) (Str.ofString "." ++ hostF B) with ⟨e, hn⟩ | ⟨i, e, ha, _⟩
   ·rw [e,if_pos rfl]
    have : (List.range (A.length - B.length)).any (runT A B) = false := by
     rw [Bool.eq_false_iff]
     intro h
     obtain ⟨i,hi⟩ := ro.mp h
     exact hn i hi
    rw [this]; rfl
   ·have : (List.range (A.length - B.length)).any (runT A B) = true := ro.mpr ⟨i,ha⟩
    have h0 := first i ha
    rw [e,if_neg (by lia),if_neg (by lia),this]
    rfl
 case r => delta id stq_it stq_out; exact k
end

section
open Float64
theorem shift_two (n d : Nat) (k : Int) : Float64.shift n d k = (n * 2^k.toNat,d * 2^(-k).toNat) := by
 refine (?f : Cln _) ?p ⟨?q,fun B k => ?r⟩
 case f => exact fun x _ => x
 case q =>
  unfold Float64.shift
  by_cases h : k ≥ 0
  ·rw [if_pos h,show (-k).toNat = 0 by lia,Nat.pow_zero,Nat.mul_one]
  ·rw [if_neg h,show k.toNat = 0 by lia,Nat.pow_zero,Nat.mul_one]
 case r => delta id stq_it stq_out; exact k
theorem half_exact (q b : Nat) (hb : 0 < b) : Float64.halfEven (q * b) b = q := by
 refine (?f : Cln _) ?p ⟨?q,fun B k => ?r⟩
 case f => exact fun x _ => x
 case q =>
  unfold Float64.halfEven
  have e1 : q * b / b = q := Nat.mul_div_cancel q hb
  have e2 : q * b % b = 0 := Nat.mul_mod_left q b
  simp only [e1,e2]
  have h1 : (decide (2 * 0 > b)) = false := by simp
  have h2 : (2 * 0 == b) = false := by rw [beq_eq_false_iff_ne]; lia
  rw [h1,h2]
  rfl
 case r => (try delta id); (conv => zeta); exact k
theorem mag_le {k q : Nat} (hk : k <= 1974) (hq : q < 2^53) : k * 2^52 + q <= Float64.infMag := by
 have c : Float64.infMag = 2047 * 2^52 := rfl
 lia
theorem toNat_le {e : Int} (h : e <= 900) : (e + 1074).toNat <= 1974 := by lia
theorem exp_a {y x u v N D : Nat} {e : Int} (h1 : (v : Int) - (u : Int) = e) (h2 : (y : Int) - (x : Int) = (N : Int) - (D : Int)) (hl : (N : Int) - (D : Int) = 52 + e) : y + u = 52 + v + x := by omega
theorem exp_b {y x u v N D : Nat} {e : Int} (h1 : (v : Int) - (u : Int) = e) (h2 : (y : Int) - (x : Int) = (N : Int) - (D : Int)) (hl : (N : Int) - (D : Int) = 53 + e) : 53 + v + x = y + u := by omega
theorem exp_c {u v N D : Nat} {e : Int} (h1 : (v : Int) - (u : Int) = e) (up : N + u < 54 + D + v) (lo : 52 + D + v < N + 1 + u) (hl : ¬ (N : Int) - (D : Int) = 52 + e) : (N : Int) - (D : Int) = 53 + e := by omega
theorem sub_52 {a e : Int} (h : a = 52 + e) : a - 52 = e := by omega
theorem sub_53 {a e : Int} (h : a = 53 + e) : a - 53 = e := by omega
theorem add_54 (a b : Nat) : 53 + (a + 1 + b) = 54 + a + b := by omega
theorem round_exact {n d q : Nat} {e : Int} (hn : 0 < n) (hd : 0 < d) (hq : 2^52 <= q) (hq' : q < 2^53) (he : -1074 <= e) (he' : e <= 900) (h : n * 2^(-e).toNat = q * (d * 2^e.toNat)) :
  Float64.roundMag n d = (e + 1074).toNat * 2^52 + q := by
 refine (?f : Cln _) ?p ⟨?q,fun B k => ?r⟩
 case f => exact fun x _ => x
 case q =>
  have n1 := Nat.log2_self_le (Nat.ne_of_gt hn)
  have n2 := @Nat.lt_log2_self n
  have d1 := Nat.log2_self_le (Nat.ne_of_gt hd)
  have d2 := @Nat.lt_log2_self d
  unfold Float64.roundMag
  rw [if_neg (by rw [beq_iff_eq]; exact Nat.ne_of_gt hn)]
  simp only [shift_two]
  generalize hN : n.log2 = N at *
  generalize hD : d.log2 = D at *
  generalize hu : (-e).toNat = u at *
  generalize hv : e.toNat = v at *
  have huv : (v : Int) - (u : Int) = e := by rw [← hv,← hu]; exact Int.toNat_sub_toNat_neg e
  have pu : 0 < 2^u := Nat.pow_pos (by decide)
  have pv : 0 < 2^v := Nat.pow_pos (by decide)
  have up : 2^(N + u) < 2^(54 + D + v) := by
   calc 2^(N + u) = 2^N * 2^u := Nat.pow_add ..
    _ <= n * 2^u := Nat.mul_le_mul_right _ n1
    _ = q * (d * 2^v) := h
    _ < 2^53 * (2^(D + 1) * 2^v) := Nat.mul_lt_mul'' hq' (Nat.mul_lt_mul_of_pos_right d2 pv)
    _ = 2^(54 + D + v) := by rw [← Nat.pow_add,← Nat.pow_add,add_54]
  have lo : 2^(52 + D + v) < 2^(N + 1 + u) := by
   calc 2^(52 + D + v) = 2^52 * (2^D * 2^v) := by rw [← Nat.pow_add,← Nat.pow_add,Nat.add_assoc]
    _ <= q * (d * 2^v) := Nat.mul_le_mul hq (Nat.mul_le_mul_right _ d1)
    _ = n * 2^u := h.symm
    _ < 2^(N + 1) * 2^u := Nat.mul_lt_mul_of_pos_right n2 pu
    _ = 2^(N + 1 + u) := (Nat.pow_add ..).symm
  have up' := (Nat.pow_lt_pow_iff_right (by decide : 1 < 2)).mp up
  have lo' := (Nat.pow_lt_pow_iff_right (by decide : 1 < 2)).mp lo
  have ee : (if n * 2^(-((N : Int) - (D : Int))).toNat ≥ d * 2^(- -((N : Int) - (D : Int))).toNat then (N : Int) - (D : Int) - 52 else (N : Int) - (D : Int) - 53) = e := by
   generalize hx : (-((N : Int) - (D : Int))).toNat = x
   generalize hy : (- -((N : Int) - (D : Int))).toNat = y
   have hxy : (y : Int) - (x : Int) = (N : Int) - (D : Int) := by rw [← hy,← hx,Int.neg_neg]; exact Int.toNat_sub_toNat_neg _
   by_cases hl : (N : Int) - (D : Int) = 52 + e
   ·have : n * 2^x ≥ d * 2^y := by
     refine Nat.le_of_mul_le_mul_right ?_ pu
     calc d * 2^y * 2^u = d * 2^(52 + v + x) := by rw [Nat.mul_assoc,← Nat.pow_add,exp_a huv hxy hl]
      _ = 2^52 * (d * 2^v) * 2^x := by rw [Nat.pow_add,Nat.pow_add]; simp only [Nat.mul_assoc,Nat.mul_left_comm]
      _ <= q * (d * 2^v) * 2^x := Nat.mul_le_mul_right _ (Nat.mul_le_mul_right _ hq)
      _ = n * 2^x * 2^u := by rw [← h,Nat.mul_assoc,Nat.mul_comm (2^u),← Nat.mul_assoc]
    rw [if_pos this]; exact sub_52 hl
   ·have hl2 := exp_c huv up' lo' hl
    have : ¬ n * 2^x ≥ d * 2^y := by
     refine Nat.not_le_of_lt (Nat.lt_of_mul_lt_mul_right (a := 2^u) ?_)
     calc n * 2^x * 2^u = q * (d * 2^v) * 2^x := by rw [← h,Nat.mul_assoc,Nat.mul_comm (2^x),← Nat.mul_assoc]
      _ < 2^53 * (d * 2^v) * 2^x := Nat.mul_lt_mul_of_pos_right (Nat.mul_lt_mul_of_pos_right hq' (Nat.mul_pos hd pv)) (Nat.pow_pos (by decide))
      _ = d * 2^(53 + v + x) := by rw [Nat.pow_add,Nat.pow_add]; simp only [Nat.mul_assoc,Nat.mul_left_comm]
      _ = d * 2^y * 2^u := by rw [Nat.mul_assoc,← Nat.pow_add,exp_b huv hxy hl2]
    rw [if_neg this]; exact sub_53 hl2
  rw [ee,Int.max_eq_left he,Int.neg_neg e,hu,hv,h,half_exact q _ (Nat.mul_pos hd pv)]
  exact Nat.min_eq_right (mag_le (toNat_le he') hq')
 case r => delta id stq_it stq_out; (conv => zeta); exact k
end

section
open Float64
noncomputable def fx (s : Bool) (m : Nat) : UInt64 := Float64.ofFrac s m (2^30)
noncomputable def cE : Nat := 1045
theorem b30 {m : Nat} (h : m < 2^30) : m < 2^53 := Nat.lt_of_lt_of_le h (by decide)
theorem b31 {m : Nat} (h : m <= 2^30) : m < 2^53 := Nat.lt_of_le_of_lt h (by decide)
noncomputable def top (s : Bool) : Nat := match s with | true => 2048 | false => 0
theorem pack_nat (s : Bool) {n : Nat} (h : n < 2^63) : (Float64.pack s n).toNat = top s * 2^52 + n := by
 unfold Float64.pack
 rw [Nat.toUInt64_eq,UInt64.toNat_ofNat']
 cases s
 ·exact (Nat.mod_eq_of_lt (show 0 + n < 2^64 from (Nat.zero_add n).symm ▸ Nat.lt_trans h (by decide)))
 ·exact Nat.mod_eq_of_lt (show 2^63 + n < 2^64 from Nat.add_lt_add_left h _)
theorem pack_dec (s : Bool) {q g : Nat} (q1 : 2^52 <= q) (q2 : q < 2^53) (g1 : 1 <= g) (g2 : g <= 2046) : Float64.decode (Float64.pack s ((g - 1) * 2^52 + q)) = .fin s q ((g : Int) - 1075) := by
 obtain ⟨fr,rfl⟩ := Nat.exists_eq_add_of_le q1
 have f2 : fr < 2^52 := Nat.lt_of_add_lt_add_left q2
 have e0 : (g - 1) * 2^52 + (2^52 + fr) = g * 2^52 + fr := by rw [← Nat.add_assoc,← Nat.succ_mul,Nat.succ_eq_add_one,Nat.sub_add_cancel g1]
 have lt : g * 2^52 + fr < 2^63 := Nat.lt_of_lt_of_le (Nat.add_lt_add_left f2 _) (by rw [← Nat.succ_mul]; exact Nat.mul_le_mul_right (n := g.succ) (m := 2048) (2^52) (Nat.succ_le_succ (Nat.le_succ_of_le g2)))
 rw [e0]
 unfold Float64.decode
 rw [pack_nat s lt,← Nat.add_assoc,← Nat.add_mul,Nat.mul_comm (top s + g)]
 have d1 : (2^52 * (top s + g) + fr) / 2^52 = top s + g := by rw [Nat.mul_add_div (by decide),Nat.div_eq_of_lt f2,Nat.add_zero]
 have d2 : (2^52 * (top s + g) + fr) % 2^52 = fr := (Nat.mul_add_mod ..).trans (Nat.mod_eq_of_lt f2)
 have d3 : (2^52 * (top s + g) + fr) / 2^63 = (top s + g) / 2048 := (Nat.div_div_eq_div_mul _ (2^52) 2048).symm.trans (by rw [d1])
 have g3 : g < 2048 := Nat.lt_of_le_of_lt g2 (by decide)
 have d4 : (top s + g) % 2048 = g := by
  cases s
  ·exact (congrArg (· % 2048) (Nat.zero_add g)).trans (Nat.mod_eq_of_lt g3)
  ·exact (Nat.add_mod_left ..).trans (Nat.mod_eq_of_lt g3)
 have d5 : ((top s + g) / 2048 == 1) = s := by
  cases s
  ·exact congrArg (· == 1) ((congrArg (· / 2048) (Nat.zero_add g)).trans (Nat.div_eq_of_lt g3))
  ·exact congrArg (· == 1) ((Nat.add_div_left g (by decide)).trans (congrArg Nat.succ (Nat.div_eq_of_lt g3)))
 have h1 : (g == 2047) = false := beq_eq_false_iff_ne.mpr (Nat.ne_of_lt (Nat.lt_succ_of_le g2))
 have h2 : (g == 0) = false := beq_eq_false_iff_ne.mpr (Nat.ne_of_gt g1)
 simp only [d1,d2,d3,d4,d5,h1,h2,Bool.false_eq_true,if_false]
theorem log_k {m : Nat} (h : m < 2^53) (h0 : 0 < m) {G : Prop} (k : ∀ L,L <= 52 -> 2^52 <= m * 2^(52 - L) -> m * 2^(52 - L) < 2^53 -> G) : G := by
 have l1 := Nat.log2_self_le (Nat.ne_of_gt h0)
 have l2 := @Nat.lt_log2_self m
 have l3 : m.log2 <= 52 := Nat.le_of_lt_succ ((Nat.pow_lt_pow_iff_right (by decide : 1 < 2)).mp (Nat.lt_of_le_of_lt l1 h))
 refine k m.log2 l3 ?_ ?_
 ·calc 2^52 = 2^m.log2 * 2^(52 - m.log2) := by rw [← Nat.pow_add]; congr 1; lia
   _ <= _ := Nat.mul_le_mul_right _ l1
 ·calc m * 2^(52 - m.log2) < 2^(m.log2 + 1) * 2^(52 - m.log2) := Nat.mul_lt_mul_of_pos_right l2 (Nat.pow_pos (by decide))
   _ = 2^53 := by rw [← Nat.pow_add]; congr 1; lia
theorem mag_at {m x d L : Nat} (q1 : 2^52 <= m * 2^(52 - L)) (q2 : m * 2^(52 - L) < 2^53) (hL : L <= 52) (hx : 0 < x) (hd : 0 < d) (h : x * 2^30 = m * d) : Float64.roundMag x d = (L + 993 - 1) * 2^52 + m * 2^(52 - L) := by
 have key := round_exact (n := x) (d := d) (q := m * 2^(52 - L)) (e := (L : Int) - 82) hx hd q1 q2 (by lia) (by lia) ?_
 ·rw [key,show ((L : Int) - 82 + 1074).toNat = L + 993 - 1 by lia]
 ·rw [show (-((L : Int) - 82)).toNat = 30 + (52 - L) by lia,show ((L : Int) - 82).toNat = 0 by lia,Nat.pow_zero,Nat.mul_one,Nat.pow_add,← Nat.mul_assoc,h,Nat.mul_assoc,Nat.mul_assoc,Nat.mul_comm d]
theorem mag_zero (d : Nat) : Float64.roundMag 0 d = 0 := rfl
theorem fx_of {s : Bool} {m x d : Nat} (hm : m < 2^53) (hd : 0 < d) (h : x * 2^30 = m * d) : Float64.ofFrac s x d = fx s m := by
 unfold fx Float64.ofFrac
 refine congrArg _ ?_
 rcases Nat.eq_zero_or_pos m with h0 | h0
 ·subst h0
  have : x = 0 := by lia
  rw [this,mag_zero,mag_zero]
 ·have hx : 0 < x := by
   refine Nat.pos_of_ne_zero fun e => ?_
   rw [e,Nat.zero_mul] at h
   exact absurd h.symm (Nat.ne_of_gt (Nat.mul_pos h0 hd))
  refine log_k hm h0 fun L hL q1 q2 => ?_
  rw [mag_at q1 q2 hL hx hd h,mag_at q1 q2 hL h0 (by decide) rfl]
theorem fx_zero (s : Bool) : Float64.zero s = fx s 0 := by
 unfold fx Float64.ofFrac
 rw [mag_zero]
 rfl
theorem zero_dec (s : Bool) : Float64.decode (Float64.pack s 0) = .fin s 0 (-1074) := by
 unfold Float64.decode
 rw [pack_nat s (by decide)]
 cases s <;> rfl
theorem fx_dec (s : Bool) {m : Nat} (h : m < 2^53) {G : Prop} (k : ∀ q g : Nat,Float64.decode (fx s m) = .fin s q ((g : Int) - ((cE + 30 : Nat) : Int)) -> q * 2^g = m * 2^cE -> G) : G := by
 rcases Nat.eq_zero_or_pos m with h0 | h0
 ·subst h0
  refine k 0 1 ?_ (by rw [Nat.zero_mul,Nat.zero_mul])
  rw [← fx_zero]
  exact zero_dec s
 ·refine log_k h h0 fun L hL q1 q2 => ?_
  refine k (m * 2^(52 - L)) (L + 993) ?_ ?_
  ·unfold fx Float64.ofFrac
   rw [mag_at q1 q2 hL h0 (by decide) rfl]
   exact pack_dec s q1 q2 (by lia) (by lia)
  ·rw [Nat.mul_assoc,← Nat.pow_add,show 52 - L + (L + 993) = cE by unfold cE; lia]
theorem two_pos (n : Nat) : 0 < 2^n := Nat.pow_pos (by decide)
theorem bin_fx {s : Bool} {n g c m : Nat} {e : Int} (he : e = (g : Int) - (c : Int)) (hm : m < 2^53) (h : n * 2^g * 2^30 = m * 2^c) : Float64.ofBin s n e = fx s m := by
 subst he
 unfold Float64.ofBin
 rw [shift_two]
 refine fx_of hm (Nat.mul_pos Nat.one_pos (two_pos _)) ?_
 rw [Int.toNat_sub,Int.neg_sub,Int.toNat_sub,Nat.one_mul]
 refine Nat.eq_of_mul_eq_mul_right (two_pos c) ?_
 rcases Nat.le_total c g with hg | hg
 ·rw [Nat.sub_eq_zero_of_le hg,Nat.pow_zero,Nat.mul_one,← h,Nat.mul_right_comm,Nat.mul_assoc n,← Nat.pow_add,Nat.sub_add_cancel hg]
 ·rw [Nat.sub_eq_zero_of_le hg,Nat.pow_zero,Nat.mul_one]
  calc n * 2^30 * 2^c = n * 2^30 * (2^g * 2^(c - g)) := by rw [← Nat.pow_add,Nat.add_sub_cancel' hg]
   _ = n * 2^g * 2^30 * 2^(c - g) := by rw [← Nat.mul_assoc,Nat.mul_right_comm n]
   _ = m * 2^(c - g) * 2^c := by rw [h,Nat.mul_right_comm]
theorem sub_two (g i : Nat) (c : Int) : (g : Int) - c - ((i : Int) - c) = (g : Int) - (i : Int) := by lia
theorem fx_mul (s t : Bool) {a b c : Nat} (ha : a < 2^53) (hb : b < 2^53) (hc : c < 2^53) (h : a * b = c * 2^30) : Float64.mul (fx s a) (fx t b) = fx (s != t) c := by
 refine fx_dec s ha fun q g d1 e1 => fx_dec t hb fun r i d2 e2 => ?_
 unfold Float64.mul
 rw [d1,d2]
 refine bin_fx (g := g + i) (c := cE + cE + 60) (by lia) hc ?_
 calc q * r * 2^(g + i) * 2^30 = q * 2^g * (r * 2^i) * 2^30 := by rw [Nat.pow_add,Nat.mul_mul_mul_comm]
  _ = a * b * 2^(cE + cE + 30) := by rw [e1,e2,Nat.mul_mul_mul_comm,← Nat.pow_add,Nat.mul_assoc,← Nat.pow_add]
  _ = c * 2^(cE + cE + 60) := by rw [h,Nat.mul_assoc,← Nat.pow_add,show 30 + (cE + cE + 30) = cE + cE + 60 by lia]
theorem fx_div (s t : Bool) {a b c : Nat} (ha : a < 2^53) (hb : b < 2^53) (hc : c < 2^53) (h0 : 0 < b) (h : a * 2^30 = c * b) : Float64.div (fx s a) (fx t b) = fx (s != t) c := by
 refine fx_dec s ha fun q g d1 e1 => fx_dec t hb fun r i d2 e2 => ?_
 unfold Float64.div
 rw [d1,d2]
 have r0 : 0 < r := by
  refine Nat.pos_of_ne_zero fun e => ?_
  rw [e,Nat.zero_mul] at e2
  exact absurd e2.symm (Nat.ne_of_gt (Nat.mul_pos h0 (two_pos _)))
 have hk : (r == 0) = false := beq_eq_false_iff_ne.mpr (Nat.ne_of_gt r0)
 simp only [hk,Bool.false_eq_true,if_false,shift_two]
 refine fx_of hc (Nat.mul_pos r0 (two_pos _)) ?_
 rw [sub_two,Int.neg_sub,Int.toNat_sub,Int.toNat_sub]
 refine Nat.eq_of_mul_eq_mul_right (two_pos i) ?_
 have hp : 2^(g - i) * 2^i = 2^g * 2^(i - g) := by
  rw [← Nat.pow_add,← Nat.pow_add]
  rcases Nat.le_total i g with hg | hg
  ·rw [Nat.sub_add_cancel hg,Nat.sub_eq_zero_of_le hg,Nat.add_zero]
  ·rw [Nat.sub_eq_zero_of_le hg,Nat.zero_add,Nat.add_sub_cancel' hg]
 calc q * 2^(g - i) * 2^30 * 2^i = q * 2^g * 2^(i - g) * 2^30 := by rw [Nat.mul_right_comm,Nat.mul_assoc q,hp,← Nat.mul_assoc q]
  _ = a * 2^30 * 2^cE * 2^(i - g) := by rw [e1,Nat.mul_right_comm,Nat.mul_right_comm a]
  _ = c * (r * 2^i) * 2^(i - g) := by rw [h,Nat.mul_assoc c,← e2]
  _ = c * (r * 2^(i - g)) * 2^i := by rw [Nat.mul_assoc c,Nat.mul_assoc c,Nat.mul_right_comm r]
theorem sgn_mul (s : Bool) (m k : Nat) : Float64.sgn s (m * k) = Float64.sgn s m * (k : Int) := by
 cases s
 ·show ((m * k : Nat) : Int) = (m : Int) * (k : Int)
  exact Int.natCast_mul ..
 ·show -((m * k : Nat) : Int) = -(m : Int) * (k : Int)
  rw [Int.natCast_mul,Int.neg_mul]
theorem sgn_abs (s : Bool) (m : Nat) : (Float64.sgn s m).natAbs = m := by
 cases s
 ·rfl
 ·exact Int.natAbs_neg ..
theorem align_k {s t : Bool} {a b q g r i : Nat} (e1 : q * 2^g = a * 2^cE) (e2 : r * 2^i = b * 2^cE) {G : Prop}
  (k : ∀ (u v j : Nat),Float64.align s q ((g : Int) - ((cE + 30 : Nat) : Int)) t r ((i : Int) - ((cE + 30 : Nat) : Int)) = (Float64.sgn s u,Float64.sgn t v,(j : Int) - ((cE + 30 : Nat) : Int)) -> u * 2^j = a * 2^cE -> v * 2^j = b * 2^cE -> G) : G := by
 refine k (q * 2^(g - min g i)) (r * 2^(i - min g i)) (min g i) ?_ ?_ ?_
 ·unfold Float64.align
  have eg : min ((g : Int) - ((cE + 30 : Nat) : Int)) ((i : Int) - ((cE + 30 : Nat) : Int)) = ((min g i : Nat) : Int) - ((cE + 30 : Nat) : Int) := by
   rcases Nat.le_total g i with hg | hg
   ·rw [Nat.min_eq_left hg,Int.min_eq_left (Int.sub_le_sub_right (Int.ofNat_le.mpr hg) _)]
   ·rw [Nat.min_eq_right hg,Int.min_eq_right (Int.sub_le_sub_right (Int.ofNat_le.mpr hg) _)]
  simp only [eg,sub_two,Int.toNat_sub]
 ·rw [Nat.mul_assoc,← Nat.pow_add,Nat.sub_add_cancel (Nat.min_le_left ..),e1]
 ·rw [Nat.mul_assoc,← Nat.pow_add,Nat.sub_add_cancel (Nat.min_le_right ..),e2]
theorem int_pow_pos (n : Nat) : (0 : Int) < ((2^n : Nat) : Int) := Int.natCast_pos.mpr (two_pos n)
theorem fx_add (s t u : Bool) {a b c : Nat} (ha : a < 2^53) (hb : b < 2^53) (hc : c < 2^53) (hu : c = 0 -> u = (s && t)) (h : Float64.sgn s a + Float64.sgn t b = Float64.sgn u c) : Float64.add (fx s a) (fx t b) = fx u c := by
 refine fx_dec s ha fun q g d1 e1 => fx_dec t hb fun r i d2 e2 => ?_
 unfold Float64.add
 rw [d1,d2]
 refine align_k (s := s) (t := t) e1 e2 fun x y j ej ex ey => ?_
 simp only [ej]
 have key : (Float64.sgn s x + Float64.sgn t y) * ((2^j : Nat) : Int) = Float64.sgn u c * ((2^cE : Nat) : Int) := by
  rw [Int.add_mul,← sgn_mul,← sgn_mul,ex,ey,sgn_mul,sgn_mul,← Int.add_mul,h]
 generalize Float64.sgn s x + Float64.sgn t y = P at key
 have p1 := int_pow_pos j
 have p2 := int_pow_pos cE
 have abs : P.natAbs * 2^j = c * 2^cE := by
  have := congrArg Int.natAbs key
  rw [Int.natAbs_mul,Int.natAbs_mul,sgn_abs] at this
  exact this
 by_cases hP : P = 0
 ·rw [if_pos (by rw [hP]; rfl)]
  have c0 : c = 0 := by
   rw [hP] at abs
   refine Nat.eq_of_mul_eq_mul_right (two_pos cE) ?_
   rw [← abs,Nat.zero_mul]
   exact Nat.zero_mul _
  rw [c0,hu c0]
  exact fx_zero _
 ·rw [if_neg (by rw [beq_iff_eq]; exact hP)]
  have hd : decide (P < 0) = u := by
   cases u
   ·rw [decide_eq_false_iff_not]
    intro hn
    have h1 := Int.mul_neg_of_neg_of_pos hn p1
    rw [key] at h1
    have h2 : (0 : Int) <= Float64.sgn false c * ((2^cE : Nat) : Int) := Int.mul_nonneg (Int.natCast_nonneg c) (Int.le_of_lt p2)
    exact absurd h1 (Int.not_lt.mpr h2)
   ·rw [decide_eq_true_iff]
    refine Int.not_le.mp fun hn => ?_
    have h0 : 0 < P := by lia
    have h1 := Int.mul_pos h0 p1
    rw [key] at h1
    have h2 : Float64.sgn true c * ((2^cE : Nat) : Int) <= 0 := Int.mul_nonpos_of_nonpos_of_nonneg (by show -(c : Int) <= 0; lia) (Int.le_of_lt p2)
    exact absurd h1 (Int.not_lt.mpr h2)
  rw [hd]
  refine bin_fx (g := j) (c := cE + 30) rfl hc ?_
  rw [abs,Nat.mul_assoc,← Nat.pow_add]
theorem xor_top {n : Nat} (h : n < 2^63) : n ^^^ 2^63 = n + 2^63 := by
 refine (?f : Cln _) ?p ⟨?q,fun B k => ?r⟩
 case f => exact fun x _ => x
 case q =>
  apply Nat.eq_of_testBit_eq
  intro i
  rw [Nat.testBit_xor,Nat.testBit_two_pow,Nat.add_comm]
  by_cases hi : i = 63
  ·subst hi
   rw [Nat.testBit_two_pow_add_eq,Nat.testBit_lt_two_pow h]
   rfl
  ·have hd : decide (63 = i) = false := decide_eq_false fun e => hi e.symm
   rw [hd,Bool.xor_false]
   by_cases hlt : i < 63
   ·rw [Nat.testBit_two_pow_add_gt hlt]
   ·rw [Nat.testBit_lt_two_pow (x := n) (Nat.lt_of_lt_of_le h (Nat.pow_le_pow_right (by decide) (by lia))),Nat.testBit_lt_two_pow (x := 2^63 + n) ?_]
    calc 2^63 + n < 2^64 := by lia
     _ <= 2^i := Nat.pow_le_pow_right (by decide) (by lia)
 case r => delta id stq_it stq_out; exact k
theorem mag_lt (m d : Nat) : Float64.roundMag m d < 2^63 := by
 have : Float64.roundMag m d <= Float64.infMag := by
  unfold Float64.roundMag
  split
  ·exact Nat.zero_le _
  ·exact Nat.min_le_left ..
 exact Nat.lt_of_le_of_lt this (by decide)
theorem fx_neg {m : Nat} (h : m < 2^53) : Float64.neg (fx false m) = fx true m := by
 refine fx_dec false h fun q g d _ => ?_
 unfold Float64.neg Float64.isNaN
 rw [d]
 simp only [Bool.false_eq_true,if_false]
 unfold fx Float64.ofFrac
 have hl := mag_lt m (2^30)
 apply UInt64.toNat_inj.mp
 rw [UInt64.toNat_xor,pack_nat _ hl,pack_nat _ hl,show (Float64.pack true 0).toNat = 2^63 by decide,show top false * 2^52 = 0 from rfl,Nat.zero_add,xor_top hl,Nat.add_comm]
 rfl
theorem sub_cast {a b : Nat} (h : b <= a) : (a : Int) - (b : Int) = ((a - b : Nat) : Int) := (Int.ofNat_sub h).symm
theorem fx_sub {a b : Nat} (ha : a < 2^53) (h : b <= a) : Float64.sub (fx false a) (fx false b) = fx false (a - b) := by
 have hb := Nat.lt_of_le_of_lt h ha
 unfold Float64.sub
 rw [fx_neg hb]
 exact fx_add _ _ _ ha hb (Nat.lt_of_le_of_lt (Nat.sub_le ..) ha) (fun _ => rfl) (sub_cast h)
theorem fx_subN {a b : Nat} (hb : b < 2^53) (h : a < b) : Float64.sub (fx false a) (fx false b) = fx true (b - a) := by
 unfold Float64.sub
 rw [fx_neg hb]
 refine fx_add _ _ _ (Nat.lt_trans h hb) hb (Nat.lt_of_le_of_lt (Nat.sub_le ..) hb) (fun e => absurd e (Nat.sub_ne_zero_of_lt h)) ?_
 show (a : Int) - (b : Int) = -((b - a : Nat) : Int)
 rw [← sub_cast (Nat.le_of_lt h),Int.neg_sub]
theorem fx_plus {a b : Nat} (h : a + b < 2^53) : Float64.add (fx false a) (fx false b) = fx false (a + b) :=
 fx_add _ _ _ (Nat.lt_of_le_of_lt (Nat.le_add_right ..) h) (Nat.lt_of_le_of_lt (Nat.le_add_left ..) h) h (fun _ => rfl) (Int.natCast_add ..).symm
theorem comp_int {x y : Int} : compare x y = if x < y then .lt else if x = y then .eq else .gt := rfl
theorem fx_cmp {a b : Nat} (ha : a < 2^53) (hb : b < 2^53) : Float64.cmp (fx false a) (fx false b) = some (if a < b then .lt else if a = b then .eq else .gt) := by
 refine fx_dec false ha fun q g d1 e1 => fx_dec false hb fun r i d2 e2 => ?_
 unfold Float64.cmp
 rw [d1,d2]
 refine align_k (s := false) (t := false) e1 e2 fun x y j ej ex ey => ?_
 simp only [ej]
 show some (compare (x : Int) (y : Int)) = _
 rw [comp_int]
 have p1 := two_pos j
 have p2 := two_pos cE
 have hl : x < y ↔ a < b := by rw [← Nat.mul_lt_mul_right p1,ex,ey,Nat.mul_lt_mul_right p2]
 have he : x = y ↔ a = b := by
  constructor
  ·intro e; rw [e,ey] at ex; exact (Nat.eq_of_mul_eq_mul_right p2 ex).symm
  ·intro e; rw [e,← ey] at ex; exact Nat.eq_of_mul_eq_mul_right p1 ex
 congr 1
 simp only [Int.ofNat_lt,Int.ofNat_inj,hl,he]
theorem fx_lt {a b : Nat} (ha : a < 2^53) (hb : b < 2^53) : (Float64.cmp (fx false a) (fx false b) == some Ordering.lt) = decide (a < b) := by
 rw [fx_cmp ha hb]
 by_cases h : a < b
 ·rw [if_pos h,decide_eq_true h]; rfl
 ·rw [if_neg h,decide_eq_false h]
  split <;> rfl
theorem fx_eq {a b : Nat} (ha : a < 2^53) (hb : b < 2^53) : (Float64.cmp (fx false a) (fx false b) == some Ordering.eq) = decide (a = b) := by
 rw [fx_cmp ha hb]
 by_cases h : a < b
 ·rw [if_pos h,decide_eq_false (Nat.ne_of_lt h)]; rfl
 ·rw [if_neg h]
  by_cases e : a = b
  ·rw [if_pos e,decide_eq_true e]; rfl
  ·rw [if_neg e,decide_eq_false e]; rfl
theorem fx_fin (s : Bool) {a : Nat} (ha : a < 2^53) : Float64.isFinite (fx s a) = true := by
 refine fx_dec s ha fun q g d _ => ?_
 unfold Float64.isFinite; rw [d]
theorem fx_inf (s : Bool) {a : Nat} (ha : a < 2^53) : Float64.isInf (fx s a) = false := by
 refine fx_dec s ha fun q g d _ => ?_
 unfold Float64.isInf; rw [d]
theorem fx_nan (s : Bool) {a : Nat} (ha : a < 2^53) : Float64.isNaN (fx s a) = false := by
 refine fx_dec s ha fun q g d _ => ?_
 unfold Float64.isNaN; rw [d]
theorem fx_nz (s : Bool) {a : Nat} (ha : a < 2^53) (h : 0 < a) : Float64.isZero (fx s a) = false := by
 refine fx_dec s ha fun q g d e => ?_
 unfold Float64.isZero; rw [d]
 cases q with
 | zero =>
  rw [Nat.zero_mul] at e
  exact absurd e.symm (Nat.ne_of_gt (Nat.mul_pos h (two_pos _)))
 | succ q => rfl
theorem cast_pow (n : Nat) : ((2^n : Nat) : Int) = (2 : Int)^n := by rw [Int.natCast_pow]; rfl
theorem fx_trunc {a : Nat} (ha : a < 2^53) : Flt.toInt Float64.truncOf (fx false a) = ((a / 2^30 : Nat) : Int) := by
 refine fx_dec false ha fun q g d e => ?_
 rw [Flt.toInt_fin d]
 show Float64.floorOf false q ((g : Int) - ((cE + 30 : Nat) : Int)) = _
 unfold Float64.floorOf
 show (if (g : Int) - ((cE + 30 : Nat) : Int) ≥ 0 then (q : Int) * 2^((g : Int) - ((cE + 30 : Nat) : Int)).toNat else (q : Int).fdiv (2^(-((g : Int) - ((cE + 30 : Nat) : Int))).toNat)) = _
 generalize hc : cE + 30 = c
 by_cases hg : c <= g
 ·rw [if_pos (show (g : Int) - (c : Int) ≥ 0 from Int.sub_nonneg_of_le (Int.ofNat_le.mpr hg)),Int.toNat_sub]
  have : a = q * 2^(g - c) * 2^30 := by
   refine Nat.eq_of_mul_eq_mul_right (two_pos cE) ?_
   rw [← e,Nat.mul_assoc,Nat.mul_assoc,← Nat.pow_add,← Nat.pow_add,Nat.add_comm 30,hc,Nat.sub_add_cancel hg]
  rw [this,Nat.mul_div_cancel _ (two_pos 30),Int.natCast_mul,cast_pow]
 ·have hg' := Nat.lt_of_not_le hg
  rw [if_neg (show ¬ (g : Int) - (c : Int) ≥ 0 from Int.not_le.mpr (Int.sub_neg_of_lt (Int.ofNat_lt.mpr hg'))),Int.neg_sub,Int.toNat_sub]
  have h1 : a / 2^30 = q / 2^(c - g) := by
   rw [← Nat.mul_div_mul_right a (2^30) (two_pos cE),← e,← Nat.pow_add,Nat.add_comm 30,hc,show c = c - g + g from (Nat.sub_add_cancel (Nat.le_of_lt hg')).symm,Nat.pow_add,Nat.mul_div_mul_right _ _ (two_pos g),Nat.add_sub_cancel]
  rw [h1,← cast_pow,Int.fdiv_eq_ediv_of_nonneg _ (Int.natCast_nonneg _),Int.natCast_ediv]
theorem fx_int {i : Nat} (h : i < 2^20) : Float64.ofInt (i : Int) = fx false (i * 2^30) := by
 unfold Float64.ofInt
 rw [decide_eq_false (Int.not_lt.mpr (Int.natCast_nonneg i)),Int.natAbs_natCast]
 exact fx_of (Nat.lt_of_lt_of_le (Nat.mul_lt_mul_of_pos_right h (two_pos 30)) (by decide)) (by decide) (by rw [Nat.mul_one])
theorem cmpInt_at {x : UInt64} {q : Nat} {e i : Int} (d : Float64.decode x = .fin false q e) : Float64.cmpInt x i = some (if e ≥ 0 then compare ((q : Int) * 2^e.toNat) i else compare (q : Int) (i * 2^(-e).toNat)) := by
 unfold Float64.cmpInt
 rw [d]
 rfl
theorem comp_self (x : Int) : compare x x = .eq := by rw [comp_int,if_neg (Int.lt_irrefl _),if_pos rfl]
theorem fx_cmpInt {i : Nat} (h : i < 2^20) : Float64.cmpInt (fx false (i * 2^30)) (i : Int) = some .eq := by
 refine fx_dec false (m := i * 2^30) (Nat.lt_of_lt_of_le (Nat.mul_lt_mul_of_pos_right h (two_pos 30)) (by decide)) fun q g d e => ?_
 rw [cmpInt_at d]
 rw [Nat.mul_assoc,← Nat.pow_add] at e
 generalize hc : cE + 30 = c
 rw [Nat.add_comm 30,hc] at e
 refine congrArg some ?_
 by_cases hg : c <= g
 ·have h1 : q * 2^(g - c) = i := by
   refine Nat.eq_of_mul_eq_mul_right (two_pos c) ?_
   rw [← e,Nat.mul_assoc,← Nat.pow_add,Nat.sub_add_cancel hg]
  rw [if_pos (show (g : Int) - (c : Int) ≥ 0 from Int.sub_nonneg_of_le (Int.ofNat_le.mpr hg)),Int.toNat_sub,← h1,Int.natCast_mul,cast_pow]
  exact comp_self _
 ·have h1 : q = i * 2^(c - g) := by
   refine Nat.eq_of_mul_eq_mul_right (two_pos g) ?_
   rw [e,Nat.mul_assoc,← Nat.pow_add,Nat.sub_add_cancel (Nat.le_of_lt (Nat.lt_of_not_le hg))]
  rw [if_neg (show ¬ (g : Int) - (c : Int) ≥ 0 from Int.not_le.mpr (Int.sub_neg_of_lt (Int.ofNat_lt.mpr (Nat.lt_of_not_le hg)))),Int.neg_sub,Int.toNat_sub,h1,Int.natCast_mul,cast_pow]
  exact comp_self _
end

noncomputable abbrev one64 : UInt64 := 4607182418800017408
noncomputable def hueL (ns : List Int) : UInt64 := Float64.ofFrac (decide (2 * arcF ns + 1 < 0) != decide ((2 * 4^(ns.length : Int).toNat : Int) < 0)) (2 * arcF ns + 1).natAbs (2 * 4^(ns.length : Int).toNat : Int).natAbs
noncomputable def shareL (ns : List Int) : UInt64 := Float64.ofFrac (decide ((1 : Int) < 0) != decide ((2^(ns.length : Int).toNat : Int) < 0)) (Int.natAbs 1) (2^(ns.length : Int).toNat : Int).natAbs
noncomputable abbrev placeQ (h sB : UInt64) : UInt64 := Float64.div (Float64.div h sB) sB
section
open Float64
theorem fk_zero : (0 : UInt64) = fx false 0 := by decide +kernel
theorem fk_half : (4602678819172646912 : UInt64) = fx false (2^29) := by decide +kernel
theorem fk_three : (4604930618986332160 : UInt64) = fx false (3 * 2^28) := by decide +kernel
theorem fk_one : (4607182418800017408 : UInt64) = fx false (2^30) := by decide +kernel
theorem fk_two : (4611686018427387904 : UInt64) = fx false (2 * 2^30) := by decide +kernel
theorem fk_four : (4616189618054758400 : UInt64) = fx false (4 * 2^30) := by decide +kernel
theorem fk_six : (4618441417868443648 : UInt64) = fx false (6 * 2^30) := by decide +kernel
theorem fx_fmod (s : Bool) {a : Nat} (h : a < 2^30) : Float64.fmod (fx s a) (fx false (2^30)) = fx s a := by
 refine fx_dec s (m := a) (b30 h) fun q g d1 e1 => fx_dec false (m := 2^30) (by decide) fun r i d2 e2 => ?_
 unfold Float64.fmod
 rw [d1,d2]
 refine align_k (s := false) (t := false) e1 e2 fun u v j ej eu ev => ?_
 have r0 : (r == 0) = false := by
  rw [beq_eq_false_iff_ne]
  intro e
  rw [e,Nat.zero_mul] at e2
  exact absurd e2.symm (Nat.ne_of_gt (Nat.mul_pos (by decide) (two_pos _)))
 simp only [r0,ej,Bool.false_eq_true,if_false]
 have uv : u < v := by
  refine Nat.lt_of_mul_lt_mul_right (a := 2^j) ?_
  rw [eu,ev]
  exact Nat.mul_lt_mul_of_pos_right h (two_pos _)
 show Float64.ofBin s (u % v) _ = _
 rw [Nat.mod_eq_of_lt uv]
 exact bin_fx (g := j) (c := cE + 30) rfl (b30 h) (by rw [eu,Nat.mul_assoc,← Nat.pow_add])
theorem divmod_two {x y m : UInt64} (hm : Float64.fmod x y = m) (hz : Float64.isZero m = false) : (Float64.divmod x y).2 = if (Float64.lt y (Float64.zero false) != Float64.lt m (Float64.zero false)) = true then Float64.add m y else m := by
 unfold Float64.divmod
 rw [hm]
 simp only [hz,Bool.false_eq_true,if_false]
 split <;> rfl
theorem lt_neg {a : Nat} (h : 0 < a) (h2 : a < 2^53) : Float64.lt (fx true a) (fx false 0) = true := by
 refine fx_dec true h2 fun q g d1 e1 => fx_dec false (m := 0) (by decide) fun r i d2 e2 => ?_
 unfold Float64.lt Float64.cmp
 rw [d1,d2]
 refine align_k (s := true) (t := false) e1 e2 fun x y j ej ex ey => ?_
 simp only [ej]
 show (some (compare (-(x : Int)) (y : Int)) == some Ordering.lt) = true
 have x0 : 0 < x := by
  refine Nat.pos_of_ne_zero fun e => ?_
  rw [e,Nat.zero_mul] at ex
  exact absurd ex.symm (Nat.ne_of_gt (Nat.mul_pos h (two_pos _)))
 rw [comp_int,if_pos (by lia)]
 rfl
theorem lt_pos {a : Nat} (h2 : a < 2^53) : Float64.lt (fx false a) (fx false 0) = false := by
 unfold Float64.lt
 rw [fx_lt h2 (by decide)]
 exact decide_eq_false (Nat.not_lt_zero a)
theorem mod_pos {a : Nat} (h0 : 0 < a) (h : a < 2^30) : (Float64.divmod (fx false a) 4607182418800017408).2 = fx false a := by
 rw [fk_one,divmod_two (fx_fmod false h) (fx_nz false (b30 h) h0),fx_zero,lt_pos (by decide),lt_pos (b30 h)]
 rfl
theorem mod_neg {a : Nat} (h0 : 0 < a) (h : a < 2^30) : (Float64.divmod (fx true a) 4607182418800017408).2 = fx false (2^30 - a) := by
 rw [fk_one,divmod_two (fx_fmod true h) (fx_nz true (b30 h) h0),fx_zero,lt_pos (by decide),lt_neg h0 (b30 h),if_pos (by decide)]
 refine fx_add _ _ _ (b30 h) (by decide) (b31 (Nat.sub_le ..)) (fun _ => rfl) ?_
 show -(a : Int) + ((2^30 : Nat) : Int) = ((2^30 - a : Nat) : Int)
 rw [← sub_cast (Nat.le_of_lt h),Int.add_comm]
 rfl
theorem fx_ratio {a b c : Nat} (ha : a < 2^53) (hb : b < 2^53) (hc : c < 2^53) (h0 : 0 < b) (h : a * 2^30 = c * b) : Float64.div (fx false a) (fx false b) = fx false c := fx_div false false ha hb hc h0 h
theorem fx_prod {a b c : Nat} (ha : a < 2^53) (hb : b < 2^53) (hc : c < 2^53) (h : a * b = c * 2^30) : Float64.mul (fx false a) (fx false b) = fx false c := fx_mul false false ha hb hc h
theorem six_pos {x h : Nat} (e : x = 6 * h) (h0 : 0 < h) (h1 : h < 2^30) : (Float64.divmod (Float64.div (fx false x) 4618441417868443648) 4607182418800017408).2 = fx false h := by
 rw [fk_six,fx_ratio (c := h) (by lia) (by decide) (by lia) (by decide) (by lia)]
 exact mod_pos h0 h1
theorem six_neg {x n : Nat} (e : x = 6 * n) (h0 : 0 < n) (h1 : n < 2^30) : (Float64.divmod (Float64.div (fx true x) 4618441417868443648) 4607182418800017408).2 = fx false (2^30 - n) := by
 rw [fk_six,fx_div true false (c := n) (by lia) (by decide) (by lia) (by decide) (by lia)]
 exact mod_neg h0 h1
theorem fx_max_l {a b : Nat} (ha : a < 2^53) (h : b <= a) : maxF (fx false a) (fx false b) = fx false a := by
 unfold maxF
 rw [fx_lt ha (Nat.lt_of_le_of_lt h ha)]
 exact if_neg (by rw [decide_eq_true_iff]; exact Nat.not_lt_of_le h)
theorem fx_max_r {a b : Nat} (hb : b < 2^53) (h : a <= b) : maxF (fx false a) (fx false b) = fx false b := by
 rcases Nat.lt_or_eq_of_le h with l | e
 ·unfold maxF
  rw [fx_lt (Nat.lt_trans l hb) hb]
  exact if_pos (decide_eq_true l)
 ·subst e
  exact fx_max_l hb h
theorem fx_min_r {a b : Nat} (ha : a < 2^53) (h : b <= a) : minF (fx false a) (fx false b) = fx false b := by
 rcases Nat.lt_or_eq_of_le h with l | e
 ·unfold minF
  rw [fx_lt (Nat.lt_trans l ha) ha]
  exact if_pos (decide_eq_true l)
 ·subst e
  unfold minF
  split <;> rfl
theorem fx_min_l {a b : Nat} (hb : b < 2^53) (h : a <= b) : minF (fx false a) (fx false b) = fx false a := by
 unfold minF
 rw [fx_lt hb (Nat.lt_of_le_of_lt h hb)]
 exact if_neg (by rw [decide_eq_true_iff]; exact Nat.not_lt_of_le h)
theorem isf {x : Bool} (h : x = false) : ¬ x = true := by rw [h]; decide
theorem U_le (x : Nat) : 2^30 - x <= 2^30 := Nat.sub_le ..
theorem U_b (x : Nat) : 2^30 - x < 2^53 := b31 (U_le x)
theorem U_lt {x : Nat} (h : 0 < x) : 2^30 - x < 2^30 := Nat.sub_lt (by decide) h
theorem U_u : 2^30 < 2^53 := by decide
theorem U_back {x : Nat} (h : x <= 2^30) : Float64.sub (fx false (2^30)) (fx false (2^30 - x)) = fx false x := by
 rw [fx_sub U_u (U_le x),Nat.sub_sub_self h]
theorem U_min {g b s : Nat} (hg : g <= s) (hb : b <= s) (hm : g = s ∨ b = s) : minF (fx false (2^30 - g)) (fx false (2^30 - b)) = fx false (2^30 - s) := by
 rcases hm with e | e
 ·subst e; exact fx_min_l (U_b b) (Nat.sub_le_sub_left hb _)
 ·subst e; exact fx_min_r (U_b g) (Nat.sub_le_sub_left hg _)
theorem U_ne {x : Nat} (h : 0 < x) : (Float64.cmp (fx false (2^30 - x)) (fx false (2^30)) == some Ordering.eq) = false := by
 rw [fx_eq (U_b x) U_u]; exact decide_eq_false (Nat.ne_of_lt (U_lt h))
theorem U_nz : ¬ Float64.isZero (fx false (2^30)) = true := isf (fx_nz _ U_u (by decide))
theorem U_eq : (Float64.cmp (fx false (2^30)) (fx false (2^30)) == some Ordering.eq) = true := by rw [fx_eq U_u U_u]; rfl
theorem U_part {x s c : Nat} (hs : 0 < s) (hs1 : s <= 2^30) (hx : x <= s) (hc : c <= 2^30) (e : x * 2^30 = c * s) : Float64.div (Float64.sub (fx false (2^30)) (fx false (2^30 - x))) (fx false s) = fx false c := by
 rw [U_back (Nat.le_trans hx hs1)]
 exact fx_ratio (b31 (Nat.le_trans hx hs1)) (b31 hs1) (b31 hc) hs e
theorem U_share {s : Nat} (hs1 : s <= 2^30) : Float64.div (fx false s) (fx false (2^30)) = fx false s := fx_ratio (b31 hs1) U_u (b31 hs1) (by decide) rfl
theorem rgb_red {g b s gc bc : Nat} {X : UInt64} (hs : 0 < s) (hs1 : s <= 2^30) (hg : g <= s) (hb : b <= s) (hm : g = s ∨ b = s) (eg : g * 2^30 = gc * s) (eb : b * 2^30 = bc * s) (lg : gc <= 2^30) (lb : bc <= 2^30)
  (hX : (Float64.divmod (Float64.div (Float64.sub (fx false bc) (fx false gc)) 4618441417868443648) 4607182418800017408).2 = X) : rgbF (fx false (2^30)) (fx false (2^30 - g)) (fx false (2^30 - b)) = some (X,fx false s,4607182418800017408) := by
 have e1 : maxF (maxF (fx false (2^30)) (fx false (2^30 - g))) (fx false (2^30 - b)) = fx false (2^30) := by rw [fx_max_l U_u (U_le g)]; exact fx_max_l U_u (U_le b)
 have e2 : minF (minF (fx false (2^30)) (fx false (2^30 - g))) (fx false (2^30 - b)) = fx false (2^30 - s) := by rw [fx_min_r U_u (U_le g)]; exact U_min hg hb hm
 rw [rgb1 (by rw [e1,e2]; exact U_ne hs) (by rw [e1]; exact U_nz) (by rw [e1,e2,U_back hs1]; exact isf (fx_nz _ (b31 hs1) hs)) (by rw [e1]; exact U_eq),e1,e2,U_back hs1,U_part hs hs1 hb lb eb,U_part hs hs1 hg lg eg,hX,U_share hs1,← fk_one]
theorem rgb_green {r b s rc bc h : Nat} (hs : 0 < s) (hs1 : s <= 2^30) (hr : r <= s) (hb : b <= s) (hm : r = s ∨ b = s) (er : r * 2^30 = rc * s) (eb : b * 2^30 = bc * s) (lr : rc <= 2^30) (lb : bc <= 2^30)
  (r0 : 0 < r) (h0 : 0 < h) (h1 : h < 2^30) (hX : 2 * 2^30 + rc = 6 * h + bc) : rgbF (fx false (2^30 - r)) (fx false (2^30)) (fx false (2^30 - b)) = some (fx false h,fx false s,4607182418800017408) := by
 have e1 : maxF (maxF (fx false (2^30 - r)) (fx false (2^30))) (fx false (2^30 - b)) = fx false (2^30) := by rw [fx_max_r U_u (U_le r)]; exact fx_max_l U_u (U_le b)
 have e2 : minF (minF (fx false (2^30 - r)) (fx false (2^30))) (fx false (2^30 - b)) = fx false (2^30 - s) := by rw [fx_min_l U_u (U_le r)]; exact U_min hr hb hm
 have b3 : 2 * 2^30 + rc < 2^53 := Nat.lt_of_le_of_lt (Nat.add_le_add_left lr _) (by decide)
 rw [rgb2 (by rw [e1,e2]; exact U_ne hs) (by rw [e1]; exact U_nz) (by rw [e1,e2,U_back hs1]; exact isf (fx_nz _ (b31 hs1) hs)) (by rw [e1]; exact U_ne r0) (by rw [e1]; exact U_eq),e1,e2,U_back hs1,U_part hs hs1 hb lb eb,U_part hs hs1 hr lr er,
  fk_two,fx_plus b3,fx_sub b3 (hX ▸ Nat.le_add_left ..),hX,Nat.add_sub_cancel,six_pos rfl h0 h1,U_share hs1,← fk_one]
theorem rgb_blue {r g s rc gc h : Nat} (hs : 0 < s) (hs1 : s <= 2^30) (hr : r <= s) (hg : g <= s) (hm : r = s ∨ g = s) (er : r * 2^30 = rc * s) (eg : g * 2^30 = gc * s) (lr : rc <= 2^30) (lg : gc <= 2^30)
  (r0 : 0 < r) (g0 : 0 < g) (h0 : 0 < h) (h1 : h < 2^30) (hX : 4 * 2^30 + gc = 6 * h + rc) : rgbF (fx false (2^30 - r)) (fx false (2^30 - g)) (fx false (2^30)) = some (fx false h,fx false s,4607182418800017408) := by
 have e1 : maxF (maxF (fx false (2^30 - r)) (fx false (2^30 - g))) (fx false (2^30)) = fx false (2^30) := by
  rcases Nat.le_total (2^30 - r) (2^30 - g) with l | l
  ·rw [fx_max_r (U_b g) l]; exact fx_max_r U_u (U_le g)
  ·rw [fx_max_l (U_b r) l]; exact fx_max_r U_u (U_le r)
 have e2 : minF (minF (fx false (2^30 - r)) (fx false (2^30 - g))) (fx false (2^30)) = fx false (2^30 - s) := by rw [U_min hr hg hm]; exact fx_min_l U_u (U_le s)
 have b3 : 4 * 2^30 + gc < 2^53 := Nat.lt_of_le_of_lt (Nat.add_le_add_left lg _) (by decide)
 rw [rgb3 (by rw [e1,e2]; exact U_ne hs) (by rw [e1]; exact U_nz) (by rw [e1,e2,U_back hs1]; exact isf (fx_nz _ (b31 hs1) hs)) (by rw [e1]; exact U_ne r0) (by rw [e1]; exact U_ne g0),e1,e2,U_back hs1,U_part hs hs1 hg lg eg,U_part hs hs1 hr lr er,
  fk_four,fx_plus b3,fx_sub b3 (hX ▸ Nat.le_add_left ..),hX,Nat.add_sub_cancel,six_pos rfl h0 h1,U_share hs1,← fk_one]
noncomputable def triF (j p q t : Nat) : UInt64 × UInt64 × UInt64 :=
 if j = 0 then (4607182418800017408,fx false t,fx false p) else if j = 1 then (fx false q,4607182418800017408,fx false p) else if j = 2 then (fx false p,4607182418800017408,fx false t)
 else if j = 3 then (fx false p,fx false q,4607182418800017408) else if j = 4 then (fx false t,fx false p,4607182418800017408) else (4607182418800017408,fx false p,fx false q)
theorem one_fx {p : Nat} (h : p <= 2^30) : Float64.mul 4607182418800017408 (fx false p) = fx false p := by
 rw [fk_one]; exact fx_prod U_u (b31 h) (b31 h) (Nat.mul_comm ..)
theorem six_if {α : Type} (j : Nat) (hj : j < 6) (a b c d e f z : α) : (if (j : Int) = 0 then a else if (j : Int) = 1 then b else if (j : Int) = 2 then c else if (j : Int) = 3 then d else if (j : Int) = 4 then e else if (j : Int) = 5 then f else z) =
  if j = 0 then a else if j = 1 then b else if j = 2 then c else if j = 3 then d else if j = 4 then e else f :=
 match j,hj with
 | 0,_ => rfl
 | 1,_ => rfl
 | 2,_ => rfl
 | 3,_ => rfl
 | 4,_ => rfl
 | 5,_ => rfl
theorem some_if {α : Type} {p : Prop} [Decidable p] {a b : α} : (if p then some a else some b) = some (if p then a else b) := by split <;> rfl
theorem part_le {s f c : Nat} (hf : f <= 2^30) (h : s * f = c * 2^30) : c <= s := Nat.le_of_mul_le_mul_right (by rw [← h]; exact Nat.mul_le_mul_left s hf) (two_pos 30)
theorem hsv_fx {h s i f c1 c2 : Nat} (hs : 0 < s) (hs1 : s <= 2^30) (hi : i < 2^19) (hx : 6 * h = i * 2^30 + f) (hf : f < 2^30) (h1 : s * f = c1 * 2^30) (h2 : s * (2^30 - f) = c2 * 2^30) :
  hsvF (fx false h) (fx false s) 4607182418800017408 = some (triF (i % 6) (2^30 - s) (2^30 - c1) (2^30 - c2)) := by
 have x1 : 6 * h < 2^53 := by rw [hx]; exact Nat.lt_of_lt_of_le (Nat.add_lt_add_left hf _) (by rw [← Nat.succ_mul]; exact Nat.mul_le_mul_right (n := i.succ) (m := 2^23) (2^30) (Nat.le_trans hi (by decide)))
 have m6 : Float64.mul (fx false h) 4618441417868443648 = fx false (6 * h) := by
  rw [fk_six]; exact fx_prod (Nat.lt_of_le_of_lt (Nat.le_mul_of_pos_left h (by decide)) x1) (by decide) x1 (by rw [← Nat.mul_assoc,Nat.mul_comm h])
 have l1 := part_le (Nat.le_of_lt hf) h1
 have l2 := part_le (Nat.sub_le ..) h2
 have ti : Flt.toInt Float64.truncOf (fx false (6 * h)) = (i : Int) := by
  rw [fx_trunc x1,hx,Nat.mul_comm,Nat.mul_add_div (two_pos 30),Nat.div_eq_of_lt hf,Nat.add_zero]
 rw [hsvT (by rw [fk_zero,fx_eq (b31 hs1) (by decide)]; exact decide_eq_false (Nat.ne_of_gt hs)) (by rw [m6]; exact fx_fin _ x1) (by rw [m6,ti,Int.natAbs_natCast]; exact Nat.lt_of_lt_of_le hi (by decide +kernel))]
 rw [m6,ti,fx_int (Nat.lt_of_lt_of_le hi (by decide)),fx_sub x1 (hx ▸ Nat.le_add_right ..),hx,Nat.add_sub_cancel_left]
 have o {x : Nat} (h : x <= 2^30) : Float64.sub 4607182418800017408 (fx false x) = fx false (2^30 - x) := by
  rw [fk_one]; exact fx_sub U_u h
 rw [o hs1,one_fx (U_le s),o (Nat.le_of_lt hf),fx_prod (b31 hs1) (b30 hf) (b31 (Nat.le_trans l1 hs1)) h1,fx_prod (b31 hs1) (U_b f) (b31 (Nat.le_trans l2 hs1)) h2,o (Nat.le_trans l1 hs1),one_fx (U_le c1),o (Nat.le_trans l2 hs1),one_fx (U_le c2)]
 rw [show (i : Int).fmod 6 = ((i % 6 : Nat) : Int) from Int.fmod_eq_emod_of_nonneg _ (by decide),six_if _ (Nat.mod_lt _ (by decide))]
 unfold triF
 simp only [some_if]
theorem part_pos {s f c : Nat} (hs : 0 < s) (hf : 0 < f) (h : s * f = c * 2^30) : 0 < c := by
 refine Nat.pos_of_ne_zero fun e => ?_
 rw [e,Nat.zero_mul] at h
 exact absurd h (Nat.ne_of_gt (Nat.mul_pos hs hf))
theorem rgb_tri {h s j f c1 c2 : Nat} (hs : 0 < s) (hs1 : s <= 2^30) (hj : j < 6) (hx : 6 * h = j * 2^30 + f) (hf : f < 2^30) (h0 : 0 < f) (h1 : s * f = c1 * 2^30) (h2 : s * (2^30 - f) = c2 * 2^30) :
  rgbF (triF j (2^30 - s) (2^30 - c1) (2^30 - c2)).1 (triF j (2^30 - s) (2^30 - c1) (2^30 - c2)).2.1 (triF j (2^30 - s) (2^30 - c1) (2^30 - c2)).2.2 = some (fx false h,fx false s,4607182418800017408) := by
 have p1 := part_pos hs h0 h1
 have p2 := part_pos hs (Nat.sub_pos_of_lt hf) h2
 have l1 := part_le (Nat.le_of_lt hf) h1
 have l2 := part_le (Nat.sub_le ..) h2
 have b1 : c1 * 2^30 = f * s := by rw [← h1,Nat.mul_comm]
 have b2 : c2 * 2^30 = (2^30 - f) * s := by rw [← h2,Nat.mul_comm]
 have q0 : 0 < h := by lia
 have q1 : h < 2^30 := by lia
 have fl := Nat.le_of_lt hf
 have : j = 0 ∨ j = 1 ∨ j = 2 ∨ j = 3 ∨ j = 4 ∨ j = 5 := by lia
 rcases this with e | e | e | e | e | e <;> subst e
 ·show rgbF 4607182418800017408 (fx false (2^30 - c2)) (fx false (2^30 - s)) = _
  refine (congrArg (rgbF · _ _) fk_one).trans (rgb_red (gc := 2^30 - f) (bc := 2^30) hs hs1 l2 (Nat.le_refl _) (.inr rfl) b2 (Nat.mul_comm ..) (Nat.sub_le ..) (Nat.le_refl _) ?_)
  rw [U_back fl]
  exact six_pos (by rw [hx,Nat.zero_mul,Nat.zero_add]) q0 q1
 ·show rgbF (fx false (2^30 - c1)) 4607182418800017408 (fx false (2^30 - s)) = _
  exact (congrArg (rgbF _ · _) fk_one).trans (rgb_green (rc := f) (bc := 2^30) hs hs1 l1 (Nat.le_refl _) (.inr rfl) b1 (Nat.mul_comm ..) fl (Nat.le_refl _) p1 q0 q1 (by rw [hx]; lia))
 ·show rgbF (fx false (2^30 - s)) 4607182418800017408 (fx false (2^30 - c2)) = _
  exact (congrArg (rgbF _ · _) fk_one).trans (rgb_green (rc := 2^30) (bc := 2^30 - f) hs hs1 (Nat.le_refl _) l2 (.inl rfl) (Nat.mul_comm ..) b2 (Nat.le_refl _) (Nat.sub_le ..) hs q0 q1 (by rw [hx,Nat.add_assoc,Nat.add_sub_cancel' fl]))
 ·show rgbF (fx false (2^30 - s)) (fx false (2^30 - c1)) 4607182418800017408 = _
  exact (congrArg (rgbF _ _ ·) fk_one).trans (rgb_blue (rc := 2^30) (gc := f) hs hs1 (Nat.le_refl _) l1 (.inl rfl) (Nat.mul_comm ..) b1 (Nat.le_refl _) fl hs p1 q0 q1 (by rw [hx]; lia))
 ·show rgbF (fx false (2^30 - c2)) (fx false (2^30 - s)) 4607182418800017408 = _
  exact (congrArg (rgbF _ _ ·) fk_one).trans (rgb_blue (rc := 2^30 - f) (gc := 2^30) hs hs1 l2 (Nat.le_refl _) (.inr rfl) b2 (Nat.mul_comm ..) (Nat.sub_le ..) (Nat.le_refl _) p2 hs q0 q1 (by rw [hx,Nat.add_assoc,Nat.add_sub_cancel' fl]))
 ·show rgbF 4607182418800017408 (fx false (2^30 - s)) (fx false (2^30 - c1)) = _
  refine (congrArg (rgbF · _ _) fk_one).trans (rgb_red (gc := 2^30) (bc := f) hs hs1 (Nat.le_refl _) l1 (.inl rfl) (Nat.mul_comm ..) b1 (Nat.le_refl _) fl ?_)
  rw [fx_subN U_u hf,six_neg (n := 2^30 - h) (by lia) (Nat.sub_pos_of_lt q1) (U_lt q0),Nat.sub_sub_self (Nat.le_of_lt q1)]
end

section
theorem colour_eq {A : List Int} (h1 : Float64.isInf (hueL A) = false) (h2 : Float64.isInf (shareL A) = false) : colourF A = hsvF (hueL A) (shareL A) one64 := by
 unfold colourF
 have p4 : (2 * 4^(A.length : Int).toNat : Int) ≠ 0 := by have := pow4_ne (A.length : Int).toNat; lia
 have p2 : (2^(A.length : Int).toNat : Int) ≠ 0 := Int.ne_of_gt (Int.pow_pos (by decide))
 have h1' : ¬ Float64.isInf (hueL A) = true := by rw [h1]; decide
 have h2' : ¬ Float64.isInf (shareL A) = true := by rw [h2]; decide
 rw [if_neg p4]
 unfold hueL at h1'
 rw [if_neg h1',if_neg p2]
 unfold shareL at h2'
 rw [if_neg h2']
 rfl
noncomputable def nextArgs (A : List Int) : Prop :=
 let s := shareL A
 let width := Float64.mul (Float64.mul (Float64.ofInt 4) s) s
 let x := Float64.div (hueL A) width
 Float64.isZero width = false ∧ Float64.isFinite x = true ∧ (Flt.toInt Float64.truncOf x).natAbs < 2^1024 - 2^970 ∧ Float64.mul (Float64.add (Float64.ofInt (Flt.toInt Float64.truncOf x)) 4602678819172646912) width = hueL A.dropLast ∧ Float64.mul (Float64.ofInt 2) s = shareL A.dropLast
structure FltOk (A : List Int) : Prop where
 inf : Float64.isInf (hueL A) = false ∧ Float64.isInf (shareL A) = false ∧ Float64.isZero (shareL A) = false
 col : ∃ c,hsvF (hueL A) (shareL A) one64 = some c ∧ rgbF c.1 c.2.1 c.2.2 = some (hueL A,shareL A,one64)
 third : thirdF (hueL A) (shareL A) = thirdL A
 cmp : Float64.cmpInt (Float64.mul (Float64.mul (hueL A) (Float64.ofInt 2)) (Float64.ofInt (4^(A.length : Int).toNat))) (2 * arcF A + 1) = some Ordering.eq
 step : 2 <= A.length -> ∃ c,hsvF (Float64.mul (Float64.ofInt 4) (hueL A)) (Float64.mul (Float64.ofInt 2) (shareL A)) one64 = some c ∧ hsvF (hueL A.tail) (shareL A.tail) one64 = some c
 next : thirdL A = false -> 3 <= A.length -> nextArgs A
 p1 : Float64.isNaN (placeQ (hueL A) (shareL [0])) = false ∧ Float64.isInf (placeQ (hueL A) (shareL [0])) = false ∧ (1 <= A.length -> Flt.toInt Float64.truncOf (placeQ (hueL A) (shareL [0])) = arcF (A.take 1))
 p2 : Float64.isNaN (placeQ (hueL A) (shareL [0,0])) = false ∧ Float64.isInf (placeQ (hueL A) (shareL [0,0])) = false ∧ (2 <= A.length -> Flt.toInt Float64.truncOf (placeQ (hueL A) (shareL [0,0])) = arcF (A.take 2))
theorem arc_from : ∀ (A : List Int) (k : Int),A.foldl (fun s n => 4 * s + n) k = k * 4^A.length + arcF A
 | [],k => by simp [arcF]
 | x :: A,k => by
  show A.foldl (fun s n => 4 * s + n) (4 * k + x) = k * 4^(A.length + 1) + A.foldl (fun s n => 4 * s + n) (4 * 0 + x)
  rw [arc_from A,arc_from A,Int.pow_succ]
  generalize (4 : Int)^A.length = p
  generalize arcF A = r
  rw [Int.mul_zero,Int.zero_add,Int.add_mul,Int.mul_comm 4 k,Int.mul_assoc,Int.mul_comm p 4,Int.add_assoc]
theorem arc_cons (x : Int) (A : List Int) : arcF (x :: A) = x * 4^A.length + arcF A := by
 show A.foldl (fun s n => 4 * s + n) (4 * 0 + x) = _
 rw [arc_from A,Int.mul_zero,Int.zero_add]
theorem arc_app (A B : List Int) : arcF (A ++ B) = arcF A * 4^B.length + arcF B := by
 unfold arcF
 rw [List.foldl_append,arc_from B]
 rfl
theorem dig_nat {x : Int} (h : 0 <= x ∧ x < 4) : x.toNat < 4 := by lia
theorem dig_two {x : Int} (h : 0 <= x ∧ x < 4) : decide (x.toNat = 2) = (x == 2) := by
 rw [Bool.eq_iff_iff,decide_eq_true_iff,beq_iff_eq]
 lia
theorem arc_nat : ∀ (A : List Int),Dig A -> ∃ a : Nat,arcF A = (a : Int) ∧ a < 4^A.length
 | [],_ => ⟨0,rfl,by decide⟩
 | x :: A,h => by
  obtain ⟨a,e,l⟩ := arc_nat A fun n hn => h n (.tail _ hn)
  have hx := h x (.head _)
  refine ⟨x.toNat * 4^A.length + a,?_,?_⟩
  ·rw [arc_cons,e,Int.natCast_add,Int.natCast_mul,Int.natCast_pow,Int.toNat_of_nonneg hx.1]
   rfl
  ·show _ < 4^(A.length + 1)
   rw [Nat.pow_succ]
   exact Nat.lt_of_lt_of_le (Nat.add_lt_add_left l _) (by rw [← Nat.succ_mul,Nat.mul_comm]; exact Nat.mul_le_mul_left _ (dig_nat hx))
theorem cast_four (n : Nat) : ((4^n : Nat) : Int) = (4 : Int)^n := by rw [Int.natCast_pow]; rfl
noncomputable def hN (n a : Nat) : Nat := (2 * a + 1) * 2^(29 - 2 * n)
noncomputable def sN (n : Nat) : Nat := 2^(30 - n)
theorem pow_all {n : Nat} (h1 : 1 <= n) (h5 : n <= 5) : 2 * 4^n * 2^(29 - 2 * n) = 2^30 ∧ (2 * (2 * 4^(n - 1)) * (2 * 2^(29 - 2 * n)) = 2^30 ∧ sN n * (2 * 2^(29 - 2 * n)) = 2^(30 - 3 * n) * 2^30 ∧ 4^n = 2 * (2 * 4^(n - 1))) ∧ 0 < sN n ∧ sN n < 2^30 := by
 have : ∀ n : Fin 6,1 <= n.1 -> 2 * 4^n.1 * 2^(29 - 2 * n.1) = 2^30 ∧ (2 * (2 * 4^(n.1 - 1)) * (2 * 2^(29 - 2 * n.1)) = 2^30 ∧ sN n.1 * (2 * 2^(29 - 2 * n.1)) = 2^(30 - 3 * n.1) * 2^30 ∧ 4^n.1 = 2 * (2 * 4^(n.1 - 1))) ∧ 0 < sN n.1 ∧ sN n.1 < 2^30 := by decide +kernel
 exact this ⟨n,Nat.lt_succ_of_le h5⟩ h1
theorem hue_fx {A : List Int} {a : Nat} (ha : arcF A = (a : Int)) (h1 : 1 <= A.length) (h5 : A.length <= 5) (l : (2 * a + 1) * 2^(29 - 2 * A.length) < 2^30) : hueL A = fx false (hN A.length a) := by
 have e2 : (2 * 4^(A.length : Int).toNat : Int) = ((2 * 4^A.length : Nat) : Int) := by rw [Int.toNat_natCast,Int.natCast_mul,cast_four]; rfl
 have e1 : 2 * (a : Int) + 1 = ((2 * a + 1 : Nat) : Int) := rfl
 unfold hueL
 rw [ha,e2,e1,Int.natAbs_natCast,Int.natAbs_natCast,decide_eq_false (Int.not_lt.mpr (Int.natCast_nonneg _)),decide_eq_false (Int.not_lt.mpr (Int.natCast_nonneg _))]
 exact fx_of (b30 l) (Nat.mul_pos (by decide) (Nat.pow_pos (by decide))) (by unfold hN; rw [← (pow_all h1 h5).1,Nat.mul_comm (2 * 4^_),← Nat.mul_assoc])
theorem share_fx {A : List Int} (h1 : 1 <= A.length) (h5 : A.length <= 5) : shareL A = fx false (sN A.length) := by
 have : ∀ n : Fin 6,1 <= n.1 -> Float64.ofFrac (decide ((1 : Int) < 0) != decide ((2^(n.1 : Int).toNat : Int) < 0)) (Int.natAbs 1) (2^(n.1 : Int).toNat : Int).natAbs = fx false (sN n.1) := by decide +kernel
 exact this ⟨A.length,Nat.lt_succ_of_le h5⟩ h1
theorem hN_bd {n a : Nat} (h1 : 1 <= n) (h5 : n <= 5) (l : a < 4^n) : 0 < hN n a ∧ hN n a < 2^30 :=
 ⟨Nat.mul_pos (Nat.succ_pos _) (two_pos _),by rw [← (pow_all h1 h5).1]; exact Nat.mul_lt_mul_of_pos_right (Nat.lt_of_lt_of_le (Nat.lt_succ_self _) (Nat.mul_le_mul_left 2 l)) (two_pos _)⟩
theorem sN_bd {n : Nat} (h1 : 1 <= n) (h5 : n <= 5) : 0 < sN n ∧ sN n < 2^30 := (pow_all h1 h5).2.2
theorem odd_pos {a D : Nat} : 0 < (6 * a + 3) % (2 * D) := by
 refine Nat.pos_of_ne_zero fun e => ?_
 obtain ⟨x,hx⟩ := Nat.dvd_of_mod_eq_zero e
 rw [Nat.mul_assoc] at hx
 have : (6 * a + 3) % 2 = 0 := by rw [hx,Nat.mul_mod_right]
 omega
theorem parts_gen {a D q c S H : Nat} (hD : 2 * D * q = 2^30) (hS : S * q = c * 2^30) (hH : 6 * H = (6 * a + 3) * q) (l : a < 2 * D) {G : Prop} (k : ∀ i f c1 c2,i < 6 -> 6 * H = i * 2^30 + f -> 0 < f -> f < 2^30 -> S * f = c1 * 2^30 -> S * (2^30 - f) = c2 * 2^30 -> G) : G := by
 have q0 : 0 < q := Nat.pos_of_ne_zero fun e => absurd (hD.symm.trans (by rw [e,Nat.mul_zero])) (by decide)
 have d0 : 0 < 2 * D := Nat.lt_of_le_of_lt (Nat.zero_le _) l
 have gD := Nat.mod_lt (6 * a + 3) d0
 have sq (x : Nat) : S * (x * q) = x * c * 2^30 := by rw [Nat.mul_left_comm,hS,Nat.mul_assoc]
 refine k ((6 * a + 3) / (2 * D)) ((6 * a + 3) % (2 * D) * q) ((6 * a + 3) % (2 * D) * c) ((2 * D - (6 * a + 3) % (2 * D)) * c) ?_ ?_ (Nat.mul_pos odd_pos q0) ?_ (sq _) ?_
 ·rw [Nat.div_lt_iff_lt_mul d0]
  omega
 ·rw [hH,← hD,Nat.mul_comm,← Nat.mul_assoc,Nat.mul_comm (_ / _),← Nat.add_mul,Nat.div_add_mod,Nat.mul_comm]
 ·rw [← hD]
  exact Nat.mul_lt_mul_of_pos_right gD q0
 ·rw [← hD,← Nat.sub_mul,hD]
  exact sq _
theorem six_q (a p : Nat) : 6 * ((2 * a + 1) * p) = (6 * a + 3) * (2 * p) := by
 rw [← Nat.mul_assoc,← Nat.mul_assoc,show 6 * (2 * a + 1) = (6 * a + 3) * 2 by lia]
theorem parts_k {n a : Nat} (h1 : 1 <= n) (h5 : n <= 5) (l : a < 4^n) {G : Prop} (k : ∀ i f c1 c2,i < 6 -> 6 * hN n a = i * 2^30 + f -> 0 < f -> f < 2^30 -> sN n * f = c1 * 2^30 -> sN n * (2^30 - f) = c2 * 2^30 -> G) : G := by
 have e := (pow_all h1 h5).2.1
 exact parts_gen e.1 e.2.1 (six_q _ _) (e.2.2 ▸ l) k
theorem col_of {n a : Nat} (h1 : 1 <= n) (h5 : n <= 5) (l : a < 4^n) : ∃ c,hsvF (fx false (hN n a)) (fx false (sN n)) one64 = some c ∧ rgbF c.1 c.2.1 c.2.2 = some (fx false (hN n a),fx false (sN n),one64) := by
 have hs := sN_bd h1 h5
 refine parts_k h1 h5 l fun i f c1 c2 i6 e f0 f1 e1 e2 => ?_
 refine ⟨_,hsv_fx hs.1 (Nat.le_of_lt hs.2) (Nat.lt_trans i6 (by decide)) e f1 e1 e2,?_⟩
 rw [Nat.mod_eq_of_lt i6]
 exact rgb_tri hs.1 (Nat.le_of_lt hs.2) i6 e f1 f0 e1 e2
theorem step_num {n x a : Nat} (h1 : 1 <= n) (h4 : n <= 4) : 4 * hN (n + 1) (x * 4^n + a) = x * 2^30 + hN n a ∧ 2 * sN (n + 1) = sN n := by
 have e : 2 * 4^n * (4 * 2^(29 - 2 * (n + 1))) = 2^30 ∧ 4 * 2^(29 - 2 * (n + 1)) = 2^(29 - 2 * n) ∧ 2 * sN (n + 1) = sN n := by
  have : ∀ n : Fin 5,1 <= n.1 -> 2 * 4^n.1 * (4 * 2^(29 - 2 * (n.1 + 1))) = 2^30 ∧ 4 * 2^(29 - 2 * (n.1 + 1)) = 2^(29 - 2 * n.1) ∧ 2 * sN (n.1 + 1) = sN n.1 := by decide +kernel
  exact this ⟨n,Nat.lt_succ_of_le h4⟩ h1
 refine ⟨?_,e.2.2⟩
 unfold hN
 rw [Nat.mul_left_comm,show 2 * (x * 4^n + a) + 1 = x * (2 * 4^n) + (2 * a + 1) by rw [Nat.mul_add,Nat.mul_left_comm,Nat.add_assoc],Nat.add_mul,Nat.mul_assoc,e.1,e.2.1]
theorem two_int : Float64.ofInt 2 = fx false (2 * 2^30) := fx_int (i := 2) (by decide)
theorem four_int : Float64.ofInt 4 = fx false (4 * 2^30) := fx_int (i := 4) (by decide)
theorem step_of {n x a : Nat} (h1 : 1 <= n) (h4 : n <= 4) (hx : x < 4) (l : a < 4^n) : ∃ c,hsvF (Float64.mul (Float64.ofInt 4) (fx false (hN (n + 1) (x * 4^n + a)))) (Float64.mul (Float64.ofInt 2) (fx false (sN (n + 1)))) one64 = some c ∧ hsvF (fx false (hN n a)) (fx false (sN n)) one64 = some c := by
 have h5 : n <= 5 := Nat.le_succ_of_le h4
 have hs := sN_bd h1 h5
 have hb := hN_bd h1 h5 l
 obtain ⟨g1,g2⟩ := step_num (x := x) (a := a) h1 h4
 have b4 : x * 2^30 + hN n a < 2^53 := by lia
 rw [four_int,two_int,fx_prod (c := x * 2^30 + hN n a) (by decide) (Nat.lt_of_le_of_lt (Nat.le_mul_of_pos_left _ (by decide)) (g1 ▸ b4)) b4 (by rw [← g1,Nat.mul_right_comm]),fx_prod (c := sN n) (by decide) (Nat.lt_of_le_of_lt (Nat.le_mul_of_pos_left _ (by decide)) (g2 ▸ b30 hs.2)) (b30 hs.2) (by rw [← g2,Nat.mul_right_comm])]
 refine parts_k h1 h5 l fun i f c1 c2 i6 e f0 f1 e1 e2 => ?_
 refine ⟨_,?_,hsv_fx hs.1 (Nat.le_of_lt hs.2) (Nat.lt_trans i6 (by decide)) e f1 e1 e2⟩
 rw [hsv_fx (i := i + 6 * x) hs.1 (Nat.le_of_lt hs.2) (by lia) (by rw [Nat.mul_add,e]; lia) f1 e1 e2,Nat.add_mul_mod_self_left]
theorem cmp_num {n a : Nat} (h1 : 1 <= n) (h5 : n <= 5) : hN n a * 2 * 4^n = (2 * a + 1) * 2^30 := by
 unfold hN
 rw [Nat.mul_assoc,Nat.mul_assoc,Nat.mul_comm (2^_),(pow_all h1 h5).1]
theorem pow_fact {n : Nat} (h5 : n <= 5) : 4^n <= 1024 := Nat.pow_le_pow_right (n := 4) (by decide) h5
theorem cmp_of {n a : Nat} (h1 : 1 <= n) (h5 : n <= 5) (l : a < 4^n) : Float64.cmpInt (Float64.mul (Float64.mul (fx false (hN n a)) (Float64.ofInt 2)) (Float64.ofInt (4^n))) (2 * (a : Int) + 1) = some Ordering.eq := by
 have hb := (hN_bd h1 h5 l).2
 have e := cmp_num (a := a) h1 h5
 have b4 := pow_fact h5
 have a4 : a < 1024 := Nat.lt_of_lt_of_le l b4
 have b2 : hN n a * 2 < 2^53 := by lia
 rw [two_int,← cast_four,fx_int (Nat.lt_of_le_of_lt b4 (by decide)),fx_prod (c := hN n a * 2) (b30 hb) (by decide) b2 (Nat.mul_assoc ..).symm,fx_prod (c := (2 * a + 1) * 2^30) b2 (Nat.lt_of_le_of_lt (Nat.mul_le_mul_right _ b4) (by decide)) (by lia) (by rw [← Nat.mul_assoc,e])]
 exact fx_cmpInt (i := 2 * a + 1) (by lia)
theorem third_gen {D q x a : Nat} (q0 : 0 < q) (hx : x < 4) (l : a < D) : 4 * D * q <= (2 * (x * D + a) + 1) * q ∧ (2 * (x * D + a) + 1) * q < 6 * D * q ↔ x = 2 := by
 rw [Nat.mul_le_mul_right_iff q0,Nat.mul_lt_mul_right q0]
 have : x = 0 ∨ x = 1 ∨ x = 2 ∨ x = 3 := by lia
 rcases this with e | e | e | e <;> subst e <;> lia
theorem third_num {n x a : Nat} (h4 : n <= 4) (hx : x < 4) (l : a < 4^n) : 2^29 <= hN (n + 1) (x * 4^n + a) ∧ hN (n + 1) (x * 4^n + a) < 3 * 2^28 ↔ x = 2 := by
 have e : 4 * 4^n * 2^(29 - 2 * (n + 1)) = 2^29 ∧ 6 * 4^n * 2^(29 - 2 * (n + 1)) = 3 * 2^28 := by
  have : ∀ n : Fin 5,4 * 4^n.1 * 2^(29 - 2 * (n.1 + 1)) = 2^29 ∧ 6 * 4^n.1 * 2^(29 - 2 * (n.1 + 1)) = 3 * 2^28 := by decide +kernel
  exact this ⟨n,Nat.lt_succ_of_le h4⟩
 rw [← e.1,← e.2]
 exact third_gen (two_pos _) hx l
theorem share_low {n : Nat} (h1 : 1 <= n) (h4 : n <= 4) : sN (n + 1) < 2^29 := by
 have : ∀ n : Fin 5,1 <= n.1 -> sN (n.1 + 1) < 2^29 := by decide +kernel
 exact this ⟨n,Nat.lt_succ_of_le h4⟩ h1
theorem third_of {n x a : Nat} (h1 : 1 <= n) (h4 : n <= 4) (hx : x < 4) (l : a < 4^n) (l' : x * 4^n + a < 4^(n + 1)) : thirdF (fx false (hN (n + 1) (x * 4^n + a))) (fx false (sN (n + 1))) = decide (x = 2) := by
 have hb := hN_bd (Nat.succ_pos n) (Nat.succ_le_succ h4) l'
 have e := third_num h4 hx l
 have s1 := share_low h1 h4
 generalize hN (n + 1) (x * 4^n + a) = H at hb e ⊢
 have s2 : sN (n + 1) < 2^53 := Nat.lt_trans s1 (by decide)
 unfold thirdF
 rw [fk_half,fk_three,fx_lt s2 (by decide),fx_lt (by decide) (b30 hb.2),fx_lt (b30 hb.2) (by decide),fx_eq (by decide) (b30 hb.2),if_pos (decide_eq_true s1)]
 by_cases c : 2^29 <= H
 ·rw [if_pos (by rw [Bool.or_eq_true,decide_eq_true_iff,decide_eq_true_iff]; exact Nat.lt_or_eq_of_le c),decide_eq_decide,← e]
  exact ⟨fun h => ⟨c,h⟩,fun h => h.2⟩
 ·rw [if_neg (by rw [Bool.or_eq_true,decide_eq_true_iff,decide_eq_true_iff]; exact fun h => c (h.elim Nat.le_of_lt Nat.le_of_eq))]
  exact (decide_eq_false fun h => c (e.mpr h).1).symm
theorem place_of {h m k : Nat} (hm : 0 < m) (hm1 : m <= 2^30) (hk : m * k = 2^30) (hb : h * k * k < 2^53) : placeQ (fx false h) (fx false m) = fx false (h * k * k) := by
 have k0 : 0 < k := by
  refine Nat.pos_of_ne_zero fun e => ?_
  rw [e,Nat.mul_zero] at hk
  exact absurd hk (by decide)
 have b1 : h * k <= h * k * k := Nat.le_mul_of_pos_right _ k0
 have b0 : h <= h * k := Nat.le_mul_of_pos_right _ k0
 unfold placeQ
 rw [fx_ratio (c := h * k) (Nat.lt_of_le_of_lt b0 (Nat.lt_of_le_of_lt b1 hb)) (b31 hm1) (Nat.lt_of_le_of_lt b1 hb) hm (by rw [Nat.mul_assoc,Nat.mul_comm k,hk])]
 exact fx_ratio (Nat.lt_of_le_of_lt b1 hb) (b31 hm1) hb hm (by rw [Nat.mul_assoc,Nat.mul_assoc,Nat.mul_comm k m,hk,Nat.mul_assoc])
theorem share_one : shareL [0] = fx false (2^29) := share_fx (A := [0]) (by decide) (by decide)
theorem share_two : shareL [0,0] = fx false (2^28) := share_fx (A := [0,0]) (by decide) (by decide)
theorem place_gen {D u v q : Nat} (l : v < D) (q0 : 0 < q) : (2 * (u * D + v) + 1) * q / (2 * D * q) = u := by
 rw [Nat.mul_div_mul_right _ _ q0]
 have d0 : 0 < 2 * D := Nat.mul_pos (by decide) (Nat.lt_of_le_of_lt (Nat.zero_le _) l)
 rw [show 2 * (u * D + v) + 1 = 2 * D * u + (2 * v + 1) by rw [Nat.mul_add,Nat.mul_comm u,← Nat.mul_assoc,Nat.add_assoc],Nat.mul_add_div d0,Nat.div_eq_of_lt (by lia),Nat.add_zero]
theorem place_two {n : Nat} : n <= 4 -> 2 * 4^n * (2^(29 - 2 * (n + 1)) * 2^1 * 2^1) = 2^30 ∧ (n <= 3 -> 2 * 4^n * (2^(29 - 2 * (n + 2)) * 2^2 * 2^2) = 2^30) := by
 revert n
 have : ∀ n : Fin 5,2 * 4^n.1 * (2^(29 - 2 * (n.1 + 1)) * 2^1 * 2^1) = 2^30 ∧ (n.1 <= 3 -> 2 * 4^n.1 * (2^(29 - 2 * (n.1 + 2)) * 2^2 * 2^2) = 2^30) := by decide +kernel
 exact fun {n} h => this ⟨n,Nat.lt_succ_of_le h⟩
theorem place_num {n m u v : Nat} (h5 : n + m <= 5) (m1 : 1 <= m) (m2 : m <= 2) (l : v < 4^n) : hN (n + m) (u * 4^n + v) * 2^m * 2^m / 2^30 = u := by
 unfold hN
 have e : 2 * 4^n * (2^(29 - 2 * (n + m)) * 2^m * 2^m) = 2^30 := by
  match m,m1,m2,h5 with
  | 1,_,_,h5 => exact (place_two (Nat.le_of_add_le_add_right (b := 1) h5)).1
  | 2,_,_,h5 => exact (place_two (Nat.le_trans (Nat.le_of_add_le_add_right (b := 2) h5) (by decide))).2 (Nat.le_of_add_le_add_right (b := 2) h5)
 rw [Nat.mul_assoc,Nat.mul_assoc,← e,Nat.mul_assoc (2^(29 - 2 * (n + m)))]
 exact place_gen l (Nat.mul_pos (two_pos _) (Nat.mul_pos (two_pos _) (two_pos _)))
theorem take_arc {A : List Int} {a m : Nat} (h : Dig A) (hm : m <= A.length) (ha : arcF A = (a : Int)) : ∃ u v : Nat,arcF (A.take m) = (u : Int) ∧ v < 4^(A.length - m) ∧ a = u * 4^(A.length - m) + v := by
 obtain ⟨u,eu,_⟩ := arc_nat (A.take m) fun n hn => h n (List.mem_of_mem_take hn)
 obtain ⟨v,ev,lv⟩ := arc_nat (A.drop m) fun n hn => h n (List.mem_of_mem_drop hn)
 have e := arc_app (A.take m) (A.drop m)
 rw [List.take_append_drop,ha,eu,ev,List.length_drop] at e
 rw [List.length_drop] at lv
 refine ⟨u,v,eu,lv,?_⟩
 rw [← cast_four] at e
 exact Int.ofNat_inj.mp (e.trans (by rw [Int.natCast_add,Int.natCast_mul]))
theorem sixteen {h : Nat} (l : h < 2^30) : h * 4 * 4 < 2^53 := by lia
theorem place_all {A : List Int} {a m : Nat} (h : Dig A) (h1 : 1 <= A.length) (h5 : A.length <= 5) (ha : arcF A = (a : Int)) (l : a < 4^A.length) (m1 : 1 <= m) (m2 : m <= 2) :
  Float64.isNaN (placeQ (fx false (hN A.length a)) (fx false (2^(30 - m)))) = false ∧ Float64.isInf (placeQ (fx false (hN A.length a)) (fx false (2^(30 - m)))) = false ∧ (m <= A.length -> Flt.toInt Float64.truncOf (placeQ (fx false (hN A.length a)) (fx false (2^(30 - m)))) = arcF (A.take m)) := by
 have hb := hN_bd h1 h5 l
 have km : 2^(30 - m) * 2^m = 2^30 := by rw [← Nat.pow_add,Nat.sub_add_cancel (by lia)]
 have k4 : 2^m <= 4 := Nat.pow_le_pow_right (n := 2) (by decide) m2
 have kb : hN A.length a * 2^m * 2^m <= hN A.length a * 4 * 4 := Nat.mul_le_mul (Nat.mul_le_mul_left _ k4) k4
 have b53 : hN A.length a * 2^m * 2^m < 2^53 := Nat.lt_of_le_of_lt kb (sixteen hb.2)
 rw [place_of (two_pos _) (Nat.pow_le_pow_right (by decide) (Nat.sub_le ..)) km b53]
 refine ⟨fx_nan _ b53,fx_inf _ b53,fun hm => ?_⟩
 obtain ⟨u,v,eu,lv,e⟩ := take_arc h hm ha
 rw [fx_trunc b53,eu,e]
 have := place_num (n := A.length - m) (m := m) (u := u) (v := v) (by lia) m1 m2 lv
 rw [Nat.sub_add_cancel hm] at this
 rw [this]
theorem next_pow {n : Nat} (h1 : 2 <= n) (h4 : n <= 4) : 2^27 * 2^(30 - 2 * n) = 2^(29 - 2 * (n + 1)) * 2^30 ∧ 2^29 * 2^(30 - 2 * n) = 2^(29 - 2 * n) * 2^30 ∧ 4 * sN (n + 1) * sN (n + 1) = 2^(30 - 2 * n) * 2^30 ∧ 2 * sN (n + 1) = sN n := by
 have : ∀ n : Fin 5,2 <= n.1 -> 2^27 * 2^(30 - 2 * n.1) = 2^(29 - 2 * (n.1 + 1)) * 2^30 ∧ 2^29 * 2^(30 - 2 * n.1) = 2^(29 - 2 * n.1) * 2^30 ∧ 4 * sN (n.1 + 1) * sN (n.1 + 1) = 2^(30 - 2 * n.1) * 2^30 ∧ 2 * sN (n.1 + 1) = sN n.1 := by decide +kernel
 exact this ⟨n,Nat.lt_succ_of_le h4⟩ h1
theorem quart (a : Nat) : (2 * a + 1) * 2^27 / 2^30 = a / 4 := by
 rw [show 2^30 = 2 * 4 * 2^27 from rfl,Nat.mul_div_mul_right _ _ (two_pos 27),← Nat.div_div_eq_div_mul,Nat.mul_add_div (by decide),Nat.add_zero]
theorem next_of {n a : Nat} (h1 : 2 <= n) (h4 : n <= 4) (l : a < 4^(n + 1)) (l' : a / 4 < 4^n) (l4 : a < 1024) {G : Prop} (k : ∀ W x : UInt64,Float64.mul (Float64.mul (Float64.ofInt 4) (fx false (sN (n + 1)))) (fx false (sN (n + 1))) = W -> Float64.div (fx false (hN (n + 1) a)) W = x ->
  Float64.isZero W = false -> Float64.isFinite x = true -> Flt.toInt Float64.truncOf x = ((a / 4 : Nat) : Int) -> Float64.mul (Float64.add (Float64.ofInt ((a / 4 : Nat) : Int)) 4602678819172646912) W = fx false (hN n (a / 4)) -> Float64.mul (Float64.ofInt 2) (fx false (sN (n + 1))) = fx false (sN n) -> G) : G := by
 obtain ⟨e1,e2,e3,e4⟩ := next_pow h1 h4
 have n1 : 1 <= n := Nat.le_of_succ_le h1
 have hs := sN_bd (Nat.succ_pos n) (Nat.succ_le_succ h4)
 have hs' := sN_bd n1 (Nat.le_succ_of_le h4)
 have hb := hN_bd (Nat.succ_pos n) (Nat.succ_le_succ h4) l
 have hb' := hN_bd n1 (Nat.le_succ_of_le h4) l'
 have w0 := two_pos (30 - 2 * n)
 have w1 : 2^(30 - 2 * n) < 2^53 := b31 (Nat.pow_le_pow_right (by decide) (Nat.sub_le ..))
 have q1 : (2 * a + 1) * 2^27 < 2^53 := by lia
 have q2 : a / 4 * 2^30 + 2^29 < 2^53 := by lia
 have s4 : 4 * sN (n + 1) < 2^53 := by lia
 refine k (fx false (2^(30 - 2 * n))) (fx false ((2 * a + 1) * 2^27)) ?_ ?_ (fx_nz _ w1 w0) (fx_fin _ q1) ?_ ?_ ?_
 ·rw [four_int,fx_prod (c := 4 * sN (n + 1)) (by decide) (b30 hs.2) s4 (Nat.mul_right_comm ..)]
  exact fx_prod s4 (b30 hs.2) w1 e3
 ·exact fx_ratio (b30 hb.2) w1 q1 w0 (by unfold hN; rw [Nat.mul_assoc,← e1,Nat.mul_assoc])
 ·rw [fx_trunc q1,quart]
 ·rw [fx_int (Nat.lt_of_le_of_lt (Nat.div_le_self ..) (Nat.lt_trans l4 (by decide))),fk_half,fx_plus q2]
  refine fx_prod q2 w1 (b30 hb'.2) ?_
  unfold hN
  rw [show a / 4 * 2^30 + 2^29 = (2 * (a / 4) + 1) * 2^29 by lia,Nat.mul_assoc,e2,Nat.mul_assoc]
 ·rw [two_int]
  exact fx_prod (by decide) (b30 hs.2) (b30 hs'.2) (by rw [← e4,Nat.mul_right_comm])
theorem last_arc {A : List Int} {a : Nat} (h : Dig A) (h1 : 1 <= A.length) (ha : arcF A = (a : Int)) : arcF A.dropLast = ((a / 4 : Nat) : Int) := by
 obtain ⟨u,v,eu,lv,e⟩ := take_arc (m := A.length - 1) h (Nat.sub_le ..) ha
 rw [Nat.sub_sub_self h1] at lv e
 rw [List.dropLast_eq_take,eu,e]
 exact congrArg _ (by rw [Nat.pow_one,Nat.mul_comm,Nat.mul_add_div (by decide),Nat.div_eq_of_lt lv,Nat.add_zero])
theorem list_arc {x y : Int} {T : List Int} {a : Nat} (h : Dig (x :: y :: T)) (ha : arcF (x :: y :: T) = (a : Int)) : ∃ t : Nat,arcF (y :: T) = (t : Int) ∧ t < 4^(y :: T).length ∧ a = x.toNat * 4^(y :: T).length + t := by
 obtain ⟨t,et,lt⟩ := arc_nat (y :: T) fun n hn => h n (.tail _ hn)
 have e := arc_cons x (y :: T)
 rw [ha,et,← cast_four] at e
 exact ⟨t,et,lt,Int.ofNat_inj.mp (e.trans (by rw [Int.natCast_add,Int.natCast_mul,Int.toNat_of_nonneg (h x (.head _)).1]))⟩
theorem third_list : ∀ {A : List Int} {a : Nat},Dig A -> 1 <= A.length -> A.length <= 5 -> arcF A = (a : Int) -> a < 4^A.length -> thirdF (fx false (hN A.length a)) (fx false (sN A.length)) = thirdL A
 | [x],a,h,h1,h5,ha,l => by
  show thirdF _ (fx false (2^29)) = false
  unfold thirdF
  rw [fk_half,fx_lt (by decide) (by decide)]
  rfl
 | x :: y :: T,a,h,h1,h5,ha,l => by
  obtain ⟨t,et,lt,e⟩ := list_arc h ha
  subst e
  exact (third_of (n := (y :: T).length) (x := x.toNat) (a := t) (Nat.succ_pos _) (Nat.le_of_succ_le_succ h5) (dig_nat (h x (.head _))) lt l).trans (dig_two (h x (.head _)))
theorem step_list : ∀ {A : List Int} {a : Nat},Dig A -> A.length <= 5 -> arcF A = (a : Int) -> a < 4^A.length -> 2 <= A.length -> ∃ c,hsvF (Float64.mul (Float64.ofInt 4) (fx false (hN A.length a))) (Float64.mul (Float64.ofInt 2) (fx false (sN A.length))) one64 = some c ∧ hsvF (hueL A.tail) (shareL A.tail) one64 = some c
 | x :: y :: T,a,h,h5,ha,l,_ => by
  obtain ⟨t,et,lt,e⟩ := list_arc h ha
  subst e
  have t1 : 1 <= (y :: T).length := Nat.succ_pos _
  have t4 : (y :: T).length <= 4 := Nat.le_of_succ_le_succ h5
  show ∃ c,_ ∧ hsvF (hueL (y :: T)) (shareL (y :: T)) one64 = some c
  rw [hue_fx et t1 (Nat.le_succ_of_le t4) (hN_bd t1 (Nat.le_succ_of_le t4) lt).2,share_fx t1 (Nat.le_succ_of_le t4)]
  exact step_of t1 t4 (dig_nat (h x (.head _))) lt
theorem flt_all {A : List Int} (h : Dig A) (h1 : 1 <= A.length) (h5 : A.length <= 5) : FltOk A := by
 obtain ⟨a,ha,l⟩ := arc_nat A h
 have hb := hN_bd h1 h5 l
 have hs := sN_bd h1 h5
 have eh := hue_fx ha h1 h5 hb.2
 have es := share_fx h1 h5
 refine ⟨?_,?_,?_,?_,?_,?_,?_,?_⟩
 ·rw [eh,es]
  exact ⟨fx_inf _ (b30 hb.2),fx_inf _ (b30 hs.2),fx_nz _ (b30 hs.2) hs.1⟩
 ·rw [eh,es]
  exact col_of h1 h5 l
 ·rw [eh,es]
  exact third_list h h1 h5 ha l
 ·rw [eh,ha,Int.toNat_natCast]
  exact cmp_of h1 h5 l
 ·rw [eh,es]
  exact step_list h h5 ha l
 ·intro _ h3
  have ld := last_arc h h1 ha
  have dD : A.dropLast.length + 1 = A.length := by rw [List.length_dropLast,Nat.sub_add_cancel h1]
  have d2 : 2 <= A.dropLast.length := Nat.le_of_succ_le_succ (dD.symm ▸ h3 : 3 <= A.dropLast.length + 1)
  have d4 : A.dropLast.length <= 4 := Nat.le_of_succ_le_succ (dD.symm ▸ h5 : A.dropLast.length + 1 <= 5)
  have lq : a / 4 < 4^A.dropLast.length := Nat.div_lt_of_lt_mul (by rw [Nat.mul_comm,← Nat.pow_succ,Nat.succ_eq_add_one,dD]; exact l)
  have l4 : a < 1024 := Nat.lt_of_lt_of_le l (pow_fact h5)
  unfold nextArgs
  rw [eh,es,hue_fx ld (Nat.le_of_succ_le d2) (Nat.le_succ_of_le d4) (hN_bd (Nat.le_of_succ_le d2) (Nat.le_succ_of_le d4) lq).2,share_fx (Nat.le_of_succ_le d2) (Nat.le_succ_of_le d4),← dD]
  refine next_of d2 d4 (dD ▸ l) lq l4 fun W x e1 e2 z f t m s => ?_
  simp only [e1,e2,t]
  exact ⟨z,f,Nat.lt_of_le_of_lt (Nat.div_le_self ..) (Nat.lt_trans l4 (by decide +kernel)),m,s⟩
 ·rw [eh,share_one]
  exact place_all (m := 1) h h1 h5 ha l (by decide) (by decide)
 ·rw [eh,share_two]
  exact place_all (m := 2) h h1 h5 ha l (by decide) (by decide)
end

section
open StrLaws Builtin.Str
theorem enc_snoc : ∀ (R : List Int) (a : Int),R ≠ [] -> encL (R ++ [a]) = encL R ++ 46 :: codeL a
 | [],_,h => absurd rfl h
 | [r],a,_ => rfl
 | r :: q :: t,a,_ => by
  have ih := enc_snoc (q :: t) a (by simp)
  show codeL r ++ 46 :: encL (q :: t ++ [a]) = (codeL r ++ 46 :: encL (q :: t)) ++ 46 :: codeL a
  rw [ih]; simp
theorem host_ne {A : List Int} (h : Dig A) (h1 : 1 <= A.length) : hostF A ≠ Str.ofString "" := fun e => by
 have hs := host_size h
 rw [e] at hs
 have hne : A.reverse ≠ [] := by intro e; have := congrArg List.length e; simp at this; simp [this] at h1
 have := enc_len _ hne
 have e0 : (Str.ofString "").cps.size = 0 := rfl
 have : A.reverse.length = A.length := List.length_reverse
 lia
theorem host_lt {A : List Int} (h : Dig A) (h1 : 1 <= A.length) (h5 : A.length <= 5) : (hostF A).length <= 14 := by
 have hs := host_size h
 have hne : A.reverse ≠ [] := by intro e; have := congrArg List.length e; simp at this; simp [this] at h1
 have := enc_len _ hne
 have : A.reverse.length = A.length := List.length_reverse
 show (hostF A).cps.size <= 14
 lia
theorem third_drop {A : List Int} (h : 3 <= A.length) : thirdL A.dropLast = thirdL A := by
 rcases A with _ | ⟨a,_ | ⟨b,_ | ⟨c,t⟩⟩⟩
 ·cases h
 ·exact absurd h (by decide : ¬ 3 <= 1)
 ·exact absurd h (by decide : ¬ 3 <= 2)
 ·rfl
theorem third_form {A : List Int} (h : thirdL A = true) : ∃ b t,A = 2 :: b :: t := by
 rcases A with _ | ⟨a,_ | ⟨b,t⟩⟩
 ·cases h
 ·cases h
 ·exact ⟨b,t,by rw [eq_of_beq (h : (a == 2) = true)]⟩
theorem nxt_drop {A : List Int} (h3 : 3 <= A.length) (ht : thirdL A = false) : nxtF A = some A.dropLast := by
 rcases A with _ | ⟨a,_ | ⟨b,_ | ⟨c,t⟩⟩⟩
 ·cases h3
 ·exact absurd h3 (by decide : ¬ 3 <= 1)
 ·exact absurd h3 (by decide : ¬ 3 <= 2)
 ·exact if_neg (show ¬ a = 2 from fun e => by subst e; exact absurd ht (by simp [thirdL]))
theorem nxt_none {A : List Int} (h1 : 1 <= A.length) (h3 : ¬ 3 <= A.length) (ht : thirdL A = false) : nxtF A = none := by
 rcases A with _ | ⟨a,_ | ⟨b,_ | ⟨c,t⟩⟩⟩
 ·cases h1
 ·rfl
 ·exact if_neg (show ¬ a = 2 from fun e => by subst e; exact absurd ht (by simp [thirdL]))
 ·exact absurd (by simp) h3
theorem dot_srch {A : List Int} (h : Dig A) (h1 : 1 <= A.length) (h5 : A.length <= 5) : (srchF (Txt.slice (Txt.lower (Str.ofString "." ++ hostF A)) (some 1) none)).isSome = true := by
 rw [dot_case h,dot_slice,host_srch h h1 h5]; rfl
theorem colA {B : List Int} (FB : FltOk B) : colourF B = hsvF (hueL B) (shareL B) one64 := colour_eq FB.inf.1 FB.inf.2.1
theorem word_side {A : List Int} (h : Dig A) (h1 : 1 <= A.length) (h5 : A.length <= 5) {G : Prop} (k : (srchF (hostF A)).isSome = true -> (srchF (Txt.lower (hostF A))).isSome = true -> (srchF (Txt.slice (Txt.lower (reachF (hostF A))) (some 1) none)).isSome = true -> (reachF (hostF A)).length <= 15 -> dmF (hostF A) (reachF (hostF A)) = true -> G) : G := by
 refine (?f : Cln _) ?p ⟨?q,fun B k => ?r⟩
 case f => exact fun x _ => x
 case q =>
  have hd := dig_drop h
  have hsr := host_srch h h1 h5
  have hre := reach_host h h1 h5
  have low := (host_case h).2
  have e : (srchF (hostF A)).isSome = true ∧ (srchF (Txt.lower (hostF A))).isSome = true ∧ (srchF (Txt.slice (Txt.lower (reachF (hostF A))) (some 1) none)).isSome = true ∧ (reachF (hostF A)).length <= 15 ∧ dmF (hostF A) (reachF (hostF A)) = true := by
   rw [low,hsr]
   refine ⟨rfl,rfl,?_⟩
   rw [hre]
   split
   ·rename_i hq
    have d1 : 1 <= A.dropLast.length := by rw [List.length_dropLast]; lia
    have d5 : A.dropLast.length <= 5 := by rw [List.length_dropLast]; lia
    refine ⟨dot_srch hd d1 d5,?_,?_⟩
    ·have := host_lt hd d1 d5
     rw [Str.length_append]
     have : (Str.ofString ".").length = 1 := rfl
     lia
    ·rw [dm_dot h hd h1 h5 d1 d5 low,hq.1,third_drop hq.2,hq.1]
     have : (List.range (A.length - A.dropLast.length)).any (runT A A.dropLast) = true := by
      rw [List.any_eq_true]
      refine ⟨0,List.mem_range.mpr (by rw [List.length_dropLast]; lia),decide_eq_true ?_⟩
      rw [List.drop_zero,List.dropLast_eq_take,List.length_take,Nat.min_eq_left (by lia)]
     rw [this]; rfl
   ·rename_i hq
    refine ⟨?_,by have := host_lt h h1 h5; lia,?_⟩
    ·rw [low]
     have hne : A.reverse ≠ [] := by intro e; have := congrArg List.length e; simp at this; simp [this] at h1
     have := enc_len _ hne
     have hrl : A.reverse.length = A.length := List.length_reverse
     exact host_srch1 h h1 h5 ((slice_from (i := 1) (by rw [host_enc h]; lia)).trans (by rw [host_enc h]))
    ·unfold dmF
     rw [if_pos (beq_self_eq_true _)]
  exact k e.1 e.2.1 e.2.2.1 e.2.2.2.1 e.2.2.2.2
 case r => delta id stq_it stq_out; (conv => zeta); exact k
theorem way_third {b : Int} {t : List Int} (h : Dig (2 :: b :: t)) (h5 : (2 :: b :: t).length <= 5) (fl : ∀ B : List Int,Dig B -> 1 <= B.length -> B.length <= 5 -> FltOk B) {G : Prop}
  (k : ∀ (b' e : Nat) (Bl : List Int) (c4 c5 c6 : UInt64), srchF (hostF (2 :: b :: t)) = some (some (b', e)) -> hdnF (hostF (2 :: b :: t)) = false -> thirdF (hueL (2 :: b :: t)) (shareL (2 :: b :: t)) = true -> reachF (hostF (2 :: b :: t)) = hostF (2 :: b :: t) -> Txt.slice (hostF (2 :: b :: t)) none (some (b' : Int)) ++ Txt.slice (hostF (2 :: b :: t)) (some (e : Int)) none = hostF Bl -> hostF Bl ≠ Str.ofString "" -> nxtF (2 :: b :: t) = some Bl -> nextF (hueL (2 :: b :: t)) (shareL (2 :: b :: t)) = some (some (c4, c5, c6)) -> colourF Bl = some (c4, c5, c6) -> G) : G := by
 refine (?f : Cln _) ?p ⟨?q,fun B k => ?r⟩
 case f => exact fun x _ => x
 case q =>
  have ht : thirdL (2 :: b :: t) = true := rfl
  have h1 : 1 <= (2 :: b :: t).length := by simp
  have F := fl _ h h1 h5
  have hsr := host_srch h h1 h5
  have hdn := host_hdn h h1 h5
  have hre := reach_host h h1 h5
  have hT : Dig (b :: t) := fun n hn => h n (.tail _ hn)
  have t1 : 1 <= (b :: t).length := by simp
  have t5 : (b :: t).length <= 5 := by simp only [List.length_cons] at h5 ⊢; lia
  have FT := fl (b :: t) hT t1 t5
  obtain ⟨c',s1,s2⟩ := F.step (by simp)
  refine k ((hostF (2 :: b :: t)).cps.size - 3) (hostF (2 :: b :: t)).cps.size (b :: t) c'.1 c'.2.1 c'.2.2 ?_ ?_ (F.third.trans ht) ?_ ?_ (host_ne hT t1) rfl ?_ ((colA FT).trans s2)
  ·rw [hsr,if_pos ht]
  ·rw [hdn,ht]; rfl
  ·rw [hre,if_neg (by rw [ht]; simp)]
  ·apply str_toList
   have er : (2 :: b :: t : List Int).reverse = (b :: t).reverse ++ [2] := List.reverse_cons ..
   have ee : (hostF (2 :: b :: t)).cps.toList = encL (b :: t).reverse ++ [46,55,48] := by
    rw [host_enc h,er,enc_snoc _ _ (by simp)]; rfl
   have hsz : (hostF (2 :: b :: t)).cps.size = (encL (b :: t).reverse).length + 3 := by rw [← Array.length_toList,ee]; simp
   rw [Str.cps_append,Array.toList_append,slice_to (by rw [ee,hsz]; simp),slice_from (by rw [ee,hsz]; simp),hsz,ee,host_enc hT]
   rw [show (encL (b :: t).reverse).length + 3 - 3 = (encL (b :: t).reverse).length by lia,List.take_left,List.drop_of_length_le (by simp),List.append_nil]
  ·unfold nextF
   rw [if_pos (F.third.trans ht)]
   show Option.map some (hsvF (Float64.mul (Float64.ofInt 4) (hueL (2 :: b :: t))) (Float64.mul (Float64.ofInt 2) (shareL (2 :: b :: t))) one64) = _
   rw [s1]; rfl
 case r => delta id stq_it stq_out; (conv => zeta); exact k
theorem way_drop {A : List Int} (h : Dig A) (h1 : 1 <= A.length) (h5 : A.length <= 5) (h3 : 3 <= A.length) (ht : thirdL A = false) (fl : ∀ B : List Int,Dig B -> 1 <= B.length -> B.length <= 5 -> FltOk B) (cq : 3 <= A.length -> (Float64.cmp (shareL A) 4598175219545276416 == some Ordering.lt) = true) {G : Prop}
  (k : ∀ (Bl : List Int) (c4 c5 c6 : UInt64), srchF (hostF A) = some none -> hdnF (hostF A) = true -> thirdF (hueL A) (shareL A) = false -> reachF (hostF A) ≠ hostF A -> Txt.slice (reachF (hostF A)) (some 1) none = hostF Bl -> hostF Bl ≠ Str.ofString "" -> nxtF A = some Bl -> nextF (hueL A) (shareL A) = some (some (c4, c5, c6)) -> colourF Bl = some (c4, c5, c6) -> G) : G := by
 refine (?f : Cln _) ?p ⟨?q,fun B k => ?r⟩
 case f => exact fun x _ => x
 case q =>
  have hd := dig_drop h
  have F := fl _ h h1 h5
  have hsr := host_srch h h1 h5
  have hdn := host_hdn h h1 h5
  have hre := reach_host h h1 h5
  have d1 : 1 <= A.dropLast.length := by rw [List.length_dropLast]; lia
  have d5 : A.dropLast.length <= 5 := by rw [List.length_dropLast]; lia
  have FD := fl A.dropLast hd d1 d5
  obtain ⟨c',e1,_⟩ := FD.col
  obtain ⟨n1,n2,n3,n4,n5⟩ := F.next ht h3
  have hre' : reachF (hostF A) = Str.ofString "." ++ hostF A.dropLast := by rw [hre, if_pos ⟨ht, h3⟩]
  refine k A.dropLast c'.1 c'.2.1 c'.2.2 ?_ ?_ (F.third.trans ht) ?_ ?_ (host_ne hd d1) (nxt_drop h3 ht) ?_ ((colA FD).trans e1)
  ·rw [hsr,ht]; rfl
  ·rw [hdn,ht]; rfl
  ·rw [hre']
   intro e
   have := congrArg (fun x : Str => x.cps.toList[0]?) e
   obtain ⟨c0,hc0,hc1⟩ := enc_first (R := A.reverse) (by intro e; have := congrArg List.length e; simp at this; simp [this] at h1)
   simp only [host_enc h,hc0,Str.cps_append,Array.toList_append] at this
   have e46 : ((Str.ofString ".").cps.toList ++ (hostF A.dropLast).cps.toList)[0]? = some 46 := rfl
   rw [e46] at this
   exact hc1 (Option.some.inj this).symm
  ·rw [hre',dot_slice]
  ·unfold nextF
   rw [if_neg (by rw [F.third,ht]; decide),if_pos (cq h3)]
   show (if Float64.isZero _ = true then none else _) = _
   rw [if_neg (by rw [n1]; decide),if_pos n2,if_pos n3,n4,n5]
   show Option.map some (hsvF (hueL A.dropLast) (shareL A.dropLast) one64) = _
   rw [e1]; rfl
 case r => delta id stq_it stq_out; (conv => zeta); exact k
theorem word_ok {A : List Int} (h : Dig A) (h1 : 1 <= A.length) (h5 : A.length <= 5) (fl : ∀ B : List Int,Dig B -> 1 <= B.length -> B.length <= 5 -> FltOk B) (cs : Float64.cmpInt (Float64.mul (shareL A) (Float64.ofInt (2^(A.length : Int).toNat))) 1 = some Ordering.eq)
  (cq : 3 <= A.length -> (Float64.cmp (shareL A) 4598175219545276416 == some Ordering.lt) = true) (cn : A.length < 3 -> (Float64.cmp (shareL A) 4598175219545276416 == some Ordering.lt) = false) : WordOk A := by
 refine (?f : Cln _) ?p ⟨?q,fun B k => ?r⟩
 case f => exact fun x _ => x
 case q =>
  intro x1 x2 x3 hcx G k
  have F := fl A h h1 h5
  obtain ⟨c,hc,hr⟩ := F.col
  have e : c = (x1,x2,x3) := Option.some.inj (((colA F).trans hc).symm.trans hcx)
  subst e
  refine word_side h h1 h5 fun s1 s2 s3 s4 s5 => k (hueL A) (shareL A) one64 h h1 h5 hr F.cmp cs (by decide +kernel) s1 s2 s3 s4 s5 ?_
  intro G k1 k2 k3
  cases ht : thirdL A with
  | true =>
   obtain ⟨b,t,rfl⟩ := third_form ht
   exact way_third h h5 fl k1
  | false =>
   by_cases h3 : 3 <= A.length
   ·exact way_drop h h1 h5 h3 ht fl cq k2
   ·refine k3 (by rw [host_srch h h1 h5,ht]; rfl) (by rw [host_hdn h h1 h5,ht]; rfl) (F.third.trans ht) (by rw [reach_host h h1 h5,if_neg (fun q => h3 q.2)]) (nxt_none h1 h3 ht) ?_
    unfold nextF
    rw [if_neg (by rw [F.third,ht]; decide),if_neg (by rw [cn (Nat.lt_of_not_le h3)]; decide)]
 case r => delta id stq_it stq_out; exact k
end

section
noncomputable def shareN (n : Nat) : UInt64 := Float64.ofFrac (decide ((1 : Int) < 0) != decide ((2^(n : Int).toNat : Int) < 0)) (Int.natAbs 1) (2^(n : Int).toNat : Int).natAbs
theorem share_len (A : List Int) : shareL A = shareN A.length := rfl
theorem share_facts : ∀ n : Fin 6,(1 <= n.1 -> Float64.cmpInt (Float64.mul (shareN n.1) (Float64.ofInt (2^(n.1 : Int).toNat))) 1 = some Ordering.eq) ∧ (Float64.cmp (shareN n.1) 4598175219545276416 == some Ordering.lt) = decide (3 <= n.1) ∧ (Float64.cmp (shareN n.1) 4602678819172646912 == some Ordering.lt) = decide (2 <= n.1) ∧
  (Float64.cmp (shareN n.1) (shareN 1) == some Ordering.lt) = decide (1 < n.1) ∧ (Float64.cmp (shareN n.1) (shareN 2) == some Ordering.lt) = decide (2 < n.1) := by decide +kernel
theorem share_at {A : List Int} (h5 : A.length <= 5) : (1 <= A.length -> Float64.cmpInt (Float64.mul (shareL A) (Float64.ofInt (2^(A.length : Int).toNat))) 1 = some Ordering.eq) ∧ (Float64.cmp (shareL A) 4598175219545276416 == some Ordering.lt) = decide (3 <= A.length) ∧ (Float64.cmp (shareL A) 4602678819172646912 == some Ordering.lt) = decide (2 <= A.length) ∧
  (Float64.cmp (shareL A) (shareN 1) == some Ordering.lt) = decide (1 < A.length) ∧ (Float64.cmp (shareL A) (shareN 2) == some Ordering.lt) = decide (2 < A.length) := share_facts ⟨A.length,by lia⟩
theorem word_all {A : List Int} (h : Dig A) (h1 : 1 <= A.length) (h5 : A.length <= 5) (fl : ∀ B : List Int,Dig B -> 1 <= B.length -> B.length <= 5 -> FltOk B) : WordOk A := by
 obtain ⟨s1,s2,_⟩ := share_at h5
 exact word_ok h h1 h5 fl (s1 h1) (fun h3 => s2.trans (decide_eq_true h3)) (fun h3 => s2.trans (decide_eq_false (by show ¬ 3 <= A.length; lia)))
noncomputable def orbL : List Int -> List (UInt64 × UInt64)
 | [] => []
 | a :: t => (hueL (a :: t),shareL (a :: t)) :: orbL t
theorem orb_len : ∀ A : List Int,(orbL A).length = A.length
 | [] => rfl
 | a :: t => by simp [orbL,orb_len t]
theorem orb_mem : ∀ (A : List Int) (r : UInt64 × UInt64),r ∈ orbL A ↔ ∃ j,j < A.length ∧ r = (hueL (A.drop j),shareL (A.drop j))
 | [],r => by simp [orbL]
 | a :: t,r => by
  unfold orbL
  rw [List.mem_cons,orb_mem t r]
  constructor
  ·rintro (h | ⟨j,hj,h⟩)
   ·exact ⟨0,by simp,h⟩
   ·exact ⟨j + 1,by simpa using hj,h⟩
  ·rintro ⟨j,hj,h⟩
   cases j with
   | zero => exact .inl h
   | succ j => exact .inr ⟨j,by simpa using hj,h⟩
theorem orb_ok (fl : ∀ B : List Int,Dig B -> 1 <= B.length -> B.length <= 5 -> FltOk B) : ∀ (A : List Int),Dig A -> 1 <= A.length -> A.length <= 5 -> OrbOk (orbL A)
 | [],_,h,_ => absurd h (by decide)
 | [a],h,h1,h5 => by
  show (Float64.cmp (shareL [a]) _ == _) = false
  have := (share_at h5).2.2.1
  exact this.trans rfl
 | a :: b :: t,h,h1,h5 => by
  have hT : Dig (b :: t) := fun n hn => h n (.tail _ hn)
  have t1 : 1 <= (b :: t).length := by simp
  have t5 : (b :: t).length <= 5 := by simp only [List.length_cons] at h5 ⊢; lia
  have ih := orb_ok fl (b :: t) hT t1 t5
  have F := fl _ h h1 h5
  obtain ⟨c,e1,e2⟩ := F.step (by simp)
  obtain ⟨d,f1,f2⟩ := (fl _ hT t1 t5).col
  have e2' : hsvF (hueL (b :: t)) (shareL (b :: t)) one64 = some c := e2
  rw [f1] at e2'
  cases e2'
  refine ⟨?_,⟨c.1,c.2.1,c.2.2,one64,e1,f2⟩,ih⟩
  have := (share_at h5).2.2.1
  exact this.trans (decide_eq_true (by simp))
theorem arc_inj : ∀ {B C : List Int},Dig B -> Dig C -> B.length = C.length -> arcF B = arcF C -> B = C
 | [],[],_,_,_,_ => rfl
 | x :: B,y :: C,hB,hC,hl,h => by
  have dB : Dig B := fun n hn => hB n (.tail _ hn)
  have dC : Dig C := fun n hn => hC n (.tail _ hn)
  have hl : B.length = C.length := Nat.succ.inj hl
  obtain ⟨b,eb,lb⟩ := arc_nat B dB
  obtain ⟨c,ec,lc⟩ := arc_nat C dC
  rw [← hl] at lc
  have e : x.toNat * 4^B.length + b = y.toNat * 4^B.length + c := by
   rw [arc_cons,arc_cons,eb,ec,← hl,← cast_four,← Int.toNat_of_nonneg (hB x (.head _)).1,← Int.toNat_of_nonneg (hC y (.head _)).1] at h
   exact Int.ofNat_inj.mp (by rw [Int.natCast_add,Int.natCast_mul,Int.natCast_add,Int.natCast_mul]; exact h)
  have q {u v : Nat} (l : v < 4^B.length) : (u * 4^B.length + v) / 4^B.length = u := by
   rw [Nat.mul_comm,Nat.mul_add_div (Nat.pow_pos (by decide)),Nat.div_eq_of_lt l,Nat.add_zero]
  have e1 : x.toNat = y.toNat := (q lb).symm.trans ((congrArg (· / 4^B.length) e).trans (q lc))
  have e2 : b = c := by rw [e1] at e; exact Nat.add_left_cancel e
  have ex : x = y := by rw [← Int.toNat_of_nonneg (hB x (.head _)).1,e1,Int.toNat_of_nonneg (hC y (.head _)).1]
  rw [ex,arc_inj dB dC hl (by rw [eb,ec,e2])]
theorem place_at {C : List Int} (F : FltOk C) {m : Nat} {B : List Int} (hm : B.length = m) (h1 : 1 <= m) (h2 : m <= 2) : Float64.isNaN (placeQ (hueL C) (shareL B)) = false ∧ Float64.isInf (placeQ (hueL C) (shareL B)) = false ∧ (m <= C.length -> Flt.toInt Float64.truncOf (placeQ (hueL C) (shareL B)) = arcF (C.take m)) := by
 refine (?f : Cln _) ?p ⟨?q,fun B k => ?r⟩
 case f => exact fun x _ => x
 case q =>
  have : m = 1 ∨ m = 2 := by lia
  rcases this with rfl | rfl
  ·rw [show shareL B = shareL [0] by rw [share_len,share_len,hm]; rfl]; exact F.p1
  ·rw [show shareL B = shareL [0,0] by rw [share_len,share_len,hm]; rfl]; exact F.p2
 case r => delta id stq_it stq_out; exact k
theorem place_own {B : List Int} (F : FltOk B) (h1 : 1 <= B.length) (h2 : B.length <= 2) : Flt.toInt Float64.truncOf (placeQ (hueL B) (shareL B)) = arcF B := by
 rw [(place_at F rfl h1 h2).2.2 (Nat.le_refl _),List.take_length]
theorem share_lt {C B : List Int} (hC : C.length <= 5) (h1 : 1 <= B.length) (h2 : B.length <= 2) : (Float64.cmp (shareL C) (shareL B) == some Ordering.lt) = decide (B.length < C.length) := by
 refine (?f : Cln _) ?p ⟨?q,fun B k => ?r⟩
 case f => exact fun x _ => x
 case q =>
  have := share_at hC
  have hb : B.length = 1 ∨ B.length = 2 := by lia
  rw [share_len B]
  rcases hb with e | e <;> rw [e]
  ·exact this.2.2.2.1
  ·exact this.2.2.2.2
 case r => (try delta id); (conv => zeta); exact k
theorem met_run {A B : List Int} (hA : Dig A) (a5 : A.length <= 5) (hB : ShortL B) (fl : ∀ B : List Int,Dig B -> 1 <= B.length -> B.length <= 5 -> FltOk B) :
  (orbL A).any (metT (shareL B) (Flt.toInt Float64.truncOf (placeQ (hueL B) (shareL B)))) = (List.range (A.length - B.length)).any (runT A B) := by
 refine (?f : Cln _) ?p ⟨?q,fun B k => ?r⟩
 case f => exact fun x _ => x
 case q =>
  obtain ⟨⟨b1,b2⟩,dB⟩ := hB
  have FB := fl B dB b1 (by omega)
  rw [place_own FB b1 b2,Bool.eq_iff_iff,List.any_eq_true,List.any_eq_true]
  have one : ∀ j,j < A.length -> (metT (shareL B) (arcF B) (hueL (A.drop j),shareL (A.drop j)) = true ↔ j < A.length - B.length ∧ runT A B j = true) := by
   intro j hj
   have hl : (A.drop j).length = A.length - j := List.length_drop
   have dC : Dig (A.drop j) := fun n hn => hA n (List.mem_of_mem_drop hn)
   have FC := fl (A.drop j) dC (by omega) (by omega)
   unfold metT
   rw [Bool.and_eq_true,share_lt (by omega) b1 b2,decide_eq_true_iff,hl]
   constructor
   ·rintro ⟨h1,h2⟩
    refine ⟨by omega,decide_eq_true ?_⟩
    have e := eq_of_beq h2
    have e2 := (place_at FC (B := B) rfl b1 b2).2.2 (by omega)
    have e3 : Flt.toInt Float64.truncOf (placeQ (hueL (A.drop j)) (shareL B)) = arcF B := e
    rw [e2] at e3
    have ht : ((A.drop j).take B.length).length = B.length := by rw [List.length_take]; omega
    exact arc_inj (fun n hn => dC n (List.mem_of_mem_take hn)) dB ht e3
   ·rintro ⟨h1,h2⟩
    refine ⟨by omega,?_⟩
    have e : (A.drop j).take B.length = B := of_decide_eq_true h2
    have e2 := (place_at FC (B := B) rfl b1 b2).2.2 (by omega)
    rw [e] at e2
    show (Flt.toInt Float64.truncOf (placeQ (hueL (A.drop j)) (shareL B)) == arcF B) = true
    rw [e2]
    exact beq_self_eq_true _
  constructor
  ·rintro ⟨r,hr,h⟩
   obtain ⟨j,hj,rfl⟩ := (orb_mem A r).mp hr
   obtain ⟨h1,h2⟩ := (one j hj).mp h
   exact ⟨j,List.mem_range.mpr h1,h2⟩
  ·rintro ⟨k,hk,h⟩
   rw [List.mem_range] at hk
   exact ⟨_,(orb_mem A _).mpr ⟨k,by omega,rfl⟩,(one k (by omega)).mpr ⟨hk,h⟩⟩
 case r => delta id stq_it stq_out; exact k
theorem due_eq {a b : Int} {s t : List Int} (hA : 3 <= (a :: s).length) (hB : (b :: t).length <= 2) (x : Bool) : ((!thirdL (a :: s) && x) && !thirdL (b :: t)) = ((x && (a != 2)) && ((b :: t).length == 1 || b != 2)) := by
 refine (?f : Cln _) ?p ⟨?q,fun B k => ?r⟩
 case f => exact fun x _ => x
 case q =>
  rcases s with _ | ⟨s0,s1⟩
  ·exact absurd (show 3 <= 1 from hA) (by decide)
  ·rcases t with _ | ⟨t0,t1⟩
   ·show ((!(a == 2) && x) && !false) = ((x && (a != 2)) && (true || b != 2))
    cases x <;> cases h : (a == 2) <;> simp [bne,h]
   ·show ((!(a == 2) && x) && !(b == 2)) = ((x && (a != 2)) && (false || b != 2))
    cases x <;> cases h : (a == 2) <;> cases h2 : (b == 2) <;> simp [bne,h,h2]
 case r => delta id stq_it stq_out; exact k
end

section
theorem ints_head {vs : List Value} {a : Int} {t : List Int} (h : IntsAre vs (a :: t)) : ∃ w,vs[0]? = some (.int a w) := by
 cases h with
 | cons _ w _ => exact ⟨w,rfl⟩
theorem pair_of {zz : List (Addr × Obj)} {vsH vsG vsW : List Value} {A B At : List Int} {a0 : Int} (hA : LongL A) (hB : ShortL B) (eA : A = a0 :: At) (fl : ∀ B : List Int,Dig B -> 1 <= B.length -> B.length <= 5 -> FltOk B) {b : Int} {lB : Addr} {vB : List Value} {kB : Nat} {uB : Tok} {UB : Addr} {g4 g5 g6 : Tok}
  (iB : IntsAre vB B) (mB : (lB,PySem.W.listOf vB.toArray kB) ∈ zz) (xH : vsH[b.toNat]? = some (.ref lB)) (xW : vsW[b.toNat]? = some (.str (hostF B) uB)) (xG : vsG[b.toNat]? = some (.ref UB)) (mU : (UB,tupO [.float (hueL B) g4,.float (shareL B) g5,.float one64 g6]) ∈ zz) :
  PairOk zz vsH vsG vsW A a0 (hueL A) (shareL A) (orbL A) b := by
 refine (?f : Cln _) ?p ⟨?q,fun B k => ?r⟩
 case f => exact fun x _ => x
 case q =>
  have b1 := hB.1.1
  have b2 := hB.1.2
  have FB := fl B hB.2 b1 (by lia)
  obtain ⟨b0,t,e⟩ := List.exists_cons_of_ne_nil (show B ≠ [] by intro e; rw [e] at b1; exact absurd b1 (by decide))
  subst e
  obtain ⟨w,hw⟩ := ints_head iB
  have hP := place_at FB (B := b0 :: t) rfl b1 b2
  have due := due_eq (a := a0) (b := b0) (s := At) (t := t) (by rw [← eA]; exact hA.1.1) b2
  refine fun X kk => kk lB vB kB (b0 :: t) uB UB (hueL (b0 :: t)) (shareL (b0 :: t)) one64 g4 g5 g6 b0 w iB mB xH xW xG mU FB.inf.2.2 hP.1 hP.2.1 ?_ b2 b1 hw ?_ ?_ (dot_srch hB.2 b1 (by lia)) (host_lt hB.2 b1 (by lia))
  ·intro r hr
   obtain ⟨j,hj,rfl⟩ := (orb_mem A r).mp hr
   have hl : (A.drop j).length = A.length - j := List.length_drop
   have := hA.1
   have FC := fl (A.drop j) (fun n hn => hA.2 n (List.mem_of_mem_drop hn)) (by lia) (by lia)
   have := place_at FC (B := b0 :: t) rfl b1 b2
   exact ⟨this.1,this.2.1⟩
  ·have := hA.1
   rw [dm_dot hA.2 hB.2 (by lia) (by lia) b1 (by lia) (host_case hA.2).1]
   rw [eA]
   exact due _
  ·have := hA.1
   have FA := fl A hA.2 (by lia) (by lia)
   have hm := met_run hA.2 (by lia) hB fl
   rw [show Flt.toInt Float64.truncOf (Float64.div (Float64.div (hueL (b0 :: t)) (shareL (b0 :: t))) (shareL (b0 :: t))) = Flt.toInt Float64.truncOf (placeQ (hueL (b0 :: t)) (shareL (b0 :: t))) from rfl,hm,FA.third,FB.third,← due,eA]
   cases (List.range ((a0 :: At).length - (b0 :: t).length)).any (runT (a0 :: At) (b0 :: t)) <;> cases thirdL (a0 :: At) <;> rfl
 case r => delta id stq_it stq_out; (conv => zeta); exact k
theorem turn_of {zz : List (Addr × Obj)} {vsH vsG vsW : List Value} {A : List Int} (hA : LongL A) (fl : ∀ B : List Int,Dig B -> 1 <= B.length -> B.length <= 5 -> FltOk B) {a : Int} {lA : Addr} {vA : List Value} {kA : Nat} {uA : Tok} {UA : Addr} {g1 g2 g3 : Tok}
  (iA : IntsAre vA A) (mA : (lA,PySem.W.listOf vA.toArray kA) ∈ zz) (xH : vsH[a.toNat]? = some (.ref lA)) (xW : vsW[a.toNat]? = some (.str (hostF A) uA)) (xG : vsG[a.toNat]? = some (.ref UA)) (mU : (UA,tupO [.float (hueL A) g1,.float (shareL A) g2,.float one64 g3]) ∈ zz)
  (p : ∀ a0 At,A = a0 :: At -> PairOk zz vsH vsG vsW A a0 (hueL A) (shareL A) (orbL A) 2 ∧ PairOk zz vsH vsG vsW A a0 (hueL A) (shareL A) (orbL A) 3 ∧ PairOk zz vsH vsG vsW A a0 (hueL A) (shareL A) (orbL A) 4) : TurnOk zz vsH vsG vsW a := by
 have hl := hA.1
 obtain ⟨a0,At,e⟩ := List.exists_cons_of_ne_nil (show A ≠ [] by intro e; rw [e] at hl; exact absurd hl.1 (by decide))
 have ho := orb_ok fl A hA.2 (by lia) (by lia)
 obtain ⟨p2,p3,p4⟩ := p a0 At e
 subst e
 obtain ⟨w,hw⟩ := ints_head iA
 have len := orb_len At
 simp only [List.length_cons] at hl
 refine fun X kk => kk lA vA kA (a0 :: At) uA UA (hueL (a0 :: At)) (shareL (a0 :: At)) one64 g1 g2 g3 (orbL At) a0 w iA mA xH xW xG mU ho (by lia) (by lia) (by simp only [List.length_cons]; lia) (by simp only [List.length_cons]; lia) hw ?_ ?_ p2 p3 p4
 ·rw [(host_case hA.2).1,host_srch hA.2 (by simp) (by simp only [List.length_cons]; lia)]; rfl
 ·exact host_lt hA.2 (by simp) (by simp only [List.length_cons]; lia)
end

section
theorem hosts_mono {a b : List (Addr × Obj)} {H : Addr} {A0 A1 A2 A3 A4 : List Int} (k : ∀ p ∈ a,p ∈ b) (h : HostsAre a H A0 A1 A2 A3 A4) : HostsAre b H A0 A1 A2 A3 A4 :=
 fun G kk => h G fun l0 l1 l2 l3 l4 v0 v1 v2 v3 v4 nh k0 k1 k2 k3 k4 hH m0 m1 m2 m3 m4 => kk l0 l1 l2 l3 l4 v0 v1 v2 v3 v4 nh k0 k1 k2 k3 k4 (k _ hH) (k _ m0) (k _ m1) (k _ m2) (k _ m3) (k _ m4)
variable {w : World} {mg : Str -> Option Value} {X : Str} {q : Lx w mg X} {p p' n n' : Int} {tp tn tp' tn' : Tok} {nn nl nn' nl' : Nat} {its its' : Array Value}
theorem lx_split {r : List (Addr × Obj)} {y : Addr × Obj} : y ∈ q.news p tp nn n tn its nl r ↔ y ∈ q.news p tp nn n tn its nl [] ∨ y ∈ r :=
 ⟨fun h => (List.mem_append.mp (show y ∈ q.hds p tp nn n tn its nl ++ r from h)).imp_left fun h => List.mem_append_left [] h,fun h => h.elim (fun h => List.mem_append_left r ((List.mem_append.mp (show y ∈ q.hds p tp nn n tn its nl ++ [] from h)).elim id fun h => nomatch h)) fun h => List.mem_append_right (q.hds p tp nn n tn its nl) h⟩
theorem off_app {new r : List (Addr × Obj)} {a : Addr} (hn : ∀ b ∈ new,b.1 ≠ a) (hz : ∀ b ∈ q.news p tp nn n tn its nl r,b.1 ≠ a) : ∀ b ∈ q.news p tp nn n tn its nl (new ++ r),b.1 ≠ a := fun b hb => (List.mem_append.mp (Lx.pre new b hb)).elim (hn b) (hz b)
theorem ap_swap {a h n r : List (Addr × Obj)} : ∀ y ∈ a ++ (h ++ (n ++ r)),y ∈ a ++ (n ++ (h ++ r)) := fun y hy => (List.mem_append.mp hy).elim (List.mem_append_left _) fun k => List.mem_append_right _ (ap_pre (h := h) sb_refl y k)
theorem lx_app {g h : Heap} {L : Addr} {o1 o2 o3 o4 o5 o6 : Obj} {zz new r : List (Addr × Obj)} (hz : zz = q.news p tp nn n tn its nl r) (hoff : ∀ x ∈ new,∀ b ∈ zz,b.1 ≠ x.1) (hr : ∀ b ∈ r,b.1 ≠ q.sp ∧ b.1 ≠ q.d ∧ b.1 ≠ q.l) (z : Off6 L (zz)) (zn : Off6 L (new)) (N : News g L h (six L o1 o2 o3 o4 o5 o6 (new ++ zz))) :
  (∀ b ∈ new ++ r,b.1 ≠ q.sp ∧ b.1 ≠ q.d ∧ b.1 ≠ q.l) ∧ (Off6 L (q.news p tp nn n tn its nl (new ++ r))) ∧ News g L h (six L o1 o2 o3 o4 o5 o6 (q.news p tp nn n tn its nl (new ++ r))) := by
 refine ⟨ap_all (fun b h => ⟨fun e => hoff b h _ (Lx.mem_s hz) (show q.sp = b.1 from e.symm),fun e => hoff b h _ (Lx.mem_d hz) e.symm,fun e => hoff b h _ (Lx.mem_l hz) e.symm⟩) hr,?_,?_⟩
 ·subst hz
  exact ⟨off_app zn.1 z.1,off_app zn.2.1 z.2.1,off_app zn.2.2.1 z.2.2.1,off_app zn.2.2.2.1 z.2.2.2.1,off_app zn.2.2.2.2.1 z.2.2.2.2.1,off_app zn.2.2.2.2.2 z.2.2.2.2.2⟩
 ·subst hz
  exact cb_drop N (ap_swap (a := hd6 L o1 o2 o3 o4 o5 o6) (h := q.hds p tp nn n tn its nl))
theorem lx_appK {g h : Heap} {L : Addr} {o1 o2 o3 o4 o5 o6 : Obj} {zz new r : List (Addr × Obj)} (hz : zz = q.news p tp nn n tn its nl r) (hoff : ∀ x ∈ new,∀ b ∈ zz,b.1 ≠ x.1) (hr : ∀ b ∈ r,b.1 ≠ q.sp ∧ b.1 ≠ q.d ∧ b.1 ≠ q.l) (z : Off6 L (zz)) (zn : Off6 L (new)) (N : News g L h (six L o1 o2 o3 o4 o5 o6 (new ++ zz))) {G : Prop} (k : (∀ b ∈ new ++ r,b.1 ≠ q.sp ∧ b.1 ≠ q.d ∧ b.1 ≠ q.l) -> (Off6 L (q.news p tp nn n tn its nl (new ++ r))) -> News g L h (six L o1 o2 o3 o4 o5 o6 (q.news p tp nn n tn its nl (new ++ r))) -> G) : G :=
 have e := lx_app hz hoff hr z zn N
 k e.1 e.2.1 e.2.2
theorem base_off {r : List (Addr × Obj)} {a : Addr} (h : ∀ b ∈ q.news p tp nn n tn its nl r,b.1 ≠ a) : ∀ b ∈ q.news p' tp' nn' n' tn' its' nl' [],b.1 ≠ a :=
 Lx.off (zz := q.news p tp nn n tn its nl []) rfl rfl a fun y hy => h y (lx_split.mpr (.inl hy))
theorem out_sub {x : Addr × Obj} {a b c r : List (Addr × Obj)} : ∀ y ∈ a ++ (b ++ (c ++ r)),y ∈ a ++ (b ++ ((x :: c) ++ r)) := fun y hy =>
 (List.mem_append.mp hy).elim (List.mem_append_left _) fun h => List.mem_append_right _ ((List.mem_append.mp h).elim (List.mem_append_left _) fun h => List.mem_append_right _ (.tail _ h))
theorem lx_sub2 {r r' : List (Addr × Obj)} (h : ∀ y ∈ r',y ∈ r) : ∀ y ∈ q.news p tp nn n tn its nl r',y ∈ q.news p tp nn n tn its nl r := fun y hy => (lx_split.mp hy).elim (fun k => lx_split.mpr (.inl k)) fun k => lx_split.mpr (.inr (h y k))
theorem out_news {g h : Heap} {L : Addr} {o1 o2 o3 o4 o5 o6 : Obj} {x : Addr × Obj} {a b c r : List (Addr × Obj)} (N : News g L h (six L o1 o2 o3 o4 o5 o6 (q.news p tp nn n tn its nl (a ++ (b ++ ((x :: c) ++ r)))))) : News g L h (six L o1 o2 o3 o4 o5 o6 (x :: q.news p tp nn n tn its nl (a ++ (b ++ (c ++ r))))) :=
 cb_drop N (sb_keep (sb_keep (sb_keep (sb_keep (sb_keep (sb_keep (List.forall_mem_cons.mpr ⟨Lx.mem_r rfl (List.mem_append_right _ (List.mem_append_right _ (List.mem_append_left _ (.head _)))),lx_sub2 out_sub⟩)))))))
theorem out_zk {g h : Heap} {L : Addr} {o1 o2 o3 o4 o5 o6 : Obj} {x : Addr × Obj} {a b c r zz3 zz7 : List (Addr × Obj)} (hz3 : zz3 = q.news p' tp' nn' n' tn' its' nl' r) (hoff : ∀ y ∈ x :: c,∀ b ∈ zz3,b.1 ≠ y.1) (hoffG : ∀ y ∈ b,∀ k ∈ q.news p' tp' nn' n' tn' its' nl' ((x :: c) ++ r),k.1 ≠ y.1) (hz7 : zz7 = q.news p tp nn n tn its nl (b ++ ((x :: c) ++ r))) (hoff8 : ∀ y ∈ a,∀ k ∈ zz7,k.1 ≠ y.1) (N4 : News g L h (six L o1 o2 o3 o4 o5 o6 (q.news p' tp' nn' n' tn' its' nl' ((x :: c) ++ r)))) (dT : ∀ b ∈ c,b.2.data ≠ x.2.data) : ∀ k ∈ q.news p tp nn n tn its nl (a ++ (b ++ (c ++ r))),k.1 ≠ x.1 := fun k hk => by
 have Kin4 : x ∈ q.news p' tp' nn' n' tn' its' nl' ((x :: c) ++ r) := Lx.mem_r rfl (List.mem_append_left _ (.head _))
 rcases lx_split.mp hk with h | h
 ·exact base_off (a := x.1) (fun y hy => hoff x (.head _) y (hz3 ▸ hy)) k h
 ·rcases List.mem_append.mp h with h | h
  ·exact Ne.symm (hoff8 k h _ (Lx.mem_r hz7 (List.mem_append_right _ (List.mem_append_left _ (.head _)))))
  ·rcases List.mem_append.mp h with h | h
   ·exact Ne.symm (hoffG k h _ Kin4)
   ·rcases List.mem_append.mp h with h | h
    ·exact ne_of_obj N4 (ox := k.2) (oy := x.2) (.tail _ (.tail _ (.tail _ (.tail _ (.tail _ (.tail _ (Lx.mem_r rfl (List.mem_append_left _ (.tail _ h))))))))) (.tail _ (.tail _ (.tail _ (.tail _ (.tail _ (.tail _ Kin4)))))) (dT k h)
    ·exact hoff x (.head _) k (Lx.mem_r hz3 h)
theorem and_11 {a b0 c0 b1 c1 b2 c2 b3 c3 b4 c4 G : Prop} (h : a ∧ (b0 ∧ c0) ∧ (b1 ∧ c1) ∧ (b2 ∧ c2) ∧ (b3 ∧ c3) ∧ b4 ∧ c4) (k : a -> b0 -> c0 -> b1 -> c1 -> b2 -> c2 -> b3 -> c3 -> b4 -> c4 -> G) : G :=
 k h.1 h.2.1.1 h.2.1.2 h.2.2.1.1 h.2.2.1.2 h.2.2.2.1.1 h.2.2.2.1.2 h.2.2.2.2.1.1 h.2.2.2.2.1.2 h.2.2.2.2.2.1 h.2.2.2.2.2.2
theorem col_k {A : List Int} (F : FltOk A) {G : Prop} (k : ∀ x y z,colourF A = some (x,y,z) -> rgbF x y z = some (hueL A,shareL A,one64) -> G) : G := by
 obtain ⟨c,h1,h2⟩ := F.col
 exact k c.1 c.2.1 c.2.2 ((colour_eq F.inf.1 F.inf.2.1).trans h1) h2
end

section
noncomputable def rowsT (A : List Int) : Bool :=
 decide ((rowsF A).length <= 5) && (rowsF A).head? == some A && (List.range 5).all (fun k => match (rowsF A)[k]? with | some B => nxtF B == (rowsF A)[k + 1]? | none => true) && (rowsF A).all (fun B => decide (1 <= B.length) && decide (B.length <= 5) && B.all (fun n => decide (0 <= n) && decide (n < 4)))
theorem rowsT_all : (all15.all rowsT) = true := by decide +kernel
theorem rows_fact {A : List Int} (h : Dig A) (h1 : 1 <= A.length) (h5 : A.length <= 5) : (rowsF A).length <= 5 ∧ (rowsF A)[0]? = some A ∧ RowOk (rowsF A) ∧ ∀ B ∈ rowsF A,Dig B ∧ 1 <= B.length ∧ B.length <= 5 := by
 have t := List.all_eq_true.mp rowsT_all A (mem15 h h1 h5)
 unfold rowsT at t
 simp only [Bool.and_eq_true,decide_eq_true_eq,List.all_eq_true,beq_iff_eq] at t
 obtain ⟨⟨⟨t1,t2⟩,t3⟩,t4⟩ := t
 refine ⟨t1,?_,?_,?_⟩
 ·rw [← List.head?_eq_getElem?]; exact t2
 ·intro k B hB
  have hk : k < 5 := by have := (List.getElem?_eq_some_iff.mp hB).1; lia
  have := t3 k (List.mem_range.mpr hk)
  rw [hB] at this
  exact eq_of_beq this
 ·intro B hB
  have := t4 B hB
  exact ⟨fun n hn => this.2 n hn,this.1.1,this.1.2⟩
theorem rows_len {rr : List (Addr × Obj)} {ds : List Addr} {rs : List (List Int)} (h : RowsAre rr ds rs) : ds.length = rs.length := by
 induction h with
 | nil => rfl
 | cons _ _ _ ih => simp [ih]
theorem off6_sub {L : Addr} {a b : List (Addr × Obj)} (h : ∀ y ∈ a,y ∈ b) (z : Off6 L b) : Off6 L a := ⟨fun y hy => z.1 y (h y hy),fun y hy => z.2.1 y (h y hy),fun y hy => z.2.2.1 y (h y hy),fun y hy => z.2.2.2.1 y (h y hy),fun y hy => z.2.2.2.2.1 y (h y hy),fun y hy => z.2.2.2.2.2 y (h y hy)⟩
theorem tup_ne {a0 a1 a2 a3 a4 : Addr} {l0 l1 l2 l3 l4 : List Value} {x0 x1 x2 x3 x4 : Value} : ∀ b ∈ [(a0,tupO l0),(a1,tupO l1),(a2,tupO l2),(a3,tupO l3),(a4,tupO l4)],b.2.data ≠ (LCg.lst [x0,x1,x2,x3,x4]).data := by
 have h : ∀ (l0 : List Value),(tupO l0).data ≠ (LCg.lst [x0,x1,x2,x3,x4]).data := fun l0 e => by cases e
 exact List.forall_mem_cons.mpr ⟨h _,List.forall_mem_cons.mpr ⟨h _,List.forall_mem_cons.mpr ⟨h _,List.forall_mem_cons.mpr ⟨h _,List.forall_mem_cons.mpr ⟨h _,List.forall_mem_nil _⟩⟩⟩⟩⟩
noncomputable def RowsOk (A : List Int) : Prop := (rowsF A).length <= 5 ∧ (rowsF A)[0]? = some A ∧ RowOk (rowsF A) ∧ ∀ B ∈ rowsF A,Dig B ∧ 1 <= B.length ∧ B.length <= 5
theorem rows_long {A : List Int} (a : LongL A) : RowsOk A := rows_fact a.2 (Nat.le_trans (by decide) a.1.1) a.1.2
theorem rows_short {A : List Int} (a : ShortL A) : RowsOk A := rows_fact a.2 a.1.1 (Nat.le_trans a.1.2 (by decide))
theorem RowsOk.no5 {A : List Int} (g : RowsOk A) : (rowsF A)[5]? = none := List.getElem?_eq_none_iff.mpr g.1
theorem RowsOk.len {A : List Int} (g : RowsOk A) {rr : List (Addr × Obj)} {ds : List Addr} (h : RowsAre rr ds (rowsF A)) : ds.length <= 5 := rows_len h ▸ g.1
theorem rows_all {A0 A1 A2 A3 A4 : List Int} (a0 : LongL A0) (a1 : LongL A1) (a2 : ShortL A2) (a3 : ShortL A3) (a4 : ShortL A4) (fl : ∀ B : List Int,Dig B -> 1 <= B.length -> B.length <= 5 -> FltOk B) {G : Prop}
  (k : (∀ r ∈ [rowsF A0,rowsF A1,rowsF A2,rowsF A3,rowsF A4],RowOk r) -> roundS [rowsF A0,rowsF A1,rowsF A2,rowsF A3,rowsF A4] 0 = [A0,A1,A2,A3,A4] -> roundS [rowsF A0,rowsF A1,rowsF A2,rowsF A3,rowsF A4] 5 = [] -> (∀ A ∈ seqS [rowsF A0,rowsF A1,rowsF A2,rowsF A3,rowsF A4] 5,WordOk A) ->
   (∀ {rr : List (Addr × Obj)} {ds : List Addr},RowsAre rr ds (rowsF A0) -> ds.length <= 5) -> (∀ {rr : List (Addr × Obj)} {ds : List Addr},RowsAre rr ds (rowsF A1) -> ds.length <= 5) -> (∀ {rr : List (Addr × Obj)} {ds : List Addr},RowsAre rr ds (rowsF A2) -> ds.length <= 5) -> (∀ {rr : List (Addr × Obj)} {ds : List Addr},RowsAre rr ds (rowsF A3) -> ds.length <= 5) -> (∀ {rr : List (Addr × Obj)} {ds : List Addr},RowsAre rr ds (rowsF A4) -> ds.length <= 5) -> G) : G := by
 have g0 := rows_long a0
 have g1 := rows_long a1
 have g2 := rows_short a2
 have g3 := rows_short a3
 have g4 := rows_short a4
 refine k (List.forall_mem_cons.mpr ⟨g0.2.2.1,List.forall_mem_cons.mpr ⟨g1.2.2.1,List.forall_mem_cons.mpr ⟨g2.2.2.1,List.forall_mem_cons.mpr ⟨g3.2.2.1,List.forall_mem_cons.mpr ⟨g4.2.2.1,List.forall_mem_nil _⟩⟩⟩⟩⟩) ?_ ?_ ?_ g0.len g1.len g2.len g3.len g4.len
 ·unfold roundS
  simp only [List.filterMap_cons,List.filterMap_nil,g0.2.1,g1.2.1,g2.2.1,g3.2.1,g4.2.1]
 ·unfold roundS
  simp only [List.filterMap_cons,List.filterMap_nil,g0.no5,g1.no5,g2.no5,g3.no5,g4.no5]
 ·intro A hA
  unfold seqS roundS at hA
  obtain ⟨k,_,hk⟩ := List.mem_flatMap.mp hA
  obtain ⟨r,hr,hrk⟩ := List.mem_filterMap.mp hk
  have hin : A ∈ r := List.mem_of_getElem? hrk
  have hD : ∀ r ∈ [rowsF A0,rowsF A1,rowsF A2,rowsF A3,rowsF A4],∀ B ∈ r,Dig B ∧ 1 <= B.length ∧ B.length <= 5 := List.forall_mem_cons.mpr ⟨g0.2.2.2,List.forall_mem_cons.mpr ⟨g1.2.2.2,List.forall_mem_cons.mpr ⟨g2.2.2.2,List.forall_mem_cons.mpr ⟨g3.2.2.2,List.forall_mem_cons.mpr ⟨g4.2.2.2,List.forall_mem_nil _⟩⟩⟩⟩⟩
  have d := hD r hr A hin
  exact word_all d.1 d.2.1 d.2.2 fl
theorem law_all {w : World} {mg mb : Str -> Option Value} {mean : ExcName -> Option Value} {loose : List Str} {g : Heap} {L fa : Addr} {cd : Value} {o : Obj} {fd : FuncData}
  (ho : (hd.heap_39 w.params).lookup 192 = some o) (hfd : o.data = .func fd) (CH : CodeHd g 146 142) (B : Below callerA g [] g) (KX : (hd.heap_39 w.params).In g) (T : Top topProg loose mean mg mb g) {m : Str -> Option Value} {s : Shared} {Q : Flow -> Shared -> Prop} {R : Result -> Shared -> Prop} {l : Addr} {vs : List Value} {ns : List Int} (hl : g.IsList l vs.toArray) (hi : IntsAre vs ns) (hlen : ns.length <= 63)
  {o1 o2 o3 o4 o5 o6 : Obj} (c1 : o1.data = .cell none) (c2 : o2.data = .cell none) (c3 : o3.data = .cell none) (c4 : o4.data = .cell none) (c5 : o5.data = .cell none) (c6 : o6.data = .cell none)
  (hm : m = fun z => if z = Str.ofString "script" then some (.ref l) else none) (F : Fr g L s.heap m) (h142 : @LT.lt Nat _ 142 L)
  (N : News g L s.heap [(L + 1 + 1 + 1 + 1 + 1 + 1,o1),(L + 1 + 1 + 1 + 1 + 1,o2),(L + 1 + 1 + 1 + 1,o3),(L + 1 + 1 + 1,o4),(L + 1 + 1,o5),(L + 1,o6),(142,tabObj #[])])
  (fl : ∀ B : List Int,Dig B -> 1 <= B.length -> B.length <= 5 -> FltOk B)
  (fin : ∀ (ps : Array Value) (news' : List (Addr × Obj)) (mR : Str -> Option Value) (h' : Heap) (tk' : Nat),Fr g L h' mR -> News g L h' news' -> (142,tabObj ps) ∈ news' -> Q (.ret (.bool true)) { s with heap := h',toks := tk' }) : wpAny (model rw_xg0057_01.row.prog w) (callerA.deeper (envOfC fd.name fd.scope L fa cd)) (execs ((stmtsOf fd).drop 0) (envOfC fd.name fd.scope L fa cd)) Q (fun e s7 => wpAny (model rw_xg0057_01.row.prog w) (callerA.deeper (envOfC fd.name fd.scope L fa cd)) (leaving (envOfC fd.name fd.scope L fa cd) e) (fun _ s8 => R (.error e) s8) (fun e8 s8 => R (.error e8) s8) s7) s := by
 refine (?f : Cln _) ?p ⟨?q,fun B k => ?r⟩
 case f => exact fun x _ => x
 case q =>
  refine law1 ho hfd CH B KX T hl hi hlen c1 c2 c3 c4 c5 c6 hm F h142 N ?_
  intro H D n0 n1 n2 n3 n4 fz mR h1 tk1 b0 b1 b2 b3 b4 hs hnm hz F N
  have a0 := labels_long n0
  have a1 := labels_long n1
  have a2 := labels_short n2
  have a3 := labels_short n3
  have a4 := labels_short n4
  generalize labelsF 3 3 n0 = A0 at hs a0
  generalize labelsF 3 3 n1 = A1 at hs a1
  generalize labelsF 1 2 n2 = A2 at hs a2
  generalize labelsF 1 2 n3 = A3 at hs a3
  generalize labelsF 1 2 n4 = A4 at hs a4
  refine law2 (m := fun _ => none) (ps := #[]) ho hfd CH B KX T b0 b1 b2 b3 b4 a0 a1 a2 a3 a4 hs hnm F N ?_
  intro X t mR h2 tk2 hX hx F N
  refine scan_all b0 b1 b2 b3 b4 a0 a1 a2 a3 a4 hX fun p1 p2 p3 p4 p5 p6 p7 m1 m2 m3 m4 m5 s0 s1 s2 s3 s4 s5 s6 bps bp6 bns => ?_
  refine law3a (m := fun _ => none) ho hfd CH B KX T c1 c2 c3 c4 c5 c6 hx hz h142 F N ?_
  intro q tp tn ps nq zz rs o6' mR h3 tk3 hzz hrs hrest z c6' F N
  have hsr : HostsAre rs H A0 A1 A2 A3 A4 := hosts_mono (fun p hp => by rw [hrs]; simp [hp]) hs
  have m142 : (142,tabObj ps) ∈ rs := by rw [hrs]; simp
  clear hs hrs
  refine law3b (m := fun _ => none) ho hfd CH B KX T s0 s1 s2 s3 s4 s5 bps bns hzz hrest hsr z c6' F N ?_
  intro W zz2 tp2 tn2 nn2 nl2 u0 u1 u2 u3 u4 mR h4 tk4 hz2 hrest2 z2 F N
  have hsr2 : HostsAre ((W,LCg.lst [.str (hostF A0) u0,.str (hostF A1) u1,.str (hostF A2) u2,.str (hostF A3) u3,.str (hostF A4) u4]) :: rs) H A0 A1 A2 A3 A4 := hosts_mono (fun p hp => .tail _ hp) hsr
  have mW : (W,LCg.lst [.str (hostF A0) u0,.str (hostF A1) u1,.str (hostF A2) u2,.str (hostF A3) u3,.str (hostF A4) u4]) ∈ (W,LCg.lst [.str (hostF A0) u0,.str (hostF A1) u1,.str (hostF A2) u2,.str (hostF A3) u3,.str (hostF A4) u4]) :: rs := .head _
  have m142 : (142,tabObj ps) ∈ (W,LCg.lst [.str (hostF A0) u0,.str (hostF A1) u1,.str (hostF A2) u2,.str (hostF A3) u3,.str (hostF A4) u4]) :: rs := .tail _ m142
  generalize (W,LCg.lst [.str (hostF A0) u0,.str (hostF A1) u1,.str (hostF A2) u2,.str (hostF A3) u3,.str (hostF A4) u4]) :: rs = rW at hz2 hrest2 mW m142 hsr2
  clear hsr
  refine law3c (m := fun _ => none) ho hfd CH B KX T a0 a1 a2 a3 a4 s5 bps.2.2.2.2 bns.2.2.2.2 hz2 hrest2 hsr2 mW z2 c6' F N ?_
  intro zz3 tp3 tn3 nn3 nl3 mR h5 tk5 hz3 z3 F N
  have fA : ∀ {A : List Int},LongL A -> FltOk A := fun h => fl _ h.2 (by have := h.1; lia) (by have := h.1; lia)
  have fB : ∀ {A : List Int},ShortL A -> FltOk A := fun h => fl _ h.2 (by have := h.1; lia) (by have := h.1; lia)
  refine col_k (fA a0) fun cr0 cg0 cb0 f0 r0 => ?_
  refine col_k (fA a1) fun cr1 cg1 cb1 f1 r1 => ?_
  refine col_k (fB a2) fun cr2 cg2 cb2 f2 r2 => ?_
  refine col_k (fB a3) fun cr3 cg3 cb3 f3 r3 => ?_
  refine col_k (fB a4) fun cr4 cg4 cb4 f4 r4 => ?_
  refine law4 (m := fun _ => none) ho hfd CH B KX T c1 c2 c3 c4 c5 c6' a0 a1 a2 a3 a4 f0 f1 f2 f3 f4 (hosts_mono (fun p hp => Lx.mem_r hz3 hp) hsr2) z3 F N ?_
  intro K T0 T1 T2 T3 T4 tx0 ty0 tw0 tx1 ty1 tw1 tx2 ty2 tw2 tx3 ty3 tw3 tx4 ty4 tw4 mR h6 tk6 new hnew hoff sz F N
  have mT0 : (T0,tupO [.float cr0 tx0,.float cg0 ty0,.float cb0 tw0]) ∈ [(T0,tupO [.float cr0 tx0,.float cg0 ty0,.float cb0 tw0]),(T1,tupO [.float cr1 tx1,.float cg1 ty1,.float cb1 tw1]),(T2,tupO [.float cr2 tx2,.float cg2 ty2,.float cb2 tw2]),(T3,tupO [.float cr3 tx3,.float cg3 ty3,.float cb3 tw3]),(T4,tupO [.float cr4 tx4,.float cg4 ty4,.float cb4 tw4])] := .head _
  have mT1 : (T1,tupO [.float cr1 tx1,.float cg1 ty1,.float cb1 tw1]) ∈ [(T0,tupO [.float cr0 tx0,.float cg0 ty0,.float cb0 tw0]),(T1,tupO [.float cr1 tx1,.float cg1 ty1,.float cb1 tw1]),(T2,tupO [.float cr2 tx2,.float cg2 ty2,.float cb2 tw2]),(T3,tupO [.float cr3 tx3,.float cg3 ty3,.float cb3 tw3]),(T4,tupO [.float cr4 tx4,.float cg4 ty4,.float cb4 tw4])] := .tail _ (.head _)
  have mT2 : (T2,tupO [.float cr2 tx2,.float cg2 ty2,.float cb2 tw2]) ∈ [(T0,tupO [.float cr0 tx0,.float cg0 ty0,.float cb0 tw0]),(T1,tupO [.float cr1 tx1,.float cg1 ty1,.float cb1 tw1]),(T2,tupO [.float cr2 tx2,.float cg2 ty2,.float cb2 tw2]),(T3,tupO [.float cr3 tx3,.float cg3 ty3,.float cb3 tw3]),(T4,tupO [.float cr4 tx4,.float cg4 ty4,.float cb4 tw4])] := .tail _ (.tail _ (.head _))
  have mT3 : (T3,tupO [.float cr3 tx3,.float cg3 ty3,.float cb3 tw3]) ∈ [(T0,tupO [.float cr0 tx0,.float cg0 ty0,.float cb0 tw0]),(T1,tupO [.float cr1 tx1,.float cg1 ty1,.float cb1 tw1]),(T2,tupO [.float cr2 tx2,.float cg2 ty2,.float cb2 tw2]),(T3,tupO [.float cr3 tx3,.float cg3 ty3,.float cb3 tw3]),(T4,tupO [.float cr4 tx4,.float cg4 ty4,.float cb4 tw4])] := .tail _ (.tail _ (.tail _ (.head _)))
  have mT4 : (T4,tupO [.float cr4 tx4,.float cg4 ty4,.float cb4 tw4]) ∈ [(T0,tupO [.float cr0 tx0,.float cg0 ty0,.float cb0 tw0]),(T1,tupO [.float cr1 tx1,.float cg1 ty1,.float cb1 tw1]),(T2,tupO [.float cr2 tx2,.float cg2 ty2,.float cb2 tw2]),(T3,tupO [.float cr3 tx3,.float cg3 ty3,.float cb3 tw3]),(T4,tupO [.float cr4 tx4,.float cg4 ty4,.float cb4 tw4])] := .tail _ (.tail _ (.tail _ (.tail _ (.head _))))
  have dT : ∀ b ∈ [(T0,tupO [.float cr0 tx0,.float cg0 ty0,.float cb0 tw0]),(T1,tupO [.float cr1 tx1,.float cg1 ty1,.float cb1 tw1]),(T2,tupO [.float cr2 tx2,.float cg2 ty2,.float cb2 tw2]),(T3,tupO [.float cr3 tx3,.float cg3 ty3,.float cb3 tw3]),(T4,tupO [.float cr4 tx4,.float cg4 ty4,.float cb4 tw4])],b.2.data ≠ (LCg.lst [.ref T0,.ref T1,.ref T2,.ref T3,.ref T4]).data := tup_ne
  generalize [(T0,tupO [.float cr0 tx0,.float cg0 ty0,.float cb0 tw0]),(T1,tupO [.float cr1 tx1,.float cg1 ty1,.float cb1 tw1]),(T2,tupO [.float cr2 tx2,.float cg2 ty2,.float cb2 tw2]),(T3,tupO [.float cr3 tx3,.float cg3 ty3,.float cb3 tw3]),(T4,tupO [.float cr4 tx4,.float cg4 ty4,.float cb4 tw4])] = NT at hnew mT0 mT1 mT2 mT3 mT4 dT
  subst hnew
  have zn := six_off2 c1 c2 c3 c4 c5 c6' N sz (fun p hp => List.mem_append_left _ hp)
  refine lx_appK hz3 hoff hrest2 z3 zn N fun hr4 z4 N4 => ?_
  clear N
  have ap : ∀ y ∈ ((K,LCg.lst [.ref T0,.ref T1,.ref T2,.ref T3,.ref T4]) :: NT),y ∈ q.news (p6 : Int) tp3 nn3 3 tn3 #[] nl3 (((K,LCg.lst [.ref T0,.ref T1,.ref T2,.ref T3,.ref T4]) :: NT) ++ rW) := fun y hy => Lx.mem_r rfl (List.mem_append_left _ hy)
  refine law5 (m := fun _ => none) ho hfd CH B KX T c1 c2 c3 c4 c5 c6' r0 r1 r2 r3 r4 (ap _ (.head _)) (ap _ (.tail _ mT0)) (ap _ (.tail _ mT1)) (ap _ (.tail _ mT2)) (ap _ (.tail _ mT3)) (ap _ (.tail _ mT4)) z4 F N4 ?_
  intro G U0 U1 U2 U3 U4 gx0 gy0 gw0 gx1 gy1 gw1 gx2 gy2 gw2 gx3 gy3 gw3 gx4 gy4 gw4 mR h7 tk7 newG hnewG hoffG szG F N
  have zG := six_off2 c1 c2 c3 c4 c5 c6' N szG (fun p hp => List.mem_append_left _ hp)
  refine lx_appK rfl hoffG hr4 z4 zG N fun hr5 z5 N5 => ?_
  clear N
  have gp : ∀ y ∈ newG,y ∈ q.news (p6 : Int) tp3 nn3 3 tn3 #[] nl3 (newG ++ (((K,LCg.lst [.ref T0,.ref T1,.ref T2,.ref T3,.ref T4]) :: NT) ++ rW)) := fun y hy => Lx.mem_r rfl (List.mem_append_left _ hy)
  have rp : ∀ y ∈ rW,y ∈ newG ++ (((K,LCg.lst [.ref T0,.ref T1,.ref T2,.ref T3,.ref T4]) :: NT) ++ rW) := fun y hy => List.mem_append_right _ (List.mem_append_right _ hy)
  refine (show HostsAre (q.news (p6 : Int) tp3 nn3 3 tn3 #[] nl3 (newG ++ (((K,LCg.lst [.ref T0,.ref T1,.ref T2,.ref T3,.ref T4]) :: NT) ++ rW))) H A0 A1 A2 A3 A4 from hosts_mono (fun p hp => Lx.mem_r rfl (rp p hp)) hsr2) _ fun l0 l1 l2 l3 l4 v0 v1 v2 v3 v4 nh k0 k1 k2 k3 k4 hH m0 m1 m2 m3 m4 i0 i1 i2 i3 i4 => ?_
  have mU0 := gp (U0,tupO [.float (hueL A0) gx0,.float (shareL A0) gy0,.float one64 gw0]) (by rw [hnewG]; first | exact .head _ | exact .tail _ (.head _) | exact .tail _ (.tail _ (.head _)) | exact .tail _ (.tail _ (.tail _ (.head _))) | exact .tail _ (.tail _ (.tail _ (.tail _ (.head _)))) | exact .tail _ (.tail _ (.tail _ (.tail _ (.tail _ (.head _))))))
  have mU1 := gp (U1,tupO [.float (hueL A1) gx1,.float (shareL A1) gy1,.float one64 gw1]) (by rw [hnewG]; first | exact .head _ | exact .tail _ (.head _) | exact .tail _ (.tail _ (.head _)) | exact .tail _ (.tail _ (.tail _ (.head _))) | exact .tail _ (.tail _ (.tail _ (.tail _ (.head _)))) | exact .tail _ (.tail _ (.tail _ (.tail _ (.tail _ (.head _))))))
  have mU2 := gp (U2,tupO [.float (hueL A2) gx2,.float (shareL A2) gy2,.float one64 gw2]) (by rw [hnewG]; first | exact .head _ | exact .tail _ (.head _) | exact .tail _ (.tail _ (.head _)) | exact .tail _ (.tail _ (.tail _ (.head _))) | exact .tail _ (.tail _ (.tail _ (.tail _ (.head _)))) | exact .tail _ (.tail _ (.tail _ (.tail _ (.tail _ (.head _))))))
  have mU3 := gp (U3,tupO [.float (hueL A3) gx3,.float (shareL A3) gy3,.float one64 gw3]) (by rw [hnewG]; first | exact .head _ | exact .tail _ (.head _) | exact .tail _ (.tail _ (.head _)) | exact .tail _ (.tail _ (.tail _ (.head _))) | exact .tail _ (.tail _ (.tail _ (.tail _ (.head _)))) | exact .tail _ (.tail _ (.tail _ (.tail _ (.tail _ (.head _))))))
  have mU4 := gp (U4,tupO [.float (hueL A4) gx4,.float (shareL A4) gy4,.float one64 gw4]) (by rw [hnewG]; first | exact .head _ | exact .tail _ (.head _) | exact .tail _ (.tail _ (.head _)) | exact .tail _ (.tail _ (.tail _ (.head _))) | exact .tail _ (.tail _ (.tail _ (.tail _ (.head _)))) | exact .tail _ (.tail _ (.tail _ (.tail _ (.tail _ (.head _))))))
  have mG := gp (G,LCg.lst [.ref U0,.ref U1,.ref U2,.ref U3,.ref U4]) (by rw [hnewG]; first | exact .head _ | exact .tail _ (.head _) | exact .tail _ (.tail _ (.head _)) | exact .tail _ (.tail _ (.tail _ (.head _))) | exact .tail _ (.tail _ (.tail _ (.tail _ (.head _)))) | exact .tail _ (.tail _ (.tail _ (.tail _ (.tail _ (.head _))))))
  refine law6 (m := fun _ => none) ho hfd CH B KX T (vsH := [.ref l0,.ref l1,.ref l2,.ref l3,.ref l4]) (vsG := [.ref U0,.ref U1,.ref U2,.ref U3,.ref U4]) (vsW := [.str (hostF A0) u0,.str (hostF A1) u1,.str (hostF A2) u2,.str (hostF A3) u3,.str (hostF A4) u4]) (nH := nh) (nG := 5) (nW := 5) c1 c2 c3 c4 c5 c6' hH mG (Lx.mem_r rfl (rp _ mW))
   (turn_of a0 fl i0 m0 rfl rfl rfl mU0 fun a0' At e => ⟨pair_of a0 a2 e fl i2 m2 rfl rfl rfl mU2, pair_of a0 a3 e fl i3 m3 rfl rfl rfl mU3, pair_of a0 a4 e fl i4 m4 rfl rfl rfl mU4⟩) (turn_of a1 fl i1 m1 rfl rfl rfl mU1 fun a0' At e => ⟨pair_of a1 a2 e fl i2 m2 rfl rfl rfl mU2, pair_of a1 a3 e fl i3 m3 rfl rfl rfl mU3, pair_of a1 a4 e fl i4 m4 rfl rfl rfl mU4⟩) z5 (fr_has (fr_has (fr_has (fr_has F (Str.ofString "hosts") rfl) (Str.ofString "colours") rfl) (Str.ofString "words") rfl) (Str.ofString "told") rfl) N5 ?_
  clear mU0 mU1 mU2 mU3 mU4 mG N5 hH m0 m1 m2 m3 m4
  intro o2' o3' o4' o5' w2 w3 w4 w5 mR h8 tk8 c2' c3' c4' c5' F N
  refine law7 (m := fun _ => none) ho hfd CH B KX T rfl hr5 (rp _ mW) z5 c6' (fr_has (fr_has (fr_has F (Str.ofString "hosts") rfl) (Str.ofString "words") rfl) (Str.ofString "colours") rfl) N ?_
  intro zz7 nl7 mR h9 tk9 hz7 z7 F N
  refine law8 (m := fun _ => none) ho hfd CH B KX T c1 c2' c3' c4' c5' c6' a0 a1 a2 a3 a4 (hosts_mono (fun p hp => Lx.mem_r hz7 (rp p hp)) hsr2) z7 (fr_has (fr_has F (Str.ofString "hosts") rfl) (Str.ofString "colours") rfl) N ?_
  intro Rw R0 R1 R2 R3 R4 d0 d1 d2 d3 d4 e0 e1 e2 e3 e4 new8 o1' mR hA tkA c1' hoff8 ncz hnew8 F N
  refine lx_appK hz7 hoff8 hr5 z7 ncz N fun hr8 z8 N8 => ?_
  clear N
  refine and_11 hnew8 fun mRw mr0 ra0 mr1 ra1 mr2 ra2 mr3 ra3 mr4 ra4 => ?_
  have inT : ∀ y ∈ NT ++ rW,y ∈ (new8 ++ (newG ++ (NT ++ rW))) := fun y hy => List.mem_append_right _ (List.mem_append_right _ hy)
  have inN : ∀ y ∈ new8,y ∈ (new8 ++ (newG ++ (NT ++ rW))) := fun y hy => List.mem_append_left _ hy
  have NR := out_news N8
  have zk := out_zk hz3 hoff hoffG hz7 hoff8 N4 dT
  refine rows_all a0 a1 a2 a3 a4 fl fun hrow hq0 hq5 hW y0 y1 y2 y3 y4 => ?_
  refine law9 (m := fun _ => none) ho hfd CH B KX T c1' c2' c3' c4' c5' c6' (X := X) (q := q) rfl (fun b hb => hr8 b (out_sub b hb)) (off6_sub (lx_sub2 out_sub) z8)
   ⟨zn.1 _ (.head _),zn.2.1 _ (.head _),zn.2.2.1 _ (.head _),zn.2.2.2.1 _ (.head _),zn.2.2.2.2.1 _ (.head _),zn.2.2.2.2.2 _ (.head _)⟩ zk
   (inT _ (List.mem_append_left _ mT0)) f0 (inT _ (List.mem_append_left _ mT1)) f1 (inT _ (List.mem_append_left _ mT2)) f2 (inT _ (List.mem_append_left _ mT3)) f3 (inT _ (List.mem_append_left _ mT4)) f4
   (inN _ mRw) (inN _ mr0) (ra0.mono inN) (inN _ mr1) (ra1.mono inN) (inN _ mr2) (ra2.mono inN) (inN _ mr3) (ra3.mono inN) (inN _ mr4) (ra4.mono inN) rfl rfl hrow hq0 hq5 hW ⟨y0 ra0, y1 ra1, y2 ra2, y3 ra3, y4 ra4⟩ (fr_has (fr_has F (Str.ofString "hosts") rfl) (Str.ofString "colours") rfl) NR ?_
  intro o3'' w3'' nl9 kO zz9 rs9 mR hB tkB c3'' hz9 hr9 z9 zk9 sub9 F N
  refine law10 (m := fun _ => none) ho hfd CH B KX T s6 bp6 hz9 hr9 z9 zk9 c6' F N ?_
  intro zzA tpA tnA nnA nlA nA mR hC tkC pA hzA F N
  exact fin ps _ mR hC tkC F N (.tail _ (.tail _ (.tail _ (.tail _ (.tail _ (.tail _ (.tail _ (Lx.mem_r hzA (sub9 _ (inT _ (List.mem_append_right _ m142)))))))))))
 case r => (try delta id); (conv => zeta); exact k
end

theorem lawt : PySem.Challenge.rw_xg0057_01.Holds := by
 refine (?f : Cln _) ?p ⟨?q,fun B k => ?r⟩
 case f => exact fun x _ => x
 case q =>
  refine hd ?_
  k_go0
  all_goals try k_fold
  rename CodeHd _ _ _ => hC9
  rename Below _ _ _ _ => hB9
  with_reducible rename PySem.W.Frag.In _ _ => hX9
  with_reducible rename Top topProg _ _ _ _ (ghostOf _ _) => hT9
  with_reducible rename Heap.IsList (ghostOf _ _) _ _ => hl9
  with_reducible rename IntsAre _ _ => hI9
  with_reducible rename ¬ _ < _ => hn9
  with_reducible rename Fr _ _ _ _ => hF9
  with_reducible rename News _ _ _ _ => hN9
  with_reducible rename @LT.lt Nat _ 142 _ => h1429
  with_reducible rename _ = Data.cell (bindC _ _ _ (Str.ofString "rows")) => q1
  with_reducible rename _ = Data.cell (bindC _ _ _ (Str.ofString "place")) => q2
  with_reducible rename _ = Data.cell (bindC _ _ _ (Str.ofString "share")) => q3
  with_reducible rename _ = Data.cell (bindC _ _ _ (Str.ofString "short")) => q4
  with_reducible rename _ = Data.cell (bindC _ _ _ (Str.ofString "long")) => q5
  with_reducible rename _ = Data.cell (bindC _ _ _ (Str.ofString "lexer")) => q6
  rename World => w9
  have h9 := (show (hd.heap_39 w9.params).lookup 192 = some _ from by k_is)
  refine law_all (R := fun r s' => GoodW rw_xg0057_01.row.claim (classAt _) (ExcName.means _) _ _ r s' ∧ GrownAll [(146,142)] s'.heap) h9 rfl hC9 hB9 hX9 hT9 hl9 hI9 (by omega) q1 q2 q3 q4 q5 q6 rfl hF9 h1429 hN9 (fun B h h1 h5 => flt_all h h1 h5) ?_
  intro ps news' mR h' tk' F N hm9
  clear hF9 hN9
  refine ⟨?_,GrownAt.of N hm9,trivial⟩
  all_goals (try dsimp only)
  all_goals k_steps
  all_goals (try k_data)
 case r => delta id stq_it stq_out; (conv => zeta); exact k
end Mine
set_option maxRecDepth 100000 in
theorem PySem.Challenge.cw_xg0057_01_holds : PySem.Challenge.rw_xg0057_01.Holds :=
 Mine.lawt
