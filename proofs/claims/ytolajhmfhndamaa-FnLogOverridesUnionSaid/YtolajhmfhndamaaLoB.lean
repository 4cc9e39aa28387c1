/- StringToMsgIDs: for each text the ids at which it lays the level. Condition: a map of at most 2^24 entries. -/
import Derived.Test.YtolajhmfhndamaaLoA
namespace Go.Proofs.Ytolajhmfhndamaa.LoB
open Go.RowKit Go.Maps Go.ChangeMaps Go.MapKept Go.Proofs.Ytolajhmfhndamaa.Base Go.Proofs.Ytolajhmfhndamaa.Mps Go.Proofs.Ytolajhmfhndamaa.LoA
set_option linter.unusedVariables false
set_option maxRecDepth 100000 in
set_option maxHeartbeats 1000000 in
theorem t0 (s : ByteArray) (h0 : (s.toList == [97, 115, 115, 101, 114, 116, 45, 116, 111, 45, 119, 105, 116, 104]) = true) : Sto s [1] := by
  intro w b n D v hm hn
  have HM := Lib.hid hm
  clear hm
  go_enter Try.func11, Try.ntmps11
  go_wp2_with (at_mapUpdate; refine wpList_mapUpdate_own _ rfl _ _ _ 28 rfl 5 32 law5 Try.underlying28 self b _ _ rfl HM.out (by unfold maxLen; omega) (.int .u8 1) _ (kI 1) rfl rfl (kI_mk 1 (by decide) (by decide)) (lv v) [] rfl ?_; intro w2 hout2 hg2)
  go_end0
  exact ⟨rfl, om_more hout2 (by omega), hg2⟩
set_option maxRecDepth 100000 in
set_option maxHeartbeats 1000000 in
theorem t1 (s : ByteArray) (h0 : (s.toList == [97, 115, 115, 101, 114, 116, 45, 116, 111, 45, 119, 105, 116, 104]) = false) (h1 : (s.toList == [97, 115, 115, 101, 114, 116, 45, 116, 121, 112, 101, 45, 106, 115, 111, 110]) = true) : Sto s [2] := by
  intro w b n D v hm hn
  have HM := Lib.hid hm
  clear hm
  go_enter Try.func11, Try.ntmps11
  go_wp2_with (at_mapUpdate; refine wpList_mapUpdate_own _ rfl _ _ _ 28 rfl 5 32 law5 Try.underlying28 self b _ _ rfl HM.out (by unfold maxLen; omega) (.int .u8 2) _ (kI 2) rfl rfl (kI_mk 2 (by decide) (by decide)) (lv v) [] rfl ?_; intro w2 hout2 hg2)
  go_end0
  exact ⟨rfl, om_more hout2 (by omega), hg2⟩
set_option maxRecDepth 100000 in
set_option maxHeartbeats 1000000 in
theorem t2 (s : ByteArray) (h0 : (s.toList == [97, 115, 115, 101, 114, 116, 45, 116, 111, 45, 119, 105, 116, 104]) = false) (h1 : (s.toList == [97, 115, 115, 101, 114, 116, 45, 116, 121, 112, 101, 45, 106, 115, 111, 110]) = false) (h2 : (s.toList == [97, 115, 115, 105, 103, 110, 45, 116, 111, 45, 99, 111, 110, 115, 116, 97, 110, 116]) = true) : Sto s [3] := by
  intro w b n D v hm hn
  have HM := Lib.hid hm
  clear hm
  go_enter Try.func11, Try.ntmps11
  go_wp2_with (at_mapUpdate; refine wpList_mapUpdate_own _ rfl _ _ _ 28 rfl 5 32 law5 Try.underlying28 self b _ _ rfl HM.out (by unfold maxLen; omega) (.int .u8 3) _ (kI 3) rfl rfl (kI_mk 3 (by decide) (by decide)) (lv v) [] rfl ?_; intro w2 hout2 hg2)
  go_end0
  exact ⟨rfl, om_more hout2 (by omega), hg2⟩
set_option maxRecDepth 100000 in
set_option maxHeartbeats 1000000 in
theorem t3 (s : ByteArray) (h0 : (s.toList == [97, 115, 115, 101, 114, 116, 45, 116, 111, 45, 119, 105, 116, 104]) = false) (h1 : (s.toList == [97, 115, 115, 101, 114, 116, 45, 116, 121, 112, 101, 45, 106, 115, 111, 110]) = false) (h2 : (s.toList == [97, 115, 115, 105, 103, 110, 45, 116, 111, 45, 99, 111, 110, 115, 116, 97, 110, 116]) = false) (h3 : (s.toList == [97, 115, 115, 105, 103, 110, 45, 116, 111, 45, 100, 101, 102, 105, 110, 101]) = true) : Sto s [4] := by
  intro w b n D v hm hn
  have HM := Lib.hid hm
  clear hm
  go_enter Try.func11, Try.ntmps11
  go_wp2_with (at_mapUpdate; refine wpList_mapUpdate_own _ rfl _ _ _ 28 rfl 5 32 law5 Try.underlying28 self b _ _ rfl HM.out (by unfold maxLen; omega) (.int .u8 4) _ (kI 4) rfl rfl (kI_mk 4 (by decide) (by decide)) (lv v) [] rfl ?_; intro w2 hout2 hg2)
  go_end0
  exact ⟨rfl, om_more hout2 (by omega), hg2⟩
set_option maxRecDepth 100000 in
set_option maxHeartbeats 1000000 in
theorem t4 (s : ByteArray) (h0 : (s.toList == [97, 115, 115, 101, 114, 116, 45, 116, 111, 45, 119, 105, 116, 104]) = false) (h1 : (s.toList == [97, 115, 115, 101, 114, 116, 45, 116, 121, 112, 101, 45, 106, 115, 111, 110]) = false) (h2 : (s.toList == [97, 115, 115, 105, 103, 110, 45, 116, 111, 45, 99, 111, 110, 115, 116, 97, 110, 116]) = false) (h3 : (s.toList == [97, 115, 115, 105, 103, 110, 45, 116, 111, 45, 100, 101, 102, 105, 110, 101]) = false) (h4 : (s.toList == [97, 115, 115, 105, 103, 110, 45, 116, 111, 45, 105, 109, 112, 111, 114, 116]) = true) : Sto s [5] := by
  intro w b n D v hm hn
  have HM := Lib.hid hm
  clear hm
  go_enter Try.func11, Try.ntmps11
  go_wp2_with (at_mapUpdate; refine wpList_mapUpdate_own _ rfl _ _ _ 28 rfl 5 32 law5 Try.underlying28 self b _ _ rfl HM.out (by unfold maxLen; omega) (.int .u8 5) _ (kI 5) rfl rfl (kI_mk 5 (by decide) (by decide)) (lv v) [] rfl ?_; intro w2 hout2 hg2)
  go_end0
  exact ⟨rfl, om_more hout2 (by omega), hg2⟩
set_option maxRecDepth 100000 in
set_option maxHeartbeats 1000000 in
theorem t5 (s : ByteArray) (h0 : (s.toList == [97, 115, 115, 101, 114, 116, 45, 116, 111, 45, 119, 105, 116, 104]) = false) (h1 : (s.toList == [97, 115, 115, 101, 114, 116, 45, 116, 121, 112, 101, 45, 106, 115, 111, 110]) = false) (h2 : (s.toList == [97, 115, 115, 105, 103, 110, 45, 116, 111, 45, 99, 111, 110, 115, 116, 97, 110, 116]) = false) (h3 : (s.toList == [97, 115, 115, 105, 103, 110, 45, 116, 111, 45, 100, 101, 102, 105, 110, 101]) = false) (h4 : (s.toList == [97, 115, 115, 105, 103, 110, 45, 116, 111, 45, 105, 109, 112, 111, 114, 116]) = false) (h5 : (s.toList == [98, 105, 103, 105, 110, 116]) = true) : Sto s [6] := by
  intro w b n D v hm hn
  have HM := Lib.hid hm
  clear hm
  go_enter Try.func11, Try.ntmps11
  go_wp2_with (at_mapUpdate; refine wpList_mapUpdate_own _ rfl _ _ _ 28 rfl 5 32 law5 Try.underlying28 self b _ _ rfl HM.out (by unfold maxLen; omega) (.int .u8 6) _ (kI 6) rfl rfl (kI_mk 6 (by decide) (by decide)) (lv v) [] rfl ?_; intro w2 hout2 hg2)
  go_end0
  exact ⟨rfl, om_more hout2 (by omega), hg2⟩
set_option maxRecDepth 100000 in
set_option maxHeartbeats 1000000 in
theorem t6 (s : ByteArray) (h0 : (s.toList == [97, 115, 115, 101, 114, 116, 45, 116, 111, 45, 119, 105, 116, 104]) = false) (h1 : (s.toList == [97, 115, 115, 101, 114, 116, 45, 116, 121, 112, 101, 45, 106, 115, 111, 110]) = false) (h2 : (s.toList == [97, 115, 115, 105, 103, 110, 45, 116, 111, 45, 99, 111, 110, 115, 116, 97, 110, 116]) = false) (h3 : (s.toList == [97, 115, 115, 105, 103, 110, 45, 116, 111, 45, 100, 101, 102, 105, 110, 101]) = false) (h4 : (s.toList == [97, 115, 115, 105, 103, 110, 45, 116, 111, 45, 105, 109, 112, 111, 114, 116]) = false) (h5 : (s.toList == [98, 105, 103, 105, 110, 116]) = false) (h6 : (s.toList == [99, 97, 108, 108, 45, 105, 109, 112, 111, 114, 116, 45, 110, 97, 109, 101, 115, 112, 97, 99, 101]) = true) : Sto s [7] := by
  intro w b n D v hm hn
  have HM := Lib.hid hm
  clear hm
  go_enter Try.func11, Try.ntmps11
  go_wp2_with (at_mapUpdate; refine wpList_mapUpdate_own _ rfl _ _ _ 28 rfl 5 32 law5 Try.underlying28 self b _ _ rfl HM.out (by unfold maxLen; omega) (.int .u8 7) _ (kI 7) rfl rfl (kI_mk 7 (by decide) (by decide)) (lv v) [] rfl ?_; intro w2 hout2 hg2)
  go_end0
  exact ⟨rfl, om_more hout2 (by omega), hg2⟩
set_option maxRecDepth 100000 in
set_option maxHeartbeats 1000000 in
theorem t7 (s : ByteArray) (h0 : (s.toList == [97, 115, 115, 101, 114, 116, 45, 116, 111, 45, 119, 105, 116, 104]) = false) (h1 : (s.toList == [97, 115, 115, 101, 114, 116, 45, 116, 121, 112, 101, 45, 106, 115, 111, 110]) = false) (h2 : (s.toList == [97, 115, 115, 105, 103, 110, 45, 116, 111, 45, 99, 111, 110, 115, 116, 97, 110, 116]) = false) (h3 : (s.toList == [97, 115, 115, 105, 103, 110, 45, 116, 111, 45, 100, 101, 102, 105, 110, 101]) = false) (h4 : (s.toList == [97, 115, 115, 105, 103, 110, 45, 116, 111, 45, 105, 109, 112, 111, 114, 116]) = false) (h5 : (s.toList == [98, 105, 103, 105, 110, 116]) = false) (h6 : (s.toList == [99, 97, 108, 108, 45, 105, 109, 112, 111, 114, 116, 45, 110, 97, 109, 101, 115, 112, 97, 99, 101]) = false) (h7 : (s.toList == [99, 108, 97, 115, 115, 45, 110, 97, 109, 101, 45, 119, 105, 108, 108, 45, 116, 104, 114, 111, 119]) = true) : Sto s [8] := by
  intro w b n D v hm hn
  have HM := Lib.hid hm
  clear hm
  go_enter Try.func11, Try.ntmps11
  go_wp2_with (at_mapUpdate; refine wpList_mapUpdate_own _ rfl _ _ _ 28 rfl 5 32 law5 Try.underlying28 self b _ _ rfl HM.out (by unfold maxLen; omega) (.int .u8 8) _ (kI 8) rfl rfl (kI_mk 8 (by decide) (by decide)) (lv v) [] rfl ?_; intro w2 hout2 hg2)
  go_end0
  exact ⟨rfl, om_more hout2 (by omega), hg2⟩
set_option maxRecDepth 100000 in
set_option maxHeartbeats 1000000 in
theorem t8 (s : ByteArray) (h0 : (s.toList == [97, 115, 115, 101, 114, 116, 45, 116, 111, 45, 119, 105, 116, 104]) = false) (h1 : (s.toList == [97, 115, 115, 101, 114, 116, 45, 116, 121, 112, 101, 45, 106, 115, 111, 110]) = false) (h2 : (s.toList == [97, 115, 115, 105, 103, 110, 45, 116, 111, 45, 99, 111, 110, 115, 116, 97, 110, 116]) = false) (h3 : (s.toList == [97, 115, 115, 105, 103, 110, 45, 116, 111, 45, 100, 101, 102, 105, 110, 101]) = false) (h4 : (s.toList == [97, 115, 115, 105, 103, 110, 45, 116, 111, 45, 105, 109, 112, 111, 114, 116]) = false) (h5 : (s.toList == [98, 105, 103, 105, 110, 116]) = false) (h6 : (s.toList == [99, 97, 108, 108, 45, 105, 109, 112, 111, 114, 116, 45, 110, 97, 109, 101, 115, 112, 97, 99, 101]) = false) (h7 : (s.toList == [99, 108, 97, 115, 115, 45, 110, 97, 109, 101, 45, 119, 105, 108, 108, 45, 116, 104, 114, 111, 119]) = false) (h8 : (s.toList == [99, 111, 109, 109, 111, 110, 106, 115, 45, 118, 97, 114, 105, 97, 98, 108, 101, 45, 105, 110, 45, 101, 115, 109]) = true) : Sto s [9] := by
  intro w b n D v hm hn
  have HM := Lib.hid hm
  clear hm
  go_enter Try.func11, Try.ntmps11
  go_wp2_with (at_mapUpdate; refine wpList_mapUpdate_own _ rfl _ _ _ 28 rfl 5 32 law5 Try.underlying28 self b _ _ rfl HM.out (by unfold maxLen; omega) (.int .u8 9) _ (kI 9) rfl rfl (kI_mk 9 (by decide) (by decide)) (lv v) [] rfl ?_; intro w2 hout2 hg2)
  go_end0
  exact ⟨rfl, om_more hout2 (by omega), hg2⟩
set_option maxRecDepth 100000 in
set_option maxHeartbeats 1000000 in
theorem t9 (s : ByteArray) (h0 : (s.toList == [97, 115, 115, 101, 114, 116, 45, 116, 111, 45, 119, 105, 116, 104]) = false) (h1 : (s.toList == [97, 115, 115, 101, 114, 116, 45, 116, 121, 112, 101, 45, 106, 115, 111, 110]) = false) (h2 : (s.toList == [97, 115, 115, 105, 103, 110, 45, 116, 111, 45, 99, 111, 110, 115, 116, 97, 110, 116]) = false) (h3 : (s.toList == [97, 115, 115, 105, 103, 110, 45, 116, 111, 45, 100, 101, 102, 105, 110, 101]) = false) (h4 : (s.toList == [97, 115, 115, 105, 103, 110, 45, 116, 111, 45, 105, 109, 112, 111, 114, 116]) = false) (h5 : (s.toList == [98, 105, 103, 105, 110, 116]) = false) (h6 : (s.toList == [99, 97, 108, 108, 45, 105, 109, 112, 111, 114, 116, 45, 110, 97, 109, 101, 115, 112, 97, 99, 101]) = false) (h7 : (s.toList == [99, 108, 97, 115, 115, 45, 110, 97, 109, 101, 45, 119, 105, 108, 108, 45, 116, 104, 114, 111, 119]) = false) (h8 : (s.toList == [99, 111, 109, 109, 111, 110, 106, 115, 45, 118, 97, 114, 105, 97, 98, 108, 101, 45, 105, 110, 45, 101, 115, 109]) = false) (h9 : (s.toList == [99, 111, 110, 102, 117, 115, 105, 110, 103, 45, 116, 121, 112, 101, 115, 99, 114, 105, 112, 116, 45, 99, 97, 115, 116]) = true) : Sto s [10] := by
  intro w b n D v hm hn
  have HM := Lib.hid hm
  clear hm
  go_enter Try.func11, Try.ntmps11
  go_wp2_with (at_mapUpdate; refine wpList_mapUpdate_own _ rfl _ _ _ 28 rfl 5 32 law5 Try.underlying28 self b _ _ rfl HM.out (by unfold maxLen; omega) (.int .u8 10) _ (kI 10) rfl rfl (kI_mk 10 (by decide) (by decide)) (lv v) [] rfl ?_; intro w2 hout2 hg2)
  go_end0
  exact ⟨rfl, om_more hout2 (by omega), hg2⟩
set_option maxRecDepth 100000 in
set_option maxHeartbeats 1000000 in
theorem t10 (s : ByteArray) (h0 : (s.toList == [97, 115, 115, 101, 114, 116, 45, 116, 111, 45, 119, 105, 116, 104]) = false) (h1 : (s.toList == [97, 115, 115, 101, 114, 116, 45, 116, 121, 112, 101, 45, 106, 115, 111, 110]) = false) (h2 : (s.toList == [97, 115, 115, 105, 103, 110, 45, 116, 111, 45, 99, 111, 110, 115, 116, 97, 110, 116]) = false) (h3 : (s.toList == [97, 115, 115, 105, 103, 110, 45, 116, 111, 45, 100, 101, 102, 105, 110, 101]) = false) (h4 : (s.toList == [97, 115, 115, 105, 103, 110, 45, 116, 111, 45, 105, 109, 112, 111, 114, 116]) = false) (h5 : (s.toList == [98, 105, 103, 105, 110, 116]) = false) (h6 : (s.toList == [99, 97, 108, 108, 45, 105, 109, 112, 111, 114, 116, 45, 110, 97, 109, 101, 115, 112, 97, 99, 101]) = false) (h7 : (s.toList == [99, 108, 97, 115, 115, 45, 110, 97, 109, 101, 45, 119, 105, 108, 108, 45, 116, 104, 114, 111, 119]) = false) (h8 : (s.toList == [99, 111, 109, 109, 111, 110, 106, 115, 45, 118, 97, 114, 105, 97, 98, 108, 101, 45, 105, 110, 45, 101, 115, 109]) = false) (h9 : (s.toList == [99, 111, 110, 102, 117, 115, 105, 110, 103, 45, 116, 121, 112, 101, 115, 99, 114, 105, 112, 116, 45, 99, 97, 115, 116]) = false) (h10 : (s.toList == [100, 101, 108, 101, 116, 101, 45, 115, 117, 112, 101, 114, 45, 112, 114, 111, 112, 101, 114, 116, 121]) = true) : Sto s [11] := by
  intro w b n D v hm hn
  have HM := Lib.hid hm
  clear hm
  go_enter Try.func11, Try.ntmps11
  go_wp2_with (at_mapUpdate; refine wpList_mapUpdate_own _ rfl _ _ _ 28 rfl 5 32 law5 Try.underlying28 self b _ _ rfl HM.out (by unfold maxLen; omega) (.int .u8 11) _ (kI 11) rfl rfl (kI_mk 11 (by decide) (by decide)) (lv v) [] rfl ?_; intro w2 hout2 hg2)
  go_end0
  exact ⟨rfl, om_more hout2 (by omega), hg2⟩
set_option maxRecDepth 100000 in
set_option maxHeartbeats 1000000 in
theorem t11 (s : ByteArray) (h0 : (s.toList == [97, 115, 115, 101, 114, 116, 45, 116, 111, 45, 119, 105, 116, 104]) = false) (h1 : (s.toList == [97, 115, 115, 101, 114, 116, 45, 116, 121, 112, 101, 45, 106, 115, 111, 110]) = false) (h2 : (s.toList == [97, 115, 115, 105, 103, 110, 45, 116, 111, 45, 99, 111, 110, 115, 116, 97, 110, 116]) = false) (h3 : (s.toList == [97, 115, 115, 105, 103, 110, 45, 116, 111, 45, 100, 101, 102, 105, 110, 101]) = false) (h4 : (s.toList == [97, 115, 115, 105, 103, 110, 45, 116, 111, 45, 105, 109, 112, 111, 114, 116]) = false) (h5 : (s.toList == [98, 105, 103, 105, 110, 116]) = false) (h6 : (s.toList == [99, 97, 108, 108, 45, 105, 109, 112, 111, 114, 116, 45, 110, 97, 109, 101, 115, 112, 97, 99, 101]) = false) (h7 : (s.toList == [99, 108, 97, 115, 115, 45, 110, 97, 109, 101, 45, 119, 105, 108, 108, 45, 116, 104, 114, 111, 119]) = false) (h8 : (s.toList == [99, 111, 109, 109, 111, 110, 106, 115, 45, 118, 97, 114, 105, 97, 98, 108, 101, 45, 105, 110, 45, 101, 115, 109]) = false) (h9 : (s.toList == [99, 111, 110, 102, 117, 115, 105, 110, 103, 45, 116, 121, 112, 101, 115, 99, 114, 105, 112, 116, 45, 99, 97, 115, 116]) = false) (h10 : (s.toList == [100, 101, 108, 101, 116, 101, 45, 115, 117, 112, 101, 114, 45, 112, 114, 111, 112, 101, 114, 116, 121]) = false) (h11 : (s.toList == [100, 105, 114, 101, 99, 116, 45, 101, 118, 97, 108]) = true) : Sto s [12] := by
  intro w b n D v hm hn
  have HM := Lib.hid hm
  clear hm
  go_enter Try.func11, Try.ntmps11
  go_wp2_with (at_mapUpdate; refine wpList_mapUpdate_own _ rfl _ _ _ 28 rfl 5 32 law5 Try.underlying28 self b _ _ rfl HM.out (by unfold maxLen; omega) (.int .u8 12) _ (kI 12) rfl rfl (kI_mk 12 (by decide) (by decide)) (lv v) [] rfl ?_; intro w2 hout2 hg2)
  go_end0
  exact ⟨rfl, om_more hout2 (by omega), hg2⟩
set_option maxRecDepth 100000 in
set_option maxHeartbeats 1000000 in
theorem t12 (s : ByteArray) (h0 : (s.toList == [97, 115, 115, 101, 114, 116, 45, 116, 111, 45, 119, 105, 116, 104]) = false) (h1 : (s.toList == [97, 115, 115, 101, 114, 116, 45, 116, 121, 112, 101, 45, 106, 115, 111, 110]) = false) (h2 : (s.toList == [97, 115, 115, 105, 103, 110, 45, 116, 111, 45, 99, 111, 110, 115, 116, 97, 110, 116]) = false) (h3 : (s.toList == [97, 115, 115, 105, 103, 110, 45, 116, 111, 45, 100, 101, 102, 105, 110, 101]) = false) (h4 : (s.toList == [97, 115, 115, 105, 103, 110, 45, 116, 111, 45, 105, 109, 112, 111, 114, 116]) = false) (h5 : (s.toList == [98, 105, 103, 105, 110, 116]) = false) (h6 : (s.toList == [99, 97, 108, 108, 45, 105, 109, 112, 111, 114, 116, 45, 110, 97, 109, 101, 115, 112, 97, 99, 101]) = false) (h7 : (s.toList == [99, 108, 97, 115, 115, 45, 110, 97, 109, 101, 45, 119, 105, 108, 108, 45, 116, 104, 114, 111, 119]) = false) (h8 : (s.toList == [99, 111, 109, 109, 111, 110, 106, 115, 45, 118, 97, 114, 105, 97, 98, 108, 101, 45, 105, 110, 45, 101, 115, 109]) = false) (h9 : (s.toList == [99, 111, 110, 102, 117, 115, 105, 110, 103, 45, 116, 121, 112, 101, 115, 99, 114, 105, 112, 116, 45, 99, 97, 115, 116]) = false) (h10 : (s.toList == [100, 101, 108, 101, 116, 101, 45, 115, 117, 112, 101, 114, 45, 112, 114, 111, 112, 101, 114, 116, 121]) = false) (h11 : (s.toList == [100, 105, 114, 101, 99, 116, 45, 101, 118, 97, 108]) = false) (h12 : (s.toList == [100, 117, 112, 108, 105, 99, 97, 116, 101, 45, 99, 97, 115, 101]) = true) : Sto s [13] := by
  intro w b n D v hm hn
  have HM := Lib.hid hm
  clear hm
  go_enter Try.func11, Try.ntmps11
  go_wp2_with (at_mapUpdate; refine wpList_mapUpdate_own _ rfl _ _ _ 28 rfl 5 32 law5 Try.underlying28 self b _ _ rfl HM.out (by unfold maxLen; omega) (.int .u8 13) _ (kI 13) rfl rfl (kI_mk 13 (by decide) (by decide)) (lv v) [] rfl ?_; intro w2 hout2 hg2)
  go_end0
  exact ⟨rfl, om_more hout2 (by omega), hg2⟩
set_option maxRecDepth 100000 in
set_option maxHeartbeats 1000000 in
theorem t13 (s : ByteArray) (h0 : (s.toList == [97, 115, 115, 101, 114, 116, 45, 116, 111, 45, 119, 105, 116, 104]) = false) (h1 : (s.toList == [97, 115, 115, 101, 114, 116, 45, 116, 121, 112, 101, 45, 106, 115, 111, 110]) = false) (h2 : (s.toList == [97, 115, 115, 105, 103, 110, 45, 116, 111, 45, 99, 111, 110, 115, 116, 97, 110, 116]) = false) (h3 : (s.toList == [97, 115, 115, 105, 103, 110, 45, 116, 111, 45, 100, 101, 102, 105, 110, 101]) = false) (h4 : (s.toList == [97, 115, 115, 105, 103, 110, 45, 116, 111, 45, 105, 109, 112, 111, 114, 116]) = false) (h5 : (s.toList == [98, 105, 103, 105, 110, 116]) = false) (h6 : (s.toList == [99, 97, 108, 108, 45, 105, 109, 112, 111, 114, 116, 45, 110, 97, 109, 101, 115, 112, 97, 99, 101]) = false) (h7 : (s.toList == [99, 108, 97, 115, 115, 45, 110, 97, 109, 101, 45, 119, 105, 108, 108, 45, 116, 104, 114, 111, 119]) = false) (h8 : (s.toList == [99, 111, 109, 109, 111, 110, 106, 115, 45, 118, 97, 114, 105, 97, 98, 108, 101, 45, 105, 110, 45, 101, 115, 109]) = false) (h9 : (s.toList == [99, 111, 110, 102, 117, 115, 105, 110, 103, 45, 116, 121, 112, 101, 115, 99, 114, 105, 112, 116, 45, 99, 97, 115, 116]) = false) (h10 : (s.toList == [100, 101, 108, 101, 116, 101, 45, 115, 117, 112, 101, 114, 45, 112, 114, 111, 112, 101, 114, 116, 121]) = false) (h11 : (s.toList == [100, 105, 114, 101, 99, 116, 45, 101, 118, 97, 108]) = false) (h12 : (s.toList == [100, 117, 112, 108, 105, 99, 97, 116, 101, 45, 99, 97, 115, 101]) = false) (h13 : (s.toList == [100, 117, 112, 108, 105, 99, 97, 116, 101, 45, 99, 108, 97, 115, 115, 45, 109, 101, 109, 98, 101, 114]) = true) : Sto s [14] := by
  intro w b n D v hm hn
  have HM := Lib.hid hm
  clear hm
  go_enter Try.func11, Try.ntmps11
  go_wp2_with (at_mapUpdate; refine wpList_mapUpdate_own _ rfl _ _ _ 28 rfl 5 32 law5 Try.underlying28 self b _ _ rfl HM.out (by unfold maxLen; omega) (.int .u8 14) _ (kI 14) rfl rfl (kI_mk 14 (by decide) (by decide)) (lv v) [] rfl ?_; intro w2 hout2 hg2)
  go_end0
  exact ⟨rfl, om_more hout2 (by omega), hg2⟩
set_option maxRecDepth 100000 in
set_option maxHeartbeats 1000000 in
theorem t14 (s : ByteArray) (h0 : (s.toList == [97, 115, 115, 101, 114, 116, 45, 116, 111, 45, 119, 105, 116, 104]) = false) (h1 : (s.toList == [97, 115, 115, 101, 114, 116, 45, 116, 121, 112, 101, 45, 106, 115, 111, 110]) = false) (h2 : (s.toList == [97, 115, 115, 105, 103, 110, 45, 116, 111, 45, 99, 111, 110, 115, 116, 97, 110, 116]) = false) (h3 : (s.toList == [97, 115, 115, 105, 103, 110, 45, 116, 111, 45, 100, 101, 102, 105, 110, 101]) = false) (h4 : (s.toList == [97, 115, 115, 105, 103, 110, 45, 116, 111, 45, 105, 109, 112, 111, 114, 116]) = false) (h5 : (s.toList == [98, 105, 103, 105, 110, 116]) = false) (h6 : (s.toList == [99, 97, 108, 108, 45, 105, 109, 112, 111, 114, 116, 45, 110, 97, 109, 101, 115, 112, 97, 99, 101]) = false) (h7 : (s.toList == [99, 108, 97, 115, 115, 45, 110, 97, 109, 101, 45, 119, 105, 108, 108, 45, 116, 104, 114, 111, 119]) = false) (h8 : (s.toList == [99, 111, 109, 109, 111, 110, 106, 115, 45, 118, 97, 114, 105, 97, 98, 108, 101, 45, 105, 110, 45, 101, 115, 109]) = false) (h9 : (s.toList == [99, 111, 110, 102, 117, 115, 105, 110, 103, 45, 116, 121, 112, 101, 115, 99, 114, 105, 112, 116, 45, 99, 97, 115, 116]) = false) (h10 : (s.toList == [100, 101, 108, 101, 116, 101, 45, 115, 117, 112, 101, 114, 45, 112, 114, 111, 112, 101, 114, 116, 121]) = false) (h11 : (s.toList == [100, 105, 114, 101, 99, 116, 45, 101, 118, 97, 108]) = false) (h12 : (s.toList == [100, 117, 112, 108, 105, 99, 97, 116, 101, 45, 99, 97, 115, 101]) = false) (h13 : (s.toList == [100, 117, 112, 108, 105, 99, 97, 116, 101, 45, 99, 108, 97, 115, 115, 45, 109, 101, 109, 98, 101, 114]) = false) (h14 : (s.toList == [100, 117, 112, 108, 105, 99, 97, 116, 101, 45, 111, 98, 106, 101, 99, 116, 45, 107, 101, 121]) = true) : Sto s [15] := by
  intro w b n D v hm hn
  have HM := Lib.hid hm
  clear hm
  go_enter Try.func11, Try.ntmps11
  go_wp2_with (at_mapUpdate; refine wpList_mapUpdate_own _ rfl _ _ _ 28 rfl 5 32 law5 Try.underlying28 self b _ _ rfl HM.out (by unfold maxLen; omega) (.int .u8 15) _ (kI 15) rfl rfl (kI_mk 15 (by decide) (by decide)) (lv v) [] rfl ?_; intro w2 hout2 hg2)
  go_end0
  exact ⟨rfl, om_more hout2 (by omega), hg2⟩
set_option maxRecDepth 100000 in
set_option maxHeartbeats 1000000 in
theorem t15 (s : ByteArray) (h0 : (s.toList == [97, 115, 115, 101, 114, 116, 45, 116, 111, 45, 119, 105, 116, 104]) = false) (h1 : (s.toList == [97, 115, 115, 101, 114, 116, 45, 116, 121, 112, 101, 45, 106, 115, 111, 110]) = false) (h2 : (s.toList == [97, 115, 115, 105, 103, 110, 45, 116, 111, 45, 99, 111, 110, 115, 116, 97, 110, 116]) = false) (h3 : (s.toList == [97, 115, 115, 105, 103, 110, 45, 116, 111, 45, 100, 101, 102, 105, 110, 101]) = false) (h4 : (s.toList == [97, 115, 115, 105, 103, 110, 45, 116, 111, 45, 105, 109, 112, 111, 114, 116]) = false) (h5 : (s.toList == [98, 105, 103, 105, 110, 116]) = false) (h6 : (s.toList == [99, 97, 108, 108, 45, 105, 109, 112, 111, 114, 116, 45, 110, 97, 109, 101, 115, 112, 97, 99, 101]) = false) (h7 : (s.toList == [99, 108, 97, 115, 115, 45, 110, 97, 109, 101, 45, 119, 105, 108, 108, 45, 116, 104, 114, 111, 119]) = false) (h8 : (s.toList == [99, 111, 109, 109, 111, 110, 106, 115, 45, 118, 97, 114, 105, 97, 98, 108, 101, 45, 105, 110, 45, 101, 115, 109]) = false) (h9 : (s.toList == [99, 111, 110, 102, 117, 115, 105, 110, 103, 45, 116, 121, 112, 101, 115, 99, 114, 105, 112, 116, 45, 99, 97, 115, 116]) = false) (h10 : (s.toList == [100, 101, 108, 101, 116, 101, 45, 115, 117, 112, 101, 114, 45, 112, 114, 111, 112, 101, 114, 116, 121]) = false) (h11 : (s.toList == [100, 105, 114, 101, 99, 116, 45, 101, 118, 97, 108]) = false) (h12 : (s.toList == [100, 117, 112, 108, 105, 99, 97, 116, 101, 45, 99, 97, 115, 101]) = false) (h13 : (s.toList == [100, 117, 112, 108, 105, 99, 97, 116, 101, 45, 99, 108, 97, 115, 115, 45, 109, 101, 109, 98, 101, 114]) = false) (h14 : (s.toList == [100, 117, 112, 108, 105, 99, 97, 116, 101, 45, 111, 98, 106, 101, 99, 116, 45, 107, 101, 121]) = false) (h15 : (s.toList == [101, 109, 112, 116, 121, 45, 105, 109, 112, 111, 114, 116, 45, 109, 101, 116, 97]) = true) : Sto s [16] := by
  intro w b n D v hm hn
  have HM := Lib.hid hm
  clear hm
  go_enter Try.func11, Try.ntmps11
  go_wp2_with (at_mapUpdate; refine wpList_mapUpdate_own _ rfl _ _ _ 28 rfl 5 32 law5 Try.underlying28 self b _ _ rfl HM.out (by unfold maxLen; omega) (.int .u8 16) _ (kI 16) rfl rfl (kI_mk 16 (by decide) (by decide)) (lv v) [] rfl ?_; intro w2 hout2 hg2)
  go_end0
  exact ⟨rfl, om_more hout2 (by omega), hg2⟩
set_option maxRecDepth 100000 in
set_option maxHeartbeats 1000000 in
theorem t16 (s : ByteArray) (h0 : (s.toList == [97, 115, 115, 101, 114, 116, 45, 116, 111, 45, 119, 105, 116, 104]) = false) (h1 : (s.toList == [97, 115, 115, 101, 114, 116, 45, 116, 121, 112, 101, 45, 106, 115, 111, 110]) = false) (h2 : (s.toList == [97, 115, 115, 105, 103, 110, 45, 116, 111, 45, 99, 111, 110, 115, 116, 97, 110, 116]) = false) (h3 : (s.toList == [97, 115, 115, 105, 103, 110, 45, 116, 111, 45, 100, 101, 102, 105, 110, 101]) = false) (h4 : (s.toList == [97, 115, 115, 105, 103, 110, 45, 116, 111, 45, 105, 109, 112, 111, 114, 116]) = false) (h5 : (s.toList == [98, 105, 103, 105, 110, 116]) = false) (h6 : (s.toList == [99, 97, 108, 108, 45, 105, 109, 112, 111, 114, 116, 45, 110, 97, 109, 101, 115, 112, 97, 99, 101]) = false) (h7 : (s.toList == [99, 108, 97, 115, 115, 45, 110, 97, 109, 101, 45, 119, 105, 108, 108, 45, 116, 104, 114, 111, 119]) = false) (h8 : (s.toList == [99, 111, 109, 109, 111, 110, 106, 115, 45, 118, 97, 114, 105, 97, 98, 108, 101, 45, 105, 110, 45, 101, 115, 109]) = false) (h9 : (s.toList == [99, 111, 110, 102, 117, 115, 105, 110, 103, 45, 116, 121, 112, 101, 115, 99, 114, 105, 112, 116, 45, 99, 97, 115, 116]) = false) (h10 : (s.toList == [100, 101, 108, 101, 116, 101, 45, 115, 117, 112, 101, 114, 45, 112, 114, 111, 112, 101, 114, 116, 121]) = false) (h11 : (s.toList == [100, 105, 114, 101, 99, 116, 45, 101, 118, 97, 108]) = false) (h12 : (s.toList == [100, 117, 112, 108, 105, 99, 97, 116, 101, 45, 99, 97, 115, 101]) = false) (h13 : (s.toList == [100, 117, 112, 108, 105, 99, 97, 116, 101, 45, 99, 108, 97, 115, 115, 45, 109, 101, 109, 98, 101, 114]) = false) (h14 : (s.toList == [100, 117, 112, 108, 105, 99, 97, 116, 101, 45, 111, 98, 106, 101, 99, 116, 45, 107, 101, 121]) = false) (h15 : (s.toList == [101, 109, 112, 116, 121, 45, 105, 109, 112, 111, 114, 116, 45, 109, 101, 116, 97]) = false) (h16 : (s.toList == [101, 113, 117, 97, 108, 115, 45, 110, 97, 110]) = true) : Sto s [17] := by
  intro w b n D v hm hn
  have HM := Lib.hid hm
  clear hm
  go_enter Try.func11, Try.ntmps11
  go_wp2_with (at_mapUpdate; refine wpList_mapUpdate_own _ rfl _ _ _ 28 rfl 5 32 law5 Try.underlying28 self b _ _ rfl HM.out (by unfold maxLen; omega) (.int .u8 17) _ (kI 17) rfl rfl (kI_mk 17 (by decide) (by decide)) (lv v) [] rfl ?_; intro w2 hout2 hg2)
  go_end0
  exact ⟨rfl, om_more hout2 (by omega), hg2⟩
set_option maxRecDepth 100000 in
set_option maxHeartbeats 1000000 in
theorem t17 (s : ByteArray) (h0 : (s.toList == [97, 115, 115, 101, 114, 116, 45, 116, 111, 45, 119, 105, 116, 104]) = false) (h1 : (s.toList == [97, 115, 115, 101, 114, 116, 45, 116, 121, 112, 101, 45, 106, 115, 111, 110]) = false) (h2 : (s.toList == [97, 115, 115, 105, 103, 110, 45, 116, 111, 45, 99, 111, 110, 115, 116, 97, 110, 116]) = false) (h3 : (s.toList == [97, 115, 115, 105, 103, 110, 45, 116, 111, 45, 100, 101, 102, 105, 110, 101]) = false) (h4 : (s.toList == [97, 115, 115, 105, 103, 110, 45, 116, 111, 45, 105, 109, 112, 111, 114, 116]) = false) (h5 : (s.toList == [98, 105, 103, 105, 110, 116]) = false) (h6 : (s.toList == [99, 97, 108, 108, 45, 105, 109, 112, 111, 114, 116, 45, 110, 97, 109, 101, 115, 112, 97, 99, 101]) = false) (h7 : (s.toList == [99, 108, 97, 115, 115, 45, 110, 97, 109, 101, 45, 119, 105, 108, 108, 45, 116, 104, 114, 111, 119]) = false) (h8 : (s.toList == [99, 111, 109, 109, 111, 110, 106, 115, 45, 118, 97, 114, 105, 97, 98, 108, 101, 45, 105, 110, 45, 101, 115, 109]) = false) (h9 : (s.toList == [99, 111, 110, 102, 117, 115, 105, 110, 103, 45, 116, 121, 112, 101, 115, 99, 114, 105, 112, 116, 45, 99, 97, 115, 116]) = false) (h10 : (s.toList == [100, 101, 108, 101, 116, 101, 45, 115, 117, 112, 101, 114, 45, 112, 114, 111, 112, 101, 114, 116, 121]) = false) (h11 : (s.toList == [100, 105, 114, 101, 99, 116, 45, 101, 118, 97, 108]) = false) (h12 : (s.toList == [100, 117, 112, 108, 105, 99, 97, 116, 101, 45, 99, 97, 115, 101]) = false) (h13 : (s.toList == [100, 117, 112, 108, 105, 99, 97, 116, 101, 45, 99, 108, 97, 115, 115, 45, 109, 101, 109, 98, 101, 114]) = false) (h14 : (s.toList == [100, 117, 112, 108, 105, 99, 97, 116, 101, 45, 111, 98, 106, 101, 99, 116, 45, 107, 101, 121]) = false) (h15 : (s.toList == [101, 109, 112, 116, 121, 45, 105, 109, 112, 111, 114, 116, 45, 109, 101, 116, 97]) = false) (h16 : (s.toList == [101, 113, 117, 97, 108, 115, 45, 110, 97, 110]) = false) (h17 : (s.toList == [101, 113, 117, 97, 108, 115, 45, 110, 101, 103, 97, 116, 105, 118, 101, 45, 122, 101, 114, 111]) = true) : Sto s [18] := by
  intro w b n D v hm hn
  have HM := Lib.hid hm
  clear hm
  go_enter Try.func11, Try.ntmps11
  go_wp2_with (at_mapUpdate; refine wpList_mapUpdate_own _ rfl _ _ _ 28 rfl 5 32 law5 Try.underlying28 self b _ _ rfl HM.out (by unfold maxLen; omega) (.int .u8 18) _ (kI 18) rfl rfl (kI_mk 18 (by decide) (by decide)) (lv v) [] rfl ?_; intro w2 hout2 hg2)
  go_end0
  exact ⟨rfl, om_more hout2 (by omega), hg2⟩
set_option maxRecDepth 100000 in
set_option maxHeartbeats 1000000 in
theorem t18 (s : ByteArray) (h0 : (s.toList == [97, 115, 115, 101, 114, 116, 45, 116, 111, 45, 119, 105, 116, 104]) = false) (h1 : (s.toList == [97, 115, 115, 101, 114, 116, 45, 116, 121, 112, 101, 45, 106, 115, 111, 110]) = false) (h2 : (s.toList == [97, 115, 115, 105, 103, 110, 45, 116, 111, 45, 99, 111, 110, 115, 116, 97, 110, 116]) = false) (h3 : (s.toList == [97, 115, 115, 105, 103, 110, 45, 116, 111, 45, 100, 101, 102, 105, 110, 101]) = false) (h4 : (s.toList == [97, 115, 115, 105, 103, 110, 45, 116, 111, 45, 105, 109, 112, 111, 114, 116]) = false) (h5 : (s.toList == [98, 105, 103, 105, 110, 116]) = false) (h6 : (s.toList == [99, 97, 108, 108, 45, 105, 109, 112, 111, 114, 116, 45, 110, 97, 109, 101, 115, 112, 97, 99, 101]) = false) (h7 : (s.toList == [99, 108, 97, 115, 115, 45, 110, 97, 109, 101, 45, 119, 105, 108, 108, 45, 116, 104, 114, 111, 119]) = false) (h8 : (s.toList == [99, 111, 109, 109, 111, 110, 106, 115, 45, 118, 97, 114, 105, 97, 98, 108, 101, 45, 105, 110, 45, 101, 115, 109]) = false) (h9 : (s.toList == [99, 111, 110, 102, 117, 115, 105, 110, 103, 45, 116, 121, 112, 101, 115, 99, 114, 105, 112, 116, 45, 99, 97, 115, 116]) = false) (h10 : (s.toList == [100, 101, 108, 101, 116, 101, 45, 115, 117, 112, 101, 114, 45, 112, 114, 111, 112, 101, 114, 116, 121]) = false) (h11 : (s.toList == [100, 105, 114, 101, 99, 116, 45, 101, 118, 97, 108]) = false) (h12 : (s.toList == [100, 117, 112, 108, 105, 99, 97, 116, 101, 45, 99, 97, 115, 101]) = false) (h13 : (s.toList == [100, 117, 112, 108, 105, 99, 97, 116, 101, 45, 99, 108, 97, 115, 115, 45, 109, 101, 109, 98, 101, 114]) = false) (h14 : (s.toList == [100, 117, 112, 108, 105, 99, 97, 116, 101, 45, 111, 98, 106, 101, 99, 116, 45, 107, 101, 121]) = false) (h15 : (s.toList == [101, 109, 112, 116, 121, 45, 105, 109, 112, 111, 114, 116, 45, 109, 101, 116, 97]) = false) (h16 : (s.toList == [101, 113, 117, 97, 108, 115, 45, 110, 97, 110]) = false) (h17 : (s.toList == [101, 113, 117, 97, 108, 115, 45, 110, 101, 103, 97, 116, 105, 118, 101, 45, 122, 101, 114, 111]) = false) (h18 : (s.toList == [101, 113, 117, 97, 108, 115, 45, 110, 101, 119, 45, 111, 98, 106, 101, 99, 116]) = true) : Sto s [19] := by
  intro w b n D v hm hn
  have HM := Lib.hid hm
  clear hm
  go_enter Try.func11, Try.ntmps11
  go_wp2_with (at_mapUpdate; refine wpList_mapUpdate_own _ rfl _ _ _ 28 rfl 5 32 law5 Try.underlying28 self b _ _ rfl HM.out (by unfold maxLen; omega) (.int .u8 19) _ (kI 19) rfl rfl (kI_mk 19 (by decide) (by decide)) (lv v) [] rfl ?_; intro w2 hout2 hg2)
  go_end0
  exact ⟨rfl, om_more hout2 (by omega), hg2⟩
set_option maxRecDepth 100000 in
set_option maxHeartbeats 1000000 in
theorem t19 (s : ByteArray) (h0 : (s.toList == [97, 115, 115, 101, 114, 116, 45, 116, 111, 45, 119, 105, 116, 104]) = false) (h1 : (s.toList == [97, 115, 115, 101, 114, 116, 45, 116, 121, 112, 101, 45, 106, 115, 111, 110]) = false) (h2 : (s.toList == [97, 115, 115, 105, 103, 110, 45, 116, 111, 45, 99, 111, 110, 115, 116, 97, 110, 116]) = false) (h3 : (s.toList == [97, 115, 115, 105, 103, 110, 45, 116, 111, 45, 100, 101, 102, 105, 110, 101]) = false) (h4 : (s.toList == [97, 115, 115, 105, 103, 110, 45, 116, 111, 45, 105, 109, 112, 111, 114, 116]) = false) (h5 : (s.toList == [98, 105, 103, 105, 110, 116]) = false) (h6 : (s.toList == [99, 97, 108, 108, 45, 105, 109, 112, 111, 114, 116, 45, 110, 97, 109, 101, 115, 112, 97, 99, 101]) = false) (h7 : (s.toList == [99, 108, 97, 115, 115, 45, 110, 97, 109, 101, 45, 119, 105, 108, 108, 45, 116, 104, 114, 111, 119]) = false) (h8 : (s.toList == [99, 111, 109, 109, 111, 110, 106, 115, 45, 118, 97, 114, 105, 97, 98, 108, 101, 45, 105, 110, 45, 101, 115, 109]) = false) (h9 : (s.toList == [99, 111, 110, 102, 117, 115, 105, 110, 103, 45, 116, 121, 112, 101, 115, 99, 114, 105, 112, 116, 45, 99, 97, 115, 116]) = false) (h10 : (s.toList == [100, 101, 108, 101, 116, 101, 45, 115, 117, 112, 101, 114, 45, 112, 114, 111, 112, 101, 114, 116, 121]) = false) (h11 : (s.toList == [100, 105, 114, 101, 99, 116, 45, 101, 118, 97, 108]) = false) (h12 : (s.toList == [100, 117, 112, 108, 105, 99, 97, 116, 101, 45, 99, 97, 115, 101]) = false) (h13 : (s.toList == [100, 117, 112, 108, 105, 99, 97, 116, 101, 45, 99, 108, 97, 115, 115, 45, 109, 101, 109, 98, 101, 114]) = false) (h14 : (s.toList == [100, 117, 112, 108, 105, 99, 97, 116, 101, 45, 111, 98, 106, 101, 99, 116, 45, 107, 101, 121]) = false) (h15 : (s.toList == [101, 109, 112, 116, 121, 45, 105, 109, 112, 111, 114, 116, 45, 109, 101, 116, 97]) = false) (h16 : (s.toList == [101, 113, 117, 97, 108, 115, 45, 110, 97, 110]) = false) (h17 : (s.toList == [101, 113, 117, 97, 108, 115, 45, 110, 101, 103, 97, 116, 105, 118, 101, 45, 122, 101, 114, 111]) = false) (h18 : (s.toList == [101, 113, 117, 97, 108, 115, 45, 110, 101, 119, 45, 111, 98, 106, 101, 99, 116]) = false) (h19 : (s.toList == [104, 116, 109, 108, 45, 99, 111, 109, 109, 101, 110, 116, 45, 105, 110, 45, 106, 115]) = true) : Sto s [20] := by
  intro w b n D v hm hn
  have HM := Lib.hid hm
  clear hm
  go_enter Try.func11, Try.ntmps11
  go_wp2_with (at_mapUpdate; refine wpList_mapUpdate_own _ rfl _ _ _ 28 rfl 5 32 law5 Try.underlying28 self b _ _ rfl HM.out (by unfold maxLen; omega) (.int .u8 20) _ (kI 20) rfl rfl (kI_mk 20 (by decide) (by decide)) (lv v) [] rfl ?_; intro w2 hout2 hg2)
  go_end0
  exact ⟨rfl, om_more hout2 (by omega), hg2⟩
set_option maxRecDepth 100000 in
set_option maxHeartbeats 1000000 in
theorem t20 (s : ByteArray) (h0 : (s.toList == [97, 115, 115, 101, 114, 116, 45, 116, 111, 45, 119, 105, 116, 104]) = false) (h1 : (s.toList == [97, 115, 115, 101, 114, 116, 45, 116, 121, 112, 101, 45, 106, 115, 111, 110]) = false) (h2 : (s.toList == [97, 115, 115, 105, 103, 110, 45, 116, 111, 45, 99, 111, 110, 115, 116, 97, 110, 116]) = false) (h3 : (s.toList == [97, 115, 115, 105, 103, 110, 45, 116, 111, 45, 100, 101, 102, 105, 110, 101]) = false) (h4 : (s.toList == [97, 115, 115, 105, 103, 110, 45, 116, 111, 45, 105, 109, 112, 111, 114, 116]) = false) (h5 : (s.toList == [98, 105, 103, 105, 110, 116]) = false) (h6 : (s.toList == [99, 97, 108, 108, 45, 105, 109, 112, 111, 114, 116, 45, 110, 97, 109, 101, 115, 112, 97, 99, 101]) = false) (h7 : (s.toList == [99, 108, 97, 115, 115, 45, 110, 97, 109, 101, 45, 119, 105, 108, 108, 45, 116, 104, 114, 111, 119]) = false) (h8 : (s.toList == [99, 111, 109, 109, 111, 110, 106, 115, 45, 118, 97, 114, 105, 97, 98, 108, 101, 45, 105, 110, 45, 101, 115, 109]) = false) (h9 : (s.toList == [99, 111, 110, 102, 117, 115, 105, 110, 103, 45, 116, 121, 112, 101, 115, 99, 114, 105, 112, 116, 45, 99, 97, 115, 116]) = false) (h10 : (s.toList == [100, 101, 108, 101, 116, 101, 45, 115, 117, 112, 101, 114, 45, 112, 114, 111, 112, 101, 114, 116, 121]) = false) (h11 : (s.toList == [100, 105, 114, 101, 99, 116, 45, 101, 118, 97, 108]) = false) (h12 : (s.toList == [100, 117, 112, 108, 105, 99, 97, 116, 101, 45, 99, 97, 115, 101]) = false) (h13 : (s.toList == [100, 117, 112, 108, 105, 99, 97, 116, 101, 45, 99, 108, 97, 115, 115, 45, 109, 101, 109, 98, 101, 114]) = false) (h14 : (s.toList == [100, 117, 112, 108, 105, 99, 97, 116, 101, 45, 111, 98, 106, 101, 99, 116, 45, 107, 101, 121]) = false) (h15 : (s.toList == [101, 109, 112, 116, 121, 45, 105, 109, 112, 111, 114, 116, 45, 109, 101, 116, 97]) = false) (h16 : (s.toList == [101, 113, 117, 97, 108, 115, 45, 110, 97, 110]) = false) (h17 : (s.toList == [101, 113, 117, 97, 108, 115, 45, 110, 101, 103, 97, 116, 105, 118, 101, 45, 122, 101, 114, 111]) = false) (h18 : (s.toList == [101, 113, 117, 97, 108, 115, 45, 110, 101, 119, 45, 111, 98, 106, 101, 99, 116]) = false) (h19 : (s.toList == [104, 116, 109, 108, 45, 99, 111, 109, 109, 101, 110, 116, 45, 105, 110, 45, 106, 115]) = false) (h20 : (s.toList == [105, 109, 112, 111, 115, 115, 105, 98, 108, 101, 45, 116, 121, 112, 101, 111, 102]) = true) : Sto s [21] := by
  intro w b n D v hm hn
  have HM := Lib.hid hm
  clear hm
  go_enter Try.func11, Try.ntmps11
  go_wp2_with (at_mapUpdate; refine wpList_mapUpdate_own _ rfl _ _ _ 28 rfl 5 32 law5 Try.underlying28 self b _ _ rfl HM.out (by unfold maxLen; omega) (.int .u8 21) _ (kI 21) rfl rfl (kI_mk 21 (by decide) (by decide)) (lv v) [] rfl ?_; intro w2 hout2 hg2)
  go_end0
  exact ⟨rfl, om_more hout2 (by omega), hg2⟩
set_option maxRecDepth 100000 in
set_option maxHeartbeats 1000000 in
theorem t21 (s : ByteArray) (h0 : (s.toList == [97, 115, 115, 101, 114, 116, 45, 116, 111, 45, 119, 105, 116, 104]) = false) (h1 : (s.toList == [97, 115, 115, 101, 114, 116, 45, 116, 121, 112, 101, 45, 106, 115, 111, 110]) = false) (h2 : (s.toList == [97, 115, 115, 105, 103, 110, 45, 116, 111, 45, 99, 111, 110, 115, 116, 97, 110, 116]) = false) (h3 : (s.toList == [97, 115, 115, 105, 103, 110, 45, 116, 111, 45, 100, 101, 102, 105, 110, 101]) = false) (h4 : (s.toList == [97, 115, 115, 105, 103, 110, 45, 116, 111, 45, 105, 109, 112, 111, 114, 116]) = false) (h5 : (s.toList == [98, 105, 103, 105, 110, 116]) = false) (h6 : (s.toList == [99, 97, 108, 108, 45, 105, 109, 112, 111, 114, 116, 45, 110, 97, 109, 101, 115, 112, 97, 99, 101]) = false) (h7 : (s.toList == [99, 108, 97, 115, 115, 45, 110, 97, 109, 101, 45, 119, 105, 108, 108, 45, 116, 104, 114, 111, 119]) = false) (h8 : (s.toList == [99, 111, 109, 109, 111, 110, 106, 115, 45, 118, 97, 114, 105, 97, 98, 108, 101, 45, 105, 110, 45, 101, 115, 109]) = false) (h9 : (s.toList == [99, 111, 110, 102, 117, 115, 105, 110, 103, 45, 116, 121, 112, 101, 115, 99, 114, 105, 112, 116, 45, 99, 97, 115, 116]) = false) (h10 : (s.toList == [100, 101, 108, 101, 116, 101, 45, 115, 117, 112, 101, 114, 45, 112, 114, 111, 112, 101, 114, 116, 121]) = false) (h11 : (s.toList == [100, 105, 114, 101, 99, 116, 45, 101, 118, 97, 108]) = false) (h12 : (s.toList == [100, 117, 112, 108, 105, 99, 97, 116, 101, 45, 99, 97, 115, 101]) = false) (h13 : (s.toList == [100, 117, 112, 108, 105, 99, 97, 116, 101, 45, 99, 108, 97, 115, 115, 45, 109, 101, 109, 98, 101, 114]) = false) (h14 : (s.toList == [100, 117, 112, 108, 105, 99, 97, 116, 101, 45, 111, 98, 106, 101, 99, 116, 45, 107, 101, 121]) = false) (h15 : (s.toList == [101, 109, 112, 116, 121, 45, 105, 109, 112, 111, 114, 116, 45, 109, 101, 116, 97]) = false) (h16 : (s.toList == [101, 113, 117, 97, 108, 115, 45, 110, 97, 110]) = false) (h17 : (s.toList == [101, 113, 117, 97, 108, 115, 45, 110, 101, 103, 97, 116, 105, 118, 101, 45, 122, 101, 114, 111]) = false) (h18 : (s.toList == [101, 113, 117, 97, 108, 115, 45, 110, 101, 119, 45, 111, 98, 106, 101, 99, 116]) = false) (h19 : (s.toList == [104, 116, 109, 108, 45, 99, 111, 109, 109, 101, 110, 116, 45, 105, 110, 45, 106, 115]) = false) (h20 : (s.toList == [105, 109, 112, 111, 115, 115, 105, 98, 108, 101, 45, 116, 121, 112, 101, 111, 102]) = false) (h21 : (s.toList == [105, 110, 100, 105, 114, 101, 99, 116, 45, 114, 101, 113, 117, 105, 114, 101]) = true) : Sto s [22] := by
  intro w b n D v hm hn
  have HM := Lib.hid hm
  clear hm
  go_enter Try.func11, Try.ntmps11
  go_wp2_with (at_mapUpdate; refine wpList_mapUpdate_own _ rfl _ _ _ 28 rfl 5 32 law5 Try.underlying28 self b _ _ rfl HM.out (by unfold maxLen; omega) (.int .u8 22) _ (kI 22) rfl rfl (kI_mk 22 (by decide) (by decide)) (lv v) [] rfl ?_; intro w2 hout2 hg2)
  go_end0
  exact ⟨rfl, om_more hout2 (by omega), hg2⟩
set_option maxRecDepth 100000 in
set_option maxHeartbeats 1000000 in
theorem t22 (s : ByteArray) (h0 : (s.toList == [97, 115, 115, 101, 114, 116, 45, 116, 111, 45, 119, 105, 116, 104]) = false) (h1 : (s.toList == [97, 115, 115, 101, 114, 116, 45, 116, 121, 112, 101, 45, 106, 115, 111, 110]) = false) (h2 : (s.toList == [97, 115, 115, 105, 103, 110, 45, 116, 111, 45, 99, 111, 110, 115, 116, 97, 110, 116]) = false) (h3 : (s.toList == [97, 115, 115, 105, 103, 110, 45, 116, 111, 45, 100, 101, 102, 105, 110, 101]) = false) (h4 : (s.toList == [97, 115, 115, 105, 103, 110, 45, 116, 111, 45, 105, 109, 112, 111, 114, 116]) = false) (h5 : (s.toList == [98, 105, 103, 105, 110, 116]) = false) (h6 : (s.toList == [99, 97, 108, 108, 45, 105, 109, 112, 111, 114, 116, 45, 110, 97, 109, 101, 115, 112, 97, 99, 101]) = false) (h7 : (s.toList == [99, 108, 97, 115, 115, 45, 110, 97, 109, 101, 45, 119, 105, 108, 108, 45, 116, 104, 114, 111, 119]) = false) (h8 : (s.toList == [99, 111, 109, 109, 111, 110, 106, 115, 45, 118, 97, 114, 105, 97, 98, 108, 101, 45, 105, 110, 45, 101, 115, 109]) = false) (h9 : (s.toList == [99, 111, 110, 102, 117, 115, 105, 110, 103, 45, 116, 121, 112, 101, 115, 99, 114, 105, 112, 116, 45, 99, 97, 115, 116]) = false) (h10 : (s.toList == [100, 101, 108, 101, 116, 101, 45, 115, 117, 112, 101, 114, 45, 112, 114, 111, 112, 101, 114, 116, 121]) = false) (h11 : (s.toList == [100, 105, 114, 101, 99, 116, 45, 101, 118, 97, 108]) = false) (h12 : (s.toList == [100, 117, 112, 108, 105, 99, 97, 116, 101, 45, 99, 97, 115, 101]) = false) (h13 : (s.toList == [100, 117, 112, 108, 105, 99, 97, 116, 101, 45, 99, 108, 97, 115, 115, 45, 109, 101, 109, 98, 101, 114]) = false) (h14 : (s.toList == [100, 117, 112, 108, 105, 99, 97, 116, 101, 45, 111, 98, 106, 101, 99, 116, 45, 107, 101, 121]) = false) (h15 : (s.toList == [101, 109, 112, 116, 121, 45, 105, 109, 112, 111, 114, 116, 45, 109, 101, 116, 97]) = false) (h16 : (s.toList == [101, 113, 117, 97, 108, 115, 45, 110, 97, 110]) = false) (h17 : (s.toList == [101, 113, 117, 97, 108, 115, 45, 110, 101, 103, 97, 116, 105, 118, 101, 45, 122, 101, 114, 111]) = false) (h18 : (s.toList == [101, 113, 117, 97, 108, 115, 45, 110, 101, 119, 45, 111, 98, 106, 101, 99, 116]) = false) (h19 : (s.toList == [104, 116, 109, 108, 45, 99, 111, 109, 109, 101, 110, 116, 45, 105, 110, 45, 106, 115]) = false) (h20 : (s.toList == [105, 109, 112, 111, 115, 115, 105, 98, 108, 101, 45, 116, 121, 112, 101, 111, 102]) = false) (h21 : (s.toList == [105, 110, 100, 105, 114, 101, 99, 116, 45, 114, 101, 113, 117, 105, 114, 101]) = false) (h22 : (s.toList == [112, 114, 105, 118, 97, 116, 101, 45, 110, 97, 109, 101, 45, 119, 105, 108, 108, 45, 116, 104, 114, 111, 119]) = true) : Sto s [23] := by
  intro w b n D v hm hn
  have HM := Lib.hid hm
  clear hm
  go_enter Try.func11, Try.ntmps11
  go_wp2_with (at_mapUpdate; refine wpList_mapUpdate_own _ rfl _ _ _ 28 rfl 5 32 law5 Try.underlying28 self b _ _ rfl HM.out (by unfold maxLen; omega) (.int .u8 23) _ (kI 23) rfl rfl (kI_mk 23 (by decide) (by decide)) (lv v) [] rfl ?_; intro w2 hout2 hg2)
  go_end0
  exact ⟨rfl, om_more hout2 (by omega), hg2⟩
set_option maxRecDepth 100000 in
set_option maxHeartbeats 1000000 in
theorem t23 (s : ByteArray) (h0 : (s.toList == [97, 115, 115, 101, 114, 116, 45, 116, 111, 45, 119, 105, 116, 104]) = false) (h1 : (s.toList == [97, 115, 115, 101, 114, 116, 45, 116, 121, 112, 101, 45, 106, 115, 111, 110]) = false) (h2 : (s.toList == [97, 115, 115, 105, 103, 110, 45, 116, 111, 45, 99, 111, 110, 115, 116, 97, 110, 116]) = false) (h3 : (s.toList == [97, 115, 115, 105, 103, 110, 45, 116, 111, 45, 100, 101, 102, 105, 110, 101]) = false) (h4 : (s.toList == [97, 115, 115, 105, 103, 110, 45, 116, 111, 45, 105, 109, 112, 111, 114, 116]) = false) (h5 : (s.toList == [98, 105, 103, 105, 110, 116]) = false) (h6 : (s.toList == [99, 97, 108, 108, 45, 105, 109, 112, 111, 114, 116, 45, 110, 97, 109, 101, 115, 112, 97, 99, 101]) = false) (h7 : (s.toList == [99, 108, 97, 115, 115, 45, 110, 97, 109, 101, 45, 119, 105, 108, 108, 45, 116, 104, 114, 111, 119]) = false) (h8 : (s.toList == [99, 111, 109, 109, 111, 110, 106, 115, 45, 118, 97, 114, 105, 97, 98, 108, 101, 45, 105, 110, 45, 101, 115, 109]) = false) (h9 : (s.toList == [99, 111, 110, 102, 117, 115, 105, 110, 103, 45, 116, 121, 112, 101, 115, 99, 114, 105, 112, 116, 45, 99, 97, 115, 116]) = false) (h10 : (s.toList == [100, 101, 108, 101, 116, 101, 45, 115, 117, 112, 101, 114, 45, 112, 114, 111, 112, 101, 114, 116, 121]) = false) (h11 : (s.toList == [100, 105, 114, 101, 99, 116, 45, 101, 118, 97, 108]) = false) (h12 : (s.toList == [100, 117, 112, 108, 105, 99, 97, 116, 101, 45, 99, 97, 115, 101]) = false) (h13 : (s.toList == [100, 117, 112, 108, 105, 99, 97, 116, 101, 45, 99, 108, 97, 115, 115, 45, 109, 101, 109, 98, 101, 114]) = false) (h14 : (s.toList == [100, 117, 112, 108, 105, 99, 97, 116, 101, 45, 111, 98, 106, 101, 99, 116, 45, 107, 101, 121]) = false) (h15 : (s.toList == [101, 109, 112, 116, 121, 45, 105, 109, 112, 111, 114, 116, 45, 109, 101, 116, 97]) = false) (h16 : (s.toList == [101, 113, 117, 97, 108, 115, 45, 110, 97, 110]) = false) (h17 : (s.toList == [101, 113, 117, 97, 108, 115, 45, 110, 101, 103, 97, 116, 105, 118, 101, 45, 122, 101, 114, 111]) = false) (h18 : (s.toList == [101, 113, 117, 97, 108, 115, 45, 110, 101, 119, 45, 111, 98, 106, 101, 99, 116]) = false) (h19 : (s.toList == [104, 116, 109, 108, 45, 99, 111, 109, 109, 101, 110, 116, 45, 105, 110, 45, 106, 115]) = false) (h20 : (s.toList == [105, 109, 112, 111, 115, 115, 105, 98, 108, 101, 45, 116, 121, 112, 101, 111, 102]) = false) (h21 : (s.toList == [105, 110, 100, 105, 114, 101, 99, 116, 45, 114, 101, 113, 117, 105, 114, 101]) = false) (h22 : (s.toList == [112, 114, 105, 118, 97, 116, 101, 45, 110, 97, 109, 101, 45, 119, 105, 108, 108, 45, 116, 104, 114, 111, 119]) = false) (h23 : (s.toList == [115, 101, 109, 105, 99, 111, 108, 111, 110, 45, 97, 102, 116, 101, 114, 45, 114, 101, 116, 117, 114, 110]) = true) : Sto s [24] := by
  intro w b n D v hm hn
  have HM := Lib.hid hm
  clear hm
  go_enter Try.func11, Try.ntmps11
  go_wp2_with (at_mapUpdate; refine wpList_mapUpdate_own _ rfl _ _ _ 28 rfl 5 32 law5 Try.underlying28 self b _ _ rfl HM.out (by unfold maxLen; omega) (.int .u8 24) _ (kI 24) rfl rfl (kI_mk 24 (by decide) (by decide)) (lv v) [] rfl ?_; intro w2 hout2 hg2)
  go_end0
  exact ⟨rfl, om_more hout2 (by omega), hg2⟩
end Go.Proofs.Ytolajhmfhndamaa.LoB
