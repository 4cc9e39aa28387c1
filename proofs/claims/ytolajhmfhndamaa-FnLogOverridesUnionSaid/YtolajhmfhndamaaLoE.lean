/- StringToMsgIDs: for each text the ids at which it lays the level. Condition: a map of at most 2^24 entries. -/
import Derived.Test.YtolajhmfhndamaaLoB
import Derived.Test.YtolajhmfhndamaaLoC
import Derived.Test.YtolajhmfhndamaaLoD

namespace Go.Proofs.Ytolajhmfhndamaa.LoE
open Go.RowKit Go.Proofs.Ytolajhmfhndamaa.LoB Go.Proofs.Ytolajhmfhndamaa.LoC Go.Proofs.Ytolajhmfhndamaa.LoD Go.Maps Go.ChangeMaps Go.MapKept Go.Proofs.Ytolajhmfhndamaa.Base Go.Proofs.Ytolajhmfhndamaa.Mps Go.Proofs.Ytolajhmfhndamaa.LoA
set_option linter.unusedVariables false
set_option maxRecDepth 100000 in
theorem sto_any (s : ByteArray) : ∃ S : List Int, (∀ x ∈ S, 0 ≤ x ∧ x ≤ 255) ∧ Sto s S := by
  cases h0 : (s.toList == [97, 115, 115, 101, 114, 116, 45, 116, 111, 45, 119, 105, 116, 104])
  case true => exact ⟨_, by decide, t0 s h0⟩
  cases h1 : (s.toList == [97, 115, 115, 101, 114, 116, 45, 116, 121, 112, 101, 45, 106, 115, 111, 110])
  case true => exact ⟨_, by decide, t1 s h0 h1⟩
  cases h2 : (s.toList == [97, 115, 115, 105, 103, 110, 45, 116, 111, 45, 99, 111, 110, 115, 116, 97, 110, 116])
  case true => exact ⟨_, by decide, t2 s h0 h1 h2⟩
  cases h3 : (s.toList == [97, 115, 115, 105, 103, 110, 45, 116, 111, 45, 100, 101, 102, 105, 110, 101])
  case true => exact ⟨_, by decide, t3 s h0 h1 h2 h3⟩
  cases h4 : (s.toList == [97, 115, 115, 105, 103, 110, 45, 116, 111, 45, 105, 109, 112, 111, 114, 116])
  case true => exact ⟨_, by decide, t4 s h0 h1 h2 h3 h4⟩
  cases h5 : (s.toList == [98, 105, 103, 105, 110, 116])
  case true => exact ⟨_, by decide, t5 s h0 h1 h2 h3 h4 h5⟩
  cases h6 : (s.toList == [99, 97, 108, 108, 45, 105, 109, 112, 111, 114, 116, 45, 110, 97, 109, 101, 115, 112, 97, 99, 101])
  case true => exact ⟨_, by decide, t6 s h0 h1 h2 h3 h4 h5 h6⟩
  cases h7 : (s.toList == [99, 108, 97, 115, 115, 45, 110, 97, 109, 101, 45, 119, 105, 108, 108, 45, 116, 104, 114, 111, 119])
  case true => exact ⟨_, by decide, t7 s h0 h1 h2 h3 h4 h5 h6 h7⟩
  cases h8 : (s.toList == [99, 111, 109, 109, 111, 110, 106, 115, 45, 118, 97, 114, 105, 97, 98, 108, 101, 45, 105, 110, 45, 101, 115, 109])
  case true => exact ⟨_, by decide, t8 s h0 h1 h2 h3 h4 h5 h6 h7 h8⟩
  cases h9 : (s.toList == [99, 111, 110, 102, 117, 115, 105, 110, 103, 45, 116, 121, 112, 101, 115, 99, 114, 105, 112, 116, 45, 99, 97, 115, 116])
  case true => exact ⟨_, by decide, t9 s h0 h1 h2 h3 h4 h5 h6 h7 h8 h9⟩
  cases h10 : (s.toList == [100, 101, 108, 101, 116, 101, 45, 115, 117, 112, 101, 114, 45, 112, 114, 111, 112, 101, 114, 116, 121])
  case true => exact ⟨_, by decide, t10 s h0 h1 h2 h3 h4 h5 h6 h7 h8 h9 h10⟩
  cases h11 : (s.toList == [100, 105, 114, 101, 99, 116, 45, 101, 118, 97, 108])
  case true => exact ⟨_, by decide, t11 s h0 h1 h2 h3 h4 h5 h6 h7 h8 h9 h10 h11⟩
  cases h12 : (s.toList == [100, 117, 112, 108, 105, 99, 97, 116, 101, 45, 99, 97, 115, 101])
  case true => exact ⟨_, by decide, t12 s h0 h1 h2 h3 h4 h5 h6 h7 h8 h9 h10 h11 h12⟩
  cases h13 : (s.toList == [100, 117, 112, 108, 105, 99, 97, 116, 101, 45, 99, 108, 97, 115, 115, 45, 109, 101, 109, 98, 101, 114])
  case true => exact ⟨_, by decide, t13 s h0 h1 h2 h3 h4 h5 h6 h7 h8 h9 h10 h11 h12 h13⟩
  cases h14 : (s.toList == [100, 117, 112, 108, 105, 99, 97, 116, 101, 45, 111, 98, 106, 101, 99, 116, 45, 107, 101, 121])
  case true => exact ⟨_, by decide, t14 s h0 h1 h2 h3 h4 h5 h6 h7 h8 h9 h10 h11 h12 h13 h14⟩
  cases h15 : (s.toList == [101, 109, 112, 116, 121, 45, 105, 109, 112, 111, 114, 116, 45, 109, 101, 116, 97])
  case true => exact ⟨_, by decide, t15 s h0 h1 h2 h3 h4 h5 h6 h7 h8 h9 h10 h11 h12 h13 h14 h15⟩
  cases h16 : (s.toList == [101, 113, 117, 97, 108, 115, 45, 110, 97, 110])
  case true => exact ⟨_, by decide, t16 s h0 h1 h2 h3 h4 h5 h6 h7 h8 h9 h10 h11 h12 h13 h14 h15 h16⟩
  cases h17 : (s.toList == [101, 113, 117, 97, 108, 115, 45, 110, 101, 103, 97, 116, 105, 118, 101, 45, 122, 101, 114, 111])
  case true => exact ⟨_, by decide, t17 s h0 h1 h2 h3 h4 h5 h6 h7 h8 h9 h10 h11 h12 h13 h14 h15 h16 h17⟩
  cases h18 : (s.toList == [101, 113, 117, 97, 108, 115, 45, 110, 101, 119, 45, 111, 98, 106, 101, 99, 116])
  case true => exact ⟨_, by decide, t18 s h0 h1 h2 h3 h4 h5 h6 h7 h8 h9 h10 h11 h12 h13 h14 h15 h16 h17 h18⟩
  cases h19 : (s.toList == [104, 116, 109, 108, 45, 99, 111, 109, 109, 101, 110, 116, 45, 105, 110, 45, 106, 115])
  case true => exact ⟨_, by decide, t19 s h0 h1 h2 h3 h4 h5 h6 h7 h8 h9 h10 h11 h12 h13 h14 h15 h16 h17 h18 h19⟩
  cases h20 : (s.toList == [105, 109, 112, 111, 115, 115, 105, 98, 108, 101, 45, 116, 121, 112, 101, 111, 102])
  case true => exact ⟨_, by decide, t20 s h0 h1 h2 h3 h4 h5 h6 h7 h8 h9 h10 h11 h12 h13 h14 h15 h16 h17 h18 h19 h20⟩
  cases h21 : (s.toList == [105, 110, 100, 105, 114, 101, 99, 116, 45, 114, 101, 113, 117, 105, 114, 101])
  case true => exact ⟨_, by decide, t21 s h0 h1 h2 h3 h4 h5 h6 h7 h8 h9 h10 h11 h12 h13 h14 h15 h16 h17 h18 h19 h20 h21⟩
  cases h22 : (s.toList == [112, 114, 105, 118, 97, 116, 101, 45, 110, 97, 109, 101, 45, 119, 105, 108, 108, 45, 116, 104, 114, 111, 119])
  case true => exact ⟨_, by decide, t22 s h0 h1 h2 h3 h4 h5 h6 h7 h8 h9 h10 h11 h12 h13 h14 h15 h16 h17 h18 h19 h20 h21 h22⟩
  cases h23 : (s.toList == [115, 101, 109, 105, 99, 111, 108, 111, 110, 45, 97, 102, 116, 101, 114, 45, 114, 101, 116, 117, 114, 110])
  case true => exact ⟨_, by decide, t23 s h0 h1 h2 h3 h4 h5 h6 h7 h8 h9 h10 h11 h12 h13 h14 h15 h16 h17 h18 h19 h20 h21 h22 h23⟩
  cases h24 : (s.toList == [115, 117, 115, 112, 105, 99, 105, 111, 117, 115, 45, 98, 111, 111, 108, 101, 97, 110, 45, 110, 111, 116])
  case true => exact ⟨_, by decide, t24 s h0 h1 h2 h3 h4 h5 h6 h7 h8 h9 h10 h11 h12 h13 h14 h15 h16 h17 h18 h19 h20 h21 h22 h23 h24⟩
  cases h25 : (s.toList == [115, 117, 115, 112, 105, 99, 105, 111, 117, 115, 45, 100, 101, 102, 105, 110, 101])
  case true => exact ⟨_, by decide, t25 s h0 h1 h2 h3 h4 h5 h6 h7 h8 h9 h10 h11 h12 h13 h14 h15 h16 h17 h18 h19 h20 h21 h22 h23 h24 h25⟩
  cases h26 : (s.toList == [115, 117, 115, 112, 105, 99, 105, 111, 117, 115, 45, 108, 111, 103, 105, 99, 97, 108, 45, 111, 112, 101, 114, 97, 116, 111, 114])
  case true => exact ⟨_, by decide, t26 s h0 h1 h2 h3 h4 h5 h6 h7 h8 h9 h10 h11 h12 h13 h14 h15 h16 h17 h18 h19 h20 h21 h22 h23 h24 h25 h26⟩
  cases h27 : (s.toList == [115, 117, 115, 112, 105, 99, 105, 111, 117, 115, 45, 110, 117, 108, 108, 105, 115, 104, 45, 99, 111, 97, 108, 101, 115, 99, 105, 110, 103])
  case true => exact ⟨_, by decide, t27 s h0 h1 h2 h3 h4 h5 h6 h7 h8 h9 h10 h11 h12 h13 h14 h15 h16 h17 h18 h19 h20 h21 h22 h23 h24 h25 h26 h27⟩
  cases h28 : (s.toList == [116, 104, 105, 115, 45, 105, 115, 45, 117, 110, 100, 101, 102, 105, 110, 101, 100, 45, 105, 110, 45, 101, 115, 109])
  case true => exact ⟨_, by decide, t28 s h0 h1 h2 h3 h4 h5 h6 h7 h8 h9 h10 h11 h12 h13 h14 h15 h16 h17 h18 h19 h20 h21 h22 h23 h24 h25 h26 h27 h28⟩
  cases h29 : (s.toList == [117, 110, 115, 117, 112, 112, 111, 114, 116, 101, 100, 45, 100, 121, 110, 97, 109, 105, 99, 45, 105, 109, 112, 111, 114, 116])
  case true => exact ⟨_, by decide, t29 s h0 h1 h2 h3 h4 h5 h6 h7 h8 h9 h10 h11 h12 h13 h14 h15 h16 h17 h18 h19 h20 h21 h22 h23 h24 h25 h26 h27 h28 h29⟩
  cases h30 : (s.toList == [117, 110, 115, 117, 112, 112, 111, 114, 116, 101, 100, 45, 106, 115, 120, 45, 99, 111, 109, 109, 101, 110, 116])
  case true => exact ⟨_, by decide, t30 s h0 h1 h2 h3 h4 h5 h6 h7 h8 h9 h10 h11 h12 h13 h14 h15 h16 h17 h18 h19 h20 h21 h22 h23 h24 h25 h26 h27 h28 h29 h30⟩
  cases h31 : (s.toList == [117, 110, 115, 117, 112, 112, 111, 114, 116, 101, 100, 45, 114, 101, 103, 101, 120, 112])
  case true => exact ⟨_, by decide, t31 s h0 h1 h2 h3 h4 h5 h6 h7 h8 h9 h10 h11 h12 h13 h14 h15 h16 h17 h18 h19 h20 h21 h22 h23 h24 h25 h26 h27 h28 h29 h30 h31⟩
  cases h32 : (s.toList == [117, 110, 115, 117, 112, 112, 111, 114, 116, 101, 100, 45, 114, 101, 113, 117, 105, 114, 101, 45, 99, 97, 108, 108])
  case true => exact ⟨_, by decide, t32 s h0 h1 h2 h3 h4 h5 h6 h7 h8 h9 h10 h11 h12 h13 h14 h15 h16 h17 h18 h19 h20 h21 h22 h23 h24 h25 h26 h27 h28 h29 h30 h31 h32⟩
  cases h33 : (s.toList == [99, 115, 115, 45, 115, 121, 110, 116, 97, 120, 45, 101, 114, 114, 111, 114])
  case true => exact ⟨_, by decide, t33 s h0 h1 h2 h3 h4 h5 h6 h7 h8 h9 h10 h11 h12 h13 h14 h15 h16 h17 h18 h19 h20 h21 h22 h23 h24 h25 h26 h27 h28 h29 h30 h31 h32 h33⟩
  cases h34 : (s.toList == [105, 110, 118, 97, 108, 105, 100, 45, 64, 99, 104, 97, 114, 115, 101, 116])
  case true => exact ⟨_, by decide, t34 s h0 h1 h2 h3 h4 h5 h6 h7 h8 h9 h10 h11 h12 h13 h14 h15 h16 h17 h18 h19 h20 h21 h22 h23 h24 h25 h26 h27 h28 h29 h30 h31 h32 h33 h34⟩
  cases h35 : (s.toList == [105, 110, 118, 97, 108, 105, 100, 45, 64, 105, 109, 112, 111, 114, 116])
  case true => exact ⟨_, by decide, t35 s h0 h1 h2 h3 h4 h5 h6 h7 h8 h9 h10 h11 h12 h13 h14 h15 h16 h17 h18 h19 h20 h21 h22 h23 h24 h25 h26 h27 h28 h29 h30 h31 h32 h33 h34 h35⟩
  cases h36 : (s.toList == [105, 110, 118, 97, 108, 105, 100, 45, 64, 108, 97, 121, 101, 114])
  case true => exact ⟨_, by decide, t36 s h0 h1 h2 h3 h4 h5 h6 h7 h8 h9 h10 h11 h12 h13 h14 h15 h16 h17 h18 h19 h20 h21 h22 h23 h24 h25 h26 h27 h28 h29 h30 h31 h32 h33 h34 h35 h36⟩
  cases h37 : (s.toList == [105, 110, 118, 97, 108, 105, 100, 45, 99, 97, 108, 99])
  case true => exact ⟨_, by decide, t37 s h0 h1 h2 h3 h4 h5 h6 h7 h8 h9 h10 h11 h12 h13 h14 h15 h16 h17 h18 h19 h20 h21 h22 h23 h24 h25 h26 h27 h28 h29 h30 h31 h32 h33 h34 h35 h36 h37⟩
  cases h38 : (s.toList == [106, 115, 45, 99, 111, 109, 109, 101, 110, 116, 45, 105, 110, 45, 99, 115, 115])
  case true => exact ⟨_, by decide, t38 s h0 h1 h2 h3 h4 h5 h6 h7 h8 h9 h10 h11 h12 h13 h14 h15 h16 h17 h18 h19 h20 h21 h22 h23 h24 h25 h26 h27 h28 h29 h30 h31 h32 h33 h34 h35 h36 h37 h38⟩
  cases h39 : (s.toList == [117, 110, 100, 101, 102, 105, 110, 101, 100, 45, 99, 111, 109, 112, 111, 115, 101, 115, 45, 102, 114, 111, 109])
  case true => exact ⟨_, by decide, t39 s h0 h1 h2 h3 h4 h5 h6 h7 h8 h9 h10 h11 h12 h13 h14 h15 h16 h17 h18 h19 h20 h21 h22 h23 h24 h25 h26 h27 h28 h29 h30 h31 h32 h33 h34 h35 h36 h37 h38 h39⟩
  cases h40 : (s.toList == [117, 110, 115, 117, 112, 112, 111, 114, 116, 101, 100, 45, 64, 99, 104, 97, 114, 115, 101, 116])
  case true => exact ⟨_, by decide, t40 s h0 h1 h2 h3 h4 h5 h6 h7 h8 h9 h10 h11 h12 h13 h14 h15 h16 h17 h18 h19 h20 h21 h22 h23 h24 h25 h26 h27 h28 h29 h30 h31 h32 h33 h34 h35 h36 h37 h38 h39 h40⟩
  cases h41 : (s.toList == [117, 110, 115, 117, 112, 112, 111, 114, 116, 101, 100, 45, 64, 110, 97, 109, 101, 115, 112, 97, 99, 101])
  case true => exact ⟨_, by decide, t41 s h0 h1 h2 h3 h4 h5 h6 h7 h8 h9 h10 h11 h12 h13 h14 h15 h16 h17 h18 h19 h20 h21 h22 h23 h24 h25 h26 h27 h28 h29 h30 h31 h32 h33 h34 h35 h36 h37 h38 h39 h40 h41⟩
  cases h42 : (s.toList == [117, 110, 115, 117, 112, 112, 111, 114, 116, 101, 100, 45, 99, 115, 115, 45, 112, 114, 111, 112, 101, 114, 116, 121])
  case true => exact ⟨_, by decide, t42 s h0 h1 h2 h3 h4 h5 h6 h7 h8 h9 h10 h11 h12 h13 h14 h15 h16 h17 h18 h19 h20 h21 h22 h23 h24 h25 h26 h27 h28 h29 h30 h31 h32 h33 h34 h35 h36 h37 h38 h39 h40 h41 h42⟩
  cases h43 : (s.toList == [117, 110, 115, 117, 112, 112, 111, 114, 116, 101, 100, 45, 99, 115, 115, 45, 110, 101, 115, 116, 105, 110, 103])
  case true => exact ⟨_, by decide, t43 s h0 h1 h2 h3 h4 h5 h6 h7 h8 h9 h10 h11 h12 h13 h14 h15 h16 h17 h18 h19 h20 h21 h22 h23 h24 h25 h26 h27 h28 h29 h30 h31 h32 h33 h34 h35 h36 h37 h38 h39 h40 h41 h42 h43⟩
  cases h44 : (s.toList == [97, 109, 98, 105, 103, 117, 111, 117, 115, 45, 114, 101, 101, 120, 112, 111, 114, 116])
  case true => exact ⟨_, by decide, t44 s h0 h1 h2 h3 h4 h5 h6 h7 h8 h9 h10 h11 h12 h13 h14 h15 h16 h17 h18 h19 h20 h21 h22 h23 h24 h25 h26 h27 h28 h29 h30 h31 h32 h33 h34 h35 h36 h37 h38 h39 h40 h41 h42 h43 h44⟩
  cases h45 : (s.toList == [100, 105, 102, 102, 101, 114, 101, 110, 116, 45, 112, 97, 116, 104, 45, 99, 97, 115, 101])
  case true => exact ⟨_, by decide, t45 s h0 h1 h2 h3 h4 h5 h6 h7 h8 h9 h10 h11 h12 h13 h14 h15 h16 h17 h18 h19 h20 h21 h22 h23 h24 h25 h26 h27 h28 h29 h30 h31 h32 h33 h34 h35 h36 h37 h38 h39 h40 h41 h42 h43 h44 h45⟩
  cases h46 : (s.toList == [101, 109, 112, 116, 121, 45, 103, 108, 111, 98])
  case true => exact ⟨_, by decide, t46 s h0 h1 h2 h3 h4 h5 h6 h7 h8 h9 h10 h11 h12 h13 h14 h15 h16 h17 h18 h19 h20 h21 h22 h23 h24 h25 h26 h27 h28 h29 h30 h31 h32 h33 h34 h35 h36 h37 h38 h39 h40 h41 h42 h43 h44 h45 h46⟩
  cases h47 : (s.toList == [105, 103, 110, 111, 114, 101, 100, 45, 98, 97, 114, 101, 45, 105, 109, 112, 111, 114, 116])
  case true => exact ⟨_, by decide, t47 s h0 h1 h2 h3 h4 h5 h6 h7 h8 h9 h10 h11 h12 h13 h14 h15 h16 h17 h18 h19 h20 h21 h22 h23 h24 h25 h26 h27 h28 h29 h30 h31 h32 h33 h34 h35 h36 h37 h38 h39 h40 h41 h42 h43 h44 h45 h46 h47⟩
  cases h48 : (s.toList == [105, 103, 110, 111, 114, 101, 100, 45, 100, 121, 110, 97, 109, 105, 99, 45, 105, 109, 112, 111, 114, 116])
  case true => exact ⟨_, by decide, t48 s h0 h1 h2 h3 h4 h5 h6 h7 h8 h9 h10 h11 h12 h13 h14 h15 h16 h17 h18 h19 h20 h21 h22 h23 h24 h25 h26 h27 h28 h29 h30 h31 h32 h33 h34 h35 h36 h37 h38 h39 h40 h41 h42 h43 h44 h45 h46 h47 h48⟩
  cases h49 : (s.toList == [105, 109, 112, 111, 114, 116, 45, 105, 115, 45, 117, 110, 100, 101, 102, 105, 110, 101, 100])
  case true => exact ⟨_, by decide, t49 s h0 h1 h2 h3 h4 h5 h6 h7 h8 h9 h10 h11 h12 h13 h14 h15 h16 h17 h18 h19 h20 h21 h22 h23 h24 h25 h26 h27 h28 h29 h30 h31 h32 h33 h34 h35 h36 h37 h38 h39 h40 h41 h42 h43 h44 h45 h46 h47 h48 h49⟩
  cases h50 : (s.toList == [114, 101, 113, 117, 105, 114, 101, 45, 114, 101, 115, 111, 108, 118, 101, 45, 110, 111, 116, 45, 101, 120, 116, 101, 114, 110, 97, 108])
  case true => exact ⟨_, by decide, t50 s h0 h1 h2 h3 h4 h5 h6 h7 h8 h9 h10 h11 h12 h13 h14 h15 h16 h17 h18 h19 h20 h21 h22 h23 h24 h25 h26 h27 h28 h29 h30 h31 h32 h33 h34 h35 h36 h37 h38 h39 h40 h41 h42 h43 h44 h45 h46 h47 h48 h49 h50⟩
  cases h51 : (s.toList == [105, 110, 118, 97, 108, 105, 100, 45, 115, 111, 117, 114, 99, 101, 45, 109, 97, 112, 112, 105, 110, 103, 115])
  case true => exact ⟨_, by decide, t51 s h0 h1 h2 h3 h4 h5 h6 h7 h8 h9 h10 h11 h12 h13 h14 h15 h16 h17 h18 h19 h20 h21 h22 h23 h24 h25 h26 h27 h28 h29 h30 h31 h32 h33 h34 h35 h36 h37 h38 h39 h40 h41 h42 h43 h44 h45 h46 h47 h48 h49 h50 h51⟩
  cases h52 : (s.toList == [109, 105, 115, 115, 105, 110, 103, 45, 115, 111, 117, 114, 99, 101, 45, 109, 97, 112])
  case true => exact ⟨_, by decide, t52 s h0 h1 h2 h3 h4 h5 h6 h7 h8 h9 h10 h11 h12 h13 h14 h15 h16 h17 h18 h19 h20 h21 h22 h23 h24 h25 h26 h27 h28 h29 h30 h31 h32 h33 h34 h35 h36 h37 h38 h39 h40 h41 h42 h43 h44 h45 h46 h47 h48 h49 h50 h51 h52⟩
  cases h53 : (s.toList == [117, 110, 115, 117, 112, 112, 111, 114, 116, 101, 100, 45, 115, 111, 117, 114, 99, 101, 45, 109, 97, 112, 45, 99, 111, 109, 109, 101, 110, 116])
  case true => exact ⟨_, by decide, t53 s h0 h1 h2 h3 h4 h5 h6 h7 h8 h9 h10 h11 h12 h13 h14 h15 h16 h17 h18 h19 h20 h21 h22 h23 h24 h25 h26 h27 h28 h29 h30 h31 h32 h33 h34 h35 h36 h37 h38 h39 h40 h41 h42 h43 h44 h45 h46 h47 h48 h49 h50 h51 h52 h53⟩
  cases h54 : (s.toList == [112, 97, 99, 107, 97, 103, 101, 46, 106, 115, 111, 110])
  case true => exact ⟨_, by decide, t54 s h0 h1 h2 h3 h4 h5 h6 h7 h8 h9 h10 h11 h12 h13 h14 h15 h16 h17 h18 h19 h20 h21 h22 h23 h24 h25 h26 h27 h28 h29 h30 h31 h32 h33 h34 h35 h36 h37 h38 h39 h40 h41 h42 h43 h44 h45 h46 h47 h48 h49 h50 h51 h52 h53 h54⟩
  cases h55 : (s.toList == [116, 115, 99, 111, 110, 102, 105, 103, 46, 106, 115, 111, 110])
  case true => exact ⟨_, by decide, t55 s h0 h1 h2 h3 h4 h5 h6 h7 h8 h9 h10 h11 h12 h13 h14 h15 h16 h17 h18 h19 h20 h21 h22 h23 h24 h25 h26 h27 h28 h29 h30 h31 h32 h33 h34 h35 h36 h37 h38 h39 h40 h41 h42 h43 h44 h45 h46 h47 h48 h49 h50 h51 h52 h53 h54 h55⟩
  exact ⟨_, by decide, t56 s h0 h1 h2 h3 h4 h5 h6 h7 h8 h9 h10 h11 h12 h13 h14 h15 h16 h17 h18 h19 h20 h21 h22 h23 h24 h25 h26 h27 h28 h29 h30 h31 h32 h33 h34 h35 h36 h37 h38 h39 h40 h41 h42 h43 h44 h45 h46 h47 h48 h49 h50 h51 h52 h53 h54 h55⟩
end Go.Proofs.Ytolajhmfhndamaa.LoE
