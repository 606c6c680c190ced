/- strconv.UnquoteChar at a text of ASCII within double quotes. -/
import Derived.Test.YtcjiafjahfmdoaaFmtGUqa
import Derived.Test.YtcjiafjahfmdoaaFmtA12
namespace Go.Proofs.YtcjiafjahfmdoaaFmt.A
set_option linter.unusedVariables false
set_option linter.unusedSimpArgs false
open Go.RowKit Go.Shelf Go.Proofs.YtcjiafjahfmdoaaFmtW.PrintWords Go.Proofs.YtcjiafjahfmdoaaFmtW.PrintLast Go.Proofs.YtcjiafjahfmdoaaFmtW.PrintMore

theorem results_tmp4 {fn : Func} {t u v x : Tmp} (h : fn.results = #[.tmp t, .tmp u, .tmp v, .tmp x]) (tmps : Array Value) (P : Program) (w : World) :
    (results fn tmps).run P w = .ok (.tuple #[tmps.getD t undef, tmps.getD u undef, tmps.getD v undef, tmps.getD x undef]) w := by
  simp [results, h, Sem.run_bind]

set_option maxHeartbeats 1000000 in
set_option maxRecDepth 100000 in
theorem char_plain (s t : ByteArray) (n : Nat) (c : Int) (hs : s.size = n) (hn : 1 ≤ n) (hc0 : 0 ≤ c) (hb : ∀ h : 0 < s.size, ((s[0]'h).toNat : Int) = c) (ht : s.extract 1 n = t) (h1 : c ≠ 34) (h2 : c ≠ 92) (h3 : c < 128) (w : World) :
    Calls Tryf.prog 42 #[.string s, .int .u8 34] w fun e w' => e = .returned (.tuple #[.int .i32 c, .bool false, .string t, .nilIface]) ∧ ∃ q, w' = w.drewN q := by
  have z1 : (c == 34) = false := beq_eq_false_iff_ne.2 h1
  have z2 : (c == 92) = false := beq_eq_false_iff_ne.2 h2
  have z3 : decide (128 ≤ c) = false := decide_eq_false (by omega)
  have z0 : ((n : Int) == 0) = false := beq_eq_false_iff_ne.2 (by omega)
  have q0 : (0 < n) = True := eq_true (by omega)
  have w1 : IntKind.i32.wrap c = c := by simp [IntKind.wrap, IntKind.bits, IntKind.signed]; omega
  clear h1 h2
  go_enter Tryf.func42, Tryf.ntmps42
  go_wp2
  go_quiet (fail)
  go_wp2
  (try simp only [Exit.inBlock, Exit.then]); refine bodyPost_ret (results_tmp4 rfl _ _ _) rfl ?_
  exact ⟨rfl, _, rfl⟩

set_option maxHeartbeats 1000000 in
set_option maxRecDepth 100000 in
theorem char_lone (s : ByteArray) (ev : Value) (hs : s.size = 1) (hb : ∀ h : 0 < s.size, ((s[0]'h).toNat : Int) = 92) (w : World) (he : w.cell? ⟨0, 0, none⟩ = some ev) :
    Calls Tryf.prog 42 #[.string s, .int .u8 34] w fun e w' => e = .returned (.tuple #[.int .i32 0, .bool false, .string ⟨#[]⟩, ev]) ∧ ∃ q, w' = w.drewN q := by
  go_enter Tryf.func42, Tryf.ntmps42
  go_wp2
  repeat (go_quiet (fail); try go_wp2)
  (try simp only [Exit.inBlock, Exit.then]); refine bodyPost_ret (results_tmp4 rfl _ _ _) rfl ?_
  exact ⟨rfl, 0, rfl⟩

-- ESCAPES
set_option maxHeartbeats 1000000 in
set_option maxRecDepth 100000 in
theorem char_e97 (s t : ByteArray) (n : Nat) (hs : s.size = n) (hn : 2 ≤ n) (hb0 : ∀ h : 0 < s.size, ((s[0]'h).toNat : Int) = 92) (hb1 : ∀ h : 1 < s.size, ((s[1]'h).toNat : Int) = 97) (ht : s.extract 2 n = t) (w : World) :
    Calls Tryf.prog 42 #[.string s, .int .u8 34] w fun e w' => e = .returned (.tuple #[.int .i32 7, .bool false, .string t, .nilIface]) ∧ ∃ q, w' = w.drewN q := by
  have q0 : (0 < n) = True := eq_true (by omega)
  have q1 : (1 < n) = True := eq_true (by omega)
  have z0 : ((n : Int) == 0) = false := beq_eq_false_iff_ne.2 (by omega)
  have z1 : ((n : Int) ≤ 1) = False := eq_false (by omega)
  have z1n : (n ≤ 1) = False := eq_false (by omega)
  have z2 : ((2 : Int) ≤ (n : Int)) = True := eq_true (by omega)
  have z2n : (2 ≤ n) = True := eq_true (by omega)
  go_enter Tryf.func42, Tryf.ntmps42
  go_wp2
  repeat (go_quiet (fail); try go_wp2)
  (try simp only [Exit.inBlock, Exit.then]); refine bodyPost_ret (results_tmp4 rfl _ _ _) rfl ?_
  first | exact ⟨rfl, _, rfl⟩ | exact ⟨rfl, 0, rfl⟩ | exact ⟨rfl, _, World.drewN_drewN _ _ _⟩

set_option maxHeartbeats 1000000 in
set_option maxRecDepth 100000 in
theorem char_e98 (s t : ByteArray) (n : Nat) (hs : s.size = n) (hn : 2 ≤ n) (hb0 : ∀ h : 0 < s.size, ((s[0]'h).toNat : Int) = 92) (hb1 : ∀ h : 1 < s.size, ((s[1]'h).toNat : Int) = 98) (ht : s.extract 2 n = t) (w : World) :
    Calls Tryf.prog 42 #[.string s, .int .u8 34] w fun e w' => e = .returned (.tuple #[.int .i32 8, .bool false, .string t, .nilIface]) ∧ ∃ q, w' = w.drewN q := by
  have q0 : (0 < n) = True := eq_true (by omega)
  have q1 : (1 < n) = True := eq_true (by omega)
  have z0 : ((n : Int) == 0) = false := beq_eq_false_iff_ne.2 (by omega)
  have z1 : ((n : Int) ≤ 1) = False := eq_false (by omega)
  have z1n : (n ≤ 1) = False := eq_false (by omega)
  have z2 : ((2 : Int) ≤ (n : Int)) = True := eq_true (by omega)
  have z2n : (2 ≤ n) = True := eq_true (by omega)
  go_enter Tryf.func42, Tryf.ntmps42
  go_wp2
  repeat (go_quiet (fail); try go_wp2)
  (try simp only [Exit.inBlock, Exit.then]); refine bodyPost_ret (results_tmp4 rfl _ _ _) rfl ?_
  first | exact ⟨rfl, _, rfl⟩ | exact ⟨rfl, 0, rfl⟩ | exact ⟨rfl, _, World.drewN_drewN _ _ _⟩

set_option maxHeartbeats 1000000 in
set_option maxRecDepth 100000 in
theorem char_e102 (s t : ByteArray) (n : Nat) (hs : s.size = n) (hn : 2 ≤ n) (hb0 : ∀ h : 0 < s.size, ((s[0]'h).toNat : Int) = 92) (hb1 : ∀ h : 1 < s.size, ((s[1]'h).toNat : Int) = 102) (ht : s.extract 2 n = t) (w : World) :
    Calls Tryf.prog 42 #[.string s, .int .u8 34] w fun e w' => e = .returned (.tuple #[.int .i32 12, .bool false, .string t, .nilIface]) ∧ ∃ q, w' = w.drewN q := by
  have q0 : (0 < n) = True := eq_true (by omega)
  have q1 : (1 < n) = True := eq_true (by omega)
  have z0 : ((n : Int) == 0) = false := beq_eq_false_iff_ne.2 (by omega)
  have z1 : ((n : Int) ≤ 1) = False := eq_false (by omega)
  have z1n : (n ≤ 1) = False := eq_false (by omega)
  have z2 : ((2 : Int) ≤ (n : Int)) = True := eq_true (by omega)
  have z2n : (2 ≤ n) = True := eq_true (by omega)
  go_enter Tryf.func42, Tryf.ntmps42
  go_wp2
  repeat (go_quiet (fail); try go_wp2)
  (try simp only [Exit.inBlock, Exit.then]); refine bodyPost_ret (results_tmp4 rfl _ _ _) rfl ?_
  first | exact ⟨rfl, _, rfl⟩ | exact ⟨rfl, 0, rfl⟩ | exact ⟨rfl, _, World.drewN_drewN _ _ _⟩

set_option maxHeartbeats 1000000 in
set_option maxRecDepth 100000 in
theorem char_e110 (s t : ByteArray) (n : Nat) (hs : s.size = n) (hn : 2 ≤ n) (hb0 : ∀ h : 0 < s.size, ((s[0]'h).toNat : Int) = 92) (hb1 : ∀ h : 1 < s.size, ((s[1]'h).toNat : Int) = 110) (ht : s.extract 2 n = t) (w : World) :
    Calls Tryf.prog 42 #[.string s, .int .u8 34] w fun e w' => e = .returned (.tuple #[.int .i32 10, .bool false, .string t, .nilIface]) ∧ ∃ q, w' = w.drewN q := by
  have q0 : (0 < n) = True := eq_true (by omega)
  have q1 : (1 < n) = True := eq_true (by omega)
  have z0 : ((n : Int) == 0) = false := beq_eq_false_iff_ne.2 (by omega)
  have z1 : ((n : Int) ≤ 1) = False := eq_false (by omega)
  have z1n : (n ≤ 1) = False := eq_false (by omega)
  have z2 : ((2 : Int) ≤ (n : Int)) = True := eq_true (by omega)
  have z2n : (2 ≤ n) = True := eq_true (by omega)
  go_enter Tryf.func42, Tryf.ntmps42
  go_wp2
  repeat (go_quiet (fail); try go_wp2)
  (try simp only [Exit.inBlock, Exit.then]); refine bodyPost_ret (results_tmp4 rfl _ _ _) rfl ?_
  first | exact ⟨rfl, _, rfl⟩ | exact ⟨rfl, 0, rfl⟩ | exact ⟨rfl, _, World.drewN_drewN _ _ _⟩

set_option maxHeartbeats 1000000 in
set_option maxRecDepth 100000 in
theorem char_e114 (s t : ByteArray) (n : Nat) (hs : s.size = n) (hn : 2 ≤ n) (hb0 : ∀ h : 0 < s.size, ((s[0]'h).toNat : Int) = 92) (hb1 : ∀ h : 1 < s.size, ((s[1]'h).toNat : Int) = 114) (ht : s.extract 2 n = t) (w : World) :
    Calls Tryf.prog 42 #[.string s, .int .u8 34] w fun e w' => e = .returned (.tuple #[.int .i32 13, .bool false, .string t, .nilIface]) ∧ ∃ q, w' = w.drewN q := by
  have q0 : (0 < n) = True := eq_true (by omega)
  have q1 : (1 < n) = True := eq_true (by omega)
  have z0 : ((n : Int) == 0) = false := beq_eq_false_iff_ne.2 (by omega)
  have z1 : ((n : Int) ≤ 1) = False := eq_false (by omega)
  have z1n : (n ≤ 1) = False := eq_false (by omega)
  have z2 : ((2 : Int) ≤ (n : Int)) = True := eq_true (by omega)
  have z2n : (2 ≤ n) = True := eq_true (by omega)
  go_enter Tryf.func42, Tryf.ntmps42
  go_wp2
  repeat (go_quiet (fail); try go_wp2)
  (try simp only [Exit.inBlock, Exit.then]); refine bodyPost_ret (results_tmp4 rfl _ _ _) rfl ?_
  first | exact ⟨rfl, _, rfl⟩ | exact ⟨rfl, 0, rfl⟩ | exact ⟨rfl, _, World.drewN_drewN _ _ _⟩

set_option maxHeartbeats 1000000 in
set_option maxRecDepth 100000 in
theorem char_e116 (s t : ByteArray) (n : Nat) (hs : s.size = n) (hn : 2 ≤ n) (hb0 : ∀ h : 0 < s.size, ((s[0]'h).toNat : Int) = 92) (hb1 : ∀ h : 1 < s.size, ((s[1]'h).toNat : Int) = 116) (ht : s.extract 2 n = t) (w : World) :
    Calls Tryf.prog 42 #[.string s, .int .u8 34] w fun e w' => e = .returned (.tuple #[.int .i32 9, .bool false, .string t, .nilIface]) ∧ ∃ q, w' = w.drewN q := by
  have q0 : (0 < n) = True := eq_true (by omega)
  have q1 : (1 < n) = True := eq_true (by omega)
  have z0 : ((n : Int) == 0) = false := beq_eq_false_iff_ne.2 (by omega)
  have z1 : ((n : Int) ≤ 1) = False := eq_false (by omega)
  have z1n : (n ≤ 1) = False := eq_false (by omega)
  have z2 : ((2 : Int) ≤ (n : Int)) = True := eq_true (by omega)
  have z2n : (2 ≤ n) = True := eq_true (by omega)
  go_enter Tryf.func42, Tryf.ntmps42
  go_wp2
  repeat (go_quiet (fail); try go_wp2)
  (try simp only [Exit.inBlock, Exit.then]); refine bodyPost_ret (results_tmp4 rfl _ _ _) rfl ?_
  first | exact ⟨rfl, _, rfl⟩ | exact ⟨rfl, 0, rfl⟩ | exact ⟨rfl, _, World.drewN_drewN _ _ _⟩

set_option maxHeartbeats 1000000 in
set_option maxRecDepth 100000 in
theorem char_e118 (s t : ByteArray) (n : Nat) (hs : s.size = n) (hn : 2 ≤ n) (hb0 : ∀ h : 0 < s.size, ((s[0]'h).toNat : Int) = 92) (hb1 : ∀ h : 1 < s.size, ((s[1]'h).toNat : Int) = 118) (ht : s.extract 2 n = t) (w : World) :
    Calls Tryf.prog 42 #[.string s, .int .u8 34] w fun e w' => e = .returned (.tuple #[.int .i32 11, .bool false, .string t, .nilIface]) ∧ ∃ q, w' = w.drewN q := by
  have q0 : (0 < n) = True := eq_true (by omega)
  have q1 : (1 < n) = True := eq_true (by omega)
  have z0 : ((n : Int) == 0) = false := beq_eq_false_iff_ne.2 (by omega)
  have z1 : ((n : Int) ≤ 1) = False := eq_false (by omega)
  have z1n : (n ≤ 1) = False := eq_false (by omega)
  have z2 : ((2 : Int) ≤ (n : Int)) = True := eq_true (by omega)
  have z2n : (2 ≤ n) = True := eq_true (by omega)
  go_enter Tryf.func42, Tryf.ntmps42
  go_wp2
  repeat (go_quiet (fail); try go_wp2)
  (try simp only [Exit.inBlock, Exit.then]); refine bodyPost_ret (results_tmp4 rfl _ _ _) rfl ?_
  first | exact ⟨rfl, _, rfl⟩ | exact ⟨rfl, 0, rfl⟩ | exact ⟨rfl, _, World.drewN_drewN _ _ _⟩

set_option maxHeartbeats 1000000 in
set_option maxRecDepth 100000 in
theorem char_e92 (s t : ByteArray) (n : Nat) (hs : s.size = n) (hn : 2 ≤ n) (hb0 : ∀ h : 0 < s.size, ((s[0]'h).toNat : Int) = 92) (hb1 : ∀ h : 1 < s.size, ((s[1]'h).toNat : Int) = 92) (ht : s.extract 2 n = t) (w : World) :
    Calls Tryf.prog 42 #[.string s, .int .u8 34] w fun e w' => e = .returned (.tuple #[.int .i32 92, .bool false, .string t, .nilIface]) ∧ ∃ q, w' = w.drewN q := by
  have q0 : (0 < n) = True := eq_true (by omega)
  have q1 : (1 < n) = True := eq_true (by omega)
  have z0 : ((n : Int) == 0) = false := beq_eq_false_iff_ne.2 (by omega)
  have z1 : ((n : Int) ≤ 1) = False := eq_false (by omega)
  have z1n : (n ≤ 1) = False := eq_false (by omega)
  have z2 : ((2 : Int) ≤ (n : Int)) = True := eq_true (by omega)
  have z2n : (2 ≤ n) = True := eq_true (by omega)
  go_enter Tryf.func42, Tryf.ntmps42
  go_wp2
  repeat (go_quiet (fail); try go_wp2)
  (try simp only [Exit.inBlock, Exit.then]); refine bodyPost_ret (results_tmp4 rfl _ _ _) rfl ?_
  first | exact ⟨rfl, _, rfl⟩ | exact ⟨rfl, 0, rfl⟩ | exact ⟨rfl, _, World.drewN_drewN _ _ _⟩

set_option maxHeartbeats 1000000 in
set_option maxRecDepth 100000 in
theorem char_e34 (s t : ByteArray) (n : Nat) (hs : s.size = n) (hn : 2 ≤ n) (hb0 : ∀ h : 0 < s.size, ((s[0]'h).toNat : Int) = 92) (hb1 : ∀ h : 1 < s.size, ((s[1]'h).toNat : Int) = 34) (ht : s.extract 2 n = t) (w : World) :
    Calls Tryf.prog 42 #[.string s, .int .u8 34] w fun e w' => e = .returned (.tuple #[.int .i32 34, .bool false, .string t, .nilIface]) ∧ ∃ q, w' = w.drewN q := by
  have q0 : (0 < n) = True := eq_true (by omega)
  have q1 : (1 < n) = True := eq_true (by omega)
  have z0 : ((n : Int) == 0) = false := beq_eq_false_iff_ne.2 (by omega)
  have z1 : ((n : Int) ≤ 1) = False := eq_false (by omega)
  have z1n : (n ≤ 1) = False := eq_false (by omega)
  have z2 : ((2 : Int) ≤ (n : Int)) = True := eq_true (by omega)
  have z2n : (2 ≤ n) = True := eq_true (by omega)
  go_enter Tryf.func42, Tryf.ntmps42
  go_wp2
  repeat (go_quiet (fail); try go_wp2)
  (try simp only [Exit.inBlock, Exit.then]); refine bodyPost_ret (results_tmp4 rfl _ _ _) rfl ?_
  first | exact ⟨rfl, _, rfl⟩ | exact ⟨rfl, 0, rfl⟩ | exact ⟨rfl, _, World.drewN_drewN _ _ _⟩

set_option maxHeartbeats 2000000 in
set_option maxRecDepth 100000 in
theorem char_bad (s t : ByteArray) (n : Nat) (hs : s.size = n) (hn : 2 ≤ n) (hb0 : ∀ h : 0 < s.size, ((s[0]'h).toNat : Int) = 92) (c : Int) (ev : Value) (hb1 : ∀ h : 1 < s.size, ((s[1]'h).toNat : Int) = c) (ht : s.extract 2 n = t) (w : World) (he : w.cell? ⟨0, 0, none⟩ = some ev)
    (k97 : (c == 97) = false) (k98 : (c == 98) = false) (k102 : (c == 102) = false) (k110 : (c == 110) = false) (k114 : (c == 114) = false) (k116 : (c == 116) = false) (k118 : (c == 118) = false) (k120 : (c == 120) = false) (k117 : (c == 117) = false) (k85 : (c == 85) = false) (k48 : (c == 48) = false) (k49 : (c == 49) = false) (k50 : (c == 50) = false) (k51 : (c == 51) = false) (k52 : (c == 52) = false) (k53 : (c == 53) = false) (k54 : (c == 54) = false) (k55 : (c == 55) = false) (k92 : (c == 92) = false) (k39 : (c == 39) = false) (k34 : (c == 34) = false) :
    Calls Tryf.prog 42 #[.string s, .int .u8 34] w fun e w' => e = .returned (.tuple #[.int .i32 0, .bool false, .string ⟨#[]⟩, ev]) ∧ ∃ q, w' = w.drewN q := by
  have q0 : (0 < n) = True := eq_true (by omega)
  have q1 : (1 < n) = True := eq_true (by omega)
  have z0 : ((n : Int) == 0) = false := beq_eq_false_iff_ne.2 (by omega)
  have z1 : ((n : Int) ≤ 1) = False := eq_false (by omega)
  have z1n : (n ≤ 1) = False := eq_false (by omega)
  have z2 : ((2 : Int) ≤ (n : Int)) = True := eq_true (by omega)
  have z2n : (2 ≤ n) = True := eq_true (by omega)
  go_enter Tryf.func42, Tryf.ntmps42
  go_wp2
  repeat (go_quiet (fail); try go_wp2)
  (try simp only [Exit.inBlock, Exit.then]); refine bodyPost_ret (results_tmp4 rfl _ _ _) rfl ?_
  first | exact ⟨rfl, _, rfl⟩ | exact ⟨rfl, 0, rfl⟩ | exact ⟨rfl, _, World.drewN_drewN _ _ _⟩

set_option maxHeartbeats 2000000 in
set_option maxRecDepth 100000 in
theorem char_tick (s t : ByteArray) (n : Nat) (hs : s.size = n) (hn : 2 ≤ n) (hb0 : ∀ h : 0 < s.size, ((s[0]'h).toNat : Int) = 92) (ev : Value) (hb1 : ∀ h : 1 < s.size, ((s[1]'h).toNat : Int) = 39) (ht : s.extract 2 n = t) (w : World) (he : w.cell? ⟨0, 0, none⟩ = some ev) :
    Calls Tryf.prog 42 #[.string s, .int .u8 34] w fun e w' => e = .returned (.tuple #[.int .i32 0, .bool false, .string ⟨#[]⟩, ev]) ∧ ∃ q, w' = w.drewN q := by
  have q0 : (0 < n) = True := eq_true (by omega)
  have q1 : (1 < n) = True := eq_true (by omega)
  have z0 : ((n : Int) == 0) = false := beq_eq_false_iff_ne.2 (by omega)
  have z1 : ((n : Int) ≤ 1) = False := eq_false (by omega)
  have z1n : (n ≤ 1) = False := eq_false (by omega)
  have z2 : ((2 : Int) ≤ (n : Int)) = True := eq_true (by omega)
  have z2n : (2 ≤ n) = True := eq_true (by omega)
  go_enter Tryf.func42, Tryf.ntmps42
  go_wp2
  repeat (go_quiet (fail); try go_wp2)
  (try simp only [Exit.inBlock, Exit.then]); refine bodyPost_ret (results_tmp4 rfl _ _ _) rfl ?_
  first | exact ⟨rfl, _, rfl⟩ | exact ⟨rfl, 0, rfl⟩ | exact ⟨rfl, _, World.drewN_drewN _ _ _⟩

end Go.Proofs.YtcjiafjahfmdoaaFmt.A
namespace Go.Proofs.YtcjiafjahfmdoaaFmt.A
set_option linter.unusedVariables false
set_option linter.unusedSimpArgs false
open Go.RowKit Go.Shelf Go.Proofs.YtcjiafjahfmdoaaFmtW.PrintWords Go.Proofs.YtcjiafjahfmdoaaFmtW.PrintLast Go.Proofs.YtcjiafjahfmdoaaFmtW.PrintMore

set_option maxHeartbeats 2000000 in
set_option maxRecDepth 100000 in
theorem char_hex (k : Nat) (s t u : ByteArray) (n m : Nat) (hnm : n = m + 2) (hm : 2 ≤ m) (hs : s.size = n) (hts : t.size = m) (hb0 : ∀ h : 0 < s.size, ((s[0]'h).toNat : Int) = 92) (hb1 : ∀ h : 1 < s.size, ((s[1]'h).toNat : Int) = 120)
    (ht : s.extract 2 n = t) (x1 x2 v1 v2 : Int) (hb2 : ∀ h : 0 < t.size, ((t[0]'h).toNat : Int) = x1) (hb3 : ∀ h : 1 < t.size, ((t[1]'h).toNat : Int) = x2) (hu : t.extract 2 m = u)
    (e1 : bits .or .i32 0 v1 = v1) (e2 : bits .or .i32 (wrap32 (v1 * 16)) v2 = 16 * v1 + v2) (hv1 : strconv_unhex.f k x1 = some (v1, true)) (hv2 : strconv_unhex.f k x2 = some (v2, true)) (w : World) :
    Calls Tryf.prog 42 #[.string s, .int .u8 34] w fun e w' => e = .returned (.tuple #[.int .i32 (16 * v1 + v2), .bool false, .string u, .nilIface]) ∧ ∃ q, w' = w.drewN q := by
  have q0 : (0 < n) = True := eq_true (by omega)
  have q1 : (1 < n) = True := eq_true (by omega)
  have z0 : ((n : Int) == 0) = false := beq_eq_false_iff_ne.2 (by omega)
  have z1 : ((n : Int) ≤ 1) = False := eq_false (by omega)
  have z1n : (n ≤ 1) = False := eq_false (by omega)
  have z2 : ((2 : Int) ≤ (n : Int)) = True := eq_true (by omega)
  have z2n : (2 ≤ n) = True := eq_true (by omega)
  have z3 : ((m : Int) < 2) = False := eq_false (by omega)
  have z3n : (m < 2) = False := eq_false (by omega)
  have E1 : Aside0 (bits .or .i32 0 v1 = v1) := ⟨e1⟩
  have E2 : Aside0 (bits .or .i32 (wrap32 (v1 * 16)) v2 = 16 * v1 + v2) := ⟨e2⟩
  clear e1 e2
  have H1 := Aside0.mk hv1
  have H2 := Aside0.mk hv2
  have hn4 : 4 ≤ n := by omega
  clear hv1 hv2 hnm
  go_enter Tryf.func42, Tryf.ntmps42
  go_wp2
  repeat (go_quiet (fail); try go_wp2)
  · go_loopg [7, 13, 14] 2 (fun kq v7 v13 v14 wr => ∃ (j : Nat) (v : Int), v7 = .nilIface ∧ v14 = .int .i64 j ∧ v13 = .int .i32 v ∧ ((j = 0 ∧ v = 0) ∨ (j = 1 ∧ v = v1) ∨ (j = 2 ∧ v = 16 * v1 + v2)) ∧ Hid (kq = 2 - j) ∧ Aside0 (∃ q, wr = w.drewN q))
    case atStart => exact ⟨0, 0, rfl, rfl, rfl, Or.inl ⟨rfl, rfl⟩, rfl, ⟨0, rfl⟩⟩
    case round =>
      obtain ⟨j, v, rfl, rfl, rfl, hj, HK, HW⟩ := hrel
      rcases hj with ⟨rfl, hv⟩ | ⟨rfl, hv⟩ | ⟨rfl, hv⟩
      · rw [hv]
        clear hv
        have q3 : (0 < m) = True := eq_true (by omega)
        go_wp2_with (go_at_call 48; refine (strconv_unhex.calls k x1 v1 true _ H1.out).mono ?_; rintro e w1 ⟨rfl, nd, rfl⟩)
        go_roundg 1
        case measure => have := HK.out; omega
        case rel =>
          obtain ⟨q, hq⟩ := HW.out
          exact ⟨1, v1, rfl, rfl, by rw [E1.out], Or.inr (Or.inl ⟨rfl, rfl⟩), rfl, ⟨q + nd, by rw [hq, World.drewN_drewN]⟩⟩
      · rw [hv]
        clear hv
        have q3 : (1 < m) = True := eq_true (by omega)
        go_wp2_with (go_at_call 48; refine (strconv_unhex.calls k x2 v2 true _ H2.out).mono ?_; rintro e w1 ⟨rfl, nd, rfl⟩)
        go_roundg 0
        case measure => have := HK.out; omega
        case rel =>
          obtain ⟨q, hq⟩ := HW.out
          exact ⟨2, 16 * v1 + v2, rfl, rfl, by rw [← E2.out], Or.inr (Or.inr ⟨rfl, rfl⟩), rfl, ⟨q + nd, by rw [hq, World.drewN_drewN]⟩⟩
      · rw [hv]
        clear hv
        go_wp2
        repeat (go_quiet (fail); try go_wp2)
        (try simp only [Exit.inBlock, Exit.then]); refine bodyPost_ret (results_tmp4 rfl _ _ _) rfl ?_
        obtain ⟨q, hq⟩ := HW.out
        rw [hq]
        first | exact ⟨rfl, _, rfl⟩ | exact ⟨rfl, _, World.drewN_drewN _ _ _⟩
set_option maxHeartbeats 2000000 in
set_option maxRecDepth 100000 in
theorem char_hex_short (k : Nat) (s t u : ByteArray) (n m : Nat) (hnm : n = m + 2) (hm : m < 2) (hs : s.size = n) (hts : t.size = m) (hb0 : ∀ h : 0 < s.size, ((s[0]'h).toNat : Int) = 92) (hb1 : ∀ h : 1 < s.size, ((s[1]'h).toNat : Int) = 120)
    (ht : s.extract 2 n = t) (ev : Value) (w : World) (he : w.cell? ⟨0, 0, none⟩ = some ev) :
    Calls Tryf.prog 42 #[.string s, .int .u8 34] w fun e w' => e = .returned (.tuple #[.int .i32 0, .bool false, .string ⟨#[]⟩, ev]) ∧ ∃ q, w' = w.drewN q := by
  have q0 : (0 < n) = True := eq_true (by omega)
  have q1 : (1 < n) = True := eq_true (by omega)
  have z0 : ((n : Int) == 0) = false := beq_eq_false_iff_ne.2 (by omega)
  have z1 : ((n : Int) ≤ 1) = False := eq_false (by omega)
  have z1n : (n ≤ 1) = False := eq_false (by omega)
  have z2 : ((2 : Int) ≤ (n : Int)) = True := eq_true (by omega)
  have z2n : (2 ≤ n) = True := eq_true (by omega)
  have z3 : ((m : Int) < 2) = True := eq_true (by omega)
  have z3n : (m < 2) = True := eq_true (by omega)
  have hn2 : 2 ≤ n := by omega
  have hn2z : 1 < n := by omega
  clear hnm
  go_enter Tryf.func42, Tryf.ntmps42
  go_wp2
  repeat (go_quiet (fail); try go_wp2)
  (try simp only [Exit.inBlock, Exit.then]); refine bodyPost_ret (results_tmp4 rfl _ _ _) rfl ?_
  first | exact ⟨rfl, _, rfl⟩ | exact ⟨rfl, 0, rfl⟩ | exact ⟨rfl, _, World.drewN_drewN _ _ _⟩

set_option maxHeartbeats 2000000 in
set_option maxRecDepth 100000 in
theorem char_hex_bad1 (k : Nat) (s t u : ByteArray) (n m : Nat) (hnm : n = m + 2) (hm : 2 ≤ m) (hs : s.size = n) (hts : t.size = m) (hb0 : ∀ h : 0 < s.size, ((s[0]'h).toNat : Int) = 92) (hb1 : ∀ h : 1 < s.size, ((s[1]'h).toNat : Int) = 120)
    (ht : s.extract 2 n = t) (x1 r1 : Int) (hb2 : ∀ h : 0 < t.size, ((t[0]'h).toNat : Int) = x1) (hv1 : strconv_unhex.f k x1 = some (r1, false)) (ev : Value) (w : World) (he : w.cell? ⟨0, 0, none⟩ = some ev) :
    Calls Tryf.prog 42 #[.string s, .int .u8 34] w fun e w' => e = .returned (.tuple #[.int .i32 0, .bool false, .string ⟨#[]⟩, ev]) ∧ ∃ q, w' = w.drewN q := by
  have q0 : (0 < n) = True := eq_true (by omega)
  have q1 : (1 < n) = True := eq_true (by omega)
  have z0 : ((n : Int) == 0) = false := beq_eq_false_iff_ne.2 (by omega)
  have z1 : ((n : Int) ≤ 1) = False := eq_false (by omega)
  have z1n : (n ≤ 1) = False := eq_false (by omega)
  have z2 : ((2 : Int) ≤ (n : Int)) = True := eq_true (by omega)
  have z2n : (2 ≤ n) = True := eq_true (by omega)
  have z3 : ((m : Int) < 2) = False := eq_false (by omega)
  have z3n : (m < 2) = False := eq_false (by omega)
  have H1 := Aside0.mk hv1
  have hn4 : 4 ≤ n := by omega
  clear hv1 hnm
  go_enter Tryf.func42, Tryf.ntmps42
  go_wp2
  repeat (go_quiet (fail); try go_wp2)
  · go_loopg [7, 13, 14] 2 (fun kq v7 v13 v14 wr => ∃ (j : Nat) (v : Int), v7 = .nilIface ∧ v14 = .int .i64 j ∧ v13 = .int .i32 v ∧ j = 0 ∧ v = 0 ∧ Hid (kq = 2 - j) ∧ wr = w)
    case atStart => exact ⟨0, 0, rfl, rfl, rfl, rfl, rfl, rfl, rfl⟩
    case round =>
      obtain ⟨j, v, rfl, rfl, rfl, rfl, rfl, HK, rfl⟩ := hrel
      have q3 : (0 < m) = True := eq_true (by omega)
      go_wp2_with (go_at_call 48; refine (strconv_unhex.calls k x1 r1 false _ H1.out).mono ?_; rintro e w1 ⟨rfl, nd, rfl⟩)
      (try simp only [Exit.inBlock, Exit.then]); refine bodyPost_ret (results_tmp4 rfl _ _ _) rfl ?_
      exact ⟨rfl, _, rfl⟩

set_option maxHeartbeats 2000000 in
set_option maxRecDepth 100000 in
theorem char_hex_bad2 (k : Nat) (s t u : ByteArray) (n m : Nat) (hnm : n = m + 2) (hm : 2 ≤ m) (hs : s.size = n) (hts : t.size = m) (hb0 : ∀ h : 0 < s.size, ((s[0]'h).toNat : Int) = 92) (hb1 : ∀ h : 1 < s.size, ((s[1]'h).toNat : Int) = 120)
    (ht : s.extract 2 n = t) (x1 x2 v1 r2 : Int) (hb2 : ∀ h : 0 < t.size, ((t[0]'h).toNat : Int) = x1) (hb3 : ∀ h : 1 < t.size, ((t[1]'h).toNat : Int) = x2) (hv1 : strconv_unhex.f k x1 = some (v1, true)) (hv2 : strconv_unhex.f k x2 = some (r2, false)) (ev : Value) (w : World) (he : w.cell? ⟨0, 0, none⟩ = some ev) :
    Calls Tryf.prog 42 #[.string s, .int .u8 34] w fun e w' => e = .returned (.tuple #[.int .i32 0, .bool false, .string ⟨#[]⟩, ev]) ∧ ∃ q, w' = w.drewN q := by
  have q0 : (0 < n) = True := eq_true (by omega)
  have q1 : (1 < n) = True := eq_true (by omega)
  have z0 : ((n : Int) == 0) = false := beq_eq_false_iff_ne.2 (by omega)
  have z1 : ((n : Int) ≤ 1) = False := eq_false (by omega)
  have z1n : (n ≤ 1) = False := eq_false (by omega)
  have z2 : ((2 : Int) ≤ (n : Int)) = True := eq_true (by omega)
  have z2n : (2 ≤ n) = True := eq_true (by omega)
  have z3 : ((m : Int) < 2) = False := eq_false (by omega)
  have z3n : (m < 2) = False := eq_false (by omega)
  have H1 := Aside0.mk hv1
  have H2 := Aside0.mk hv2
  have hn4 : 4 ≤ n := by omega
  clear hv1 hv2 hnm
  go_enter Tryf.func42, Tryf.ntmps42
  go_wp2
  repeat (go_quiet (fail); try go_wp2)
  · go_loopg [7, 13, 14] 2 (fun kq v7 v13 v14 wr => ∃ (j : Nat) (v : Int), v7 = .nilIface ∧ v14 = .int .i64 j ∧ v13 = .int .i32 v ∧ j ≤ 1 ∧ Hid (kq = 2 - j) ∧ Aside0 (∃ q, wr = w.drewN q) ∧ wr.cell? ⟨0, 0, none⟩ = some ev)
    case atStart => exact ⟨0, 0, rfl, rfl, rfl, by omega, rfl, ⟨0, rfl⟩, he⟩
    case round =>
      obtain ⟨j, v, rfl, rfl, rfl, hj, HK, HW, hew⟩ := hrel
      rcases (show j = 0 ∨ j = 1 by omega) with rfl | rfl
      · have q3 : (0 < m) = True := eq_true (by omega)
        go_wp2_with (go_at_call 48; refine (strconv_unhex.calls k x1 v1 true _ H1.out).mono ?_; rintro e w1 ⟨rfl, nd, rfl⟩)
        go_roundg 1
        case measure => have := HK.out; omega
        case rel =>
          obtain ⟨q, hq⟩ := HW.out
          exact ⟨1, _, rfl, rfl, rfl, by omega, rfl, ⟨q + nd, by rw [hq, World.drewN_drewN]⟩, hew⟩
      · have q3 : (1 < m) = True := eq_true (by omega)
        go_wp2_with (go_at_call 48; refine (strconv_unhex.calls k x2 r2 false _ H2.out).mono ?_; rintro e w1 ⟨rfl, nd, rfl⟩)
        (try simp only [Exit.inBlock, Exit.then]); refine bodyPost_ret (results_tmp4 rfl _ _ _) rfl ?_
        obtain ⟨q, hq⟩ := HW.out
        rw [hq]
        exact ⟨rfl, _, World.drewN_drewN _ _ _⟩

end Go.Proofs.YtcjiafjahfmdoaaFmt.A
namespace Go.Proofs.YtcjiafjahfmdoaaFmt.A
set_option linter.unusedVariables false
set_option linter.unusedSimpArgs false
open Go.RowKit Go.Shelf Go.Proofs.YtcjiafjahfmdoaaFmtW.PrintWords Go.Proofs.YtcjiafjahfmdoaaFmtW.PrintLast Go.Proofs.YtcjiafjahfmdoaaFmtW.PrintMore

/-- The value of a hexadecimal digit. -/
def hexV (b : UInt8) : Option Nat :=
  if 48 ≤ b.toNat ∧ b.toNat ≤ 57 then some (b.toNat - 48) else if 97 ≤ b.toNat ∧ b.toNat ≤ 102 then some (b.toNat - 87) else if 65 ≤ b.toNat ∧ b.toNat ≤ 70 then some (b.toNat - 55) else none
/-- What a letter behind a backslash tells. -/
def escV (e : UInt8) : Option UInt8 :=
  if e = 97 then some 7 else if e = 98 then some 8 else if e = 102 then some 12 else if e = 110 then some 10 else if e = 114 then some 13 else if e = 116 then some 9 else if e = 118 then some 11 else if e = 92 then some 92 else if e = 34 then some 34 else none
/-- One sign of a quoted text: its byte, and the rest. -/
def uq : List UInt8 → Option (UInt8 × List UInt8)
  | [] => none
  | c :: t => if c = 92 then (match t with
      | [] => none
      | e :: r => match escV e with
        | some v => some (v, r)
        | none => if e = 120 then (match r with
            | h1 :: h2 :: r' => match hexV h1, hexV h2 with
              | some a, some b => some (UInt8.ofNat (16 * a + b), r')
              | _, _ => none
            | _ => none) else none)
    else some (c, t)
/-- Its escape is none of which nothing is told. -/
def Told : List UInt8 → Prop
  | 92 :: e :: _ => e ≠ 117 ∧ e ≠ 85 ∧ ¬ (48 ≤ e.toNat ∧ e.toNat ≤ 55)
  | _ => True

def uqV (ev : Value) : Option (UInt8 × List UInt8) → Value
  | some (v, r) => .tuple #[.int .i32 (v.toNat : Int), .bool false, .string ⟨r.toArray⟩, .nilIface]
  | none => .tuple #[.int .i32 0, .bool false, .string ⟨#[]⟩, ev]

theorem unhex_of (b : UInt8) : strconv_unhex.f 3 (b.toNat : Int) = some (match hexV b with | some a => ((a : Int), true) | none => (0, false)) := by
  have h : ∀ x : Fin 256, strconv_unhex.f 3 ((UInt8.ofNat x.val).toNat : Int) = some (match hexV (UInt8.ofNat x.val) with | some a => ((a : Int), true) | none => (0, false)) := by decide +kernel
  have := h ⟨b.toNat, b.toNat_lt⟩
  simpa using this

theorem hex_or (a b : Fin 16) : bits .or .i32 0 (a.val : Int) = (a.val : Int) ∧ bits .or .i32 (wrap32 ((a.val : Int) * 16)) (b.val : Int) = 16 * (a.val : Int) + (b.val : Int) := by
  revert a b
  decide +kernel

theorem hexV_lt {b : UInt8} {a : Nat} (h : hexV b = some a) : a < 16 := by
  unfold hexV at h
  split at h
  · cases h; omega
  · split at h
    · cases h; omega
    · split at h
      · cases h; omega
      · cases h

theorem sz_of {s : ByteArray} {l : List UInt8} (h : s.data.toList = l) : s.size = l.length := by
  rw [← h]; exact Lib.size_eq s
theorem at_of {s : ByteArray} {l : List UInt8} (h : s.data.toList = l) (i : Nat) (b : UInt8) (hb : l[i]? = some b) : ∀ h : i < s.size, ((s[i]'h).toNat : Int) = (b.toNat : Int) := by
  intro hi
  subst h
  have : s.data.toList[i]? = some (s[i]'hi) := by rw [List.getElem?_eq_getElem (by rw [← Lib.size_eq]; exact hi)]; rfl
  rw [this] at hb
  cases hb
  rfl
theorem ex_of {s : ByteArray} {l : List UInt8} (h : s.data.toList = l) (i n : Nat) (hn : s.size = n) : s.extract i n = ⟨(l.drop i).toArray⟩ := by
  subst h
  subst hn
  apply ByteArray.ext
  apply Array.ext'
  rw [ByteArray.data_extract, Array.toList_extract, List.extract_eq_take_drop, List.take_of_length_le]
  rw [List.length_drop, Lib.size_eq]
  exact Nat.le_refl _

theorem hexV_fin {b : UInt8} {a : Nat} (h : hexV b = some a) : ∃ x : Fin 16, x.val = a := ⟨⟨a, hexV_lt h⟩, rfl⟩

theorem escV_none {e : UInt8} (h : escV e = none) : e ≠ 97 ∧ e ≠ 98 ∧ e ≠ 102 ∧ e ≠ 110 ∧ e ≠ 114 ∧ e ≠ 116 ∧ e ≠ 118 ∧ e ≠ 92 ∧ e ≠ 34 := by
  refine ⟨?_, ?_, ?_, ?_, ?_, ?_, ?_, ?_, ?_⟩ <;> (intro g; rw [g] at h; exact absurd h (by decide))

theorem nat_ne {e : UInt8} {k : Nat} (h : e.toNat ≠ k) : ((e.toNat : Int) == (k : Int)) = false := beq_eq_false_iff_ne.2 (by omega)
theorem u8_ne {e : UInt8} {x : UInt8} (h : e ≠ x) : e.toNat ≠ x.toNat := fun g => h (UInt8.toNat_inj.1 g)

theorem char_any (s : ByteArray) (l : List UInt8) (hl : s.data.toList = l) (hasc : ∀ b ∈ l, b.toNat < 128) (hne : l ≠ []) (hq : l.head? ≠ some 34) (hT : Told l) (ev : Value) (w : World) (he : w.cell? ⟨0, 0, none⟩ = some ev) :
    Calls Tryf.prog 42 #[.string s, .int .u8 34] w fun e w' => e = .returned (uqV ev (uq l)) ∧ ∃ q, w' = w.drewN q := by
  have hs := sz_of hl
  cases l with
  | nil => exact absurd rfl hne
  | cons c t =>
    have hb0 := at_of hl 0 c rfl
    have e1 := ex_of hl 1 _ hs
    have e2 := ex_of hl 2 _ hs
    have hc34 : c ≠ 34 := fun g => hq (by rw [g]; rfl)
    by_cases hc : c = 92
    · subst hc
      cases t with
      | nil =>
        simp only [uq, if_pos]
        exact char_lone s ev hs hb0 w he
      | cons e r =>
        have hb1 := at_of hl 1 e rfl
        have h2 : 2 ≤ (92 :: e :: r).length := by simp
        cases hv : escV e with
        | some v =>
          have hu : uq (92 :: e :: r) = some (v, r) := by simp only [uq, if_pos, hv]
          rw [hu]
          unfold escV at hv
          split at hv
          · rename_i g; subst g; cases hv; exact char_e97 s _ _ hs h2 hb0 hb1 e2 w
          · split at hv
            · rename_i g; subst g; cases hv; exact char_e98 s _ _ hs h2 hb0 hb1 e2 w
            · split at hv
              · rename_i g; subst g; cases hv; exact char_e102 s _ _ hs h2 hb0 hb1 e2 w
              · split at hv
                · rename_i g; subst g; cases hv; exact char_e110 s _ _ hs h2 hb0 hb1 e2 w
                · split at hv
                  · rename_i g; subst g; cases hv; exact char_e114 s _ _ hs h2 hb0 hb1 e2 w
                  · split at hv
                    · rename_i g; subst g; cases hv; exact char_e116 s _ _ hs h2 hb0 hb1 e2 w
                    · split at hv
                      · rename_i g; subst g; cases hv; exact char_e118 s _ _ hs h2 hb0 hb1 e2 w
                      · split at hv
                        · rename_i g; subst g; cases hv; exact char_e92 s _ _ hs h2 hb0 hb1 e2 w
                        · split at hv
                          · rename_i g; subst g; cases hv; exact char_e34 s _ _ hs h2 hb0 hb1 e2 w
                          · cases hv
        | none =>
          obtain ⟨n97, n98, n102, n110, n114, n116, n118, n92, n34⟩ := escV_none hv
          obtain ⟨n117, n85, nd⟩ := hT
          by_cases hx : e = 120
          · subst hx
            have ht : (ByteArray.mk (List.drop 2 (92 :: 120 :: r)).toArray).data.toList = r := rfl
            have hts := sz_of ht
            have f2 := ex_of ht 2 _ hts
            cases r with
            | nil =>
              have hu : uq (92 :: 120 :: ([] : List UInt8)) = none := by simp only [uq, if_pos, hv]
              rw [hu]
              exact char_hex_short 3 s _ ⟨#[]⟩ _ _ rfl (by simp) hs hts hb0 hb1 e2 ev w he
            | cons h1 r1 =>
              cases r1 with
              | nil =>
                have hu : uq (92 :: 120 :: h1 :: ([] : List UInt8)) = none := by simp only [uq, if_pos, hv]
                rw [hu]
                exact char_hex_short 3 s _ ⟨#[]⟩ _ _ rfl (by simp) hs hts hb0 hb1 e2 ev w he
              | cons h2' r2 =>
                have g0 := at_of ht 0 h1 rfl
                have g1 := at_of ht 1 h2' rfl
                have u1 := unhex_of h1
                have u2 := unhex_of h2'
                cases x1 : hexV h1 with
                | none =>
                  rw [x1] at u1
                  have hu : uq (92 :: 120 :: h1 :: h2' :: r2) = none := by simp only [uq, if_pos, hv, x1]
                  rw [hu]
                  exact char_hex_bad1 3 s _ ⟨#[]⟩ _ _ rfl (by simp) hs hts hb0 hb1 e2 _ _ g0 u1 ev w he
                | some a =>
                  rw [x1] at u1
                  cases x2 : hexV h2' with
                  | none =>
                    rw [x2] at u2
                    have hu : uq (92 :: 120 :: h1 :: h2' :: r2) = none := by simp only [uq, if_pos, hv, x1, x2]
                    rw [hu]
                    exact char_hex_bad2 3 s _ ⟨#[]⟩ _ _ rfl (by simp) hs hts hb0 hb1 e2 _ _ _ _ g0 g1 u1 u2 ev w he
                  | some b =>
                    rw [x2] at u2
                    have hu : uq (92 :: 120 :: h1 :: h2' :: r2) = some (UInt8.ofNat (16 * a + b), r2) := by simp only [uq, if_pos, hv, x1, x2]
                    have ha := hexV_lt x1
                    have hb := hexV_lt x2
                    obtain ⟨o1, o2⟩ := hex_or ⟨a, ha⟩ ⟨b, hb⟩
                    rw [hu]
                    have := char_hex 3 s _ _ _ _ rfl (by simp) hs hts hb0 hb1 e2 _ _ _ _ g0 g1 f2 o1 o2 u1 u2 w
                    have e : ((UInt8.ofNat (16 * a + b)).toNat : Int) = 16 * (a : Int) + (b : Int) := by
                      rw [UInt8.toNat_ofNat_of_lt' (by show _ < 256; omega)]
                      omega
                    simp only [uqV]
                    rw [e]
                    exact this
          · by_cases h39 : e = 39
            · subst h39
              have hu : uq (92 :: 39 :: r) = none := by simp only [uq, if_pos, hv]; rfl
              rw [hu]
              exact char_tick s _ _ hs h2 hb0 ev hb1 e2 w he
            · have hu : uq (92 :: e :: r) = none := by simp only [uq, if_pos, hv]; rw [if_neg hx]
              rw [hu]
              exact char_bad s _ _ hs h2 hb0 _ ev hb1 e2 w he (nat_ne (u8_ne n97)) (nat_ne (u8_ne n98)) (nat_ne (u8_ne n102)) (nat_ne (u8_ne n110)) (nat_ne (u8_ne n114)) (nat_ne (u8_ne n116)) (nat_ne (u8_ne n118)) (nat_ne (u8_ne hx)) (nat_ne (u8_ne n117)) (nat_ne (u8_ne n85))
                (nat_ne (k := 48) (by omega)) (nat_ne (k := 49) (by omega)) (nat_ne (k := 50) (by omega)) (nat_ne (k := 51) (by omega)) (nat_ne (k := 52) (by omega)) (nat_ne (k := 53) (by omega)) (nat_ne (k := 54) (by omega)) (nat_ne (k := 55) (by omega)) (nat_ne (u8_ne n92)) (nat_ne (u8_ne h39)) (nat_ne (u8_ne n34))
    · have hu : uq (c :: t) = some (c, t) := by simp only [uq, if_neg hc]
      rw [hu]
      have h128 := hasc c (List.mem_cons_self)
      refine char_plain s _ _ (c.toNat : Int) hs (by simp) (by omega) hb0 e1 ?_ ?_ (by omega) w
      · have := u8_ne hc34
        have e : (34 : UInt8).toNat = 34 := rfl
        omega
      · have := u8_ne hc
        have e : (92 : UInt8).toNat = 92 := rfl
        omega
end Go.Proofs.YtcjiafjahfmdoaaFmt.A
namespace Go.Proofs.YtcjiafjahfmdoaaFmt.A
set_option linter.unusedVariables false
set_option linter.unusedSimpArgs false
open Go.RowKit Go.Shelf Go.Proofs.YtcjiafjahfmdoaaFmtW.PrintWords Go.Proofs.YtcjiafjahfmdoaaFmtW.PrintLast Go.Proofs.YtcjiafjahfmdoaaFmtW.PrintMore

set_option maxHeartbeats 1000000 in
set_option maxRecDepth 100000 in
theorem unq_short (s : ByteArray) (n : Nat) (b : Bool) (ev : Value) (hs : s.size = n) (hn : n < 2) (w : World) (he : w.cell? ⟨0, 0, none⟩ = some ev) :
    Calls Tryf.prog 33 #[.string s, .bool b] w fun e w' => e = .returned (.tuple #[.string ⟨#[]⟩, .string s, ev]) ∧ ∃ q, w' = w.drewN q := by
  have z1 : ((n : Int) < 2) = True := eq_true (by omega)
  have z1n : (n < 2) = True := eq_true (by omega)
  go_enter Tryf.func33, Tryf.ntmps33
  go_wp2
  repeat (go_quiet (fail); try go_wp2)
  go_ret3
  first | exact ⟨rfl, _, rfl⟩ | exact ⟨rfl, 0, rfl⟩ | exact ⟨rfl, _, World.drewN_drewN _ _ _⟩

set_option maxHeartbeats 1000000 in
set_option maxRecDepth 100000 in
theorem unq_none (s t : ByteArray) (n : Nat) (q : Int) (b : Bool) (ev : Value) (hs : s.size = n) (hn : 2 ≤ n) (hb0 : ∀ h : 0 < s.size, ((s[0]'h).toNat : Int) = q) (ht : s.extract 1 n = t) (hJ : Lib.indexByte t.data.toList q.toNat.toUInt8 = -1) (w : World) (he : w.cell? ⟨0, 0, none⟩ = some ev) :
    Calls Tryf.prog 33 #[.string s, .bool b] w fun e w' => e = .returned (.tuple #[.string ⟨#[]⟩, .string s, ev]) ∧ ∃ q, w' = w.drewN q := by
  have z1 : ((n : Int) < 2) = False := eq_false (by omega)
  have z1n : (n < 2) = False := eq_false (by omega)
  have q0 : (0 < n) = True := eq_true (by omega)
  have hn1 : 1 ≤ n := by omega
  have hi := fun w => index_any t q w
  rw [hJ] at hi
  clear hJ
  go_enter Tryf.func33, Tryf.ntmps33
  go_wp2_with (go_at_call 39; refine (hi _).mono ?_; rintro e w1 ⟨rfl, rfl⟩)
  repeat (go_quiet (fail); try go_wp2)
  go_ret3
  first | exact ⟨rfl, _, rfl⟩ | exact ⟨rfl, 0, rfl⟩ | exact ⟨rfl, _, World.drewN_drewN _ _ _⟩

set_option maxHeartbeats 1000000 in
set_option maxRecDepth 100000 in
theorem unq_tick (s t p r : ByteArray) (n J E : Nat) (hE : E = J + 2) (hs : s.size = n) (hn9 : n ≤ 1000000000) (hb0 : ∀ h : 0 < s.size, ((s[0]'h).toNat : Int) = 96) (ht : s.extract 1 n = t) (hJ : Lib.indexByte t.data.toList 96 = (J : Int)) (hEn : E ≤ n) (hp : s.extract 0 E = p) (hr : s.extract E n = r) (w : World) :
    Calls Tryf.prog 33 #[.string s, .bool false] w fun e w' => e = .returned (.tuple #[.string p, .string r, .nilIface]) ∧ ∃ q, w' = w.drewN q := by
  have z1 : ((n : Int) < 2) = False := eq_false (by omega)
  have z1n : (n < 2) = False := eq_false (by omega)
  have q0 : (0 < n) = True := eq_true (by omega)
  have hn1 : 1 ≤ n := by omega
  have hi := fun w => index_any t 96 w
  rw [show ((96 : Int).toNat.toUInt8) = 96 from rfl, hJ] at hi
  have wE : wrap64 ((J : Int) + 2) = (E : Int) := by unfold wrap64; omega
  have a1 : ((E : Int) ≤ (n : Int)) = True := eq_true (by omega)
  have a2 : (E ≤ n) = True := eq_true (by omega)
  clear hJ hE
  go_enter Tryf.func33, Tryf.ntmps33
  go_wp2_with (go_at_call 39; refine (hi _).mono ?_; rintro e w1 ⟨rfl, rfl⟩)
  repeat (go_quiet (fail); try go_wp2)
  go_ret3
  first | exact ⟨rfl, _, rfl⟩ | exact ⟨rfl, 0, rfl⟩ | exact ⟨rfl, _, World.drewN_drewN _ _ _⟩

set_option maxHeartbeats 1000000 in
set_option maxRecDepth 100000 in
theorem unq_tick_un (s t p r z : ByteArray) (n J E D : Nat) (hE : E = J + 2) (hD : E = D + 1) (hs : s.size = n) (hn9 : n ≤ 1000000000) (hb0 : ∀ h : 0 < s.size, ((s[0]'h).toNat : Int) = 96) (ht : s.extract 1 n = t) (hJ : Lib.indexByte t.data.toList 96 = (J : Int)) (hEn : E ≤ n) (hz : s.extract 0 E = z) (hcr : z.data.toList.contains 13 = false) (hp : s.extract 1 D = p) (hr : s.extract E n = r) (w : World) :
    Calls Tryf.prog 33 #[.string s, .bool true] w fun e w' => e = .returned (.tuple #[.string p, .string r, .nilIface]) ∧ ∃ q, w' = w.drewN q := by
  have z1 : ((n : Int) < 2) = False := eq_false (by omega)
  have z1n : (n < 2) = False := eq_false (by omega)
  have q0 : (0 < n) = True := eq_true (by omega)
  have hn1 : 1 ≤ n := by omega
  have hi := fun w => index_any t 96 w
  rw [show ((96 : Int).toNat.toUInt8) = 96 from rfl, hJ] at hi
  have wE : wrap64 ((J : Int) + 2) = (E : Int) := by unfold wrap64; omega
  have a1 : ((E : Int) ≤ (n : Int)) = True := eq_true (by omega)
  have a2 : (E ≤ n) = True := eq_true (by omega)
  have wE1 : ((E : Int) - 1) = (D : Int) := by omega
  have a3 : ((1 : Int) ≤ (D : Int)) = True := eq_true (by omega)
  have a4 : ((D : Int) ≤ (n : Int)) = True := eq_true (by omega)
  have a5 : (1 ≤ D) = True := eq_true (by omega)
  have a6 : (D ≤ n) = True := eq_true (by omega)
  clear hJ hE hD
  have hc := fun w => contains_any z 13 w
  rw [show ((13 : Int).toNat.toUInt8) = 13 from rfl, hcr] at hc
  go_enter Tryf.func33, Tryf.ntmps33
  go_wp2_with (first
    | (go_at_call 39; refine (hi _).mono ?_; clear hi; rintro e w1 ⟨rfl, rfl⟩)
    | (go_at_call 40; refine (hc _).mono ?_; rintro e w1 ⟨rfl, rfl⟩))
  repeat (go_quiet (fail); try go_wp2)
  go_ret3
  first | exact ⟨rfl, _, rfl⟩ | exact ⟨rfl, 0, rfl⟩ | exact ⟨rfl, _, World.drewN_drewN _ _ _⟩

set_option maxHeartbeats 2000000 in
set_option maxRecDepth 100000 in
theorem unq_flat (s t z v r : ByteArray) (n J E D : Nat) (hE : E = J + 2) (hD : E = D + 1) (hs : s.size = n) (hn9 : n ≤ 1000000000) (hb0 : ∀ h : 0 < s.size, ((s[0]'h).toNat : Int) = 34) (ht : s.extract 1 n = t) (hJ : Lib.indexByte t.data.toList 34 = (J : Int)) (hEn : E ≤ n) (hz : s.extract 0 E = z) (hc92 : z.data.toList.contains 92 = false) (hc10 : z.data.toList.contains 10 = false) (hv : s.extract 1 D = v) (hr : s.extract E n = r) (w : World) (hV : ∀ w', Below w.heap.size w w' → Calls Tryf.prog 41 #[.string v] w' fun e w'' => e = .returned (.bool true) ∧ Below w'.heap.size w' w'') :
    Calls Tryf.prog 33 #[.string s, .bool false] w fun e w' => e = .returned (.tuple #[.string z, .string r, .nilIface]) ∧ Below w.heap.size w w' := by
  have z1 : ((n : Int) < 2) = False := eq_false (by omega)
  have z1n : (n < 2) = False := eq_false (by omega)
  have q0 : (0 < n) = True := eq_true (by omega)
  have hn1 : 1 ≤ n := by omega
  have hi := fun w => index_any t 34 w
  rw [show ((34 : Int).toNat.toUInt8) = 34 from rfl, hJ] at hi
  have wE : wrap64 ((J : Int) + 2) = (E : Int) := by unfold wrap64; omega
  have a1 : ((E : Int) ≤ (n : Int)) = True := eq_true (by omega)
  have a2 : (E ≤ n) = True := eq_true (by omega)
  have wE1 : ((E : Int) - 1) = (D : Int) := by omega
  have a3 : ((1 : Int) ≤ (D : Int)) = True := eq_true (by omega)
  have a4 : ((D : Int) ≤ (n : Int)) = True := eq_true (by omega)
  have a5 : (1 ≤ D) = True := eq_true (by omega)
  have a6 : (D ≤ n) = True := eq_true (by omega)
  have a7 : ((D : Int) ≤ (E : Int)) = True := eq_true (by omega)
  have a8 : (D ≤ E) = True := eq_true (by omega)
  have h92 := fun w => contains_any z 92 w
  rw [show ((92 : Int).toNat.toUInt8) = 92 from rfl, hc92] at h92
  have h10 := fun w => contains_any z 10 w
  rw [show ((10 : Int).toNat.toUInt8) = 10 from rfl, hc10] at h10
  have HV : Aside0 (∀ w', Below w.heap.size w w' → Calls Tryf.prog 41 #[.string v] w' fun e w'' => e = .returned (.bool true) ∧ Below w'.heap.size w' w'') := ⟨hV⟩
  clear hJ hE hD hc92 hc10 hV
  go_enter Tryf.func33, Tryf.ntmps33
  go_wp2_with (first
    | (go_at_call 39; refine (hi _).mono ?_; clear hi; rintro e w1 ⟨rfl, rfl⟩)
    | (go_at_call 40; refine (h92 _).mono ?_; clear h92; rintro e w1 ⟨rfl, rfl⟩)
    | (go_at_call 40; refine (h10 _).mono ?_; clear h10; rintro e w1 ⟨rfl, rfl⟩)
    | (go_at_call 41; refine (HV.out _ (Below.refl _ _)).mono ?_; rintro e w2 ⟨rfl, hB⟩; have HB := Aside0.mk hB; clear hB))
  repeat (go_quiet (fail); try go_wp2)
  go_ret3
  first | exact ⟨rfl, HB.out⟩ | exact ⟨rfl, pw_below_drewN HB.out _⟩ | exact ⟨rfl, pw_below_drewN (pw_below_drewN HB.out _) _⟩

set_option maxHeartbeats 2000000 in
set_option maxRecDepth 100000 in
theorem unq_flat_un (s t z v r p : ByteArray) (n J E D : Nat) (hE : E = J + 2) (hD : E = D + 1) (hs : s.size = n) (hn9 : n ≤ 1000000000) (hb0 : ∀ h : 0 < s.size, ((s[0]'h).toNat : Int) = 34) (ht : s.extract 1 n = t) (hJ : Lib.indexByte t.data.toList 34 = (J : Int)) (hEn : E ≤ n) (hz : s.extract 0 E = z) (hc92 : z.data.toList.contains 92 = false) (hc10 : z.data.toList.contains 10 = false) (hv : s.extract 1 D = v) (hr : s.extract E n = r) (hzs : z.size = E) (hp : z.extract 1 D = p) (w : World) (hV : ∀ w', Below w.heap.size w w' → Calls Tryf.prog 41 #[.string v] w' fun e w'' => e = .returned (.bool true) ∧ Below w'.heap.size w' w'') :
    Calls Tryf.prog 33 #[.string s, .bool true] w fun e w' => e = .returned (.tuple #[.string p, .string r, .nilIface]) ∧ Below w.heap.size w w' := by
  have z1 : ((n : Int) < 2) = False := eq_false (by omega)
  have z1n : (n < 2) = False := eq_false (by omega)
  have q0 : (0 < n) = True := eq_true (by omega)
  have hn1 : 1 ≤ n := by omega
  have hi := fun w => index_any t 34 w
  rw [show ((34 : Int).toNat.toUInt8) = 34 from rfl, hJ] at hi
  have wE : wrap64 ((J : Int) + 2) = (E : Int) := by unfold wrap64; omega
  have a1 : ((E : Int) ≤ (n : Int)) = True := eq_true (by omega)
  have a2 : (E ≤ n) = True := eq_true (by omega)
  have wE1 : ((E : Int) - 1) = (D : Int) := by omega
  have a3 : ((1 : Int) ≤ (D : Int)) = True := eq_true (by omega)
  have a4 : ((D : Int) ≤ (n : Int)) = True := eq_true (by omega)
  have a5 : (1 ≤ D) = True := eq_true (by omega)
  have a6 : (D ≤ n) = True := eq_true (by omega)
  have a7 : ((D : Int) ≤ (E : Int)) = True := eq_true (by omega)
  have a8 : (D ≤ E) = True := eq_true (by omega)
  have h92 := fun w => contains_any z 92 w
  rw [show ((92 : Int).toNat.toUInt8) = 92 from rfl, hc92] at h92
  have h10 := fun w => contains_any z 10 w
  rw [show ((10 : Int).toNat.toUInt8) = 10 from rfl, hc10] at h10
  have HV : Aside0 (∀ w', Below w.heap.size w w' → Calls Tryf.prog 41 #[.string v] w' fun e w'' => e = .returned (.bool true) ∧ Below w'.heap.size w' w'') := ⟨hV⟩
  clear hJ hE hD hc92 hc10 hV
  go_enter Tryf.func33, Tryf.ntmps33
  go_wp2_with (first
    | (go_at_call 39; refine (hi _).mono ?_; clear hi; rintro e w1 ⟨rfl, rfl⟩)
    | (go_at_call 40; refine (h92 _).mono ?_; clear h92; rintro e w1 ⟨rfl, rfl⟩)
    | (go_at_call 40; refine (h10 _).mono ?_; clear h10; rintro e w1 ⟨rfl, rfl⟩)
    | (go_at_call 41; refine (HV.out _ (Below.refl _ _)).mono ?_; rintro e w2 ⟨rfl, hB⟩; have HB := Aside0.mk hB; clear hB))
  repeat (go_quiet (fail); try go_wp2)
  go_ret3
  first | exact ⟨rfl, HB.out⟩ | exact ⟨rfl, pw_below_drewN HB.out _⟩ | exact ⟨rfl, pw_below_drewN (pw_below_drewN HB.out _) _⟩

end Go.Proofs.YtcjiafjahfmdoaaFmt.A
