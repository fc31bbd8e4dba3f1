import Derived.Test.Qxb6612599aFmtRows
import Derived.Stop.CallBack
import Derived.Stop.IfaceNil
import Derived.Laws.Cells
import Derived.WalkKit
import Derived.Deep.RegionWith
import Derived.WalkSpells
import Derived.WalkLawsBesides
namespace Go.Proofs.Qxb6612599aFmt
open Go.RowKit Go.Extern.Stop Go.Stop Go.Extern

theorem call25 (args : Array Value) (w : World) : (callFunc 25 args).run Tryf.prog w = ((FmtStop.errorf #[9, 51] #[31] args).run Tryf.prog w).andThen fun v w' => .ok (.value v) w' :=
  run_callFunc_extern Tryf.func25 (by kernel_rfl) (by kernel_rfl) (by kernel_rfl) (by kernel_rfl) args w
theorem call23 (args : Array Value) (w : World) : (callFunc 23 args).run Tryf.prog w = (FmtCalls.sprintf #[9, 51] #[9] args).run Tryf.prog w :=
  run_callFunc_next Tryf.func23 (by kernel_rfl) (by kernel_rfl) (by kernel_rfl) args w
theorem guardF (name : String) (w : World) : (FmtStop.guard name).run Tryf.prog w = .ok () w := by kernel_rfl
theorem nextTurns : Extern.next FmtCalls.turnsRow = some (FmtCalls.begun #[] #[]) := by kernel_rfl
-- "bencode: at byte %d: %s"
theorem fmtB (w : World) : (FmtDoors.printed ⟨#[98, 101, 110, 99, 111, 100, 101, 58, 32, 97, 116, 32, 98, 121, 116, 101, 32, 37, 100, 58, 32, 37, 115]⟩ 2).run Tryf.prog w = .ok [(0, 100, false), (1, 115, false)] w := by kernel_rfl
def shape3 : List UInt8 := [5, 3, 0, 0, 0, 0, 0, 0, 0, 105, 110, 116]
theorem op3_100w (name : String) (x : Int) (w : World) : (FmtStop.operand name true 100 false (.iface 3 (.int .i64 x))).run Tryf.prog w = .ok (shape3, Go.Extern.Stop.digits 8 (x % 2 ^ 64).toNat) w := by kernel_rfl
def shape9 : List UInt8 := [12, 6, 0, 0, 0, 0, 0, 0, 0, 115, 116, 114, 105, 110, 103]
theorem op9_115w (name : String) (s : ByteArray) (w : World) : (FmtStop.operand name true 115 false (.iface 9 (.string s))).run Tryf.prog w = .ok (shape9, FmtStop.pack s.data.toList) w := by kernel_rfl
theorem ptr54 (w : World) : (FmtStop.ptrTo "errors.errorString").run Tryf.prog w = .ok 54 w := by kernel_rfl
theorem elem54 (w : World) : (elemOf 54).run Tryf.prog w = .ok 56 w := by kernel_rfl
attribute [local go_sem] call25 guardF fmtB op3_100w op9_115w ptr54 elem54

set_option maxHeartbeats 800000 in
theorem errorf22 (F : Interp) (p : Int) (s : ByteArray) (c : Nat) (w : World) (hF : F.answers w.tape)
    (h0 : w.cell? ⟨c, 0, none⟩ = some (.iface 3 (.int .i64 p))) (h1 : w.cell? ⟨c, 1, none⟩ = some (.iface 9 (.string s))) :
    Calls Tryf.prog 22 #[.string ⟨#[98, 101, 110, 99, 111, 100, 101, 58, 32, 97, 116, 32, 98, 121, 116, 101, 32, 37, 100, 58, 32, 37, 115]⟩, .slice (some ⟨c, 0, none⟩) 2 2] w
      fun e w' => e = .returned (.iface 54 (.pointer (some ⟨w.heap.size, 0, none⟩))) ∧ ∃ t, w' = (w.alloc (.cells #[.string t] 56)).drew := by
  have hF' := answers_open hF
  go_enter Tryf.func22, Tryf.ntmps22
  go_wp2
  go_ret
  exact ⟨rfl, _, rfl⟩

set_option maxHeartbeats 1600000 in
theorem errorf18 (F : Interp) (b : Nat) (p : Int) (f : ByteArray) (A : Value) (sv : Array Value) (t : ByteArray) (w : World) (hF : F.answers w.tape)
    (hpos : w.cell? ⟨b, 1, none⟩ = some (.int .i64 p))
    (hs1 : (callFunc 23 #[.string f, A]).run Tryf.prog w.drew = .ok (.row FmtCalls.turnsRow sv) w.drew)
    (hs2 : (FmtCalls.begun #[] #[] sv).run Tryf.prog w.drew = .ok (.value (.string t)) w.drew.drew) :
    Calls Tryf.prog 18 #[.pointer (some ⟨b, 0, none⟩), .string f, A] w
      fun e w' => ∃ a, e = .returned (.iface 54 (.pointer (some a))) ∧ Below w.heap.size w w' := by
  go_enter Tryf.func18, Tryf.ntmps18
  go_wp2
  go_region_with (first | (apply rows_value nextTurns hs2) | (go_at_call 22; refine (errorf22 F p t _ _ ?_ ?_ ?_).mono ?_; exact hF; go_simp; go_simp; rintro e w' ⟨rfl, t2, rfl⟩))
  all_goals
    go_wp2
    go_ret
    exact ⟨_, rfl, (((((Below.refl _ w).alloc (Nat.le_refl _) _).alloc (by simp) _).drew).drew).drew⟩

/-- What a call of 'errorf' comes to: some error that is not nil; nothing old has turned. -/
def ErrAt (b : Nat) (f : ByteArray) (A : Value) (w : World) : Prop :=
  Calls Tryf.prog 18 #[.pointer (some ⟨b, 0, none⟩), .string f, A] w fun e w' => ∃ a, e = .returned (.iface 54 (.pointer (some a))) ∧ Below w.heap.size w w'

theorem fmtEnd : FmtStop.printed? ⟨#[117, 110, 101, 120, 112, 101, 99, 116, 101, 100, 32, 101, 110, 100, 32, 111, 102, 32, 100, 97, 116, 97]⟩ 0 = some [] := by kernel_rfl
theorem fmtByte : FmtStop.printed? ⟨#[117, 110, 101, 120, 112, 101, 99, 116, 101, 100, 32, 98, 121, 116, 101, 32, 37, 113]⟩ 1 = some [(0, 113, false)] := by kernel_rfl
theorem fmtWant : FmtStop.printed? ⟨#[119, 97, 110, 116, 32, 37, 115, 44, 32, 102, 111, 117, 110, 100, 32, 37, 115]⟩ 2 = some [(0, 115, false), (1, 115, false)] := by kernel_rfl
theorem fmtDec : FmtStop.printed? ⟨#[110, 117, 109, 98, 101, 114, 32, 37, 46, 50, 48, 113, 32, 105, 115, 32, 110, 111, 116, 32, 100, 101, 99, 105, 109, 97, 108]⟩ 1 = some [(0, 113, false)] := by kernel_rfl
theorem fmtCan : FmtStop.printed? ⟨#[110, 117, 109, 98, 101, 114, 32, 37, 46, 50, 48, 113, 32, 105, 115, 32, 110, 111, 116, 32, 99, 97, 110, 111, 110, 105, 99, 97, 108]⟩ 1 = some [(0, 113, false)] := by kernel_rfl
theorem fmtRan : FmtStop.printed? ⟨#[110, 117, 109, 98, 101, 114, 32, 37, 46, 50, 48, 113, 32, 105, 115, 32, 111, 117, 116, 32, 111, 102, 32, 114, 97, 110, 103, 101]⟩ 1 = some [(0, 113, false)] := by kernel_rfl
theorem fmtPast : FmtStop.printed? ⟨#[115, 116, 114, 105, 110, 103, 32, 111, 102, 32, 37, 100, 32, 98, 121, 116, 101, 115, 32, 114, 117, 110, 115, 32, 112, 97, 115, 116, 32, 116, 104, 101, 32, 101, 110, 100, 32, 111, 102, 32, 100, 97, 116, 97]⟩ 1 = some [(0, 100, false)] := by kernel_rfl

theorem act2_100 (name : String) (x : Value) (w : World) : (FmtCalls.act name false 100 false (.iface 2 x)).run Tryf.prog w = .ok (.closed false) w := by kernel_rfl
theorem act5_113 (name : String) (x : Value) (w : World) : (FmtCalls.act name false 113 false (.iface 5 x)).run Tryf.prog w = .ok (.closed false) w := by kernel_rfl
theorem act9_115 (name : String) (x : Value) (w : World) : (FmtCalls.act name false 115 false (.iface 9 x)).run Tryf.prog w = .ok (.closed false) w := by kernel_rfl
theorem act22_113 (name : String) (x : Value) (w : World) : (FmtCalls.act name false 113 false (.iface 22 x)).run Tryf.prog w = .ok (.closed false) w := by kernel_rfl
def shape2 : List UInt8 := 5 :: FmtStop.pack "int64".toUTF8.data.toList
def shape5 : List UInt8 := 6 :: FmtStop.pack "uint8".toUTF8.data.toList
theorem op2_100 (name : String) (x : Int) (w : World) : (FmtStop.operand name false 100 false (.iface 2 (.int .i64 x))).run Tryf.prog w = .ok (shape2, Go.Extern.Stop.digits 8 (x % 2 ^ 64).toNat) w := by kernel_rfl
theorem op5_113 (name : String) (x : Int) (w : World) : (FmtStop.operand name false 113 false (.iface 5 (.int .u8 x))).run Tryf.prog w = .ok (shape5, Go.Extern.Stop.digits 8 (x % 2 ^ 64).toNat) w := by kernel_rfl
theorem op9_115 (name : String) (s : ByteArray) (w : World) : (FmtStop.operand name false 115 false (.iface 9 (.string s))).run Tryf.prog w = .ok (shape9, FmtStop.pack s.data.toList) w := by kernel_rfl

theorem errAt_of (F : Interp) (b : Nat) (p : Int) (f : ByteArray) (A : Value) (ps : List (Nat × UInt8 × Bool)) (w : World) (hF : F.answers w.tape) (hpos : w.cell? ⟨b, 1, none⟩ = some (.int .i64 p))
    (h1 : (FmtCalls.sprintf #[9, 51] #[9] #[.string f, A]).run Tryf.prog w.drew = .ok (.row FmtCalls.turnsRow (FmtCalls.save 0 0 A f [] ps)) w.drew)
    (h2 : ∃ t, (FmtCalls.turns 0 0 A f [] ps).run Tryf.prog w.drew = .ok (.value (.string t)) w.drew.drew) : ErrAt b f A w := by
  obtain ⟨t, h2⟩ := h2
  exact errorf18 F b p f A _ t w hF hpos (by rw [call23]; exact h1) (by rw [FmtCalls.run_begun_save]; exact h2)

theorem err_end (F : Interp) (b : Nat) (p : Int) (w : World) (hF : F.answers w.tape) (hpos : w.cell? ⟨b, 1, none⟩ = some (.int .i64 p)) :
    ErrAt b ⟨#[117, 110, 101, 120, 112, 101, 99, 116, 101, 100, 32, 101, 110, 100, 32, 111, 102, 32, 100, 97, 116, 97]⟩ (.slice none 0 0) w := by
  have hF' := answers_open hF
  refine errAt_of F b p _ _ [] w hF hpos ?_ ?_
  · simp [go_sem, guardF, fmtEnd]
  · go_simp

theorem err_byte (F : Interp) (b : Nat) (p x : Int) (c : Nat) (w : World) (hF : F.answers w.tape) (hpos : w.cell? ⟨b, 1, none⟩ = some (.int .i64 p))
    (hc : w.cell? ⟨c, 0, none⟩ = some (.iface 5 (.int .u8 x))) :
    ErrAt b ⟨#[117, 110, 101, 120, 112, 101, 99, 116, 101, 100, 32, 98, 121, 116, 101, 32, 37, 113]⟩ (.slice (some ⟨c, 0, none⟩) 1 1) w := by
  have hF' := answers_open hF
  refine errAt_of F b p _ _ [(0, 113, false)] w hF hpos ?_ ?_
  · simp [go_sem, guardF, fmtByte]
  · simp [go_sem, act5_113, op5_113, hc]

theorem err_want (F : Interp) (b : Nat) (p : Int) (x y : ByteArray) (c : Nat) (w : World) (hF : F.answers w.tape) (hpos : w.cell? ⟨b, 1, none⟩ = some (.int .i64 p))
    (hc : w.cell? ⟨c, 0, none⟩ = some (.iface 9 (.string x))) (hd : w.cell? ⟨c, 1, none⟩ = some (.iface 9 (.string y))) :
    ErrAt b ⟨#[119, 97, 110, 116, 32, 37, 115, 44, 32, 102, 111, 117, 110, 100, 32, 37, 115]⟩ (.slice (some ⟨c, 0, none⟩) 2 2) w := by
  have hF' := answers_open hF
  refine errAt_of F b p _ _ [(0, 115, false), (1, 115, false)] w hF hpos ?_ ?_
  · simp [go_sem, guardF, fmtWant]
  · simp [go_sem, act9_115, op9_115, hc, hd]

theorem err_past (F : Interp) (b : Nat) (p x : Int) (c : Nat) (w : World) (hF : F.answers w.tape) (hpos : w.cell? ⟨b, 1, none⟩ = some (.int .i64 p))
    (hc : w.cell? ⟨c, 0, none⟩ = some (.iface 2 (.int .i64 x))) :
    ErrAt b ⟨#[115, 116, 114, 105, 110, 103, 32, 111, 102, 32, 37, 100, 32, 98, 121, 116, 101, 115, 32, 114, 117, 110, 115, 32, 112, 97, 115, 116, 32, 116, 104, 101, 32, 101, 110, 100, 32, 111, 102, 32, 100, 97, 116, 97]⟩ (.slice (some ⟨c, 0, none⟩) 1 1) w := by
  have hF' := answers_open hF
  refine errAt_of F b p _ _ [(0, 100, false)] w hF hpos ?_ ?_
  · simp [go_sem, guardF, fmtPast]
  · simp [go_sem, act2_100, op2_100, hc]

/-- The shape of []uint8. -/
def nm22 : String := String.ofList ['[', ']', 'u', 'i', 'n', 't', '8']
def shape22 : List UInt8 := 13 :: (FmtStop.pack nm22.toUTF8.data.toList ++ 6 :: FmtStop.pack "uint8".toUTF8.data.toList)
theorem value5 (name : String) (x : Int) (w : World) : (FmtStop.value name FmtStop.depth 5 [.int .u8 x]).run Tryf.prog w = .ok (digits 8 (x % 2 ^ 64).toNat) w := by kernel_rfl
theorem values5 (name : String) (w : World) : ∀ xs : List Int, (List.mapM ((fun c => FmtStop.value name FmtStop.depth 5 [c]) ∘ Value.int IntKind.u8) xs).run Tryf.prog w = .ok (xs.map fun x => digits 8 (x % 18446744073709551616).toNat) w
  | [] => by simp [List.mapM_nil]
  | x :: xs => by
    have ih := values5 name w xs
    have h := value5 name x w
    simp [List.mapM_cons, h, ih, Result.andThen]
theorem opBytes_113 (name : String) (a : Addr) (cap : Nat) (xs : List Int) (w : World) (hc : ∀ j v, (xs.map (Value.int .u8))[j]? = some v → w.cell? (a.add j) = some v) :
    ∃ r : List UInt8 × List UInt8, (FmtStop.operand name false 113 false (.iface 22 (.slice (some a) xs.length cap))).run Tryf.prog w = .ok r w := by
  have h1 : (typeStr 22).run Tryf.prog w = .ok nm22 w := by kernel_rfl
  have d2 : Tryf.t22.desc = .slice 5 := rfl
  have hb : (FmtStop.bare (FmtStop.asked false 113 false) 22).run Tryf.prog w = .ok true w := by kernel_rfl
  have hs : (FmtStop.scalar 5).run Tryf.prog w = .ok true w := by kernel_rfl
  have hy : (Extern.Stop.isByte 5).run Tryf.prog w = .ok true w := by kernel_rfl
  have hw : Tryf.prog.funcs.any (·.name == FmtStop.writeWord) = true := by kernel_rfl
  have hsh : (FmtStop.shape name (FmtStop.asked false 113 false) FmtStop.depth 5).run Tryf.prog w = .ok (6 :: FmtStop.pack "uint8".toUTF8.data.toList) w := by kernel_rfl
  have hl := run_loadCells_list (P := Tryf.prog) w a (xs.map (Value.int .u8)) hc
  rw [List.length_map] at hl
  refine ⟨(shape22, 1 :: (digits 8 xs.length ++ (xs.map fun x => digits 8 (x % 18446744073709551616).toNat).flatten)), ?_⟩
  simp [FmtStop.operand, h1, hb, hs, hy, hsh, hl, values5, shape22]
  intro hno
  obtain ⟨i, hi, _, _, he⟩ := Array.any_iff_exists.1 hw
  exact absurd (by simpa using he) (hno i hi)
theorem err_num (F : Interp) (b : Nat) (p : Int) (f : ByteArray) (hf : FmtStop.printed? f 1 = some [(0, 113, false)]) (a : Addr) (cap : Nat) (xs : List Int) (c : Nat) (w : World) (hF : F.answers w.tape)
    (hpos : w.cell? ⟨b, 1, none⟩ = some (.int .i64 p)) (hx : ∀ j v, (xs.map (Value.int .u8))[j]? = some v → w.cell? (a.add j) = some v)
    (hc : w.cell? ⟨c, 0, none⟩ = some (.iface 22 (.slice (some a) xs.length cap))) :
    ErrAt b f (.slice (some ⟨c, 0, none⟩) 1 1) w := by
  have hF' := answers_open hF
  refine errAt_of F b p _ _ [(0, 113, false)] w hF hpos ?_ ?_
  · simp [go_sem, guardF, hf]
  · obtain ⟨r, hr⟩ := opBytes_113 "fmt.Sprintf" a cap xs w.drew hx
    simp [go_sem, act22_113, hr, hc]
end Go.Proofs.Qxb6612599aFmt
