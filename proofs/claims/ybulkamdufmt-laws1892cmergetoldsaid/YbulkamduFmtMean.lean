/-
  fmt.Errorf behind notANumber (the calling stop: the operand's own String is run), and the mean of a summary: of no value, and of some.
-/
import Derived.Test.YbulkamduFmtSmall
import Derived.Stop.CallBack
import Derived.Stop.IfaceNil
import Derived.SevenToldRow
import GoSem.ClaimData
namespace Go.Proofs.YbulkamduFmt
open Go.RowKit Go.Extern.Stop Go.Stop Go.Extern

/-! ### The closed facts of the stop fmt.errorf at this dump: function 28; operand type 23; the error that it makes: type 71 -/
theorem Ybaf.call28 (args : Array Value) (w : World) : (callFunc 28 args).run Ybaf.prog w = (FmtCalls.errorf #[9, 60] #[28] args).run Ybaf.prog w :=
  run_callFunc_next Ybaf.func28 (by kernel_rfl) (by kernel_rfl) (by kernel_rfl) args w
theorem Ybaf.guard (name : String) (w : World) : (FmtStop.guard name).run Ybaf.prog w = .ok () w := by kernel_rfl
theorem Ybaf.nextTurns : Extern.next FmtCalls.turnsRow = some (FmtCalls.begun #[] #[]) := by kernel_rfl
theorem Ybaf.nextReturned : Extern.next FmtCalls.returnedRow = some (FmtCalls.returned #[] #[]) := by kernel_rfl
theorem Ybaf.fmt0 : FmtStop.printed? ⟨#[105, 116, 32, 116, 97, 107, 101, 115, 32, 110, 117, 109, 98, 101, 114, 115, 44, 32, 97, 110, 100, 32, 116, 104, 101, 32, 102, 105, 101, 108, 100, 32, 104, 111, 108, 100, 115, 32, 97, 32, 37, 115, 32, 118, 97, 108, 117, 101]⟩ 1 = some [(0, 115, false)] := by kernel_rfl
theorem Ybaf.fmt0r (w : World) : (FmtDoors.printed ⟨#[105, 116, 32, 116, 97, 107, 101, 115, 32, 110, 117, 109, 98, 101, 114, 115, 44, 32, 97, 110, 100, 32, 116, 104, 101, 32, 102, 105, 101, 108, 100, 32, 104, 111, 108, 100, 115, 32, 97, 32, 37, 115, 32, 118, 97, 108, 117, 101]⟩ 1).run Ybaf.prog w = .ok [(0, 115, false)] w := by kernel_rfl
theorem Ybaf.act23 (name : String) (x : Value) (w : World) : (FmtCalls.act name true 115 false (.iface 23 x)).run Ybaf.prog w = .ok (.call false) w := by kernel_rfl
theorem Ybaf.isString23 (w : World) : (FmtDoors.textMethod 23 "String").run Ybaf.prog w = .ok true w := by kernel_rfl
theorem Ybaf.invokeString23 (x : Value) (w : World) : (invoke (.fn (.method "String") #[]) #[.iface 23 x]).run Ybaf.prog w = .ok (.enter 30 #[x]) w := by kernel_rfl
theorem Ybaf.str23 (w : World) : (typeStr 23).run Ybaf.prog w = .ok "series.Type" w := by kernel_rfl
theorem Ybaf.ptr71 (w : World) : (FmtStop.ptrTo "errors.errorString").run Ybaf.prog w = .ok 71 w := by kernel_rfl
theorem Ybaf.elem71 (w : World) : (elemOf 71).run Ybaf.prog w = .ok 73 w := by kernel_rfl
theorem Ybaf.isError71 (w : World) : (FmtDoors.textMethod 71 "Error").run Ybaf.prog w = .ok true w := by kernel_rfl
attribute [local go_sem] Ybaf.call28 Ybaf.guard Ybaf.fmt0 Ybaf.fmt0r Ybaf.act23 Ybaf.isString23 Ybaf.str23 Ybaf.ptr71 Ybaf.elem71 Ybaf.isError71

/-- (series.Type).String of no type. -/
theorem string0 (w : World) : Calls Ybaf.prog 30 #[.int .u8 0] w fun e w' => e = .returned (.string { data := #[110, 111, 32, 116, 121, 112, 101] }) ∧ w' = w := by
  go_enter Ybaf.func30, Ybaf.ntmps30
  go_wp2
  go_ret
  exact ⟨rfl, rfl⟩

theorem notANumber0 (F : Interp) (w : World) (hF : F.answers w.tape) : Calls Ybaf.prog 11 #[.int .u8 0] w fun e w' => ∃ a, e = .returned (.iface 71 (.pointer (some a))) ∧ Below w.heap.size w w' := by
  have hF' := answers_open hF
  go_enter Ybaf.func11, Ybaf.ntmps11
  go_wp2
  apply rows_call Ybaf.nextTurns
  case hr =>
    go_simp
    exact ⟨⟨rfl, rfl, rfl⟩, rfl⟩
  case hi => exact Ybaf.invokeString23 _ _
  case hc =>
    refine (string0 _).mono fun e w₃ ⟨he, hx⟩ => ?_
    subst he; subst hx
    apply rows_value Ybaf.nextReturned
    case hr =>
      go_simp
      exact ⟨rfl, rfl⟩
    case h =>
      go_wp2
      go_ret
      exact ⟨⟨_, rfl⟩, (((Below.refl _ _).alloc (Nat.le_refl _) _).alloc (by simp) _).drew⟩

/-- (Summary).Type. -/
theorem sumType1 (n t : Int) (mi ma : Int) (w : World) : Calls Ybaf.prog 9 #[.agg #[.int .u64 n, .int .u8 1, .float .f64 (G 0 t), .float .f64 (G (-64) t), .int .u64 0, .int .u64 0, .int .u8 1, .int .u64 mi, .string { data := #[] }, .int .u8 1, .int .u64 ma, .string { data := #[] }]] w fun e w' => e = .returned (.int .u8 1) ∧ w' = w.alloc (.cells #[.int .u64 n, .int .u8 1, .float .f64 (G 0 t), .float .f64 (G (-64) t), .int .u64 0, .int .u64 0, .int .u8 1, .int .u64 mi, .string { data := #[] }, .int .u8 1, .int .u64 ma, .string { data := #[] }] 33) := by
  go_enter Ybaf.func9, Ybaf.ntmps9
  go_wp2
  go_ret
  exact ⟨rfl, rfl⟩
theorem sumType0 (w : World) : Calls Ybaf.prog 9 #[.agg #[.int .u64 0, .int .u8 0, .float .f64 0, .float .f64 0, .int .u64 0, .int .u64 0, .int .u8 0, .int .u64 0, .string { data := #[] }, .int .u8 0, .int .u64 0, .string { data := #[] }]] w fun e w' => e = .returned (.int .u8 0) ∧ w' = w.alloc (.cells #[.int .u64 0, .int .u8 0, .float .f64 0, .float .f64 0, .int .u64 0, .int .u64 0, .int .u8 0, .int .u64 0, .string { data := #[] }, .int .u8 0, .int .u64 0, .string { data := #[] }] 33) := by
  go_enter Ybaf.func9, Ybaf.ntmps9
  go_wp2
  go_ret
  exact ⟨rfl, rfl⟩

/-- (Summary).total. -/
theorem total1 (n t : Int) (mi ma : Int) (w : World) : Calls Ybaf.prog 19 #[.agg #[.int .u64 n, .int .u8 1, .float .f64 (G 0 t), .float .f64 (G (-64) t), .int .u64 0, .int .u64 0, .int .u8 1, .int .u64 mi, .string { data := #[] }, .int .u8 1, .int .u64 ma, .string { data := #[] }]] w fun e w' => e = .returned (.float .f64 (G 0 t)) ∧ w' = w.alloc (.cells #[.int .u64 n, .int .u8 1, .float .f64 (G 0 t), .float .f64 (G (-64) t), .int .u64 0, .int .u64 0, .int .u8 1, .int .u64 mi, .string { data := #[] }, .int .u8 1, .int .u64 ma, .string { data := #[] }] 33) := by
  go_enter Ybaf.func19, Ybaf.ntmps19
  go_wp2
  go_ret
  exact ⟨rfl, rfl⟩

/-- (Summary).Mean. -/
theorem meanOf (n t : Int) (mi ma : Int) (ht : t.natAbs < 2 ^ 53) (r : Nat) (hr : floatBits .quo .f64 (G 0 t) (G 0 n) = some r) (w : World) : Calls Ybaf.prog 12 #[.agg #[.int .u64 n, .int .u8 1, .float .f64 (G 0 t), .float .f64 (G (-64) t), .int .u64 0, .int .u64 0, .int .u8 1, .int .u64 mi, .string { data := #[] }, .int .u8 1, .int .u64 ma, .string { data := #[] }]] w fun e w' => e = .returned (.float .f64 r) ∧ ∃ c d, w' = (w.alloc (.cells c 33)).alloc (.cells d 33) := by
  have hq : ∀ w, (binOp .quo 31 (.float .f64 (G 0 t)) (.float .f64 (floatOfInt .f64 n))).run Ybaf.prog w = .ok (.float .f64 r) w := fun w => run_float_arith w .quo 31 .f64 _ _ _ hr
  go_enter Ybaf.func12, Ybaf.ntmps12
  go_wp2_with (first | (go_at_call 18; refine (finite_G t ht _).mono ?_; rintro e w' ⟨rfl, rfl⟩) | (go_at_call 19; refine (total1 _ _ _ _ _).mono ?_; rintro e w' ⟨rfl, rfl⟩))
  go_ret
  exact ⟨rfl, _, _, rfl⟩

/-- query.mean of a summary of some values. -/
theorem mean1 (n t : Int) (mi ma : Int) (ht : t.natAbs < 2 ^ 53) (r : Nat) (hr : floatBits .quo .f64 (G 0 t) (G 0 n) = some r) (w : World) : Calls Ybaf.prog 5 #[.agg #[.int .u64 n, .int .u8 1, .float .f64 (G 0 t), .float .f64 (G (-64) t), .int .u64 0, .int .u64 0, .int .u8 1, .int .u64 mi, .string { data := #[] }, .int .u8 1, .int .u64 ma, .string { data := #[] }]] w fun e w' => e = .returned (.tuple #[.agg #[.int .u8 1, .int .u64 r, .string { data := #[] }], .nilIface]) ∧ Below w.heap.size w w' := by
  go_enter Ybaf.func5, Ybaf.ntmps5
  go_wp2_with (first | (go_at_call 9; refine (sumType1 _ _ _ _ _).mono ?_; rintro e w' ⟨rfl, rfl⟩) | (go_at_call 10; refine (isNumber1 _).mono ?_; rintro e w' ⟨rfl, rfl⟩) | (go_at_call 12; refine (meanOf _ _ _ _ ht r hr _).mono ?_; rintro e w' ⟨rfl, c, d, rfl⟩) | (go_at_call 7; refine (floatValue _ _).mono ?_; rintro e w' ⟨rfl, c', rfl⟩))
  refine bodyPost_ret (v := .tuple #[.agg #[.int .u8 1, .int .u64 r, .string { data := #[] }], .nilIface]) (by simp [results, Ybaf.results5, go_sem]) rfl ⟨rfl, ?_⟩
  exact ((((((Below.refl _ _).alloc (Nat.le_refl _) _).alloc (by simp) _).alloc (by simp; omega) _).alloc (by simp; omega) _).alloc (by simp; omega) _).alloc (by simp; omega) _

/-- query.mean of a summary of no value. -/
theorem mean0 (F : Interp) (w : World) (hF : F.answers w.tape) : Calls Ybaf.prog 5 #[.agg #[.int .u64 0, .int .u8 0, .float .f64 0, .float .f64 0, .int .u64 0, .int .u64 0, .int .u8 0, .int .u64 0, .string { data := #[] }, .int .u8 0, .int .u64 0, .string { data := #[] }]] w fun e w' => ∃ a, e = .returned (.tuple #[.agg #[.int .u8 0, .int .u64 0, .string { data := #[] }], .iface 71 (.pointer (some a))]) ∧ Below w.heap.size w w' := by
  go_enter Ybaf.func5, Ybaf.ntmps5
  go_wp2_with (first | (go_at_call 9; refine (sumType0 _).mono ?_; rintro e w' ⟨rfl, rfl⟩) | (go_at_call 10; refine (isNumber0 _).mono ?_; rintro e w' ⟨rfl, rfl⟩))
  go_at_call 11
  refine (notANumber0 F _ (by exact hF)).mono ?_
  rintro e w5 ⟨a, rfl, hb⟩
  have c0 : w5.cell? ⟨w.heap.size + 1, 0, none⟩ = some (.int .u8 0) := (hb.cell (p := ⟨w.heap.size + 1, 0, none⟩) (by simp)).trans (by simp [go_sem])
  have c1 : w5.cell? ⟨w.heap.size + 1, 1, none⟩ = some (.int .u64 0) := (hb.cell (p := ⟨w.heap.size + 1, 1, none⟩) (by simp)).trans (by simp [go_sem])
  have c2 : w5.cell? ⟨w.heap.size + 1, 2, none⟩ = some (.string { data := #[] }) := (hb.cell (p := ⟨w.heap.size + 1, 2, none⟩) (by simp)).trans (by simp [go_sem])
  have f0 : w5.frozen? ⟨w.heap.size + 1, 0, none⟩ = false := (hb.frozen (p := ⟨w.heap.size + 1, 0, none⟩) (by simp)).trans (by simp [go_sem])
  have f1 : w5.frozen? ⟨w.heap.size + 1, 1, none⟩ = false := (hb.frozen (p := ⟨w.heap.size + 1, 1, none⟩) (by simp)).trans (by simp [go_sem])
  have f2 : w5.frozen? ⟨w.heap.size + 1, 2, none⟩ = false := (hb.frozen (p := ⟨w.heap.size + 1, 2, none⟩) (by simp)).trans (by simp [go_sem])
  have B : Below w.heap.size w w5 := (((((Below.refl _ _).alloc (Nat.le_refl _) _).alloc (by simp) _).alloc (by simp; omega) _).alloc (by simp; omega) _).trans (hb.mono (by simp; omega))
  have HB : Hid (Below w.heap.size w w5) := B
  clear hb B
  go_wp2
  refine bodyPost_ret (v := .tuple #[.agg #[.int .u8 0, .int .u64 0, .string { data := #[] }], .iface 71 (.pointer (some a))]) (by simp [results, Ybaf.results5, go_sem, c0, c1, c2]) rfl ⟨a, rfl, ?_⟩
  exact ((HB.out.setCell (by simp) _).setCell (by simp) _).setCell (by simp) _
end Go.Proofs.YbulkamduFmt
