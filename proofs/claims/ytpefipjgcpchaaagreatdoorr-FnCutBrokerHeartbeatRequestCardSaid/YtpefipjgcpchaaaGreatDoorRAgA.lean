/- The thin package's functions over a message, in any program: made anew, set, read, written. -/
import Derived.Test.YtpefipjgcpchaaaGreatDoorRMsgA
namespace Go.Proofs.YtpefipjgcpchaaaGreatDoorR.Kf
set_option linter.unusedVariables false
set_option linter.unusedSimpArgs false
open Go Go.RowKit

section
variable {P : Program} {Q : Exit → Act → World → Prop}

theorem args2c {a : Act} {i : Nat} {u v : Value} (h : gt a i = u) : (#[Operand.tmp i, Operand.const v] : Array Operand).map a.eval = #[u, v] := by simp only [gt] at h; simp [Act.eval, h]
theorem args3c {a : Act} {i j : Nat} {u v x : Value} (h : gt a i = u) (k : gt a j = v) : (#[Operand.tmp i, Operand.tmp j, Operand.const x] : Array Operand).map a.eval = #[u, v, x] := by simp only [gt] at h k; simp [Act.eval, h, k]
theorem evC (a : Act) (v : Value) : a.eval (.const v) = v := rfl

/-- The act with which a call begins. -/
theorem start_act (xs : Array Value) (nt : Nat) (h : xs.size ≤ nt) : ∃ a : Act, a = { tmps := xs ++ Array.replicate (nt - xs.size) undef, defers := [] } ∧ a.tmps.size = nt ∧ a.defers = [] ∧ ∀ j v, xs[j]? = some v → gt a j = v :=
  ⟨_, rfl, by simp; omega, rfl, fun j v hj => gt_app _ _ j v hj⟩

/-- One slot is set. -/
structure Nx (a : Act) (d : Nat) (v : Value) (a' : Act) : Prop where
  size : a'.tmps.size = a.tmps.size
  defers : a'.defers = a.defers
  new : gt a' d = v
  old : ∀ j, ¬ j = d → gt a' j = gt a j
theorem Nx.mk' {a : Act} {d : Nat} {v : Value} (h : d < a.tmps.size) : Nx a d v (a.put (some d) v) :=
  ⟨size_put _ _ _, defers_put _ _ _, by rw [gt_put h, if_pos rfl], fun j hj => by rw [gt_put h, if_neg hj]⟩
theorem stV {cs : List Core} {a : Act} {w w' : World} {d : Nat} {op : Op} {v : Value} (hd : d < a.tmps.size) (hr : Runs P a w op v w') (h : ∀ a', Nx a d v a' → wpC P Q cs a' w') : wpC P Q (⟨some d, op, none⟩ :: cs) a w := wpC_val hr (h _ (Nx.mk' hd))
theorem stC {cs : List Core} {a : Act} {w : World} {d : Nat} {f : FuncId} {args : Array Operand} {ats : Array TypeId} {vs : Array Value} {R : Ending → World → Prop} (hd : d < a.tmps.size) (hp : Plain P f) (he : args.map a.eval = vs)
    (hc : Calls P f vs w fun e w' => ∃ v, e = .returned v ∧ R (.returned v) w') (h : ∀ v w' a', R (.returned v) w' → Nx a d v a' → wpC P Q cs a' w') : wpC P Q (⟨some d, .call ⟨.value (.func f), args, ats⟩, none⟩ :: cs) a w :=
  wpC_call (R := fun v w' => R (.returned v) w') hp (by rw [he]; exact hc) fun v w' hR => h v w' _ hR (Nx.mk' hd)
theorem stE {a : Act} {w : World} (h : Q .normal a w) : wpC P Q [] a w := wpC_nil h

/-! ### ReadFrom -/
def gRF (RF PT sl bo : Nat) (c : Code) : Code := .seq (reg [⟨some 4, .assign (.const .nilIface), none⟩] (pc c [0]))
  (.seq (reg [⟨some 5, .move (.tmp 0), none⟩, ⟨some 6, .move (.tmp 1), none⟩, ⟨some 7, .call ⟨.value (.func RF), #[.tmp 5, .tmp 6, .const (.bool false)], #[PT, sl, bo]⟩, none⟩, ⟨some 4, .assign (.tmp 7), none⟩] (pc c [1, 0])) .ret)
theorem RF_calls {RF RD PT sl bo : Nat} {fn : Func} (hfn : P.funcs[RD]? = some fn) (c0 : Code) (hbody : fn.body = some (gRF RF PT sl bo c0)) (hres : fn.results = #[.tmp 4]) (hnt : fn.ntmps = 8) (hp : Plain P RF) {w : World} {x y : Value} {R : Ending → World → Prop}
    (h : Calls P RF #[x, y, .bool false] w fun e w' => ∃ v, e = .returned v ∧ R (.returned v) w') : Calls P RD #[x, y] w R := by
  refine calls_of_wp hfn hbody ?_
  obtain ⟨a, ha, asz, adf, ag⟩ := start_act #[x, y] fn.ntmps (by rw [hnt]; simp)
  rw [← ha]
  have a0 : gt a 0 = x := ag 0 _ rfl
  have a1 : gt a 1 = y := ag 1 _ rfl
  clear ag ha
  rw [hnt] at asz
  refine wp_seq (wp_reg (stV (by omega) (runs_assign _) fun b1 k1 => stE (wp_seq (wp_reg (stV (by rw [k1.size]; omega) (runs_move _) fun b2 k2 => stV (by rw [k2.size, k1.size]; omega) (runs_move _) fun b3 k3 => 
    stC (R := R) (by rw [k3.size, k2.size, k1.size]; omega) hp (args3c (u := x) (v := y) (by simp [k1.old, k2.old, k2.new, k3.old, evT, a0]) (by simp [k1.old, k2.old, k3.new, evT, a1])) h fun v w' b4 hR k4 =>
      stV (by rw [k4.size, k3.size, k2.size, k1.size]; omega) (runs_assign _) fun b5 k5 => stE (wp_ret ?_))))))
  refine bodyPost_ret (results_tmp hres _ _ _) (by rw [k5.defers, k4.defers, k3.defers, k2.defers, k1.defers, adf]) ?_
  have e : b5.tmps.getD 4 undef = v := k5.new.trans (by rw [evT, k4.new])
  rw [e]
  exact hR

/-! ### a pointer to what is made anew -/
def gNP (DF T PT : Nat) (c : Code) : Code := .seq (reg [⟨some 0, .assign (.const (.pointer none)), none⟩] (pc c [0]))
  (.seq (reg [⟨some 1, .alloc T, none⟩] (pc c [1, 0])) (.seq (reg [⟨some 2, .call ⟨.value (.func DF), #[.tmp 1], #[T]⟩, none⟩] (pc c [1, 1, 0])) (.seq (reg [⟨some 0, .assign (.tmp 1), none⟩] (pc c [1, 1, 1, 0])) .ret)))
theorem NP_calls {DF NP T PT sz : Nat} {ks : List Nat} {z : Array Value} {fn : Func} (hfn : P.funcs[NP]? = some fn) (c0 : Code) (hbody : fn.body = some (gNP DF T PT c0)) (hres : fn.results = #[.tmp 0]) (hnt : fn.ntmps = 3)
    (hal : Alc P T z) (hz : z.size = sz) (hD : DefC P DF sz ks) {w : World} :
    Calls P NP #[] w fun e w' => e = .returned (.pointer (some ⟨w.heap.size, 0, none⟩)) ∧ Only (fun _ => False) w w' ∧ Blk w' w.heap.size sz ∧ ∀ o ∈ ks, w'.cell? ⟨w.heap.size, o, none⟩ = z[o]? := by
  refine calls_of_wp hfn hbody ?_
  obtain ⟨a, ha, asz, adf, ag⟩ := start_act #[] fn.ntmps (by rw [hnt]; simp)
  rw [← ha]
  clear ag ha
  rw [hnt] at asz
  refine wp_seq (wp_reg (stV (by omega) (runs_assign _) fun b1 k1 => stE (wp_seq (wp_reg (stV (by rw [k1.size]; omega) (fun o h => hal o _ _ h) fun b2 k2 => stE (wp_seq (wp_reg ?_)))))))
  have hb : Blk (w.alloc (.cells z T)) w.heap.size sz := ⟨_, T, heap_alloc_new w _, by simpa using hz⟩
  have O1 : Only (fun _ => False) w (w.alloc (.cells z T)) := (Only.refl _ _).alloc _
  refine stC (R := fun e w' => Only (· = w.heap.size) (w.alloc (.cells z T)) w' ∧ Upd w.heap.size 0 (0 + sz) (w.alloc (.cells z T)) w' ∧ ∀ o ∈ ks, w'.cell? ⟨w.heap.size, 0 + o, none⟩ = (w.alloc (.cells z T)).cell? ⟨w.heap.size, 0 + o, none⟩) (by rw [k2.size, k1.size]; omega) hD.1 (args1 (x := .pointer (some ⟨w.heap.size, 0, none⟩)) (by rw [k2.new])) ?_ ?_
  · exact (hD.2 _ w.heap.size 0 sz hb (by omega))
  rintro v w3 b3 ⟨h1, h2, h3⟩ k3
  refine stE (wp_seq (wp_reg (stV (by rw [k3.size, k2.size, k1.size]; omega) (runs_assign _) fun b4 k4 => stE (wp_ret ?_))))
  refine bodyPost_ret (results_tmp hres _ _ _) (by rw [k4.defers, k3.defers, k2.defers, k1.defers, adf]) ?_
  have e : b4.tmps.getD 0 undef = .pointer (some ⟨w.heap.size, 0, none⟩) := k4.new.trans (by rw [evT, k3.old _ (by decide), k2.new])
  rw [e]
  refine ⟨rfl, O1.own (h1.mono fun k _ (h : k = _) => by subst h; exact Nat.le_refl _) (Nat.le_refl _), h2.blk hb, fun o ho => ?_⟩
  have := h3 o ho
  simp only [Nat.zero_add] at this
  rw [this]
  rw [World.cell?, heap_alloc_new]
  rfl

/-! ### SetVersion -/
def gSV (T i16 : Nat) (c : Code) : Code := reg [⟨some 4, .move (.tmp 0), none⟩, ⟨some 5, .move (.tmp 1), none⟩, ⟨some 6, .nilCheck (.tmp 4), none⟩, ⟨some 7, .fieldAddr T (.tmp 6) 0, none⟩, ⟨none, .store i16 (.tmp 7) (.tmp 5), none⟩] c
theorem SV_calls {SV T i16 sz : Nat} {fn : Func} (hfn : P.funcs[SV]? = some fn) (c0 : Code) (hbody : fn.body = some (gSV T i16 c0)) (hres : fn.results = #[]) (hnt : fn.ntmps = 8) (hf : FieldAt P T 0 0 i16 1) {w : World} {b : Nat} {n : Int} (hb : Blk w b sz) (hz : 1 ≤ sz) :
    Calls P SV #[.pointer (some ⟨b, 0, none⟩), .int .i16 n] w fun e w' => e = .returned (.tuple #[]) ∧ Only (· = b) w w' ∧ Upd b 0 1 w w' ∧ w'.cell? ⟨b, 0, none⟩ = some (.int .i16 n) := by
  refine calls_of_wp hfn hbody ?_
  obtain ⟨a, ha, asz, adf, ag⟩ := start_act #[.pointer (some ⟨b, 0, none⟩), .int .i16 n] fn.ntmps (by rw [hnt]; simp)
  rw [← ha]
  have a0 : gt a 0 = .pointer (some ⟨b, 0, none⟩) := ag 0 _ rfl
  have a1 : gt a 1 = .int .i16 n := ag 1 _ rfl
  clear ag ha
  rw [hnt] at asz
  refine wp_reg (stV (by omega) (runs_move _) fun b1 k1 => stV (by rw [k1.size]; omega) (runs_move _) fun b2 k2 => ?_)
  have e4 : b2.eval (.tmp 4) = .pointer (some ⟨b, 0, none⟩) := by rw [evT, k2.old _ (by decide), k1.new, evT, a0]
  have e5 : gt b2 5 = .int .i16 n := by rw [k2.new, evT, k1.old _ (by decide), a1]
  refine stV (by rw [k2.size, k1.size]; omega) (runs_nilCheck (p := ⟨b, 0, none⟩) e4) fun b3 k3 => stV (by rw [k3.size, k2.size, k1.size]; omega) (runs_fieldAddr hf (p := ⟨b, 0, none⟩) k3.new) fun b4 k4 => ?_
  have k4n := k4.new
  rw [Addr.add_lit] at k4n
  obtain ⟨w2, hrun, hw⟩ := runs_storeN (P := P) (a := b4) (u := i16) (x := .tmp 7) (y := .tmp 5) (b := b) (o := 0) (n := sz) (v := .int .i16 n) k4n ((k4.old _ (by decide)).trans ((k3.old _ (by decide)).trans e5)) (by obtain ⟨inf, hi, hz⟩ := hf.sz; exact ⟨inf, hi, hz⟩) (by intro c hc; simp [Value.cells] at hc; subst hc; rfl) hb (by simp [Value.cells]; exact hz)
  refine wpC_skip hrun (wpC_nil ?_)
  have hu := hw.upd
  exact bodyPost_end (results_none hres _ _ _) (by rw [k4.defers, k3.defers, k2.defers, k1.defers, adf]) ⟨rfl, hw.only, by simpa [Value.cells] using hu, by simpa using hw.cells 0 (.int .i16 n) rfl⟩

/-! ### Max -/
theorem runs_neNil {a : Act} {w : World} {t t2 : Nat} {x : Operand} {v : Value} (ht : P.underlying t = some (.interface (P.methodsAt t))) (hx : a.eval x = v) {b : Bool} (hv : (v = .nilIface ∧ b = false) ∨ ((∃ t u, v = .iface t u) ∧ b = true)) : Runs P a w (.binOp .neq t x (.const .nilIface) t2) (.bool b) w := by
  intro o h
  have ec : a.eval (.const .nilIface) = .nilIface := rfl
  rcases hv with ⟨rfl, rfl⟩ | ⟨⟨t, u, rfl⟩, rfl⟩ <;> simp [execOp, h, hx, eqGuard, binOp, run_equal_nil_nil _ _ ht, run_equal_held_nil _ _ _ _ ht, ec]

/-- A function that does no more than call NewPtr and MaxVersion. -/
def gMx (NP MV PT i16 int : Nat) (c : Code) : Code := .seq (reg [⟨some 0, .assign (.const (.int .i64 0)), none⟩] (pc c [0]))
  (.seq (reg [⟨some 1, .call ⟨.value (.func NP), #[], #[]⟩, none⟩, ⟨some 2, .call ⟨.value (.func MV), #[.tmp 1], #[PT]⟩, none⟩, ⟨some 3, .convert i16 int (.tmp 2), none⟩, ⟨some 0, .assign (.tmp 3), none⟩] (pc c [1, 0])) .ret)
theorem Mx_calls {NP MV MX PT i16 int : Nat} {fn : Func} (hfn : P.funcs[MX]? = some fn) (c0 : Code) (hbody : fn.body = some (gMx NP MV PT i16 int c0)) (hres : fn.results = #[.tmp 0]) (hnt : fn.ntmps = 4) (hi : P.underlying int = some (.int .i64)) (hj : P.underlying i16 = some (.int .i16))
    (hp1 : Plain P NP) (hp2 : Plain P MV) {w : World} {mx : Int}
    (h1 : Calls P NP #[] w fun e w' => ∃ v, e = .returned v ∧ Only (fun _ => False) w w' ) (h2 : ∀ v w', Calls P MV #[v] w' fun e w'' => e = .returned (.int .i16 mx) ∧ w'' = w') :
    Calls P MX #[] w fun e w' => e = .returned (.int .i64 (IntKind.i64.wrap mx)) ∧ Only (fun _ => False) w w' := by
  refine calls_of_wp hfn hbody ?_
  obtain ⟨a, ha, asz, adf, ag⟩ := start_act #[] fn.ntmps (by rw [hnt]; simp)
  rw [← ha]
  clear ag ha
  rw [hnt] at asz
  refine wp_seq (wp_reg (stV (by omega) (runs_assign _) fun b1 k1 => stE (wp_seq (wp_reg ?_))))
  refine stC (R := fun e w' => Only (fun _ => False) w w') (vs := #[]) (by rw [k1.size]; omega) hp1 (by simp) (h1.mono fun e w' ⟨v, h, k⟩ => ⟨v, h, k⟩) fun v w1 b2 O1 k2 => ?_
  refine stC (R := fun e w' => e = .returned (.int .i16 mx) ∧ w' = w1) (vs := #[v]) (by rw [k2.size, k1.size]; omega) hp2 (args1 k2.new) ((h2 v w1).mono fun e w' ⟨h, k⟩ => ⟨_, h, rfl, k⟩) fun u w2 b3 hu k3 => ?_
  obtain ⟨hu, rfl⟩ := hu
  obtain rfl : u = .int .i16 mx := by simpa using hu
  refine stV (by rw [k3.size, k2.size, k1.size]; omega) (runs_conv hj hi (by rw [evT]; exact k3.new)) fun b4 k4 => stV (by rw [k4.size, k3.size, k2.size, k1.size]; omega) (runs_assign _) fun b5 k5 => stE (wp_ret ?_)
  refine bodyPost_ret (results_tmp hres _ _ _) (by rw [k5.defers, k4.defers, k3.defers, k2.defers, k1.defers, adf]) ?_
  have e : b5.tmps.getD 0 undef = .int .i64 (IntKind.i64.wrap mx) := k5.new.trans (by rw [evT, k4.new])
  rw [e]
  exact ⟨rfl, O1⟩
/-- A function that returns a number. -/
def gK (z v : Value) (c : Code) : Code := .seq (reg [⟨some 2, .assign (.const z), none⟩] (pc c [0])) (.seq (reg [⟨some 2, .assign (.const v), none⟩] (pc c [1, 0])) .ret)
theorem K_calls {F : Nat} {fn : Func} (hfn : P.funcs[F]? = some fn) (c0 : Code) {z v : Value} (hbody : fn.body = some (gK z v c0)) (hres : fn.results = #[.tmp 2]) (hnt : fn.ntmps = 3) {x : Value} {w : World} : Calls P F #[x] w fun e w' => e = .returned v ∧ w' = w := by
  refine calls_of_wp hfn hbody ?_
  obtain ⟨a, ha, asz, adf, ag⟩ := start_act #[x] fn.ntmps (by rw [hnt]; simp)
  rw [← ha]
  clear ag ha
  rw [hnt] at asz
  refine wp_seq (wp_reg (stV (by omega) (runs_assign _) fun b1 k1 => stE (wp_seq (wp_reg (stV (by rw [k1.size]; omega) (runs_assign _) fun b2 k2 => stE (wp_ret ?_))))))
  refine bodyPost_ret (results_tmp hres _ _ _) (by rw [k2.defers, k1.defers, adf]) ?_
  have e : b2.tmps.getD 2 undef = v := k2.new.trans (by rw [evC])
  rw [e]
  exact ⟨rfl, rfl⟩

/-! ### Again -/
/-- What it rests on. Mw, vl: the form and the value that are written (with the version ahead, for what is kept). -/
structure AgC (P : Program) (U sl ER RD WR g : Nat) (EI : World → Prop) (kept : Option Nat) (fx : Option Int) (r : R) (Mw : Int → M) (vl : Int → Val → Val) (sz : Nat) : Prop where
  rdP : Plain P RD
  wrP : Plain P WR
  slT : P.underlying sl = some (.slice U)
  u8 : ∃ i, P.info? U = some i ∧ i.zero = some (.int .u8 0) ∧ i.size = 1 ∧ i.bytes = 1
  er : P.underlying ER = some (.interface (P.methodsAt ER))
  keep : ∀ w w', EI w → Only (fun k => g < k) w w' → EI w'
  lt : ∀ w, EI w → g < w.heap.size
  read : ∀ (w : World) (D b : Nat) (nn : Bool) (A : Option Addr) (n c : Nat) (bs : List UInt8) (ver0 : Int), Blk w b sz → Sp w D nn (.slice A n c) bs → bs.length ≤ lim → D < w.heap.size → b ≠ D → g < b → EI w → (∀ q ∈ r.nils, w.cell? ⟨b, q.1, none⟩ = some (nilV q.2)) →
    w.cell? ⟨b, 0, none⟩ = some (.int .i16 ver0) → Calls P RD #[.pointer (some ⟨b, 0, none⟩), .slice A n c] w (ReadP kept fx r sz D b w bs ver0)
  write : ∀ (w : World) (D b lo hi : Nat) (ver : Int) (x : Val), w.cell? ⟨b, 0, none⟩ = some (.int .i16 ver) → Holds D (Mw ver) w lo hi b 0 x → wf (Mw ver).w x → (enc (Mw ver).w x).length + 16 ≤ lim2 → b < w.heap.size → hi ≤ w.heap.size → D < w.heap.size →
    Calls P WR #[.pointer (some ⟨b, 0, none⟩), .slice none 0 0] w fun e w' => ∃ v, e = .returned v ∧ Own U w.heap.size w' v (enc (Mw ver).w x) ∧ Only (fun _ => False) w w'
  hold : ∀ (w : World) (D b lo hi : Nat) (ver : Int) (x : Val) (bs bs0 : List UInt8) (ver0 : Int), VerOf kept ver0 bs ver bs0 → w.cell? ⟨b, 0, none⟩ = some (.int .i16 ver) → Holds D (r.m ver (flexOf fx ver)) w lo hi b 0 x → Holds D (Mw ver) w lo hi b 0 (vl ver x)

theorem readP_ret {kept : Option Nat} {fx : Option Int} {r : R} {sz D b : Nat} {w w' : World} {bs : List UInt8} {ver0 : Int} {e : Ending} (h : ReadP kept fx r sz D b w bs ver0 e w') : ∃ v, e = .returned v ∧ ReadP kept fx r sz D b w bs ver0 (.returned v) w' := by
  obtain ⟨v, rfl, h⟩ := h
  exact ⟨v, rfl, v, rfl, h⟩

/-- It was an error, or it is written. -/
def gAg2c (r1 r2 d : Nat) (c : Code) : Code := .cond (.tmp d) (.seq (reg [⟨some r1, .assign (.const (.slice none 0 0)), none⟩, ⟨some r2, .assign (.const (.bool false)), none⟩] (pc c [0, 0])) .ret) .skip
def gAg2r (WR PT sl r1 r2 : Nat) (pre : List Core) (p e : Nat) (c : Code) : Code :=
  .seq (reg (pre ++ [⟨some e, .call ⟨.value (.func WR), #[.tmp p, .const (.slice none 0 0)], #[PT, sl]⟩, none⟩, ⟨some r1, .assign (.tmp e), none⟩, ⟨some r2, .assign (.const (.bool true)), none⟩]) (pc c [0])) .ret
/-- Again, of a message: made anew, the version set, read, written. -/
def gAgM (NP SV RD WR PT sl ER bo int i16 : Nat) (c : Code) : Code :=
  .seq (reg [⟨some 4, .assign (.const (.slice none 0 0)), none⟩, ⟨some 5, .assign (.const (.bool false)), none⟩] (pc c [0]))
  (.seq (reg [⟨some 7, .call ⟨.value (.func NP), #[], #[]⟩, none⟩, ⟨some 6, .assign (.tmp 7), none⟩] (pc c [1, 0]))
  (.seq (reg [⟨some 8, .move (.tmp 6), none⟩, ⟨some 9, .move (.tmp 0), none⟩, ⟨some 10, .convert int i16 (.tmp 9), none⟩, ⟨some 11, .call ⟨.value (.func SV), #[.tmp 8, .tmp 10], #[PT, i16]⟩, none⟩] (pc c [1, 1, 0]))
  (.seq (.seq (reg [⟨some 12, .move (.tmp 6), none⟩, ⟨some 13, .move (.tmp 1), none⟩, ⟨some 14, .call ⟨.builtin .append, #[.const (.slice none 0 0), .tmp 13], #[sl, sl]⟩, none⟩, ⟨some 15, .call ⟨.value (.func RD), #[.tmp 12, .tmp 14], #[PT, sl]⟩, none⟩, ⟨some 16, .binOp .neq ER (.tmp 15) (.const .nilIface) bo, none⟩] (pc c [1, 1, 1, 0, 0])) (gAg2c 4 5 16 (pc c [1, 1, 1, 0, 1])))
  (gAg2r WR PT sl 4 5 [⟨some 17, .move (.tmp 6), none⟩] 17 18 (pc c [1, 1, 1, 1])))))
theorem only_own2 {w0 w w' : World} {b B : Nat} (h0 : Only (fun _ => False) w0 w) (hb : w0.heap.size ≤ b) (hB : w0.heap.size ≤ B) (h : Only (fun j => B ≤ j ∨ j = b) w w') : Only (fun _ => False) w0 w' :=
  h0.own (B := w0.heap.size) (h.mono fun k _ hk => by rcases hk with hk | hk <;> omega) (Nat.le_refl _)

/-! ### New -/
/-- All of it for a message: reading, writing. -/
theorem AgC.mk' {G : Gn} {E : Hn} {T PT DF i16 M0 NT sz hi M1 NT1 : Nat} {kept : Option Nat} {fx : Option Int} {r : R} {a : A} {EI : World → Prop} {g sl bo ER RF RD WR : Nat} (HR : MsgR P G T PT DF i16 M0 NT sz hi kept fx r EI) (HW : MsgW P E true T i16 M1 NT1 fx a)
    {fr fd fw : Func} (hfr : P.funcs[RF]? = some fr) (cr : Code) (hbr : fr.body = some (gRead G T PT DF i16 M0 kept fx r cr)) (hrr : fr.results = #[.tmp 6]) (hnr : fr.ntmps = NT) (hpr : Plain P RF)
    (hfd : P.funcs[RD]? = some fd) (cd : Code) (hbd : fd.body = some (gRF RF PT sl bo cd)) (hrd : fd.results = #[.tmp 4]) (hnd : fd.ntmps = 8) (hpd : Plain P RD)
    (hfw : P.funcs[WR]? = some fw) (cw : Code) (hbw : fw.body = some (gWrite E T i16 M1 fx a cw)) (hrw : fw.results = #[.tmp 4]) (hnw : fw.ntmps = NT1) (hpw : Plain P WR)
    (hsl : P.underlying sl = some (.slice E.u8)) (hu8 : ∃ i, P.info? E.u8 = some i ∧ i.zero = some (.int .u8 0) ∧ i.size = 1 ∧ i.bytes = 1) (her : P.underlying ER = some (.interface (P.methodsAt ER)))
    (keep : ∀ w w', EI w → Only (fun k => g + 1 ≤ k) w w' → EI w') (lt : ∀ w, EI w → g < w.heap.size) (vl : Int → Val → Val)
    (hold : ∀ (w : World) (D b lo hi : Nat) (ver : Int) (x : Val) (bs bs0 : List UInt8) (ver0 : Int), VerOf kept ver0 bs ver bs0 → w.cell? ⟨b, 0, none⟩ = some (.int .i16 ver) → Holds D (r.m ver (flexOf fx ver)) w lo hi b 0 x → Holds D (a.m ver (flexOf fx ver)) w lo hi b 0 (vl ver x)) :
    AgC P E.u8 sl ER RD WR g EI kept fx r (fun ver => a.m ver (flexOf fx ver)) vl sz where
  rdP := hpd
  wrP := hpw
  slT := hsl
  u8 := hu8
  er := her
  keep := keep
  lt := lt
  read := fun w D b nn A n c bs ver0 hb hs hl hD hbD hg hI hn hv => RF_calls hfd cd hbd hrd hnd hpr ((readFrom_calls HR hfr cr hbr hrr hnr hb hs hl hD hbD (L := g + 1) hg hI keep hn hv).mono fun e w' h => readP_ret h)
  write := fun w D b lo hi ver x hv hH hw hl hb hh hD => appendTo_calls HW hfw cw hbw hrw hnw hv hH hw hl hb hh (fun h => by cases h) hD
  hold := hold
end
end Go.Proofs.YtpefipjgcpchaaaGreatDoorR.Kf
