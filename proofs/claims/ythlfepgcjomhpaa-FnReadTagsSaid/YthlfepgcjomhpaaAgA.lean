/- The thin package's functions over a message, in any program: made anew, set, read, written. -/
import Derived.Test.YthlfepgcjomhpaaMsgA
namespace Go.Proofs.Ythlfepgcjomhpaa.Kf
set_option linter.unusedVariables false
set_option linter.unusedSimpArgs false
open Go Go.RowKit

section
variable {P : Program} {Q : Exit → Act → World → Prop}

theorem args2c {a : Act} {i : Nat} {u v : Value} (h : gt a i = u) : (#[Operand.tmp i, Operand.const v] : Array Operand).map a.eval = #[u, v] := by simp only [gt] at h; simp [Act.eval, h]
theorem args3c {a : Act} {i j : Nat} {u v x : Value} (h : gt a i = u) (k : gt a j = v) : (#[Operand.tmp i, Operand.tmp j, Operand.const x] : Array Operand).map a.eval = #[u, v, x] := by simp only [gt] at h k; simp [Act.eval, h, k]
theorem evC (a : Act) (v : Value) : a.eval (.const v) = v := rfl

/-- The act with which a call begins. -/
theorem start_act (xs : Array Value) (nt : Nat) (h : xs.size ≤ nt) : ∃ a : Act, a = { tmps := xs ++ Array.replicate (nt - xs.size) undef, defers := [] } ∧ a.tmps.size = nt ∧ a.defers = [] ∧ ∀ j v, xs[j]? = some v → gt a j = v :=
  ⟨_, rfl, by simp; omega, rfl, fun j v hj => gt_app _ _ j v hj⟩

/-- One slot is set. -/
structure Nx (a : Act) (d : Nat) (v : Value) (a' : Act) : Prop where
  size : a'.tmps.size = a.tmps.size
  defers : a'.defers = a.defers
  new : gt a' d = v
  old : ∀ j, ¬ j = d → gt a' j = gt a j
theorem Nx.mk' {a : Act} {d : Nat} {v : Value} (h : d < a.tmps.size) : Nx a d v (a.put (some d) v) :=
  ⟨size_put _ _ _, defers_put _ _ _, by rw [gt_put h, if_pos rfl], fun j hj => by rw [gt_put h, if_neg hj]⟩
theorem stV {cs : List Core} {a : Act} {w w' : World} {d : Nat} {op : Op} {v : Value} (hd : d < a.tmps.size) (hr : Runs P a w op v w') (h : ∀ a', Nx a d v a' → wpC P Q cs a' w') : wpC P Q (⟨some d, op, none⟩ :: cs) a w := wpC_val hr (h _ (Nx.mk' hd))
theorem stC {cs : List Core} {a : Act} {w : World} {d : Nat} {f : FuncId} {args : Array Operand} {ats : Array TypeId} {vs : Array Value} {R : Ending → World → Prop} (hd : d < a.tmps.size) (hp : Plain P f) (he : args.map a.eval = vs)
    (hc : Calls P f vs w fun e w' => ∃ v, e = .returned v ∧ R (.returned v) w') (h : ∀ v w' a', R (.returned v) w' → Nx a d v a' → wpC P Q cs a' w') : wpC P Q (⟨some d, .call ⟨.value (.func f), args, ats⟩, none⟩ :: cs) a w :=
  wpC_call (R := fun v w' => R (.returned v) w') hp (by rw [he]; exact hc) fun v w' hR => h v w' _ hR (Nx.mk' hd)
theorem stE {a : Act} {w : World} (h : Q .normal a w) : wpC P Q [] a w := wpC_nil h

/-! ### ReadFrom -/
def gRF (RF PT sl bo : Nat) (c : Code) : Code := .seq (reg [⟨some 4, .assign (.const .nilIface), none⟩] (pc c [0]))
  (.seq (reg [⟨some 5, .move (.tmp 0), none⟩, ⟨some 6, .move (.tmp 1), none⟩, ⟨some 7, .call ⟨.value (.func RF), #[.tmp 5, .tmp 6, .const (.bool false)], #[PT, sl, bo]⟩, none⟩, ⟨some 4, .assign (.tmp 7), none⟩] (pc c [1, 0])) .ret)
theorem RF_calls {RF RD PT sl bo : Nat} {fn : Func} (hfn : P.funcs[RD]? = some fn) (c0 : Code) (hbody : fn.body = some (gRF RF PT sl bo c0)) (hres : fn.results = #[.tmp 4]) (hnt : fn.ntmps = 8) (hp : Plain P RF) {w : World} {x y : Value} {R : Ending → World → Prop}
    (h : Calls P RF #[x, y, .bool false] w fun e w' => ∃ v, e = .returned v ∧ R (.returned v) w') : Calls P RD #[x, y] w R := by
  refine calls_of_wp hfn hbody ?_
  obtain ⟨a, ha, asz, adf, ag⟩ := start_act #[x, y] fn.ntmps (by rw [hnt]; simp)
  rw [← ha]
  have a0 : gt a 0 = x := ag 0 _ rfl
  have a1 : gt a 1 = y := ag 1 _ rfl
  clear ag ha
  rw [hnt] at asz
  refine wp_seq (wp_reg (stV (by omega) (runs_assign _) fun b1 k1 => stE (wp_seq (wp_reg (stV (by rw [k1.size]; omega) (runs_move _) fun b2 k2 => stV (by rw [k2.size, k1.size]; omega) (runs_move _) fun b3 k3 => 
    stC (R := R) (by rw [k3.size, k2.size, k1.size]; omega) hp (args3c (u := x) (v := y) (by simp [k1.old, k2.old, k2.new, k3.old, evT, a0]) (by simp [k1.old, k2.old, k3.new, evT, a1])) h fun v w' b4 hR k4 =>
      stV (by rw [k4.size, k3.size, k2.size, k1.size]; omega) (runs_assign _) fun b5 k5 => stE (wp_ret ?_))))))
  refine bodyPost_ret (results_tmp hres _ _ _) (by rw [k5.defers, k4.defers, k3.defers, k2.defers, k1.defers, adf]) ?_
  have e : b5.tmps.getD 4 undef = v := k5.new.trans (by rw [evT, k4.new])
  rw [e]
  exact hR

/-! ### a pointer to what is made anew -/
def gNP (DF T PT : Nat) (c : Code) : Code := .seq (reg [⟨some 0, .assign (.const (.pointer none)), none⟩] (pc c [0]))
  (.seq (reg [⟨some 1, .alloc T, none⟩] (pc c [1, 0])) (.seq (reg [⟨some 2, .call ⟨.value (.func DF), #[.tmp 1], #[T]⟩, none⟩] (pc c [1, 1, 0])) (.seq (reg [⟨some 0, .assign (.tmp 1), none⟩] (pc c [1, 1, 1, 0])) .ret)))
/-- What New gives. -/
def NewP (sz : Nat) (z : Array Value) (w : World) (e : Ending) (w' : World) : Prop := e = .returned (.pointer (some ⟨w.heap.size, 0, none⟩)) ∧ Only (fun _ => False) w w' ∧ Blk w' w.heap.size sz
theorem NP_calls {DF NP T PT sz : Nat} {ks : List Nat} {z : Array Value} {fn : Func} (hfn : P.funcs[NP]? = some fn) (c0 : Code) (hbody : fn.body = some (gNP DF T PT c0)) (hres : fn.results = #[.tmp 0]) (hnt : fn.ntmps = 3)
    (hal : Alc P T z) (hz : z.size = sz) (hD : DefC P DF sz ks) {w : World} :
    Calls P NP #[] w fun e w' => e = .returned (.pointer (some ⟨w.heap.size, 0, none⟩)) ∧ Only (fun _ => False) w w' ∧ Blk w' w.heap.size sz ∧ ∀ o ∈ ks, w'.cell? ⟨w.heap.size, o, none⟩ = z[o]? := by
  refine calls_of_wp hfn hbody ?_
  obtain ⟨a, ha, asz, adf, ag⟩ := start_act #[] fn.ntmps (by rw [hnt]; simp)
  rw [← ha]
  clear ag ha
  rw [hnt] at asz
  refine wp_seq (wp_reg (stV (by omega) (runs_assign _) fun b1 k1 => stE (wp_seq (wp_reg (stV (by rw [k1.size]; omega) (fun o h => hal o _ _ h) fun b2 k2 => stE (wp_seq (wp_reg ?_)))))))
  have hb : Blk (w.alloc (.cells z T)) w.heap.size sz := ⟨_, T, heap_alloc_new w _, by simpa using hz⟩
  have O1 : Only (fun _ => False) w (w.alloc (.cells z T)) := (Only.refl _ _).alloc _
  refine stC (R := fun e w' => Only (· = w.heap.size) (w.alloc (.cells z T)) w' ∧ Upd w.heap.size 0 (0 + sz) (w.alloc (.cells z T)) w' ∧ ∀ o ∈ ks, w'.cell? ⟨w.heap.size, 0 + o, none⟩ = (w.alloc (.cells z T)).cell? ⟨w.heap.size, 0 + o, none⟩) (by rw [k2.size, k1.size]; omega) hD.1 (args1 (x := .pointer (some ⟨w.heap.size, 0, none⟩)) (by rw [k2.new])) ?_ ?_
  · exact (hD.2 _ w.heap.size 0 sz hb (by omega))
  rintro v w3 b3 ⟨h1, h2, h3⟩ k3
  refine stE (wp_seq (wp_reg (stV (by rw [k3.size, k2.size, k1.size]; omega) (runs_assign _) fun b4 k4 => stE (wp_ret ?_))))
  refine bodyPost_ret (results_tmp hres _ _ _) (by rw [k4.defers, k3.defers, k2.defers, k1.defers, adf]) ?_
  have e : b4.tmps.getD 0 undef = .pointer (some ⟨w.heap.size, 0, none⟩) := k4.new.trans (by rw [evT, k3.old _ (by decide), k2.new])
  rw [e]
  refine ⟨rfl, O1.own (h1.mono fun k _ (h : k = _) => by subst h; exact Nat.le_refl _) (Nat.le_refl _), h2.blk hb, fun o ho => ?_⟩
  have := h3 o ho
  simp only [Nat.zero_add] at this
  rw [this]
  rw [World.cell?, heap_alloc_new]
  rfl

/-! ### SetVersion -/
def gSV (T i16 : Nat) (c : Code) : Code := reg [⟨some 4, .move (.tmp 0), none⟩, ⟨some 5, .move (.tmp 1), none⟩, ⟨some 6, .nilCheck (.tmp 4), none⟩, ⟨some 7, .fieldAddr T (.tmp 6) 0, none⟩, ⟨none, .store i16 (.tmp 7) (.tmp 5), none⟩] c
theorem SV_calls {SV T i16 sz : Nat} {fn : Func} (hfn : P.funcs[SV]? = some fn) (c0 : Code) (hbody : fn.body = some (gSV T i16 c0)) (hres : fn.results = #[]) (hnt : fn.ntmps = 8) (hf : FieldAt P T 0 0 i16 1) {w : World} {b : Nat} {n : Int} (hb : Blk w b sz) (hz : 1 ≤ sz) :
    Calls P SV #[.pointer (some ⟨b, 0, none⟩), .int .i16 n] w fun e w' => e = .returned (.tuple #[]) ∧ Only (· = b) w w' ∧ Upd b 0 1 w w' ∧ w'.cell? ⟨b, 0, none⟩ = some (.int .i16 n) := by
  refine calls_of_wp hfn hbody ?_
  obtain ⟨a, ha, asz, adf, ag⟩ := start_act #[.pointer (some ⟨b, 0, none⟩), .int .i16 n] fn.ntmps (by rw [hnt]; simp)
  rw [← ha]
  have a0 : gt a 0 = .pointer (some ⟨b, 0, none⟩) := ag 0 _ rfl
  have a1 : gt a 1 = .int .i16 n := ag 1 _ rfl
  clear ag ha
  rw [hnt] at asz
  refine wp_reg (stV (by omega) (runs_move _) fun b1 k1 => stV (by rw [k1.size]; omega) (runs_move _) fun b2 k2 => ?_)
  have e4 : b2.eval (.tmp 4) = .pointer (some ⟨b, 0, none⟩) := by rw [evT, k2.old _ (by decide), k1.new, evT, a0]
  have e5 : gt b2 5 = .int .i16 n := by rw [k2.new, evT, k1.old _ (by decide), a1]
  refine stV (by rw [k2.size, k1.size]; omega) (runs_nilCheck (p := ⟨b, 0, none⟩) e4) fun b3 k3 => stV (by rw [k3.size, k2.size, k1.size]; omega) (runs_fieldAddr hf (p := ⟨b, 0, none⟩) k3.new) fun b4 k4 => ?_
  have k4n := k4.new
  rw [Addr.add_lit] at k4n
  obtain ⟨w2, hrun, hw⟩ := runs_storeN (P := P) (a := b4) (u := i16) (x := .tmp 7) (y := .tmp 5) (b := b) (o := 0) (n := sz) (v := .int .i16 n) k4n ((k4.old _ (by decide)).trans ((k3.old _ (by decide)).trans e5)) (by obtain ⟨inf, hi, hz⟩ := hf.sz; exact ⟨inf, hi, hz⟩) (by intro c hc; simp [Value.cells] at hc; subst hc; rfl) hb (by simp [Value.cells]; exact hz)
  refine wpC_skip hrun (wpC_nil ?_)
  have hu := hw.upd
  exact bodyPost_end (results_none hres _ _ _) (by rw [k4.defers, k3.defers, k2.defers, k1.defers, adf]) ⟨rfl, hw.only, by simpa [Value.cells] using hu, by simpa using hw.cells 0 (.int .i16 n) rfl⟩

/-! ### Max -/
theorem runs_neNil {a : Act} {w : World} {t t2 : Nat} {x : Operand} {v : Value} (ht : P.underlying t = some (.interface (P.methodsAt t))) (hx : a.eval x = v) {b : Bool} (hv : (v = .nilIface ∧ b = false) ∨ ((∃ t u, v = .iface t u) ∧ b = true)) : Runs P a w (.binOp .neq t x (.const .nilIface) t2) (.bool b) w := by
  intro o h
  have ec : a.eval (.const .nilIface) = .nilIface := rfl
  rcases hv with ⟨rfl, rfl⟩ | ⟨⟨t, u, rfl⟩, rfl⟩ <;> simp [execOp, h, hx, eqGuard, binOp, run_equal_nil_nil _ _ ht, run_equal_held_nil _ _ _ _ ht, ec]

/-- A function that does no more than call NewPtr and MaxVersion. -/
def gMx (NP MV PT i16 int : Nat) (c : Code) : Code := .seq (reg [⟨some 0, .assign (.const (.int .i64 0)), none⟩] (pc c [0]))
  (.seq (reg [⟨some 1, .call ⟨.value (.func NP), #[], #[]⟩, none⟩, ⟨some 2, .call ⟨.value (.func MV), #[.tmp 1], #[PT]⟩, none⟩, ⟨some 3, .convert i16 int (.tmp 2), none⟩, ⟨some 0, .assign (.tmp 3), none⟩] (pc c [1, 0])) .ret)
theorem Mx_calls {NP MV MX PT i16 int : Nat} {fn : Func} (hfn : P.funcs[MX]? = some fn) (c0 : Code) (hbody : fn.body = some (gMx NP MV PT i16 int c0)) (hres : fn.results = #[.tmp 0]) (hnt : fn.ntmps = 4) (hi : P.underlying int = some (.int .i64)) (hj : P.underlying i16 = some (.int .i16))
    (hp1 : Plain P NP) (hp2 : Plain P MV) {w : World} {mx : Int}
    (h1 : Calls P NP #[] w fun e w' => ∃ v, e = .returned v ∧ Only (fun _ => False) w w' ) (h2 : ∀ v w', Calls P MV #[v] w' fun e w'' => e = .returned (.int .i16 mx) ∧ w'' = w') :
    Calls P MX #[] w fun e w' => e = .returned (.int .i64 (IntKind.i64.wrap mx)) ∧ Only (fun _ => False) w w' := by
  refine calls_of_wp hfn hbody ?_
  obtain ⟨a, ha, asz, adf, ag⟩ := start_act #[] fn.ntmps (by rw [hnt]; simp)
  rw [← ha]
  clear ag ha
  rw [hnt] at asz
  refine wp_seq (wp_reg (stV (by omega) (runs_assign _) fun b1 k1 => stE (wp_seq (wp_reg ?_))))
  refine stC (R := fun e w' => Only (fun _ => False) w w') (vs := #[]) (by rw [k1.size]; omega) hp1 (by simp) (h1.mono fun e w' ⟨v, h, k⟩ => ⟨v, h, k⟩) fun v w1 b2 O1 k2 => ?_
  refine stC (R := fun e w' => e = .returned (.int .i16 mx) ∧ w' = w1) (vs := #[v]) (by rw [k2.size, k1.size]; omega) hp2 (args1 k2.new) ((h2 v w1).mono fun e w' ⟨h, k⟩ => ⟨_, h, rfl, k⟩) fun u w2 b3 hu k3 => ?_
  obtain ⟨hu, rfl⟩ := hu
  obtain rfl : u = .int .i16 mx := by simpa using hu
  refine stV (by rw [k3.size, k2.size, k1.size]; omega) (runs_conv hj hi (by rw [evT]; exact k3.new)) fun b4 k4 => stV (by rw [k4.size, k3.size, k2.size, k1.size]; omega) (runs_assign _) fun b5 k5 => stE (wp_ret ?_)
  refine bodyPost_ret (results_tmp hres _ _ _) (by rw [k5.defers, k4.defers, k3.defers, k2.defers, k1.defers, adf]) ?_
  have e : b5.tmps.getD 0 undef = .int .i64 (IntKind.i64.wrap mx) := k5.new.trans (by rw [evT, k4.new])
  rw [e]
  exact ⟨rfl, O1⟩
/-- A function that returns a number. -/
def gK (z v : Value) (c : Code) : Code := .seq (reg [⟨some 2, .assign (.const z), none⟩] (pc c [0])) (.seq (reg [⟨some 2, .assign (.const v), none⟩] (pc c [1, 0])) .ret)
theorem K_calls {F : Nat} {fn : Func} (hfn : P.funcs[F]? = some fn) (c0 : Code) {z v : Value} (hbody : fn.body = some (gK z v c0)) (hres : fn.results = #[.tmp 2]) (hnt : fn.ntmps = 3) {x : Value} {w : World} : Calls P F #[x] w fun e w' => e = .returned v ∧ w' = w := by
  refine calls_of_wp hfn hbody ?_
  obtain ⟨a, ha, asz, adf, ag⟩ := start_act #[x] fn.ntmps (by rw [hnt]; simp)
  rw [← ha]
  clear ag ha
  rw [hnt] at asz
  refine wp_seq (wp_reg (stV (by omega) (runs_assign _) fun b1 k1 => stE (wp_seq (wp_reg (stV (by rw [k1.size]; omega) (runs_assign _) fun b2 k2 => stE (wp_ret ?_))))))
  refine bodyPost_ret (results_tmp hres _ _ _) (by rw [k2.defers, k1.defers, adf]) ?_
  have e : b2.tmps.getD 2 undef = v := k2.new.trans (by rw [evC])
  rw [e]
  exact ⟨rfl, rfl⟩

/-! ### Again -/
/-- What it rests on. Mw, vl: the form and the value that are written (with the version ahead, for what is kept). -/
structure AgC (P : Program) (U sl ER RD WR g : Nat) (EI : World → Prop) (kept : Option Nat) (fx : Option Int) (r : R) (Mw : Int → M) (vl : Int → Val → Val) (sz : Nat) : Prop where
  rdP : Plain P RD
  wrP : Plain P WR
  slT : P.underlying sl = some (.slice U)
  u8 : ∃ i, P.info? U = some i ∧ i.zero = some (.int .u8 0) ∧ i.size = 1 ∧ i.bytes = 1
  er : P.underlying ER = some (.interface (P.methodsAt ER))
  keep : ∀ w w', EI w → Only (fun k => g < k) w w' → EI w'
  lt : ∀ w, EI w → g < w.heap.size
  read : ∀ (w : World) (D b : Nat) (nn : Bool) (A : Option Addr) (n c : Nat) (bs : List UInt8) (ver0 : Int), Blk w b sz → Sp w D nn (.slice A n c) bs → bs.length ≤ lim → D < w.heap.size → b ≠ D → g < b → EI w → (∀ q ∈ r.nils, w.cell? ⟨b, q.1, none⟩ = some (nilV q.2)) →
    w.cell? ⟨b, 0, none⟩ = some (.int .i16 ver0) → Calls P RD #[.pointer (some ⟨b, 0, none⟩), .slice A n c] w (ReadP kept fx r sz D b w bs ver0)
  write : ∀ (w : World) (D b lo hi : Nat) (ver : Int) (x : Val), w.cell? ⟨b, 0, none⟩ = some (.int .i16 ver) → Holds D (Mw ver) w lo hi b 0 x → wf (Mw ver).w x → (enc (Mw ver).w x).length + 16 ≤ lim2 → b < w.heap.size → hi ≤ w.heap.size → D < w.heap.size →
    Calls P WR #[.pointer (some ⟨b, 0, none⟩), .slice none 0 0] w fun e w' => ∃ v, e = .returned v ∧ Own U w.heap.size w' v (enc (Mw ver).w x) ∧ Only (fun _ => False) w w'
  hold : ∀ (w : World) (D b lo hi : Nat) (ver : Int) (x : Val) (bs bs0 : List UInt8) (ver0 : Int), VerOf kept ver0 bs ver bs0 → w.cell? ⟨b, 0, none⟩ = some (.int .i16 ver) → Holds D (r.m ver (flexOf fx ver)) w lo hi b 0 x → Holds D (Mw ver) w lo hi b 0 (vl ver x)

theorem readP_ret {kept : Option Nat} {fx : Option Int} {r : R} {sz D b : Nat} {w w' : World} {bs : List UInt8} {ver0 : Int} {e : Ending} (h : ReadP kept fx r sz D b w bs ver0 e w') : ∃ v, e = .returned v ∧ ReadP kept fx r sz D b w bs ver0 (.returned v) w' := by
  obtain ⟨v, rfl, h⟩ := h
  exact ⟨v, rfl, v, rfl, h⟩

/-- The octets are copied, read; was it an error? -/
theorem Ag1_wp {U sl ER RD WR g : Nat} {EI : World → Prop} {kept : Option Nat} {fx : Option Int} {r : R} {Mw : Int → M} {vl : Int → Val → Val} {sz : Nat} (H : AgC P U sl ER RD WR g EI kept fx r Mw vl sz) {PT p s d bo : Nat} {a : Act} {w : World} {b B : Nat} {vs : Value} {bs : List UInt8} {ver0 : Int}
    (hp : gt a p = .pointer (some ⟨b, 0, none⟩)) (hs : gt a s = vs) (hb : Blk w b sz) (hB : B ≤ w.heap.size) (hv : Oc w B vs bs) (hl : bs.length ≤ lim) (hI : EI w) (hg : g < b) (hnil : ∀ q ∈ r.nils, w.cell? ⟨b, q.1, none⟩ = some (nilV q.2)) (hver : w.cell? ⟨b, 0, none⟩ = some (.int .i16 ver0))
    (hpd : ¬ p = d) (hd : d + 2 < a.tmps.size)
    (h : ∀ a' w' D bad, a'.tmps.size = a.tmps.size → a'.defers = a.defers → (∀ j, j < d → gt a' j = gt a j) → gt a' (d + 2) = .bool bad → Only (fun j => w.heap.size ≤ j ∨ j = b) w w' → D < w'.heap.size → b < w'.heap.size →
      ((bad = false ∧ ∃ ver bs0 x bs' lo h2, VerOf kept ver0 bs ver bs0 ∧ dec (r.m ver (flexOf fx ver)).w bs0 = some (x, bs') ∧ w'.cell? ⟨b, 0, none⟩ = some (.int .i16 ver) ∧ h2 ≤ w'.heap.size ∧ Holds D (Mw ver) w' lo h2 b 0 (vl ver x)) ∨
       (bad = true ∧ ∀ ver bs0, VerOf kept ver0 bs ver bs0 → dec (r.m ver (flexOf fx ver)).w bs0 = none)) → Q .normal a' w') :
    wpC P Q [⟨some d, .call ⟨.builtin .append, #[.const (.slice none 0 0), .tmp s], #[sl, sl]⟩, none⟩, ⟨some (d + 1), .call ⟨.value (.func RD), #[.tmp p, .tmp d], #[PT, sl]⟩, none⟩, ⟨some (d + 2), .binOp .neq ER (.tmp (d + 1)) (.const .nilIface) bo, none⟩] a w := by
  obtain ⟨i0, hi, hz0, hz1, hz2⟩ := H.u8
  have hbl := hb.lt
  have hgw := H.lt w hI
  intro all pre os hall
  obtain ⟨o, os', e⟩ := mkOps_cons ⟨some d, .call ⟨.builtin .append, #[.const (.slice none 0 0), .tmp s], #[sl, sl]⟩, none⟩ [⟨some (d + 1), .call ⟨.value (.func RD), #[.tmp p, .tmp d], #[PT, sl]⟩, none⟩, ⟨some (d + 2), .binOp .neq ER (.tmp (d + 1)) (.const .nilIface) bo, none⟩] os
  rw [e] at hall ⊢
  refine wp_app_oc (base := w.heap.size) (ds := []) (v := .slice none 0 0) rfl _ _ sl rfl H.slT hi hz0 hz1 hz2 rfl (World.ownsRow_nil _ _ _ _) hs hv (Nat.le_refl _) (by simp only [List.length_nil, Nat.zero_add]; unfold lim at hl; unfold lim2; omega) fun v1 w1 hown hw1 => ?_
  have K : wpC P Q [⟨some (d + 1), .call ⟨.value (.func RD), #[.tmp p, .tmp d], #[PT, sl]⟩, none⟩, ⟨some (d + 2), .binOp .neq ER (.tmp (d + 1)) (.const .nilIface) bo, none⟩] (a.put (some d) v1) w1 := by
    have k1 : Nx a d v1 (a.put (some d) v1) := Nx.mk' (by omega)
    generalize a.put (some d) v1 = a1 at k1
    rw [List.nil_append] at hown
    have hsz := hw1.size
    obtain ⟨D, nn, A, n, c, rfl, hsp, hDl, hDb⟩ := hown.sp (by omega) (by omega)
    have hb1 : Blk w1 b sz := hb.keep (hw1.block b hbl (by omega))
    have hc1 : ∀ o, w1.cell? ⟨b, o, none⟩ = w.cell? ⟨b, o, none⟩ := fun o => World.cell?_of_block (w := w) (hw1.block b hbl (by omega))
    refine stC (R := ReadP kept fx r sz D b w1 bs ver0) (by rw [k1.size]; omega) H.rdP (args2 ((k1.old p hpd).trans hp) k1.new) ((H.read w1 D b nn A n c bs ver0 hb1 hsp hl hDl (by omega) hg (H.keep w w1 hI (hw1.mono fun k _ hk => by show g < k; have : w.heap.size ≤ k := hk; omega)) (fun q hq => (hc1 q.1).trans (hnil q hq)) ((hc1 0).trans hver)).mono fun e w' h => readP_ret h) fun v w2 a2 hR k2 => ?_
    obtain ⟨v', e', ho, hb2, hR⟩ := hR
    obtain rfl : v = v' := by simpa using e'
    have hOnly : Only (fun j => w.heap.size ≤ j ∨ j = b) w w2 := (hw1.mono fun _ _ h => .inl h).trans (ho.mono fun _ _ h => .inr h)
    have hs2 := ho.size
    have fin : ∀ bad a3, Nx a2 (d + 2) (.bool bad) a3 → a3.tmps.size = a.tmps.size ∧ a3.defers = a.defers ∧ ∀ j, j < d → gt a3 j = gt a j := fun bad a3 k3 =>
      ⟨k3.size.trans (k2.size.trans k1.size), k3.defers.trans (k2.defers.trans k1.defers), fun j hj => (k3.old j (by omega)).trans ((k2.old j (by omega)).trans (k1.old j (by omega)))⟩
    rcases hR with ⟨ver, bs0, x, bs', lo, h2, hv1, hd1, rfl, hc, hlo, hh2, hH⟩ | ⟨hno, t, u, rfl⟩
    · refine stV (v := .bool false) (by rw [k2.size, k1.size]; omega) (runs_neNil H.er (x := .tmp (d + 1)) (by rw [evT]; exact k2.new) (.inl ⟨rfl, rfl⟩)) fun a3 k3 => stE ?_
      obtain ⟨f1, f2, f3⟩ := fin _ _ k3
      exact h a3 w2 D false f1 f2 f3 k3.new hOnly (by omega) (by omega) (.inl ⟨rfl, ver, bs0, x, bs', lo, h2, hv1, hd1, hc, hh2, H.hold _ _ _ _ _ _ _ _ _ _ hv1 hc hH⟩)
    · refine stV (v := .bool true) (by rw [k2.size, k1.size]; omega) (runs_neNil H.er (x := .tmp (d + 1)) (by rw [evT]; exact k2.new) (.inr ⟨⟨_, _, rfl⟩, rfl⟩)) fun a3 k3 => stE ?_
      obtain ⟨f1, f2, f3⟩ := fin _ _ k3
      exact h a3 w2 D true f1 f2 f3 k3.new hOnly (by omega) (by omega) (.inr ⟨rfl, hno⟩)
  exact K all (pre ++ [mkOp ⟨some d, .call ⟨.builtin .append, #[.const (.slice none 0 0), .tmp s], #[sl, sl]⟩, none⟩ o]) os' (by simpa using hall)

/-- It was an error, or it is written. -/
def gAg2c (r1 r2 d : Nat) (c : Code) : Code := .cond (.tmp d) (.seq (reg [⟨some r1, .assign (.const (.slice none 0 0)), none⟩, ⟨some r2, .assign (.const (.bool false)), none⟩] (pc c [0, 0])) .ret) .skip
def gAg2r (WR PT sl r1 r2 : Nat) (pre : List Core) (p e : Nat) (c : Code) : Code :=
  .seq (reg (pre ++ [⟨some e, .call ⟨.value (.func WR), #[.tmp p, .const (.slice none 0 0)], #[PT, sl]⟩, none⟩, ⟨some r1, .assign (.tmp e), none⟩, ⟨some r2, .assign (.const (.bool true)), none⟩]) (pc c [0])) .ret
/-- Again, of a message: made anew, the version set, read, written. -/
def gAgM (NP SV RD WR PT sl ER bo int i16 : Nat) (c : Code) : Code :=
  .seq (reg [⟨some 4, .assign (.const (.slice none 0 0)), none⟩, ⟨some 5, .assign (.const (.bool false)), none⟩] (pc c [0]))
  (.seq (reg [⟨some 7, .call ⟨.value (.func NP), #[], #[]⟩, none⟩, ⟨some 6, .assign (.tmp 7), none⟩] (pc c [1, 0]))
  (.seq (reg [⟨some 8, .move (.tmp 6), none⟩, ⟨some 9, .move (.tmp 0), none⟩, ⟨some 10, .convert int i16 (.tmp 9), none⟩, ⟨some 11, .call ⟨.value (.func SV), #[.tmp 8, .tmp 10], #[PT, i16]⟩, none⟩] (pc c [1, 1, 0]))
  (.seq (.seq (reg [⟨some 12, .move (.tmp 6), none⟩, ⟨some 13, .move (.tmp 1), none⟩, ⟨some 14, .call ⟨.builtin .append, #[.const (.slice none 0 0), .tmp 13], #[sl, sl]⟩, none⟩, ⟨some 15, .call ⟨.value (.func RD), #[.tmp 12, .tmp 14], #[PT, sl]⟩, none⟩, ⟨some 16, .binOp .neq ER (.tmp 15) (.const .nilIface) bo, none⟩] (pc c [1, 1, 1, 0, 0])) (gAg2c 4 5 16 (pc c [1, 1, 1, 0, 1])))
  (gAg2r WR PT sl 4 5 [⟨some 17, .move (.tmp 6), none⟩] 17 18 (pc c [1, 1, 1, 1])))))
/-- Again, of a thing that is kept: made anew, read, written. -/
def gAgK (NW T RD WR PT sl ER bo : Nat) (c : Code) : Code :=
  .seq (reg [⟨some 2, .assign (.const (.slice none 0 0)), none⟩, ⟨some 3, .assign (.const (.bool false)), none⟩] (pc c [0]))
  (.seq (reg [⟨some 5, .call ⟨.value (.func NW), #[], #[]⟩, none⟩, ⟨some 4, .alloc T, none⟩, ⟨none, .store T (.tmp 4) (.tmp 5), none⟩] (pc c [1, 0]))
  (.seq (.seq (reg [⟨some 6, .move (.tmp 0), none⟩, ⟨some 7, .call ⟨.builtin .append, #[.const (.slice none 0 0), .tmp 6], #[sl, sl]⟩, none⟩, ⟨some 8, .call ⟨.value (.func RD), #[.tmp 4, .tmp 7], #[T, sl]⟩, none⟩, ⟨some 9, .binOp .neq ER (.tmp 8) (.const .nilIface) bo, none⟩] (pc c [1, 1, 0, 0])) (gAg2c 2 3 9 (pc c [1, 1, 0, 1])))
  (gAg2r WR T sl 2 3 [] 4 10 (pc c [1, 1, 1]))))

/-- What 'again' comes to: read, and written; or refused. (W: the form that is read.) -/
def AgQ (U : Nat) (kept : Option Nat) (fx : Option Int) (ver0 : Int) (r : R) (Mw : Int → M) (vl : Int → Val → Val) (w : World) (bs : List UInt8) (e : Ending) (w' : World) : Prop :=
  ∃ v ok, e = .returned (.tuple #[v, .bool ok]) ∧ Only (fun _ => False) w w' ∧
    ((ok = true ∧ ∃ ver bs0 x bs', VerOf kept ver0 bs ver bs0 ∧ dec (r.m ver (flexOf fx ver)).w bs0 = some (x, bs') ∧ Own U w.heap.size w' v (enc (Mw ver).w (vl ver x))) ∨
      (ok = false ∧ v = .slice none 0 0 ∧ ∀ ver bs0, VerOf kept ver0 bs ver bs0 → dec (r.m ver (flexOf fx ver)).w bs0 = none))
/-- Whatever is read can be written. -/
def Fits (kept : Option Nat) (fx : Option Int) (ver0 : Int) (r : R) (Mw : Int → M) (vl : Int → Val → Val) (bs : List UInt8) : Prop :=
  ∀ ver bs0 x bs', VerOf kept ver0 bs ver bs0 → dec (r.m ver (flexOf fx ver)).w bs0 = some (x, bs') → wf (Mw ver).w (vl ver x) ∧ (enc (Mw ver).w (vl ver x)).length + 16 ≤ lim2

theorem Ag2_wp {U sl ER RD WR g : Nat} {EI : World → Prop} {kept : Option Nat} {fx : Option Int} {r : R} {Mw : Int → M} {vl : Int → Val → Val} {sz : Nat} (H : AgC P U sl ER RD WR g EI kept fx r Mw vl sz) {PT r1 r2 d p e N D b : Nat} {pre : List Core} {fn : Func} {c0 c1 : Code} {a : Act} {w0 w : World} {bs : List UInt8} {ver0 : Int} {bad : Bool}
    (hres : fn.results = #[.tmp r1, .tmp r2]) (hadf : a.defers = []) (had : gt a d = .bool bad) (hN : a.tmps.size = N) (h1 : r1 < N) (h2 : r2 < N) (h12 : ¬ r1 = r2) (he : e < N) (hre1 : ¬ e = r2) (O : Only (fun _ => False) w0 w) (hf : Fits kept fx ver0 r Mw vl bs) (hD : D < w.heap.size) (hb : b < w.heap.size)
    (hpre : ∀ (Q : Exit → Act → World → Prop) cs, (∀ a', a'.tmps.size = N → a'.defers = [] → gt a' p = .pointer (some ⟨b, 0, none⟩) → wpC P Q cs a' w) → wpC P Q (pre ++ cs) a w)
    (hc : (bad = false ∧ ∃ ver bs0 x bs' lo h2, VerOf kept ver0 bs ver bs0 ∧ dec (r.m ver (flexOf fx ver)).w bs0 = some (x, bs') ∧ w.cell? ⟨b, 0, none⟩ = some (.int .i16 ver) ∧ h2 ≤ w.heap.size ∧ Holds D (Mw ver) w lo h2 b 0 (vl ver x)) ∨
       (bad = true ∧ ∀ ver bs0, VerOf kept ver0 bs ver bs0 → dec (r.m ver (flexOf fx ver)).w bs0 = none)) :
    (gAg2c r1 r2 d c0).wp P (Exit.then ((gAg2r WR PT sl r1 r2 pre p e c1).wp P (bodyPost P fn (AgQ U kept fx ver0 r Mw vl w0 bs))) (bodyPost P fn (AgQ U kept fx ver0 r Mw vl w0 bs))) a w := by
  have e1 : ∀ (b : Act) j, b.tmps.getD j undef = gt b j := fun _ _ => rfl
  rcases hc with ⟨rfl, ver, bs0, x, bs', lo, hh, hv, hd, hcell, hhs, hH⟩ | ⟨rfl, hno⟩
  · refine wp_cond_false (by rw [evT]; exact had) (wp_skip (wp_seq (wp_reg (hpre _ _ fun a1 s1 d1 g1 => ?_))))
    obtain ⟨f1, f2⟩ := hf _ _ _ _ hv hd
    refine stC (R := fun e w' => ∃ v, e = .returned v ∧ Own U w.heap.size w' v (enc (Mw ver).w (vl ver x)) ∧ Only (fun _ => False) w w') (by omega) H.wrP (args2c (v := .slice none 0 0) g1) ((H.write w D b lo hh ver _ hcell hH f1 f2 hb hhs hD).mono fun e w' ⟨v, h, k⟩ => ⟨v, h, v, rfl, k⟩) fun v w1 a2 hR k2 => ?_
    obtain ⟨v', e', hown, ho⟩ := hR
    obtain rfl : v = v' := by simpa using e'
    refine stV (by rw [k2.size]; omega) (runs_assign _) fun a3 k3 => stV (by rw [k3.size, k2.size]; omega) (runs_assign _) fun a4 k4 => stE (wp_ret ?_)
    refine bodyPost_ret (results_tmp2 hres _ _ _) (by rw [k4.defers, k3.defers, k2.defers, d1]) ?_
    rw [e1, e1, k4.new, k4.old _ h12, k3.new, evT, k2.new]
    exact ⟨v, true, rfl, O.trans ho, .inl ⟨rfl, ver, bs0, x, bs', hv, hd, hown.lower O.size⟩⟩
  · refine wp_cond_true (by rw [evT]; exact had) (wp_seq (wp_reg (stV (by omega) (runs_assign _) fun a3 k3 => stV (by rw [k3.size]; omega) (runs_assign _) fun a4 k4 => stE (wp_ret ?_))))
    refine bodyPost_ret (results_tmp2 hres _ _ _) (by rw [k4.defers, k3.defers, hadf]) ?_
    rw [e1, e1, k4.new, k4.old _ h12, k3.new]
    exact ⟨_, false, rfl, O, .inr ⟨rfl, rfl, hno⟩⟩

theorem only_own2 {w0 w w' : World} {b B : Nat} (h0 : Only (fun _ => False) w0 w) (hb : w0.heap.size ≤ b) (hB : w0.heap.size ≤ B) (h : Only (fun j => B ≤ j ∨ j = b) w w') : Only (fun _ => False) w0 w' :=
  h0.own (B := w0.heap.size) (h.mono fun k _ hk => by rcases hk with hk | hk <;> omega) (Nat.le_refl _)

/-- AGAIN, of a message. -/
theorem AgM_calls {U sl ER RD WR g : Nat} {EI : World → Prop} {fx : Option Int} {r : R} {Mw : Int → M} {vl : Int → Val → Val} {sz : Nat} (H : AgC P U sl ER RD WR g EI none fx r Mw vl sz) {NP SV AG PT bo int i16 : Nat} {fn : Func} (hfn : P.funcs[AG]? = some fn) (c0 : Code) (hbody : fn.body = some (gAgM NP SV RD WR PT sl ER bo int i16 c0)) (hres : fn.results = #[.tmp 4, .tmp 5]) (hnt : fn.ntmps = 19)
    (hp1 : Plain P NP) (hp2 : Plain P SV) (hi : P.underlying int = some (.int .i64)) (hj : P.underlying i16 = some (.int .i16)) (hsz : 1 ≤ sz) (hn1 : ∀ q ∈ r.nils, 1 ≤ q.1)
    (hNP : ∀ w, Calls P NP #[] w fun e w' => e = .returned (.pointer (some ⟨w.heap.size, 0, none⟩)) ∧ Only (fun _ => False) w w' ∧ Blk w' w.heap.size sz ∧ ∀ q ∈ r.nils, w'.cell? ⟨w.heap.size, q.1, none⟩ = some (nilV q.2))
    (hSV : ∀ w b n, Blk w b sz → Calls P SV #[.pointer (some ⟨b, 0, none⟩), .int .i16 n] w fun e w' => e = .returned (.tuple #[]) ∧ Only (· = b) w w' ∧ Upd b 0 1 w w' ∧ w'.cell? ⟨b, 0, none⟩ = some (.int .i16 n))
    {w : World} {ver : Int} {vs : Value} {B : Nat} {bs : List UInt8} (hB : B ≤ w.heap.size) (hv : Oc w B vs bs) (hl : bs.length ≤ lim) (hI : EI w) (hr : IntKind.i16.wrap ver = ver) (hf : Fits none fx ver r Mw vl bs) :
    Calls P AG #[.int .i64 ver, vs] w (AgQ U none fx ver r Mw vl w bs) := by
  refine calls_of_wp hfn hbody ?_
  obtain ⟨a, ha, asz, adf, ag⟩ := start_act #[.int .i64 ver, vs] fn.ntmps (by rw [hnt]; simp)
  rw [← ha]
  have a0 : gt a 0 = .int .i64 ver := ag 0 _ rfl
  have a1 : gt a 1 = vs := ag 1 _ rfl
  clear ag ha
  rw [hnt] at asz
  have hgw := H.lt w hI
  refine wp_seq (wp_reg (stV (by omega) (runs_assign _) fun b1 k1 => stV (by rw [k1.size]; omega) (runs_assign _) fun b2 k2 => stE (wp_seq (wp_reg ?_))))
  refine stC (vs := #[]) (R := fun e w' => e = .returned (.pointer (some ⟨w.heap.size, 0, none⟩)) ∧ Only (fun _ => False) w w' ∧ Blk w' w.heap.size sz ∧ ∀ q ∈ r.nils, w'.cell? ⟨w.heap.size, q.1, none⟩ = some (nilV q.2)) (by rw [k2.size, k1.size]; omega) hp1 (by simp) ((hNP w).mono fun e w' h => ⟨_, h.1, rfl, h.2⟩) fun p w1 b3 hR k3 => ?_
  obtain ⟨hp, O1, hb1, hn⟩ := hR
  obtain rfl : p = _ := by simpa using hp
  refine stV (by rw [k3.size, k2.size, k1.size]; omega) (runs_assign _) fun b4 k4 => stE (wp_seq (wp_reg ?_))
  have e6 : gt b4 6 = .pointer (some ⟨w.heap.size, 0, none⟩) := k4.new.trans k3.new
  have s4 : b4.tmps.size = 19 := by rw [k4.size, k3.size, k2.size, k1.size, asz]
  have d4 : b4.defers = [] := by rw [k4.defers, k3.defers, k2.defers, k1.defers, adf]
  have e0 : gt b4 0 = .int .i64 ver := by rw [k4.old _ (by decide), k3.old _ (by decide), k2.old _ (by decide), k1.old _ (by decide), a0]
  have e1 : gt b4 1 = vs := by rw [k4.old _ (by decide), k3.old _ (by decide), k2.old _ (by decide), k1.old _ (by decide), a1]
  clear k1 k2 k3 k4 a0 a1
  refine stV (by omega) (runs_move _) fun b5 k5 => stV (by rw [k5.size]; omega) (runs_move _) fun b6 k6 => stV (by rw [k6.size, k5.size]; omega) (runs_conv hi hj (n := ver) (by rw [evT, k6.new, evT, k5.old _ (by decide), e0])) fun b7 k7 => ?_
  rw [hr] at k7
  refine stC (vs := #[.pointer (some ⟨w.heap.size, 0, none⟩), .int .i16 ver]) (R := fun e w' => e = .returned (.tuple #[]) ∧ Only (· = w.heap.size) w1 w' ∧ Upd w.heap.size 0 1 w1 w' ∧ w'.cell? ⟨w.heap.size, 0, none⟩ = some (.int .i16 ver)) (by rw [k7.size, k6.size, k5.size]; omega) hp2 (args2 (by rw [k7.old _ (by decide), k6.old _ (by decide), k5.new, evT, e6]) k7.new) ((hSV w1 w.heap.size ver hb1).mono fun e w' h => ⟨_, h.1, rfl, h.2⟩) fun u w2 b8 hR k8 => stE (wp_seq (wp_seq (wp_reg ?_)))
  obtain ⟨_, O2, hU, hc⟩ := hR
  have e6' : gt b8 6 = .pointer (some ⟨w.heap.size, 0, none⟩) := by rw [k8.old _ (by decide), k7.old _ (by decide), k6.old _ (by decide), k5.old _ (by decide), e6]
  have s8 : b8.tmps.size = 19 := by rw [k8.size, k7.size, k6.size, k5.size, s4]
  have d8 : b8.defers = [] := by rw [k8.defers, k7.defers, k6.defers, k5.defers, d4]
  have e1' : gt b8 1 = vs := by rw [k8.old _ (by decide), k7.old _ (by decide), k6.old _ (by decide), k5.old _ (by decide), e1]
  clear k5 k6 k7 k8 e0 e1 e6
  have O02 : Only (fun _ => False) w w2 := O1.own (B := w.heap.size) (O2.mono fun k _ (h : k = _) => by omega) (Nat.le_refl _)
  have hb2 : Blk w2 w.heap.size sz := hU.blk hb1
  have hs2 := O02.size
  refine stV (by omega) (runs_move _) fun b9 k9 => stV (by rw [k9.size]; omega) (runs_move _) fun b10 k10 => ?_
  refine Ag1_wp H (p := 12) (s := 13) (b := w.heap.size) (B := B) (ver0 := ver) (by rw [k10.old _ (by decide), k9.new, evT, e6']) (by rw [k10.new, evT, k9.old _ (by decide), e1']) hb2 (by omega) (hv.keep (O02.kept0 hB)) hl (H.keep w w2 hI (O02.mono fun _ _ h => h.elim)) hgw (fun q hq => by rw [hU.cell hb1 (.inr (hn1 q hq))]; exact hn q hq) hc (by decide) (by rw [k10.size, k9.size]; omega) ?_
  intro b11 w3 D bad s11 d11 f11 g11 O3 hD3 hb3 hcase
  have O03 : Only (fun _ => False) w w3 := only_own2 O02 (Nat.le_refl _) hs2 O3
  have e6'' : gt b11 6 = .pointer (some ⟨w.heap.size, 0, none⟩) := by rw [f11 _ (by decide), k10.old _ (by decide), k9.old _ (by decide), e6']
  have s11' : b11.tmps.size = 19 := by rw [s11, k10.size, k9.size, s8]
  have d11' : b11.defers = [] := by rw [d11, k10.defers, k9.defers, d8]
  refine Ag2_wp H (N := 19) (b := w.heap.size) hres d11' g11 s11' (by decide) (by decide) (by decide) (by decide) (by decide) O03 hf hD3 hb3 ?_ hcase
  intro Q cs hq
  exact stV (by omega) (runs_move _) fun b12 k12 => hq b12 (by rw [k12.size, s11']) (by rw [k12.defers, d11']) (by rw [k12.new, evT, e6''])

/-- AGAIN, of a thing that is kept. -/
theorem AgK_calls {U sl ER RD WR g F16 : Nat} {EI : World → Prop} {fx : Option Int} {r : R} {Mw : Int → M} {vl : Int → Val → Val} {sz : Nat} (H : AgC P U sl ER RD WR g EI (some F16) fx r Mw vl sz) {NW AG T bo : Nat} {fn : Func} (hfn : P.funcs[AG]? = some fn) (c0 : Code) (hbody : fn.body = some (gAgK NW T RD WR T sl ER bo c0)) (hres : fn.results = #[.tmp 2, .tmp 3]) (hnt : fn.ntmps = 11)
    (hp1 : Plain P NW) {z cs : Array Value} (hal : Alc P T z) (hz : z.size = sz) (hcs : cs.size = sz) (hcell : ∀ c ∈ cs.toList, c.oneCell' = true) (hT : ∃ inf, P.info? T = some inf ∧ inf.size = sz)
    (hNW : ∀ w, Calls P NW #[] w fun e w' => e = .returned (.agg cs) ∧ Only (fun _ => False) w w') (h0 : cs[0]? = some (.int .i16 0)) (hn : ∀ q ∈ r.nils, cs[q.1]? = some (nilV q.2))
    {w : World} {vs : Value} {B : Nat} {bs : List UInt8} (hB : B ≤ w.heap.size) (hv : Oc w B vs bs) (hl : bs.length ≤ lim) (hI : EI w) (hf : Fits (some F16) fx 0 r Mw vl bs) :
    Calls P AG #[vs] w (AgQ U (some F16) fx 0 r Mw vl w bs) := by
  refine calls_of_wp hfn hbody ?_
  obtain ⟨a, ha, asz, adf, ag⟩ := start_act #[vs] fn.ntmps (by rw [hnt]; simp)
  rw [← ha]
  have a0 : gt a 0 = vs := ag 0 _ rfl
  clear ag ha
  rw [hnt] at asz
  have hgw := H.lt w hI
  refine wp_seq (wp_reg (stV (by omega) (runs_assign _) fun b1 k1 => stV (by rw [k1.size]; omega) (runs_assign _) fun b2 k2 => stE (wp_seq (wp_reg ?_))))
  refine stC (vs := #[]) (R := fun e w' => e = .returned (.agg cs) ∧ Only (fun _ => False) w w') (by rw [k2.size, k1.size]; omega) hp1 (by simp) ((hNW w).mono fun e w' h => ⟨_, h.1, rfl, h.2⟩) fun p w1 b3 hR k3 => ?_
  obtain ⟨hp, O1⟩ := hR
  obtain rfl : p = _ := by simpa using hp
  refine stV (by rw [k3.size, k2.size, k1.size]; omega) (fun o h => hal o _ _ h) fun b4 k4 => ?_
  have e4 : gt b4 4 = .pointer (some ⟨w1.heap.size, 0, none⟩) := k4.new
  have e5 : gt b4 5 = .agg cs := (k4.old _ (by decide)).trans k3.new
  have s4 : b4.tmps.size = 11 := by rw [k4.size, k3.size, k2.size, k1.size, asz]
  have d4 : b4.defers = [] := by rw [k4.defers, k3.defers, k2.defers, k1.defers, adf]
  have e0 : gt b4 0 = vs := by rw [k4.old _ (by decide), k3.old _ (by decide), k2.old _ (by decide), k1.old _ (by decide), a0]
  clear k1 k2 k3 k4 a0
  have hb : Blk (w1.alloc (.cells z T)) w1.heap.size sz := ⟨_, T, heap_alloc_new w1 _, by simpa using hz⟩
  obtain ⟨w2, hrun, hw⟩ := runs_storeN (P := P) (a := b4) (u := T) (x := .tmp 4) (y := .tmp 5) (b := w1.heap.size) (o := 0) (n := sz) (v := .agg cs) e4 e5 (by obtain ⟨inf, hi, hz⟩ := hT; exact ⟨inf, hi, hz.trans (by simp [Value.cells, hcs])⟩) (by simpa [Value.cells] using hcell) hb (by simp [Value.cells, hcs])
  refine wpC_skip hrun (stE (wp_seq (wp_seq (wp_reg ?_))))
  have hs1 := O1.size
  have O02 : Only (fun _ => False) w w2 := (O1.alloc _).own (B := w.heap.size) (hw.only.mono fun k _ (h : k = _) => by omega) (Nat.le_refl _)
  have hb2 : Blk w2 w1.heap.size sz := by
    have := hw.upd.blk hb
    exact this
  have hcs2 : ∀ q v, cs[q]? = some v → w2.cell? ⟨w1.heap.size, q, none⟩ = some v := fun q v h => by
    have := hw.cells q v (by simpa [Value.cells] using h)
    simpa using this
  have hs2 := O02.size
  refine stV (by omega) (runs_move _) fun b9 k9 => ?_
  refine Ag1_wp H (p := 4) (s := 6) (b := w1.heap.size) (B := B) (ver0 := 0) (by rw [k9.old _ (by decide), e4]) (by rw [k9.new, evT, e0]) hb2 (by omega) (hv.keep (O02.kept0 hB)) hl (H.keep w w2 hI (O02.mono fun _ _ h => h.elim)) (by omega) (fun q hq => hcs2 q.1 _ (hn q hq)) (hcs2 0 _ h0) (by decide) (by rw [k9.size]; omega) ?_
  intro b11 w3 D bad s11 d11 f11 g11 O3 hD3 hb3 hcase
  have O03 : Only (fun _ => False) w w3 := only_own2 O02 hs1 hs2 O3
  have s11' : b11.tmps.size = 11 := by rw [s11, k9.size, s4]
  have d11' : b11.defers = [] := by rw [d11, k9.defers, d4]
  refine Ag2_wp H (N := 11) (b := w1.heap.size) hres d11' g11 s11' (by decide) (by decide) (by decide) (by decide) (by decide) O03 hf hD3 hb3 ?_ hcase
  intro Q cs hq
  exact hq b11 s11' d11' (by rw [f11 _ (by decide), k9.old _ (by decide), e4])

/-! ### New -/
def gNewM (NP SV WR PT sl int i16 : Nat) (c : Code) : Code :=
  .seq (reg [⟨some 2, .assign (.const (.slice none 0 0)), none⟩] (pc c [0]))
  (.seq (reg [⟨some 4, .call ⟨.value (.func NP), #[], #[]⟩, none⟩, ⟨some 3, .assign (.tmp 4), none⟩] (pc c [1, 0]))
  (.seq (reg [⟨some 5, .move (.tmp 3), none⟩, ⟨some 6, .move (.tmp 0), none⟩, ⟨some 7, .convert int i16 (.tmp 6), none⟩, ⟨some 8, .call ⟨.value (.func SV), #[.tmp 5, .tmp 7], #[PT, i16]⟩, none⟩] (pc c [1, 1, 0]))
  (.seq (reg [⟨some 9, .move (.tmp 3), none⟩, ⟨some 10, .call ⟨.value (.func WR), #[.tmp 9, .const (.slice none 0 0)], #[PT, sl]⟩, none⟩, ⟨some 2, .assign (.tmp 10), none⟩] (pc c [1, 1, 1, 0])) .ret)))

theorem primDec_i16 {bs : List UInt8} {ver : Int} {bs' : List UInt8} (h : primDec .i16 bs = some (.int ver, bs')) : Prim.i16.lo ≤ ver ∧ ver < Prim.i16.hi := by
  simp only [primDec] at h
  split at h
  · cases h
  · split at h
    · cases h
    · rename_i hl _
      injection h with h
      injection h with h _
      injection h with h
      subst h
      exact conv_rng' .i16 (by decide) _ (by simp; omega)

/-- All of it for a message: reading, writing. -/
theorem AgC.mk' {G : Gn} {E : Hn} {T PT DF i16 M0 NT sz hi M1 NT1 : Nat} {kept : Option Nat} {fx : Option Int} {r : R} {a : A} {EI : World → Prop} {g sl bo ER RF RD WR : Nat} (HR : MsgR P G T PT DF i16 M0 NT sz hi kept fx r EI) (HW : MsgW P E true T i16 M1 NT1 fx a)
    {fr fd fw : Func} (hfr : P.funcs[RF]? = some fr) (cr : Code) (hbr : fr.body = some (gRead G T PT DF i16 M0 kept fx r cr)) (hrr : fr.results = #[.tmp 6]) (hnr : fr.ntmps = NT) (hpr : Plain P RF)
    (hfd : P.funcs[RD]? = some fd) (cd : Code) (hbd : fd.body = some (gRF RF PT sl bo cd)) (hrd : fd.results = #[.tmp 4]) (hnd : fd.ntmps = 8) (hpd : Plain P RD)
    (hfw : P.funcs[WR]? = some fw) (cw : Code) (hbw : fw.body = some (gWrite E T i16 M1 fx a cw)) (hrw : fw.results = #[.tmp 4]) (hnw : fw.ntmps = NT1) (hpw : Plain P WR)
    (hsl : P.underlying sl = some (.slice E.u8)) (hu8 : ∃ i, P.info? E.u8 = some i ∧ i.zero = some (.int .u8 0) ∧ i.size = 1 ∧ i.bytes = 1) (her : P.underlying ER = some (.interface (P.methodsAt ER)))
    (keep : ∀ w w', EI w → Only (fun k => g + 1 ≤ k) w w' → EI w') (lt : ∀ w, EI w → g < w.heap.size) (vl : Int → Val → Val)
    (hold : ∀ (w : World) (D b lo hi : Nat) (ver : Int) (x : Val) (bs bs0 : List UInt8) (ver0 : Int), VerOf kept ver0 bs ver bs0 → w.cell? ⟨b, 0, none⟩ = some (.int .i16 ver) → Holds D (r.m ver (flexOf fx ver)) w lo hi b 0 x → Holds D (a.m ver (flexOf fx ver)) w lo hi b 0 (vl ver x)) :
    AgC P E.u8 sl ER RD WR g EI kept fx r (fun ver => a.m ver (flexOf fx ver)) vl sz where
  rdP := hpd
  wrP := hpw
  slT := hsl
  u8 := hu8
  er := her
  keep := keep
  lt := lt
  read := fun w D b nn A n c bs ver0 hb hs hl hD hbD hg hI hn hv => RF_calls hfd cd hbd hrd hnd hpr ((readFrom_calls HR hfr cr hbr hrr hnr hb hs hl hD hbD (L := g + 1) hg hI keep hn hv).mono fun e w' h => readP_ret h)
  write := fun w D b lo hi ver x hv hH hw hl hb hh hD => appendTo_calls HW hfw cw hbw hrw hnw hv hH hw hl hb hh (fun h => by cases h) hD
  hold := hold
end
end Go.Proofs.Ythlfepgcjomhpaa.Kf
