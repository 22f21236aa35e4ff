/- A message made anew: what its cells say, and what is written of it. -/
import Derived.Test.YthlfepgcjomhpaaLawA
namespace Go.Proofs.Ythlfepgcjomhpaa.Kf
set_option linter.unusedVariables false
set_option linter.unusedSimpArgs false
open Go Go.RowKit

/-! ### what cells say where no list, no text that may be null and no tag holds anything -/
def u8o : Value → Option UInt8
  | .int .u8 n => if 0 ≤ n ∧ n < 256 then some (UInt8.ofNat n.toNat) else none
  | _ => none
theorem u8o_eq {c : Value} {b : UInt8} (h : u8o c = some b) : c = u8v b := by
  unfold u8o at h
  split at h
  · split at h
    · rename_i n hn
      simp at h; subst h
      unfold u8v
      congr 1
      have : (UInt8.ofNat n.toNat).toNat = n.toNat % 256 := UInt8.toNat_ofNat'
      rw [this]; omega
    · cases h
  · cases h
def u8s : List Value → Option (List UInt8)
  | [] => some []
  | c :: cs => (u8o c).bind fun b => (u8s cs).map (b :: ·)
theorem u8s_eq : ∀ {cs : List Value} {s : List UInt8}, u8s cs = some s → cs = s.map u8v := by
  intro cs
  induction cs with
  | nil => intro s h; simp [u8s] at h; subst h; rfl
  | cons c cs ih =>
    intro s h
    simp only [u8s] at h
    obtain ⟨b, hb, h⟩ := Option.bind_eq_some_iff.1 h
    obtain ⟨s', hs, rfl⟩ := Option.map_eq_some_iff.1 h
    rw [u8o_eq hb, ih hs]
    rfl
def leaf0 : RK → List Value → Option Val
  | .prim .bool, [.bool b] => some (.int (if b then 1 else 0))
  | .prim .i8, [.int .i8 n] => if Prim.i8.lo ≤ n ∧ n < Prim.i8.hi then some (.int n) else none
  | .prim .i16, [.int .i16 n] => if Prim.i16.lo ≤ n ∧ n < Prim.i16.hi then some (.int n) else none
  | .prim .i32, [.int .i32 n] => if Prim.i32.lo ≤ n ∧ n < Prim.i32.hi then some (.int n) else none
  | .prim .i64, [.int .i64 n] => if Prim.i64.lo ≤ n ∧ n < Prim.i64.hi then some (.int n) else none
  | .prim .u16, [.int .u16 n] => if Prim.u16.lo ≤ n ∧ n < Prim.u16.hi then some (.int n) else none
  | .prim .uuid, cs => if cs.length = 16 then (u8s cs).map fun s => .bytes (some s) else none
  | .str _ false, [.string s] => some (.bytes (some s.data.toList))
  | .str _ true, [.pointer none] => some (.bytes none)
  | .byt _ true, [.slice none 0 0] => some (.bytes none)
  | .byt _ false, [.slice none 0 0] => some (.bytes (some []))
  | .tags, [.map none] => some (.tags [])
  | _, _ => none
theorem leaf0_ok {k : RK} {cs : List Value} {x : Val} (h : leaf0 k cs = some x) (D : Nat) (w : World) (lo hi : Nat) : k.leaf D w lo hi cs x := by
  unfold leaf0 at h
  split at h
  · rename_i b
    simp at h; subst h
    refine .inl ⟨by decide, _, rfl, ?_, ?_, ?_⟩ <;> cases b <;> first | decide | rfl
  iterate 5
    · split at h
      · rename_i hn
        simp at h; subst h
        exact .inl ⟨by decide, _, rfl, hn.1, hn.2, rfl⟩
      · cases h
  · split at h
    · rename_i hl
      cases hs : u8s cs with
      | none => rw [hs] at h; cases h
      | some s =>
        rw [hs] at h
        simp at h; subst h
        have := u8s_eq hs
        exact .inr ⟨rfl, s, by rw [← hl, this]; simp, rfl, this⟩
    · cases h
  · simp at h; subst h; exact .inl ⟨rfl, _, rfl, rfl⟩
  · simp at h; subst h; exact .inr ⟨rfl, .inl ⟨rfl, rfl⟩⟩
  · simp at h; subst h; exact .inl ⟨rfl, rfl, rfl⟩
  · simp at h; subst h; exact .inr (.inl ⟨rfl, rfl, none, rfl⟩)
  · simp at h; subst h; exact ⟨[], rfl, .inl ⟨rfl, rfl⟩⟩
  · cases h
def nil0 (nl : Bool) : Option Value → Option Val
  | some (.slice none 0 0) => some (.list (if nl then none else some []))
  | _ => none
def opt0 : Option Value → Option Val
  | some (.pointer none) => some (.opt none)
  | _ => none
def vv0 (t : Bool) : Option Value → Option Val
  | some (.pointer none) => some (.bytes (if t then some [] else none))
  | _ => none
def A.x0 (ver : Int) (flex : Bool) (z : List Value) : A → Option Val
  | .done => some .unit
  | .val c _ o _ v r => if c.holds ver then (leaf0 (v.rk flex) ((z.drop o).take (v.rk flex).n)).bind fun y => (A.x0 ver flex z r).map (.pair y ·) else A.x0 ver flex z r
  | .arrV c _ o _ _ _ n _ _ _ r => if c.holds ver then (nil0 n.isSome z[o]?).bind fun y => (A.x0 ver flex z r).map (.pair y ·) else A.x0 ver flex z r
  | .arrS c _ o _ _ _ n _ _ _ r => if c.holds ver then (nil0 n.isSome z[o]?).bind fun y => (A.x0 ver flex z r).map (.pair y ·) else A.x0 ver flex z r
  | .tags _ o _ _ _ _ r => if flex then (leaf0 .tags ((z.drop o).take 1)).bind fun y => (A.x0 ver flex z r).map (.pair y ·) else A.x0 ver flex z r
  | .optS c _ o _ _ _ _ _ r => if c.holds ver then (opt0 z[o]?).bind fun y => (A.x0 ver flex z r).map (.pair y ·) else A.x0 ver flex z r
  | .vv c _ o _ _ cv _ _ _ _ r => if c.holds ver then (vv0 (decide (ver < cv)) z[o]?).bind fun y => (A.x0 ver flex z r).map (.pair y ·) else A.x0 ver flex z r
  | .inl c _ o _ _ _ b r => if c.holds ver then (A.x0 ver flex (z.drop o) b).bind fun y => (A.x0 ver flex z r).map (.pair y ·) else A.x0 ver flex z r

theorem cells_dt {w : World} {b off o n : Nat} {z : List Value} (h : ∀ j v, z[j]? = some v → w.cell? ⟨b, off + j, none⟩ = some v) : Cells w b (off + o) ((z.drop o).take n) := by
  intro j v hj
  rw [List.getElem?_take] at hj
  split at hj
  · rw [List.getElem?_drop] at hj
    rw [Nat.add_assoc]
    exact h _ _ hj
  · cases hj
theorem fld0 {D : Nat} {m r : M} {w : World} {lo b off o : Nat} {y z : Val} (h : Holds D m w lo lo b (off + o) y) (k : Holds D r w lo lo b off z) : Holds D (.fld o m r) w lo lo b off (.pair y z) := ⟨lo, y, z, rfl, h, k⟩
theorem nil0_ok {nl nr c : Bool} {sz D lo b off o : Nat} {e : M} {w : World} {z : List Value} {y : Val} (h : nil0 nl z[o]? = some y) (hz : ∀ j v, z[j]? = some v → w.cell? ⟨b, off + j, none⟩ = some v) : Holds D (.arr c nl nr sz e) w lo lo b (off + o) y := by
  unfold nil0 at h
  split at h
  · rename_i e
    simp at h
    refine ⟨Nat.le_refl _, [.slice none 0 0], fun j v hj => ?_, ?_⟩
    · match j, hj with
      | 0, hj => simp at hj; subst hj; simpa using hz _ _ e
    · cases nl
      · exact .inr (.inl ⟨rfl, by simpa using h.symm, rfl⟩)
      · exact .inl ⟨rfl, by simpa using h.symm, rfl⟩
  · cases h
theorem opt0_ok {sz D lo b off o : Nat} {e : M} {w : World} {z : List Value} {y : Val} (h : opt0 z[o]? = some y) (hz : ∀ j v, z[j]? = some v → w.cell? ⟨b, off + j, none⟩ = some v) : Holds D (.opt sz e) w lo lo b (off + o) y := by
  unfold opt0 at h
  split at h
  · rename_i e
    simp at h
    refine ⟨Nat.le_refl _, [.pointer none], fun j v hj => ?_, .inl ⟨h.symm, rfl⟩⟩
    match j, hj with
    | 0, hj => simp at hj; subst hj; simpa using hz _ _ e
  · cases h
theorem vv0_ok {ver cv : Int} {flex : Bool} {D lo b off o : Nat} {w : World} {z : List Value} {y : Val} (h : vv0 (decide (ver < cv)) z[o]? = some y) (hz : ∀ j v, z[j]? = some v → w.cell? ⟨b, off + j, none⟩ = some v) : Holds D (if ver < cv then .pstr flex else .str flex true) w lo lo b (off + o) y := by
  unfold vv0 at h
  split at h
  · rename_i e
    have hc : Cells w b (off + o) [.pointer none] := fun j v hj => by
      match j, hj with
      | 0, hj => simp at hj; subst hj; simpa using hz _ _ e
    by_cases hv : ver < cv
    · rw [if_pos hv]
      have : decide (ver < cv) = true := by simpa using hv
      rw [this] at h
      simp at h
      exact ⟨Nat.le_refl _, _, hc, .inl ⟨h.symm, rfl⟩⟩
    · rw [if_neg hv]
      have : decide (ver < cv) = false := by simpa using hv
      rw [this] at h
      simp at h
      exact ⟨Nat.le_refl _, _, hc, .inr ⟨rfl, .inl ⟨h.symm, rfl⟩⟩⟩
  · cases h
theorem A.holds0 {ver : Int} {flex : Bool} {w : World} {b : Nat} (D lo : Nat) : ∀ {a : A} {z : List Value} {off : Nat} {x : Val}, (∀ j v, z[j]? = some v → w.cell? ⟨b, off + j, none⟩ = some v) → a.x0 ver flex z = some x → Holds D (a.m ver flex) w lo lo b off x := by
  intro a
  induction a with
  | done => intro z off x hz h; simp [A.x0] at h; subst h; exact ⟨rfl, Nat.le_refl _⟩
  | val c i o u v r ih =>
    intro z off x hz h
    simp only [A.x0] at h
    simp only [A.m]
    split at h
    · rename_i hc
      rw [if_pos hc]
      obtain ⟨y, hy, h⟩ := Option.bind_eq_some_iff.1 h
      obtain ⟨q, hq, rfl⟩ := Option.map_eq_some_iff.1 h
      exact fld0 (RK.holds (Nat.le_refl _) (cells_dt hz) (leaf0_ok hy _ _ _ _)) (ih hz hq)
    · rename_i hc
      rw [if_neg hc]; exact ih hz h
  | arrV c i o TS eb zs n l u v r ih =>
    intro z off x hz h
    simp only [A.x0] at h
    simp only [A.m]
    split at h
    · rename_i hc
      rw [if_pos hc]
      obtain ⟨y, hy, h⟩ := Option.bind_eq_some_iff.1 h
      obtain ⟨q, hq, rfl⟩ := Option.map_eq_some_iff.1 h
      exact fld0 (nil0_ok hy hz) (ih hz hq)
    · rename_i hc
      rw [if_neg hc]; exact ih hz h
  | arrS c i o TS eb zs n l T b' r ihb ih =>
    intro z off x hz h
    simp only [A.x0] at h
    simp only [A.m]
    split at h
    · rename_i hc
      rw [if_pos hc]
      obtain ⟨y, hy, h⟩ := Option.bind_eq_some_iff.1 h
      obtain ⟨q, hq, rfl⟩ := Option.map_eq_some_iff.1 h
      exact fld0 (nil0_ok hy hz) (ih hz hq)
    · rename_i hc
      rw [if_neg hc]; exact ih hz h
  | optS c i o PT sl T sz b r ihb ih =>
    intro z off x hz h
    simp only [A.x0] at h
    simp only [A.m]
    split at h
    · rename_i hc
      rw [if_pos hc]
      obtain ⟨y, hy, h⟩ := Option.bind_eq_some_iff.1 h
      obtain ⟨q, hq, rfl⟩ := Option.map_eq_some_iff.1 h
      exact fld0 (opt0_ok hy hz) (ih hz hq)
    · rename_i hc
      rw [if_neg hc]; exact ih hz h
  | vv c i o PT st cv Fc Fp Gc Gp r ih =>
    intro z off x hz h
    simp only [A.x0] at h
    simp only [A.m]
    split at h
    · rename_i hc
      rw [if_pos hc]
      obtain ⟨y, hy, h⟩ := Option.bind_eq_some_iff.1 h
      obtain ⟨q, hq, rfl⟩ := Option.map_eq_some_iff.1 h
      exact fld0 (vv0_ok hy hz) (ih hz hq)
    · rename_i hc
      rw [if_neg hc]; exact ih hz h
  | inl c i o u n T b' r ihb ih =>
    intro z off x hz h
    simp only [A.x0] at h
    simp only [A.m]
    split at h
    · rename_i hc
      rw [if_pos hc]
      obtain ⟨y, hy, h⟩ := Option.bind_eq_some_iff.1 h
      obtain ⟨q, hq, rfl⟩ := Option.map_eq_some_iff.1 h
      exact fld0 (ihb (fun j v hj => by rw [List.getElem?_drop] at hj; rw [Nat.add_assoc]; exact hz _ _ hj) hy) (ih hz hq)
    · rename_i hc
      rw [if_neg hc]; exact ih hz h
  | tags i o u FL FU FE r ih =>
    intro z off x hz h
    simp only [A.x0] at h
    simp only [A.m]
    split at h
    · rename_i hc
      rw [if_pos hc]
      obtain ⟨y, hy, h⟩ := Option.bind_eq_some_iff.1 h
      obtain ⟨q, hq, rfl⟩ := Option.map_eq_some_iff.1 h
      exact fld0 (RK.holds (k := .tags) (Nat.le_refl _) (cells_dt (n := 1) hz) (leaf0_ok hy _ _ _ _)) (ih hz hq)
    · rename_i hc
      rw [if_neg hc]; exact ih hz h

/-! ### made anew, the version set, written -/
section
variable {P : Program}
/-- What Default makes of a part's zero cells. -/
def DefV (P : Program) (F T : Nat) (z z' : Array Value) : Prop := Plain P F ∧ ∀ (w : World) (b : Nat), w.heap[b]? = some (.cells z T) → Calls P F #[.pointer (some ⟨b, 0, none⟩)] w fun e w' => ∃ v, e = .returned v ∧ Only (· = b) w w' ∧ w'.heap[b]? = some (.cells z' T)
theorem defV_skip {F T : Nat} {z : Array Value} {fn : Func} (hf : P.funcs[F]? = some fn) (hb : fn.body = some .skip) (hr : fn.results = #[]) (hn : (fn.name == "runtime.NumGoroutine") = false) : DefV P F T z z := by
  refine ⟨⟨fn, hf, by rw [hb]; rfl, hn⟩, fun w b hB => ?_⟩
  exact calls_of_wp hf hb (wp_skip (bodyPost_end (results_none hr _ _ _) rfl ⟨_, rfl, Only.refl _ _, hB⟩))
def NewVP (z : Array Value) (T : Nat) (w : World) (e : Ending) (w' : World) : Prop := e = .returned (.pointer (some ⟨w.heap.size, 0, none⟩)) ∧ Only (fun _ => False) w w' ∧ w'.heap[w.heap.size]? = some (.cells z T)
theorem NPV_calls {DF NP T PT : Nat} {z z' : Array Value} {fn : Func} (hfn : P.funcs[NP]? = some fn) (c0 : Code) (hbody : fn.body = some (gNP DF T PT c0)) (hres : fn.results = #[.tmp 0]) (hnt : fn.ntmps = 3)
    (hal : Alc P T z) (hD : DefV P DF T z z') {w : World} : Calls P NP #[] w (NewVP z' T w) := by
  refine calls_of_wp hfn hbody ?_
  obtain ⟨a, ha, asz, adf, ag⟩ := start_act #[] fn.ntmps (by rw [hnt]; simp)
  rw [← ha]
  clear ag ha
  rw [hnt] at asz
  refine wp_seq (wp_reg (stV (by omega) (runs_assign _) fun b1 k1 => stE (wp_seq (wp_reg (stV (by rw [k1.size]; omega) (fun o h => hal o _ _ h) fun b2 k2 => stE (wp_seq (wp_reg ?_)))))))
  have O1 : Only (fun _ => False) w (w.alloc (.cells z T)) := (Only.refl _ _).alloc _
  refine stC (R := fun e w' => Only (· = w.heap.size) (w.alloc (.cells z T)) w' ∧ w'.heap[w.heap.size]? = some (.cells z' T)) (by rw [k2.size, k1.size]; omega) hD.1 (args1 (x := .pointer (some ⟨w.heap.size, 0, none⟩)) (by rw [k2.new])) ((hD.2 _ w.heap.size (heap_alloc_new w _)).mono fun e w' h => h) ?_
  rintro v w3 b3 ⟨h1, h2⟩ k3
  refine stE (wp_seq (wp_reg (stV (by rw [k3.size, k2.size, k1.size]; omega) (runs_assign _) fun b4 k4 => stE (wp_ret ?_))))
  refine bodyPost_ret (results_tmp hres _ _ _) (by rw [k4.defers, k3.defers, k2.defers, k1.defers, adf]) ?_
  have e : b4.tmps.getD 0 undef = .pointer (some ⟨w.heap.size, 0, none⟩) := k4.new.trans (by rw [evT, k3.old _ (by decide), k2.new])
  rw [e]
  exact ⟨rfl, O1.own (h1.mono fun k _ (h : k = _) => by subst h; exact Nat.le_refl _) (Nat.le_refl _), h2⟩

/-- NEW, of a message. -/
theorem NewM_calls {NP SV WR NW T PT sl int i16 U sz : Nat} {z : Array Value} {fn : Func} (hfn : P.funcs[NW]? = some fn) (c0 : Code) (hbody : fn.body = some (gNewM NP SV WR PT sl int i16 c0)) (hres : fn.results = #[.tmp 2]) (hnt : fn.ntmps = 11)
    (hp1 : Plain P NP) (hp2 : Plain P SV) (hp3 : Plain P WR) (hi : P.underlying int = some (.int .i64)) (hj : P.underlying i16 = some (.int .i16)) (hsz : z.size = sz) (hs1 : 1 ≤ sz)
    (hNP : ∀ w, Calls P NP #[] w (NewVP z T w))
    (hSV : ∀ w b n, Blk w b sz → Calls P SV #[.pointer (some ⟨b, 0, none⟩), .int .i16 n] w fun e w' => e = .returned (.tuple #[]) ∧ Only (· = b) w w' ∧ Upd b 0 1 w w' ∧ w'.cell? ⟨b, 0, none⟩ = some (.int .i16 n))
    {a : A} {fx : Option Int} (hWR : ∀ (w : World) (D b lo hi : Nat) (ver : Int) (x : Val), w.cell? ⟨b, 0, none⟩ = some (.int .i16 ver) → Holds D (a.m ver (flexOf fx ver)) w lo hi b 0 x → wf (a.m ver (flexOf fx ver)).w x → (enc (a.m ver (flexOf fx ver)).w x).length + 16 ≤ lim2 → b < w.heap.size → hi ≤ w.heap.size → w.heap.size ≤ lo → D < w.heap.size →
      Calls P WR #[.pointer (some ⟨b, 0, none⟩), .slice none 0 0] w fun e w' => ∃ v, e = .returned v ∧ Own U w.heap.size w' v (enc (a.m ver (flexOf fx ver)).w x) ∧ Only (fun _ => False) w w')
    {w : World} {ver : Int} {x : Val} (hr : IntKind.i16.wrap ver = ver) (hx : a.x0 ver (flexOf fx ver) (.int .i16 ver :: z.toList.tail) = some x) (hw : wf (a.m ver (flexOf fx ver)).w x) (hl : (enc (a.m ver (flexOf fx ver)).w x).length + 16 ≤ lim2) :
    Calls P NW #[.int .i64 ver] w (SpP U w (enc (a.m ver (flexOf fx ver)).w x)) := by
  refine calls_of_wp hfn hbody ?_
  obtain ⟨a0, ha, asz, adf, ag⟩ := start_act #[.int .i64 ver] fn.ntmps (by rw [hnt]; simp)
  rw [← ha]
  have g0 : gt a0 0 = .int .i64 ver := ag 0 _ rfl
  clear ag ha
  rw [hnt] at asz
  refine wp_seq (wp_reg (stV (by omega) (runs_assign _) fun b1 k1 => stE (wp_seq (wp_reg ?_))))
  refine stC (vs := #[]) (R := fun e w' => NewVP z T w e w') (by rw [k1.size]; omega) hp1 (by simp) ((hNP w).mono fun e w' h => ⟨_, h.1, h.1 ▸ h⟩) fun p w1 b3 hR k3 => ?_
  obtain ⟨hp, O1, hb1⟩ := hR
  obtain rfl : p = _ := by simpa using hp
  refine stV (by rw [k3.size, k1.size]; omega) (runs_assign _) fun b4 k4 => stE (wp_seq (wp_reg ?_))
  have e3 : gt b4 3 = .pointer (some ⟨w.heap.size, 0, none⟩) := k4.new.trans k3.new
  have s4 : b4.tmps.size = 11 := by rw [k4.size, k3.size, k1.size, asz]
  have d4 : b4.defers = [] := by rw [k4.defers, k3.defers, k1.defers, adf]
  have e0 : gt b4 0 = .int .i64 ver := by rw [k4.old _ (by decide), k3.old _ (by decide), k1.old _ (by decide), g0]
  clear k1 k3 k4 g0
  refine stV (by omega) (runs_move _) fun b5 k5 => stV (by rw [k5.size]; omega) (runs_move _) fun b6 k6 => stV (by rw [k6.size, k5.size]; omega) (runs_conv hi hj (n := ver) (by rw [evT, k6.new, evT, k5.old _ (by decide), e0])) fun b7 k7 => ?_
  rw [hr] at k7
  have hB1 : Blk w1 w.heap.size sz := ⟨_, T, hb1, by simpa using hsz⟩
  refine stC (vs := #[.pointer (some ⟨w.heap.size, 0, none⟩), .int .i16 ver]) (R := fun e w' => e = .returned (.tuple #[]) ∧ Only (· = w.heap.size) w1 w' ∧ Upd w.heap.size 0 1 w1 w' ∧ w'.cell? ⟨w.heap.size, 0, none⟩ = some (.int .i16 ver)) (by rw [k7.size, k6.size, k5.size]; omega) hp2 (args2 (by rw [k7.old _ (by decide), k6.old _ (by decide), k5.new, evT, e3]) k7.new) ((hSV w1 w.heap.size ver hB1).mono fun e w' h => ⟨_, h.1, rfl, h.2⟩) fun u w2 b8 hR k8 => stE (wp_seq (wp_reg ?_))
  obtain ⟨_, O2, hU, hc⟩ := hR
  have e3' : gt b8 3 = .pointer (some ⟨w.heap.size, 0, none⟩) := by rw [k8.old _ (by decide), k7.old _ (by decide), k6.old _ (by decide), k5.old _ (by decide), e3]
  have s8 : b8.tmps.size = 11 := by rw [k8.size, k7.size, k6.size, k5.size, s4]
  have d8 : b8.defers = [] := by rw [k8.defers, k7.defers, k6.defers, k5.defers, d4]
  clear k5 k6 k7 k8 e0 e3
  have O02 : Only (fun _ => False) w w2 := O1.own (B := w.heap.size) (O2.mono fun k _ (h : k = _) => by omega) (Nat.le_refl _)
  have hlt : w.heap.size < w2.heap.size := Nat.lt_of_lt_of_le hB1.lt O2.size
  have hz : ∀ j v, (.int .i16 ver :: z.toList.tail)[j]? = some v → w2.cell? ⟨w.heap.size, j, none⟩ = some v := by
    intro j v hj
    cases j with
    | zero => simp at hj; subst hj; exact hc
    | succ j =>
      rw [hU.cell hB1 (.inr (by omega))]
      have : z[j + 1]? = some v := by simpa using hj
      simp [World.cell?, hb1, this]
  refine stV (by omega) (runs_move _) fun b9 k9 => ?_
  refine stC (R := fun e w' => ∃ v, e = .returned v ∧ Own U w2.heap.size w' v (enc (a.m ver (flexOf fx ver)).w x) ∧ Only (fun _ => False) w2 w') (by rw [k9.size]; omega) hp3 (args2c (v := .slice none 0 0) (by rw [k9.new, evT, e3'])) ((hWR w2 w.heap.size w.heap.size w2.heap.size w2.heap.size ver x hc (A.holds0 _ _ (fun j v h => by rw [Nat.zero_add]; exact hz j v h) hx) hw hl hlt (Nat.le_refl _) (Nat.le_refl _) hlt).mono fun e w' ⟨v, h, k⟩ => ⟨v, h, v, rfl, k⟩) fun v w3 b10 hR k10 => ?_
  obtain ⟨v', e', hown, ho⟩ := hR
  obtain rfl : v = v' := by simpa using e'
  refine stV (by rw [k10.size, k9.size]; omega) (runs_assign _) fun b11 k11 => stE (wp_ret ?_)
  refine bodyPost_ret (results_tmp hres _ _ _) (by rw [k11.defers, k10.defers, k9.defers, d8]) ?_
  have e : b11.tmps.getD 2 undef = v := k11.new.trans (by rw [evT, k10.new])
  rw [e]
  exact ⟨v, rfl, hown.lower O02.size, O02.trans ho⟩
end
end Go.Proofs.Ythlfepgcjomhpaa.Kf
