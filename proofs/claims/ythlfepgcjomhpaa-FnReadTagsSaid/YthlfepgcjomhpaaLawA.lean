/- The laws' plain part: what 'again' makes of what was written, and of anything. -/
import Derived.Test.YthlfepgcjomhpaaAgA
namespace Go.Proofs.Ythlfepgcjomhpaa.Kf
set_option linter.unusedVariables false
set_option linter.unusedSimpArgs false
open Go Go.RowKit

def MwM (r : R) (fx : Option Int) (ver : Int) : M := r.m ver (flexOf fx ver)
def vlM (ver : Int) (x : Val) : Val := x
def MwK (r : R) (fx : Option Int) (ver : Int) : M := .fld 0 (.prim .i16) (r.m ver (flexOf fx ver))
def vlK (ver : Int) (x : Val) : Val := .pair (.int ver) x

/-- Octets that are just what is written of some value. -/
def Full (w : W) (bs : List UInt8) : Prop := ∃ x, dec w bs = some (x, []) ∧ wf w x ∧ enc w x = bs
theorem full_of {w : W} {x : Val} (hok : w.ok = true) (hw : wf w x) : Full w (enc w x) := ⟨x, by simpa using dec_enc w x [] hok hw, hw, rfl⟩
theorem full_sub {fs : List Fld} {v : Int} {flex : Bool} {t : Tr} (ht : TrOk t) {w : W} (hs : W.sub (fieldsW fs v flex) w = true) (hw : w.ok = true) : Full w (partB fs v flex t) := by
  obtain ⟨h1, h2, h3⟩ := part_dec fs v flex t ht w hs hw []
  exact ⟨_, by simpa using h3, h1, h2⟩

/-- Of a message that was written: all of it again. -/
theorem fullM {fx : Option Int} {r : R} {ver : Int} {bs : List UInt8} (h : Full (r.m ver (flexOf fx ver)).w bs) (hl : bs.length + 16 ≤ lim2) :
    Fits none fx ver r (MwM r fx) vlM bs ∧ ∀ {U : Nat} {w w' : World} {e : Ending}, AgQ U none fx ver r (MwM r fx) vlM w bs e w' → ∃ v, e = .returned (.tuple #[v, .bool true]) ∧ Only (fun _ => False) w w' ∧ Own U w.heap.size w' v bs := by
  obtain ⟨x, h1, h2, h3⟩ := h
  have key : ∀ ver' bs0 x' bs', VerOf none ver bs ver' bs0 → dec (r.m ver' (flexOf fx ver')).w bs0 = some (x', bs') → ver' = ver ∧ x' = x := by
    rintro ver' bs0 x' bs' ⟨rfl, rfl⟩ hd
    rw [h1] at hd
    simp at hd
    exact ⟨rfl, hd.1.symm⟩
  refine ⟨fun ver' bs0 x' bs' hv hd => ?_, ?_⟩
  · obtain ⟨rfl, rfl⟩ := key _ _ _ _ hv hd
    refine ⟨h2, ?_⟩
    show (enc (r.m ver' (flexOf fx ver')).w x').length + 16 ≤ lim2
    rw [h3]; exact hl
  · rintro U w w' e ⟨v, ok, rfl, ho, hc⟩
    rcases hc with ⟨rfl, ver', bs0, x', bs', hv, hd, hown⟩ | ⟨_, _, hno⟩
    · obtain ⟨rfl, rfl⟩ := key _ _ _ _ hv hd
      refine ⟨v, rfl, ho, ?_⟩
      have : enc (MwM r fx ver').w (vlM ver' x') = bs := h3
      rw [this] at hown
      exact hown
    · rw [hno ver bs ⟨rfl, rfl⟩] at h1; cases h1

/-- Of a message that was written, but for its end: refused. -/
theorem cutM {fx : Option Int} {r : R} {ver : Int} {q s : List UInt8} (h : Full (r.m ver (flexOf fx ver)).w (q ++ s)) (hs : s ≠ []) (hl : q.length ≤ lim) :
    Fits none fx ver r (MwM r fx) vlM q ∧ ∀ {U : Nat} {w w' : World} {e : Ending}, AgQ U none fx ver r (MwM r fx) vlM w q e w' → e = .returned (.tuple #[.slice none 0 0, .bool false]) ∧ Only (fun _ => False) w w' := by
  obtain ⟨x, h1, h2, h3⟩ := h
  have hq := dec_cut h1 rfl hs
  refine ⟨?_, ?_⟩
  · rintro ver' bs0 x' bs' ⟨rfl, rfl⟩ hd
    rw [hq] at hd; cases hd
  · rintro U w w' e ⟨v, ok, rfl, ho, hc⟩
    rcases hc with ⟨rfl, ver', bs0, x', bs', ⟨rfl, rfl⟩, hd, hown⟩ | ⟨rfl, rfl, hno⟩
    · rw [hq] at hd; cases hd
    · exact ⟨rfl, ho⟩

/-- Of any few octets: refused, or what is written is read as the same. -/
theorem anyM {fx : Option Int} {r : R} {ver : Int} {bs : List UInt8} (hok : (r.m ver (flexOf fx ver)).w.ok = true) (hl : bs.length ≤ 32767) :
    Fits none fx ver r (MwM r fx) vlM bs ∧ ∀ {U : Nat} {w w' : World} {e : Ending}, AgQ U none fx ver r (MwM r fx) vlM w bs e w' → ∃ v ok, e = .returned (.tuple #[v, .bool ok]) ∧ Only (fun _ => False) w w' ∧ (ok = true → ∃ out, Own U w.heap.size w' v out ∧ out.length ≤ bs.length ∧ Full (r.m ver (flexOf fx ver)).w out) ∧ (ok = false → v = .slice none 0 0) := by
  refine ⟨?_, ?_⟩
  · rintro ver' bs0 x' bs' ⟨rfl, rfl⟩ hd
    obtain ⟨h1, h2⟩ := dec_use _ _ _ _ hd hl
    exact ⟨h1, by show (enc (r.m ver' (flexOf fx ver')).w x').length + 16 ≤ lim2; unfold lim2; omega⟩
  · rintro U w w' e ⟨v, ok, rfl, ho, hc⟩
    refine ⟨v, ok, rfl, ho, ?_⟩
    rcases hc with ⟨rfl, ver', bs0, x', bs', ⟨rfl, rfl⟩, hd, hown⟩ | ⟨rfl, rfl, hno⟩
    · obtain ⟨h1, h2⟩ := dec_use _ _ _ _ hd hl
      refine ⟨fun _ => ⟨_, hown, ?_, full_of hok h1⟩, (fun h => by cases h)⟩
      show (enc (r.m ver' (flexOf fx ver')).w x').length ≤ _
      omega
    · exact ⟨(fun h => by cases h), fun _ => rfl⟩

/-! ### things that are kept -/
theorem primDec_cons {ver : Int} {bs : List UInt8} (h0 : Prim.i16.lo ≤ ver) (h1 : ver < Prim.i16.hi) : primDec .i16 (beEnc 2 ver ++ bs) = some (.int ver, bs) := by
  have := dec_enc (.prim .i16) (.int ver) bs rfl ⟨by decide, h0, h1⟩
  exact this

theorem fullK {F : Nat} {fx : Option Int} {r : R} {ver : Int} {bs : List UInt8} (h0 : Prim.i16.lo ≤ ver) (h1 : ver < Prim.i16.hi) (h : Full (r.m ver (flexOf fx ver)).w bs) (hl : bs.length + 18 ≤ lim2) :
    Fits (some F) fx 0 r (MwK r fx) vlK (beEnc 2 ver ++ bs) ∧ ∀ {U : Nat} {w w' : World} {e : Ending}, AgQ U (some F) fx 0 r (MwK r fx) vlK w (beEnc 2 ver ++ bs) e w' → ∃ v, e = .returned (.tuple #[v, .bool true]) ∧ Only (fun _ => False) w w' ∧ Own U w.heap.size w' v (beEnc 2 ver ++ bs) := by
  obtain ⟨x, k1, k2, k3⟩ := h
  have hp := primDec_cons (bs := bs) h0 h1
  have key : ∀ ver' bs0 x' bs', VerOf (some F) 0 (beEnc 2 ver ++ bs) ver' bs0 → dec (r.m ver' (flexOf fx ver')).w bs0 = some (x', bs') → ver' = ver ∧ x' = x := by
    intro ver' bs0 x' bs' hv hd
    have hv : primDec .i16 _ = some (.int ver', bs0) := hv
    rw [hp] at hv
    simp at hv
    obtain ⟨rfl, rfl⟩ := hv
    rw [k1] at hd
    simp at hd
    exact ⟨rfl, hd.1.symm⟩
  have ke : enc (MwK r fx ver).w (vlK ver x) = beEnc 2 ver ++ bs := by
    show enc (.prim .i16) (.int ver) ++ enc (r.m ver (flexOf fx ver)).w x = _
    rw [k3]; rfl
  refine ⟨fun ver' bs0 x' bs' hv hd => ?_, ?_⟩
  · obtain ⟨rfl, rfl⟩ := key _ _ _ _ hv hd
    refine ⟨⟨⟨by decide, h0, h1⟩, k2⟩, ?_⟩
    rw [ke]; simp [beEnc_length]; omega
  · rintro U w w' e ⟨v, ok, rfl, ho, hc⟩
    rcases hc with ⟨rfl, ver', bs0, x', bs', hv, hd, hown⟩ | ⟨_, _, hno⟩
    · obtain ⟨rfl, rfl⟩ := key _ _ _ _ hv hd
      rw [ke] at hown
      exact ⟨v, rfl, ho, hown⟩
    · rw [hno ver bs hp] at k1; cases k1

theorem anyK {F : Nat} {fx : Option Int} {r : R} {bs : List UInt8} (hok : ∀ ver, (r.m ver (flexOf fx ver)).w.ok = true) (hl : bs.length ≤ 32767) :
    Fits (some F) fx 0 r (MwK r fx) vlK bs ∧ ∀ {U : Nat} {w w' : World} {e : Ending}, AgQ U (some F) fx 0 r (MwK r fx) vlK w bs e w' → ∃ v ok, e = .returned (.tuple #[v, .bool ok]) ∧ Only (fun _ => False) w w' ∧
      (ok = true → ∃ ver out, Own U w.heap.size w' v (beEnc 2 ver ++ out) ∧ out.length + 2 ≤ bs.length ∧ Prim.i16.lo ≤ ver ∧ ver < Prim.i16.hi ∧ Full (r.m ver (flexOf fx ver)).w out) ∧ (ok = false → v = .slice none 0 0) := by
  have len : ∀ {ver bs0}, primDec .i16 bs = some (.int ver, bs0) → bs0.length + 2 ≤ bs.length := by
    intro ver bs0 h
    simp only [primDec] at h
    split at h
    · cases h
    · split at h
      · cases h
      · rename_i hl _
        injection h with h
        injection h with _ h
        have hn : Prim.i16.n = 2 := rfl
        rw [hn] at hl h
        rw [← h]; simp; omega
  refine ⟨?_, ?_⟩
  · intro ver' bs0 x' bs' hv hd
    have hv : primDec .i16 _ = some (.int ver', bs0) := hv
    have h3 := len hv
    obtain ⟨h1, h2⟩ := dec_use _ _ _ _ hd (by omega)
    refine ⟨⟨⟨by decide, primDec_i16 hv⟩, h1⟩, ?_⟩
    show (beEnc 2 ver' ++ enc (r.m ver' (flexOf fx ver')).w x').length + 16 ≤ lim2
    simp [beEnc_length]; unfold lim2; omega
  · rintro U w w' e ⟨v, ok, rfl, ho, hc⟩
    refine ⟨v, ok, rfl, ho, ?_⟩
    rcases hc with ⟨rfl, ver', bs0, x', bs', hv, hd, hown⟩ | ⟨rfl, rfl, hno⟩
    · have hv : primDec .i16 _ = some (.int ver', bs0) := hv
      have h3 := len hv
      obtain ⟨h1, h2⟩ := dec_use _ _ _ _ hd (by omega)
      exact ⟨fun _ => ⟨ver', _, hown, by omega, (primDec_i16 hv).1, (primDec_i16 hv).2, full_of (hok _) h1⟩, fun h => by cases h⟩
    · exact ⟨(fun h => by cases h), fun _ => rfl⟩
/-- .. cut. -/
theorem cutK {F : Nat} {fx : Option Int} {r : R} {ver : Int} {bs q s : List UInt8} (h0 : Prim.i16.lo ≤ ver) (h1 : ver < Prim.i16.hi) (h : Full (r.m ver (flexOf fx ver)).w bs) (hq : beEnc 2 ver ++ bs = q ++ s) (hs : s ≠ []) :
    Fits (some F) fx 0 r (MwK r fx) vlK q ∧ ∀ {U : Nat} {w w' : World} {e : Ending}, AgQ U (some F) fx 0 r (MwK r fx) vlK w q e w' → e = .returned (.tuple #[.slice none 0 0, .bool false]) ∧ Only (fun _ => False) w w' := by
  obtain ⟨x, k1, k2, k3⟩ := h
  have key : ∀ ver' bs0, VerOf (some F) 0 q ver' bs0 → dec (r.m ver' (flexOf fx ver')).w bs0 = none := by
    intro ver' bs0 hv
    have hv : primDec .i16 q = some (.int ver', bs0) := hv
    have hd : dec (.prim .i16) q = some (.int ver', bs0) := hv
    have he := dec_ext _ _ s _ _ hd
    rw [← hq] at he
    have hp : dec (.prim .i16) (beEnc 2 ver ++ bs) = _ := primDec_cons (bs := bs) h0 h1
    rw [hp] at he
    simp at he
    obtain ⟨rfl, rfl⟩ := he
    exact dec_cut k1 rfl hs
  refine ⟨?_, ?_⟩
  · intro ver' bs0 x' bs' hv hd
    rw [key _ _ hv] at hd; cases hd
  · rintro U w w' e ⟨v, ok, rfl, ho, hc⟩
    rcases hc with ⟨rfl, ver', bs0, x', bs', hv, hd, hown⟩ | ⟨rfl, rfl, hno⟩
    · rw [key _ _ hv] at hd; cases hd
    · exact ⟨rfl, ho⟩

/-! ### what the laws see -/
def FullP (U : Nat) (bs : List UInt8) (w : World) (e : Ending) (w' : World) : Prop := ∃ A n c, e = .returned (.tuple #[.slice A n c, .bool true]) ∧ Only (fun _ => False) w w' ∧ Own U w.heap.size w' (.slice A n c) bs
def CutP (w : World) (e : Ending) (w' : World) : Prop := e = .returned (.tuple #[.slice none 0 0, .bool false]) ∧ Only (fun _ => False) w w'
theorem fullP_of {U : Nat} {bs : List UInt8} {w : World} {e : Ending} {w' : World} (h : ∃ v, e = .returned (.tuple #[v, .bool true]) ∧ Only (fun _ => False) w w' ∧ Own U w.heap.size w' v bs) : FullP U bs w e w' := by
  obtain ⟨v, rfl, ho, hown⟩ := h
  obtain ⟨A, c, rfl, _⟩ := hown.oc.sl
  exact ⟨A, _, c, rfl, ho, hown⟩
def OcP (out : List UInt8) (w : World) (e : Ending) (w' : World) : Prop := ∃ A n c, e = .returned (.slice A n c) ∧ Oc w' w'.heap.size (.slice A n c) out ∧ Only (fun _ => False) w w'
theorem ocP_of {U : Nat} {out : List UInt8} {w : World} {e : Ending} {w' : World} (h : SpP U w out e w') : OcP out w e w' := by
  obtain ⟨v, rfl, h, ho⟩ := h
  obtain ⟨A, c, rfl, _⟩ := h.oc.sl
  exact ⟨A, _, c, rfl, h.oc, ho⟩
/-- Of any few octets, once for all: all again, of what is written; or refused. -/
theorem anyM2 {fx : Option Int} {r : R} {ver : Int} {bs : List UInt8} (hok : (r.m ver (flexOf fx ver)).w.ok = true) (hl : bs.length ≤ 32767) :
    (∃ out, out.length ≤ bs.length ∧ Full (r.m ver (flexOf fx ver)).w out ∧ ∀ {U : Nat} {w w' : World} {e : Ending}, AgQ U none fx ver r (MwM r fx) vlM w bs e w' → FullP U out w e w') ∨
      ∀ {U : Nat} {w w' : World} {e : Ending}, AgQ U none fx ver r (MwM r fx) vlM w bs e w' → CutP w e w' := by
  cases hd : dec (r.m ver (flexOf fx ver)).w bs with
  | none =>
    refine .inr ?_
    rintro U w w' e ⟨v, ok, rfl, ho, hc⟩
    rcases hc with ⟨rfl, ver', bs0, x', bs', ⟨rfl, rfl⟩, hd', hown⟩ | ⟨rfl, rfl, hno⟩
    · rw [hd] at hd'; cases hd'
    · exact ⟨rfl, ho⟩
  | some y =>
    obtain ⟨x, bs'⟩ := y
    obtain ⟨h1, h2⟩ := dec_use _ _ _ _ hd hl
    refine .inl ⟨enc (r.m ver (flexOf fx ver)).w x, by omega, full_of hok h1, ?_⟩
    rintro U w w' e ⟨v, ok, rfl, ho, hc⟩
    rcases hc with ⟨rfl, ver', bs0, x', bs2, ⟨rfl, rfl⟩, hd', hown⟩ | ⟨rfl, rfl, hno⟩
    · rw [hd] at hd'
      simp at hd'
      obtain ⟨rfl, rfl⟩ := hd'
      exact fullP_of ⟨v, rfl, ho, hown⟩
    · rw [hno ver bs ⟨rfl, rfl⟩] at hd; cases hd
theorem anyK2 {F : Nat} {fx : Option Int} {r : R} {bs : List UInt8} (hok : ∀ ver, (r.m ver (flexOf fx ver)).w.ok = true) (hl : bs.length ≤ 32767) :
    (∃ ver out, out.length ≤ bs.length ∧ Prim.i16.lo ≤ ver ∧ ver < Prim.i16.hi ∧ Full (r.m ver (flexOf fx ver)).w out ∧ ∀ {U : Nat} {w w' : World} {e : Ending}, AgQ U (some F) fx 0 r (MwK r fx) vlK w bs e w' → FullP U (beEnc 2 ver ++ out) w e w') ∨
      ∀ {U : Nat} {w w' : World} {e : Ending}, AgQ U (some F) fx 0 r (MwK r fx) vlK w bs e w' → CutP w e w' := by
  by_cases hex : ∃ ver bs0 x bs', primDec .i16 bs = some (.int ver, bs0) ∧ dec (r.m ver (flexOf fx ver)).w bs0 = some (x, bs')
  · obtain ⟨ver, bs0, x, bs', hv, hd⟩ := hex
    have h0 := primDec_i16 hv
    have hle := primDec_some hv
    obtain ⟨h1, h2⟩ := dec_use _ _ _ _ hd (by omega)
    refine .inl ⟨ver, enc (r.m ver (flexOf fx ver)).w x, by omega, h0.1, h0.2, full_of (hok _) h1, ?_⟩
    rintro U w w' e ⟨v, ok, rfl, ho, hc⟩
    rcases hc with ⟨rfl, ver', bs1, x', bs2, hv', hd', hown⟩ | ⟨rfl, rfl, hno⟩
    · have hv' : primDec .i16 bs = some (.int ver', bs1) := hv'
      rw [hv] at hv'
      simp at hv'
      obtain ⟨rfl, rfl⟩ := hv'
      rw [hd] at hd'
      simp at hd'
      obtain ⟨rfl, rfl⟩ := hd'
      exact fullP_of ⟨v, rfl, ho, hown⟩
    · rw [hno ver bs0 hv] at hd; cases hd
  · refine .inr ?_
    rintro U w w' e ⟨v, ok, rfl, ho, hc⟩
    rcases hc with ⟨rfl, ver', bs1, x', bs2, hv', hd', hown⟩ | ⟨rfl, rfl, hno⟩
    · exact absurd ⟨ver', bs1, x', bs2, hv', hd'⟩ hex
    · exact ⟨rfl, ho⟩

/-- Octets that are there: a slice of just so many. -/
def OcN (out : List UInt8) (n : Nat) (w : World) (e : Ending) (w' : World) : Prop := ∃ a c, e = .returned (.slice (some a) n c) ∧ n ≤ c ∧ Oc w' w'.heap.size (.slice (some a) n c) out ∧ Only (fun _ => False) w w'
theorem ocN_of {U : Nat} {out : List UInt8} {n : Nat} {w : World} {e : Ending} {w' : World} (h : SpP U w out e w') (hn : out.length = n) (h0 : n ≠ 0) : OcN out n w e w' := by
  obtain ⟨v, rfl, h, ho⟩ := h
  subst hn
  have h' := h.oc
  rcases h' with ⟨_, rfl⟩ | ⟨a, c, rfl, hle, hc⟩
  · exact absurd rfl h0
  · exact ⟨a, c, rfl, hle, .inr ⟨a, c, rfl, hle, hc⟩, ho⟩
theorem Oc.take {w : World} {B n c k : Nat} {a : Addr} {s : List UInt8} (h : Oc w B (.slice (some a) n c) s) (hn : s.length = n) (hk : k ≤ n) : Oc w B (.slice (some a) k c) (s.take k) := by
  rcases h with ⟨h, _⟩ | ⟨a', c', e, hle, hc⟩
  · cases h
  · injection e with e1 e2 e3
    injection e1 with e1
    subst e1; subst e3
    have hl : (s.take k).length = k := by simp; omega
    refine .inr ⟨a, c, by rw [hl], by omega, fun j b hb => hc j b ?_⟩
    rw [List.getElem?_take] at hb
    split at hb
    · exact hb
    · cases hb

/-! ### the reference's own fields -/
/-- Fields, one behind the other. -/
inductive FldsL (w : World) (B : Nat) : List Fld → List Value → Prop
  | nil : FldsL w B [] []
  | leaf {kind of : Nat} {fr to nu tag df : Int} {fs : List Fld} {cs : List Value} (h : FldsL w B fs cs) : FldsL w B (.mk kind fr to nu tag df of [] :: fs) (.int .i64 kind :: .int .i64 fr :: .int .i64 to :: .int .i64 nu :: .int .i64 tag :: .int .i64 df :: .int .i64 of :: .slice none 0 0 :: cs)
  | node {kind of : Nat} {fr to nu tag df : Int} {sub fs : List Fld} {cs : List Value} {v : Value} (hs : FldsC w B sub v) (h : FldsL w B fs cs) : FldsL w B (.mk kind fr to nu tag df of sub :: fs) (.int .i64 kind :: .int .i64 fr :: .int .i64 to :: .int .i64 nu :: .int .i64 tag :: .int .i64 df :: .int .i64 of :: v :: cs)
theorem FldsL.at_ {w : World} {B : Nat} {fs : List Fld} {cs : List Value} (h : FldsL w B fs cs) : ∀ j x, fs[j]? = some x → ∃ c : List Value, FldC w B x c ∧ c.length = 8 ∧ ∀ k y, c[k]? = some y → cs[j * 8 + k]? = some y := by
  induction h with
  | nil => intro j x hj; simp at hj
  | @leaf kind of fr to nu tag df fs cs h ih =>
    intro j x hj
    match j, hj with
    | 0, hj =>
      simp at hj; subst hj
      refine ⟨_, .mk (fun _ => []) (.inl ⟨rfl, rfl⟩) (by simp), rfl, fun k y hy => ?_⟩
      match k, hy with
      | 0, hy | 1, hy | 2, hy | 3, hy | 4, hy | 5, hy | 6, hy | 7, hy => simpa using hy
      | k + 8, hy => simp at hy
    | j + 1, hj =>
      obtain ⟨c, h1, h2, h3⟩ := ih j x (by simpa using hj)
      refine ⟨c, h1, h2, fun k y hy => ?_⟩
      have := h3 k y hy
      rw [show (j + 1) * 8 + k = j * 8 + k + 8 by omega]
      simpa using this
  | @node kind of fr to nu tag df sub fs cs v hs h ih =>
    intro j x hj
    match j, hj with
    | 0, hj =>
      simp at hj; subst hj
      obtain ⟨f, h1, h2⟩ := hs
      refine ⟨_, .mk f h1 h2, rfl, fun k y hy => ?_⟩
      match k, hy with
      | 0, hy | 1, hy | 2, hy | 3, hy | 4, hy | 5, hy | 6, hy | 7, hy => simpa using hy
      | k + 8, hy => simp at hy
    | j + 1, hj =>
      obtain ⟨c, h1, h2, h3⟩ := ih j x (by simpa using hj)
      refine ⟨c, h1, h2, fun k y hy => ?_⟩
      have := h3 k y hy
      rw [show (j + 1) * 8 + k = j * 8 + k + 8 by omega]
      simpa using this
theorem flds_new {w : World} {B b t : Nat} {cs : Array Value} {fs : List Fld} (hb : w.heap[b]? = some (.cells cs t)) (hB : b < B) (h : FldsL w B fs cs.toList) : FldsC w B fs (.slice (some ⟨b, 0, none⟩) fs.length fs.length) := by
  have hx : ∀ j, ∃ c : List Value, ∀ x, fs[j]? = some x → FldC w B x c ∧ c.length = 8 ∧ ∀ k y, c[k]? = some y → cs[j * 8 + k]? = some y := by
    intro j
    cases hj : fs[j]? with
    | none => exact ⟨[], fun x h => by cases h⟩
    | some x =>
      obtain ⟨c, h1, h2, h3⟩ := h.at_ j x hj
      exact ⟨c, fun x' h => by injection h with h; subst h; exact ⟨h1, h2, fun k y hy => by simpa using h3 k y hy⟩⟩
  refine ⟨fun j => (hx j).choose, .inr ⟨_, _, rfl, Nat.le_refl _, fun j hj => ?_⟩, fun j x hj => ((hx j).choose_spec x hj).1⟩
  obtain ⟨_, h2, h3⟩ := (hx j).choose_spec _ (List.getElem?_eq_getElem hj)
  refine ⟨hB, h2, fun k y hy => ?_⟩
  have := h3 k y hy
  rw [add_add, Addr.add_lit]
  simp [World.cell?, hb, this]

theorem new2 (w : World) (o o' : Obj) : ((w.alloc o).alloc o').heap[w.heap.size + 1]? = some o' := by
  have := heap_alloc_new (w.alloc o) o'
  simpa using this
theorem box0 {w w' : World} {cs : Array Value} {t : Nat} (h : Only (fun _ => False) (w.alloc (.cells cs t)) w') (k : Nat) {v : Value} (hv : cs[k]? = some v) : w'.cell? ⟨w.heap.size, k, none⟩ = some v := by
  have := h.block w.heap.size (by simp) id
  rw [heap_alloc_new] at this
  simp [World.cell?, this, hv]
theorem box0f {w w' : World} {cs : Array Value} {t : Nat} (h : Only (fun _ => False) (w.alloc (.cells cs t)) w') (k : Nat) : w'.frozen? ⟨w.heap.size, k, none⟩ = false := by
  have := h.block w.heap.size (by simp) id
  rw [heap_alloc_new] at this
  simp [World.frozen?, this]

/-- Fields in blocks made between two worlds. -/
def FldsN (w0 w1 : World) (fs : List Fld) (v : Value) : Prop := ∀ W B, w1.heap.size ≤ B → (∀ k, w0.heap.size ≤ k → k < w1.heap.size → W.heap[k]? = w1.heap[k]?) → FldsC W B fs v
/-- What a function that makes fields comes to; one that makes a message. -/
def SubP (fs : List Fld) (w : World) (e : Ending) (w' : World) : Prop := ∃ A n c, e = .returned (.slice A n c) ∧ FldsN w w' fs (.slice A n c) ∧ Only (fun _ => False) w w'
def SpecP (fs : List Fld) (fx : Int) (w : World) (e : Ending) (w' : World) : Prop := ∃ A n c, e = .returned (.agg #[.slice A n c, .int .i64 fx]) ∧ FldsC w' w'.heap.size fs (.slice A n c) ∧ Only (fun _ => False) w w'

theorem FldsN.up {w w1 w2 : World} {fs : List Fld} {v : Value} (h : FldsN w w1 fs v) (O : Only (fun _ => False) w1 w2) : FldsN w w2 fs v :=
  fun W B hB hW => h W B (Nat.le_trans O.size hB) fun k h1 h2 => (hW k h1 (Nat.lt_of_lt_of_le h2 O.size)).trans (O.block k h2 id)
theorem FldsN.dn {w0 w w1 : World} {fs : List Fld} {v : Value} (h : FldsN w w1 fs v) (O : Only (fun _ => False) w0 w) : FldsN w0 w1 fs v :=
  fun W B hB hW => h W B hB fun k h1 h2 => hW k (Nat.le_trans O.size h1) h2
theorem flds_newN {w w1 : World} {cs : Array Value} {t : Nat} {fs : List Fld} (O : Only (fun _ => False) w w1) (h : ∀ W B, w1.heap.size + 1 ≤ B → (∀ k, w.heap.size ≤ k → k < w1.heap.size + 1 → W.heap[k]? = (w1.alloc (.cells cs t)).heap[k]?) → FldsL W B fs cs.toList) : FldsN w (w1.alloc (.cells cs t)) fs (.slice (some ⟨w1.heap.size, 0, none⟩) fs.length fs.length) := by
  intro W B hB hW
  have hs : (w1.alloc (.cells cs t)).heap.size = w1.heap.size + 1 := by simp
  rw [hs] at hB hW
  exact flds_new ((hW w1.heap.size O.size (by omega)).trans (heap_alloc_new _ _)) (by omega) (h W B hB hW)
/-- Sub-fields made before. -/
theorem FldsN.use {w w1 w2 W : World} {B : Nat} {fs : List Fld} {v : Value} (h : FldsN w w1 fs v) (O : Only (fun _ => False) w1 w2) {o : Obj} (hB : w2.heap.size + 1 ≤ B) (hW : ∀ k, w.heap.size ≤ k → k < w2.heap.size + 1 → W.heap[k]? = (w2.alloc o).heap[k]?) : FldsC W B fs v := by
  refine h W B (by have := O.size; omega) fun k h1 h2 => ?_
  have hk := O.size
  rw [hW k h1 (by omega), heap_alloc_old (h := by omega)]
  exact O.block k h2 id
/-- The end of a function that makes a message with fields made before. -/
theorem made {w w1 W' : World} {z0 z1 v0 v1 : Value} {cs : Array Value} {t T : Nat} (h : Only (fun _ => False) (w.alloc (.cells #[z0, z1] T)) w1) (hW : ((w1.setCell ⟨w.heap.size, 0, none⟩ v0).setCell ⟨w.heap.size, 1, none⟩ v1).alloc (.cells cs t) = W') :
    W'.heap[w.heap.size]? = some (.cells #[v0, v1] T) ∧ W'.heap[w1.heap.size]? = some (.cells cs t) ∧ W'.heap.size = w1.heap.size + 1 ∧ Only (fun _ => False) w W' ∧ ∀ k, w.heap.size < k → k < w1.heap.size → W'.heap[k]? = w1.heap[k]? := by
  have hb : w1.heap[w.heap.size]? = some (.cells #[z0, z1] T) := by
    have := h.block w.heap.size (by simp) id
    rwa [heap_alloc_new] at this
  have hs := h.size
  have hs0 : (w.alloc (.cells #[z0, z1] T)).heap.size = w.heap.size + 1 := by simp
  rw [hs0] at hs
  subst hW
  have key : ∀ k, k < w1.heap.size → k ≠ w.heap.size → (((w1.setCell ⟨w.heap.size, 0, none⟩ v0).setCell ⟨w.heap.size, 1, none⟩ v1).alloc (.cells cs t)).heap[k]? = w1.heap[k]? := by
    intro k hk hne
    rw [heap_alloc_old (h := by simpa using hk), Below.heap_setCell _ _ _ _ hne, Below.heap_setCell _ _ _ _ hne]
  have hbl : ((w1.setCell ⟨w.heap.size, 0, none⟩ v0).setCell ⟨w.heap.size, 1, none⟩ v1).heap[w.heap.size]? = some (.cells (((#[z0, z1] : Array Value).setIfInBounds 0 v0).setIfInBounds 1 v1) T) := by
    have h1 : (w1.setCell ⟨w.heap.size, 0, none⟩ v0).heap[w.heap.size]? = some (.cells ((#[z0, z1] : Array Value).setIfInBounds 0 v0) T) := by
      exact heap_setCell_same w1 w.heap.size 0 _ T v0 hb
    exact heap_setCell_same _ w.heap.size 1 _ T v1 h1
  have hbl2 : (((w1.setCell ⟨w.heap.size, 0, none⟩ v0).setCell ⟨w.heap.size, 1, none⟩ v1).alloc (.cells cs t)).heap[w.heap.size]? = some (.cells (((#[z0, z1] : Array Value).setIfInBounds 0 v0).setIfInBounds 1 v1) T) := by
    rw [heap_alloc_old (h := by simp; omega), hbl]
  have hn : (((w1.setCell ⟨w.heap.size, 0, none⟩ v0).setCell ⟨w.heap.size, 1, none⟩ v1).alloc (.cells cs t)).heap[w1.heap.size]? = some (.cells cs t) := by
    have := heap_alloc_new ((w1.setCell ⟨w.heap.size, 0, none⟩ v0).setCell ⟨w.heap.size, 1, none⟩ v1) (.cells cs t)
    simpa using this
  refine ⟨hbl2, hn, by simp, ⟨?_, ?_, ?_, by simp; omega, fun k hk _ => ?_⟩, fun k h1 h2 => key k h2 (by omega)⟩
  · exact h.os
  · exact h.tape
  · exact h.output
  · rw [key k (by omega) (by omega), h.block k (by omega) id, heap_alloc_old (h := hk)]
end Go.Proofs.Ythlfepgcjomhpaa.Kf
