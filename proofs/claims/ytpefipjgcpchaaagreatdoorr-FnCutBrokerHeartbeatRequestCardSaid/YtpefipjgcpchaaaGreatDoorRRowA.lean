/- From the rows' data to memory and back: octets and trees that came in; what came in reads behind the call as before; the errors' variable. -/
import Derived.Test.YtpefipjgcpchaaaGreatDoorRLawA
import Derived.OpenShut
import Derived.Deep.DeepHandedRow
import Derived.Deep.Slices
import Derived.Lib.LaidTab
import Derived.WideKeyArgs
import Derived.ProofKit
namespace Go.Proofs.YtpefipjgcpchaaaGreatDoorR.Kf
set_option linter.unusedVariables false
set_option linter.unusedSimpArgs false
open Go Go.RowKit Go.ChangeShapes Go.WideShapes Go.ChangeAt

section
variable {H : Type} {enc : TypeId × Value → H} {P : Program} {W W' : World}

theorem Only.allBelow {w w' : World} (h : Only (fun _ => False) w w') : Below w.heap.size w w' := ⟨h.os, h.tape, h.output, h.size, fun k hk => h.block k hk id⟩

/-- What came in reads behind the call as it did. -/
theorem handed (hl : laidOutB P = true) (O : Only (fun _ => False) W W') {sp : Nat → Bool} : ∀ {ts : List TypeId} {vs : List Value} {ds : List (DataW H)} {ps : List MemPlace}, (∀ t ∈ ts, P.readableRec t = true ∧ t < P.types.size) →
    DataW.TrodAll enc P W 0 (fun _ => true) true ts vs ds ps → (∀ p ∈ ps, p.block < W.heap.size) → (∀ p ∈ ps, sp p.block = true) → DataW.TrodAll enc P W' 0 sp true ts vs ds ps
  | [], [], [], _, _, h, _, _ => h
  | _ :: _, _ :: _, _ :: _, _, hT, ⟨p, q, h1, h2, e⟩, hlt, hs =>
    ⟨p, q, WideElems.Trod_stays hl (hT _ (List.mem_cons.2 (Or.inl rfl))).1 (hT _ (List.mem_cons.2 (Or.inl rfl))).2 h1 (fun x hx => O.allBelow.same (hlt x (by rw [e]; exact List.mem_append_left _ hx))) (fun x hx => hs x (by rw [e]; exact List.mem_append_left _ hx)),
      handed hl O (fun t ht => hT t (List.mem_cons.2 (Or.inr ht))) h2 (fun x hx => hlt x (by rw [e]; exact List.mem_append_right _ hx)) (fun x hx => hs x (by rw [e]; exact List.mem_append_right _ hx)), e⟩

theorem oc_trod {t e : TypeId} (ht : P.underlying t = some (.slice e)) (he : P.underlying e = some (.int .u8)) (hc : P.cellsOf e = 1) {fuel : Nat} {cs : List Value} {x : DataW H × List MemPlace} (h : DataW.trod enc P W 0 (fun _ => true) true fuel t cs = some x) :
    ∃ bs v, cs = [v] ∧ Oc W W.heap.size v bs := by
  rcases open_ints ht he hc h with ⟨rfl, _⟩ | ⟨a, len, cap, zs, rfl, _, hle, hm, hz, hx, hcell, hw⟩
  · exact ⟨[], _, rfl, Oc.nil _ _⟩
  · have hzl : len ≤ zs.length := by rw [hz]; simpa using hle
    have hlen : ((zs.take len).map byteOf).length = len := by simp; omega
    refine ⟨(zs.take len).map byteOf, _, rfl, .inr ⟨a, cap, by rw [hlen], by rw [hlen]; exact hle, fun j b hb => ?_⟩⟩
    have hj : j < len := by
      have := (List.getElem?_eq_some_iff.1 hb).1
      rw [hlen] at this
      exact this
    have hc1 := hcell j (by omega)
    have hzj : zs[j]? = some (zs.getD j 0) := by simp [List.getD, List.getElem?_eq_getElem (show j < zs.length by omega)]
    have hmem : zs.getD j 0 ∈ zs := List.mem_of_getElem? hzj
    have hwf := hw _ hmem
    have hr : 0 ≤ zs.getD j 0 ∧ zs.getD j 0 < 256 := by
      have : 0 ≤ zs.getD j 0 ∧ zs.getD j 0 ≤ 255 := by simpa [Lit.wf, IntKind.min, IntKind.max, IntKind.signed, IntKind.bits] using hwf
      omega
    have hb' : b = byteOf (zs.getD j 0) := by
      rw [List.getElem?_map, List.getElem?_take, if_pos hj, hzj] at hb
      simpa using hb.symm
    refine ⟨?_, ?_⟩
    · have hlt := World.block_lt_of_cell? _ _ hc1
      rwa [add_block] at hlt
    · rw [hc1, hb']
      generalize zs.getD j 0 = z at hr
      have h3 : ((byteOf z).toNat : Int) = z := by
        unfold byteOf
        have : (UInt8.ofNat (z % 256).toNat).toNat = (z % 256).toNat % 256 := UInt8.toNat_ofNat'
        rw [this]
        omega
      show some (Value.int .u8 _) = some (Value.int .u8 _)
      rw [h3]
/-- The errors' variable, as the row's list says. -/
theorem err_laid {name nm : String} {d : DataW Unit} {rest : List (String × DataW Unit)} {g : Nat} {t : TypeId} {ms : Array (String × TypeId)} (hg : P.globalNamed name = some g) (hty : (P.globals[g]?).map (·.type) = some t) (ht : P.underlying t = some (.interface ms))
    (h : laidMet P ((name, .iface nm d) :: rest) W) : ∃ u v, W.cell? ⟨g, 0, none⟩ = some (.iface u v) := by
  obtain ⟨ps, ⟨g', t', cs, fuel, p, q, hg', ht', hvar, hd, _, _⟩, _⟩ := h
  obtain rfl := Option.some.inj (hg.symm.trans hg')
  obtain rfl := Option.some.inj (hty.symm.trans ht')
  obtain ⟨_, u, v, hcs, _, _⟩ := iface_of_trod ht hd
  have := World.var?_cell hg hvar 0
  rw [this, ← Array.getElem?_toList, hcs]
  exact ⟨u, v, rfl⟩

/-- A law that returns true and lets everything be. -/
theorem law_post {f : Func} {s : ChangeSpec} {args : Array Value} {ds gs : List (DataW H)} {before : List MemPlace} {tb : TypeId} (hl : laidOutB P = true) (hW : DataW.Whole enc P f.params.toList s.vars false W args.toList ds gs before)
    (hv : s.vars = []) (hr : ∀ t ∈ f.params.toList, P.readableRec t = true ∧ t < P.types.size) (hres : (s.fn H ds).results = [.lit (.bool true)]) (hargs : (s.fn H ds).args = ds) (hvs : (s.fn H ds).vars = []) (hft : f.resultTypes = #[tb]) (hb : P.underlying tb = some .bool)
    (O : Only (fun _ => False) W W') : s.post enc P f false true false false W args (.bool true) W' := by
  have hW' := hW
  have hlt := hW.lt
  obtain ⟨p, q, hA, hV, rfl, hfz, hnd⟩ := hW
  rw [hv] at hV
  obtain ⟨rfl, rfl⟩ := trodVars_none hV
  simp only [List.append_nil] at hW' hlt
  have hold : ∀ x ∈ p, (fun b => decide (b < W.heap.size)) x.block = true := fun x hx => by simpa using hlt x hx
  have hR : ∀ (b : Nat) (sp : Nat → Bool) (hd : Bool), DataW.TrodAll enc P W' b sp hd f.resultTypes.toList ((Value.bool true).resultList f.resultTypes.size) (s.fn H (ds ++ [])).results [] := fun _ _ _ => by
    rw [List.append_nil, hres, hft]
    exact trodAll_cons_mk (shut_bool hb _) trodAll_mk0
  have hA' : ∀ sp : Nat → Bool, (∀ x ∈ p, sp x.block = true) → DataW.TrodAll enc P W' 0 sp true f.params.toList args.toList (s.fn H (ds ++ [])).args p := fun sp hsp => by
    rw [List.append_nil, hargs]
    exact handed hl O hr hA hlt hsp
  have hV' : ∀ sp : Nat → Bool, DataW.TrodVars enc P W' sp s.vars (s.fn H (ds ++ [])).vars [] := fun sp => by rw [List.append_nil, hvs, hv]; rfl
  have hok : ∀ (j : Nat) (t : TypeId) (r : Value), f.resultTypes[j]? = some t → ((Value.bool true).resultList f.resultTypes.size)[j]? = some r → Value.okWide P W' .any 0 t r := ok_one hft rfl (okWide_bool_mk hb _)
  refine ⟨ds, [], p, [], p, [], hW', hR _ _ _, hA' _ hold, hV' _, O.allBelow.frame _, fun _ => ⟨hok, _, _, ([] ++ p) ++ [], ⟨[] ++ p, [], trodAll_append (hA' _ (fun _ _ => rfl)) (hR _ _ _), hV' _, rfl, ?_, fun h => by cases h⟩, fun x hx _ => by simpa using hx⟩⟩
  intro b off hp
  have hp' : MemPlace.cell b off ∈ p := by simpa using hp
  rw [O.allBelow.frozen (hlt _ hp')]
  exact hfz b off (by simpa using hp')
end
end Go.Proofs.YtpefipjgcpchaaaGreatDoorR.Kf
