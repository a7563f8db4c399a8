import JvmDerived
import JvmDerived.Pilot.@@N@@Statement
import JvmDerived.Pilot.@@N@@Code
set_option linter.unusedVariables false
set_option linter.unusedSimpArgs false
namespace Jvm.RoadKit
open Sem ClassFile Op Lib Jvm.Stand Jvm.Free Jvm.LawKit
section Own
variable {p : Program} {l : Launch} {e : Env} {R : Room} {s : State} {m : MethodId} {args : Array Value} {below : List Frame} {meth : Method} {c : Code} {T A B : State} {locs : List Loc} {cells slots K N : Nat} {Q : Option Value → Heap → List Loc → Prop}
/-- from A the walk comes to its end, and Q holds there -/
def OutW (p : Program) (e : Env) (below : List Frame) (s : State) (K N : Nat) (Q : Option Value → Heap → List Loc → Prop) (A : State) : Prop :=
  ∃ s₂ o, Steps p.tables e below A s₂ ∧ s₂.status = .running ∧ Ended s₂ below o ∧ ∃ v L, o = .returned v ∧ Q v s₂.heap L ∧ FrameEnd s o s₂ L K N
/-- a body that writes nothing: what it returns -/
def Qpure (h0 : Heap) (n0 : Nat) (r : Value) (v : Option Value) (h : Heap) (L : List Loc) : Prop := v = some r ∧ Fr n0 L ∧ h = h0
theorem OutW.back (h : ∀ t, Steps p.tables e below B t → Steps p.tables e below A t) (k : OutW p e below s K N Q B) : OutW p e below s K N Q A := by
  obtain ⟨t, o, h1, h2⟩ := k
  exact ⟨t, o, h t h1, h2⟩
theorem OutW.via (h : Steps p.tables e below A B) (k : OutW p e below s K N Q B) : OutW p e below s K N Q A := by
  obtain ⟨t, o, h1, h2⟩ := k
  exact ⟨t, o, h.trans h1, h2⟩
theorem OutW.retV (X : Stand p l e R s m args below meth c T locs cells slots) (hx : p.tables.exec = Jvm.exec) {pc : Nat} {Ls : Array Slot} (hret : meth.sig.returnType = none) (hlk : meth.locks = false) (hd : decode c.code pc = .ok (.return_, 1))
    (hK : cells ≤ K) (hN : slots ≤ N) (hq : Q none T.heap locs) : OutW p e below s K N Q (T.setTop (mkF m pc Ls [])) := by
  obtain ⟨fs, hr, hrun, hended, hW, hsame⟩ := X.leave (v := none) (fun _ => rfl) hlk
  exact ⟨_, _, X.returnOut hx hret hd hr, hrun, hended, _, _, rfl, hq, ⟨_, rfl⟩, hW, hsame.mono hK hN⟩
theorem OutW.retI (X : Stand p l e R s m args below meth c T locs cells slots) (hx : p.tables.exec = Jvm.exec) {pc : Nat} {Ls : Array Slot} {z : Int32} {rest : List Value} (hret : meth.sig.returnType = some .int) (hlk : meth.locks = false) (hd : decode c.code pc = .ok (.ireturn, 1))
    (hK : cells ≤ K) (hN : slots ≤ N) (hq : Q (some (.int z)) T.heap locs) : OutW p e below s K N Q (T.setTop (mkF m pc Ls (.int z :: rest))) := by
  obtain ⟨fs, hr, hrun, hended, hW, hsame⟩ := X.leave (v := some (.int z)) (fun h => by rw [hret] at h; cases h) hlk
  exact ⟨_, _, retOut X hx hret rfl (Or.inl ⟨rfl, Or.inl rfl, z, rfl⟩) hd hr, hrun, hended, _, _, rfl, hq, ⟨_, rfl⟩, hW, hsame.mono hK hN⟩
theorem OutW.retJ (X : Stand p l e R s m args below meth c T locs cells slots) (hx : p.tables.exec = Jvm.exec) {pc : Nat} {Ls : Array Slot} {z : Int64} {rest : List Value} (hret : meth.sig.returnType = some .long) (hlk : meth.locks = false) (hd : decode c.code pc = .ok (.lreturn, 1))
    (hK : cells ≤ K) (hN : slots ≤ N) (hq : Q (some (.long z)) T.heap locs) : OutW p e below s K N Q (T.setTop (mkF m pc Ls (.long z :: rest))) := by
  obtain ⟨fs, hr, hrun, hended, hW, hsame⟩ := X.leave (v := some (.long z)) (fun h => by rw [hret] at h; cases h) hlk
  exact ⟨_, _, retOut X hx hret rfl (Or.inr (Or.inl ⟨rfl, rfl, z, rfl⟩)) hd hr, hrun, hended, _, _, rfl, hq, ⟨_, rfl⟩, hW, hsame.mono hK hN⟩
theorem nar_ref {t : FieldType} {v : Value} (h : v.isRef = true) : narrow t v = v := by
  rcases ref_cases h with rfl | ⟨a, rfl⟩ <;> cases t <;> rfl
theorem cat_ref {v : Value} (h : v.isRef = true) : v.category = 1 := by
  rcases ref_cases h with rfl | ⟨a, rfl⟩ <;> rfl
theorem fit_ref {t : FieldType} {v : Value} (ht : refKind t = true) (h : v.isRef = true) : fits t v = true := by
  rcases ref_cases h with rfl | ⟨a, rfl⟩ <;> cases t <;> first | rfl | (simp [refKind] at ht)
theorem OutW.retA (X : Stand p l e R s m args below meth c T locs cells slots) (hx : p.tables.exec = Jvm.exec) {pc : Nat} {Ls : Array Slot} {w : Value} {t : FieldType} {rest : List Value} (hret : meth.sig.returnType = some t) (ht : t.isReference = true) (hw : w.isRef = true) (hlk : meth.locks = false) (hd : decode c.code pc = .ok (.areturn, 1))
    (hK : cells ≤ K) (hN : slots ≤ N) (hq : Q (some w) T.heap locs) : OutW p e below s K N Q (T.setTop (mkF m pc Ls (w :: rest))) := by
  obtain ⟨fs, hr, hrun, hended, hW, hsame⟩ := X.leave (v := some w) (fun h => by rw [hret] at h; cases h) hlk
  exact ⟨_, _, retOut X hx hret (nar_ref hw) (Or.inr (Or.inr (Or.inr (Or.inr ⟨rfl, ht, hw⟩)))) hd hr, hrun, hended, _, _, rfl, hq, ⟨_, rfl⟩, hW, hsame.mono hK hN⟩
theorem OutW.retN (X : Stand p l e R s m args below meth c T locs cells slots) (hx : p.tables.exec = Jvm.exec) {pc : Nat} {Ls : Array Slot} {z z' : Int32} {t : FieldType} {rest : List Value} (hret : meth.sig.returnType = some t) (ht : t = .boolean ∨ t = .byte ∨ t = .char ∨ t = .short) (hlk : meth.locks = false) (hd : decode c.code pc = .ok (.ireturn, 1)) (hz : nar t z = z')
    (hK : cells ≤ K) (hN : slots ≤ N) (hq : Q (some (.int z')) T.heap locs) : OutW p e below s K N Q (T.setTop (mkF m pc Ls (.int z :: rest))) := by
  subst hz
  obtain ⟨fs, hr, hrun, hended, hW, hsame⟩ := X.leave (v := some (.int (nar t z))) (fun h => by rw [hret] at h; cases h) hlk
  exact ⟨_, _, Jvm.RoadKit.retN X hx hret ht hd hr, hrun, hended, _, _, rfl, hq, ⟨_, rfl⟩, hW, hsame.mono hK hN⟩
theorem store1' {L L' : Array Slot} {i : Nat} {v : Value} {o : Slot} (hold : L[i]? = some o) (ho : One o) (hv : v.category = 1) (h : L.setIfInBounds i (.val v) = L') : storeLocals L i v = some L' := h ▸ XS.store1 hold ho hv
theorem own_lt_mono {x a b : Int32} (h : x < a) (q : a ≤ b) : x < b := by
  rw [Int32.lt_iff_toInt_lt] at *
  rw [Int32.le_iff_toInt_le] at q
  omega
theorem own_nlt_mono {x a b : Int32} (h : ¬ x < a) (q : b ≤ a) : ¬ x < b := by
  rw [Int32.lt_iff_toInt_lt] at *
  rw [Int32.le_iff_toInt_le] at q
  omega
/-- every element of the array's cell is an object of exactly that class -/
def Els (Z : State) (h : Heap) (cl : Cell) (C : String) : Prop := ∀ j : Int32, ¬ (j < 0 ∨ cl.slots.size ≤ j.toNatClampNeg) → ∃ y : Addr, cl.slots[j.toNatClampNeg]? = some (.ref y) ∧ Exa Z h y C
theorem own_Uext {Z : State} {h h' : Heap} {cl : Cell} {C : String} (U : Els Z h cl C) (E : Ext h h') : Els Z h' cl C := fun j hj => by
  obtain ⟨y, a, b⟩ := U j hj
  exact ⟨y, a, b.ext E⟩
theorem own_Uwr {Z : State} {h h' : Heap} {cl : Cell} {C : String} {a : Addr} {sl : Nat} {v : Value} (U : Els Z h cl C) (W : Wr h h' a sl v) : Els Z h' cl C := fun j hj => by
  obtain ⟨y, q, b⟩ := U j hj
  exact ⟨y, q, b.wr W⟩
theorem own_Ukeep {Z : State} {h h' : Heap} {cl : Cell} {C : String} {ws : List Addr} (U : Els Z h cl C) (K : Keep h h' ws) : Els Z h' cl C := fun j hj => by
  obtain ⟨y, a, b⟩ := U j hj
  exact ⟨y, a, b.keep K⟩
theorem own_Akeep {Z : State} {h h' : Heap} {a : Addr} {c : Cell} {ty : FieldType} {ws : List Addr} (A : Arr Z h a c ty) (K : Keep h h' ws) (q : a ∉ ws) : Arr Z h' a c ty := ⟨K.2.1 a c A.1 q, A.2⟩
theorem own_keepS {Z : State} {h h' : Heap} {C n d : String} {v : Value} {ws : List Addr} (F : Sta Z h C n d v) (K : Keep h h' ws) (q : ∀ x ∈ ws, ∃ C', Exa Z h x C') : Sta Z h' C n d v := by
  obtain ⟨cf, i, k, f, st, cell, h1, h2, h3, h4, h5, h6, h7⟩ := F
  have ne : st ∉ ws := fun hm => by
    obtain ⟨C', c', k', e1, -, -, e4, -⟩ := q st hm
    cases h5.symm.trans e1
    rw [h6] at e4; cases e4
  exact ⟨cf, i, k, f, st, cell, h1, h2, h3, h4, K.2.1 _ _ h5 ne, h6, h7⟩
end Own
end Jvm.RoadKit
namespace Jvm.Pilot.@@N@@
open Jvm Jvm.ClassFile Sem Op Lib Jvm.Free Jvm.Stand Jvm.LawKit Jvm.RoadKit Bundle Jvm.Pilot.@@N@@.Jvm.D
theorem eqI (a b : Int32) : (a = b) = (a.toInt = b.toInt) := propext Int32.toInt_inj.symm
theorem own_getD (l : List Int32) (n : Nat) (d : Int32) : (l.map Value.int).getD n (.int d) = .int (l.getD n d) := by
  induction l generalizing n with
  | nil => cases n <;> rfl
  | cons a t ih =>
    cases n with
    | zero => rfl
    | succ n => exact ih n
theorem own_idx (k : Int32) : ¬ (k &&& (15 : Int32)) < 0 ∧ (k &&& (15 : Int32)) < (16 : Int32) := by
  have h := c_and k (15 : Int32) (by decide)
  simp only [Int32.lt_iff_toInt_lt, Int32.reduceToInt] at h ⊢
  omega
def isx_42 (p1 : Int32) : Int32 := (if p1 < (65536 : Int32) then (0 : Int32) else (if (1114111 : Int32) < p1 then (0 : Int32) else (1 : Int32)))
def isx_30 (p1 : Int32) : Int32 := (if p1 < (57344 : Int32) then (isx_42 p1) else (if (65533 : Int32) < p1 then (isx_42 p1) else (1 : Int32)))
def isx_0 (p1 : Int32) : Int32 := (if p1 = (9 : Int32) then (1 : Int32) else (if p1 = (10 : Int32) then (1 : Int32) else (if p1 = (13 : Int32) then (1 : Int32) else (if p1 < (32 : Int32) then (isx_30 p1) else (if (55295 : Int32) < p1 then (isx_30 p1) else (1 : Int32))))))
theorem d1_0 : decode prog_233_method_10_code 0 = .ok (.iload_n 0, 1) := by decide +kernel
theorem d1_1 : decode prog_233_method_10_code 1 = .ok (.bipush 9, 2) := by decide +kernel
theorem d1_3 : decode prog_233_method_10_code 3 = .ok (.if_icmp .eq 51, 3) := by decide +kernel
theorem d1_6 : decode prog_233_method_10_code 6 = .ok (.iload_n 0, 1) := by decide +kernel
theorem d1_7 : decode prog_233_method_10_code 7 = .ok (.bipush 10, 2) := by decide +kernel
theorem d1_9 : decode prog_233_method_10_code 9 = .ok (.if_icmp .eq 45, 3) := by decide +kernel
theorem d1_12 : decode prog_233_method_10_code 12 = .ok (.iload_n 0, 1) := by decide +kernel
theorem d1_13 : decode prog_233_method_10_code 13 = .ok (.bipush 13, 2) := by decide +kernel
theorem d1_15 : decode prog_233_method_10_code 15 = .ok (.if_icmp .eq 39, 3) := by decide +kernel
theorem d1_18 : decode prog_233_method_10_code 18 = .ok (.iload_n 0, 1) := by decide +kernel
theorem d1_19 : decode prog_233_method_10_code 19 = .ok (.bipush 32, 2) := by decide +kernel
theorem d1_21 : decode prog_233_method_10_code 21 = .ok (.if_icmp .lt 9, 3) := by decide +kernel
theorem d1_24 : decode prog_233_method_10_code 24 = .ok (.iload_n 0, 1) := by decide +kernel
theorem d1_25 : decode prog_233_method_10_code 25 = .ok (.ldc 7, 2) := by decide +kernel
theorem d1_27 : decode prog_233_method_10_code 27 = .ok (.if_icmp .le 27, 3) := by decide +kernel
theorem d1_30 : decode prog_233_method_10_code 30 = .ok (.iload_n 0, 1) := by decide +kernel
theorem d1_31 : decode prog_233_method_10_code 31 = .ok (.ldc 27, 2) := by decide +kernel
theorem d1_33 : decode prog_233_method_10_code 33 = .ok (.if_icmp .lt 9, 3) := by decide +kernel
theorem d1_36 : decode prog_233_method_10_code 36 = .ok (.iload_n 0, 1) := by decide +kernel
theorem d1_37 : decode prog_233_method_10_code 37 = .ok (.ldc 11, 2) := by decide +kernel
theorem d1_39 : decode prog_233_method_10_code 39 = .ok (.if_icmp .le 15, 3) := by decide +kernel
theorem d1_42 : decode prog_233_method_10_code 42 = .ok (.iload_n 0, 1) := by decide +kernel
theorem d1_43 : decode prog_233_method_10_code 43 = .ok (.ldc 12, 2) := by decide +kernel
theorem d1_45 : decode prog_233_method_10_code 45 = .ok (.if_icmp .lt 13, 3) := by decide +kernel
theorem d1_48 : decode prog_233_method_10_code 48 = .ok (.iload_n 0, 1) := by decide +kernel
theorem d1_49 : decode prog_233_method_10_code 49 = .ok (.ldc 28, 2) := by decide +kernel
theorem d1_51 : decode prog_233_method_10_code 51 = .ok (.if_icmp .gt 7, 3) := by decide +kernel
theorem d1_54 : decode prog_233_method_10_code 54 = .ok (.iconst 1, 1) := by decide +kernel
theorem d1_55 : decode prog_233_method_10_code 55 = .ok (.goto 4, 3) := by decide +kernel
theorem d1_58 : decode prog_233_method_10_code 58 = .ok (.iconst 0, 1) := by decide +kernel
theorem d1_59 : decode prog_233_method_10_code 59 = .ok (.ireturn, 1) := by decide +kernel
theorem pn_1 : plainName "com/example/xml_document_query/xmldocumentquery/value/XmlCharacters" = true := by first | (simp [plainName, overriddenIn]; done) | decide +kernel
theorem ef_1 (m : MethodId) (x0 : Int32) : entryFrame m #[(.int x0)] 1 = mkF m 0 #[.val (.int x0)] [] := by first | (simp [entryFrame, mkF, argsToLocals, Value.category]; done) | rfl
def Q1 (Z : State) (p1 : Int32)  (h0 : Heap) (n0 : Nat) (v : Option Value) (h : Heap) (L : List Loc) : Prop := v = some (.int (isx_0 p1)) ∧ Fr n0 L ∧ h = h0
set_option maxRecDepth 65536 in
set_option maxHeartbeats 40000000 in
theorem rm1 (l : Launch) (Z : State) (a0 : Array Value) (hw : ∀ d ∈ tables_1, d.before a0 Z = true) (ws : List Jvm.Cond) (p1 : Int32)  (h0 : Heap) (n0 : Nat) (Z0 : n0 ≤ h0.size) :
    MetFree l (⟨"com/example/xml_document_query/xmldocumentquery/value/XmlCharacters", "isXmlChar", "(I)Z"⟩ : MethodName) (head1 (Jvm.Cond.code (⟨"com/example/xml_document_query/xmldocumentquery/value/XmlCharacters", "isXmlChar", "(I)Z"⟩ : MethodName) prog_233_method_10_code 1 (some .boolean) :: ws) ({ frames := 0, cells := 0, slots := 0, locals := 0 } : Room)) (fun a U => a = #[(.int p1)] ∧ Z.Warmed39 U.vm ∧ U.heap = h0) (fun _ _ _ _ _ => True) (fun _ U o U' => ∃ v L, o = .returned v ∧ Q1 Z p1 h0 n0 v U'.heap L ∧ FrameEnd U o U' L ({ frames := 0, cells := 0, slots := 0, locals := 0 } : Room).cells ({ frames := 0, cells := 0, slots := 0, locals := 0 } : Room).slots) := by
  refine MetFree.of_bodySF (plainFor_of_name pn_1) hisR ?_
  intro p e s m args below meth c s₁ Bd hml0 hP hK
  obtain ⟨rfl, hZ, hh⟩ := hP
  have hx := Bd.exec
  have hby := Bd.bytes
  have hlk := Bd.notSynchronized
  have hml : c.maxLocals = 1 := hml0
  have hown : s.vm.findClass "com/example/xml_document_query/xmldocumentquery/value/XmlCharacters" = some m.cls := findClass_of_methodNamed Bd.named
  have hnm := (name_of_methodNamed Bd.named Bd.method).1
  have X0 : Stand p l e ({ frames := 0, cells := 0, slots := 0, locals := 0 } : Room) s m #[(.int p1)] below meth c s₁ [] 0 0 := Stand.of_body Bd
  have e0 : s₁.heap = h0 := by rw [← hh, Bd.state]; rfl
  have N0 := Fr.nil n0
  have K0 : Keep h0 h0 [] := Keep.refl h0 _
  show OutW p e below s ({ frames := 0, cells := 0, slots := 0, locals := 0 } : Room).cells ({ frames := 0, cells := 0, slots := 0, locals := 0 } : Room).slots (Qpure h0 n0 (.int (isx_0 p1))) _
  refine OutW.back (fun t k => castTop (ef_1 m p1) k) ?_
  show OutW _ _ _ _ _ _ _ (s₁.setTop (mkF m 0 #[.val (.int p1)] []))
  have b_42 : OutW p e below s 0 0 (Qpure h0 n0 (.int (isx_42 p1))) (s₁.setTop (mkF m 42 #[.val (.int p1)] [])) := by
    refine OutW.back (fun t k => XS.iloadN X0.here hx rfl (hb hby d1_42) rfl  k) ?_
    show OutW _ _ _ _ _ _ _ (s₁.setTop (mkF m 43 #[.val (.int p1)] [(.int p1)]))
    refine OutW.back (X0.ldcInt hx hown (mvT hZ (hw _ (List.mem_of_getElem? (i := 17) rfl))) (g := (mkF m 43 #[.val (.int p1)] [(.int p1)])) rfl (hb hby d1_43)) ?_
    show OutW _ _ _ _ _ _ _ (s₁.setTop (mkF m 45 #[.val (.int p1)] [(.int (65536 : Int32)), (.int p1)]))
    by_cases c45_1 : p1 < (65536 : Int32)
    · skip
      refine OutW.back (fun t k => XS.icmpYes X0.here hx rfl (pc0 := 45) (pc' := 58) rfl (hb hby d1_45) rfl (tlt c45_1).1 (by decide) (by decide) k) ?_
      show OutW _ _ _ _ _ _ _ (s₁.setTop (mkF m 58 #[.val (.int p1)] []))
      refine OutW.back (fun t k => XS.iconst X0.here hx rfl (hb hby d1_58) k) ?_
      show OutW _ _ _ _ _ _ _ (s₁.setTop (mkF m 59 #[.val (.int p1)] [(.int (0 : Int32))]))
      refine OutW.retN X0 hx (t := .boolean) (z' := (0 : Int32)) Bd.returns (by simp) hlk (hb hby d1_59) ?hz (by decide) (by decide) ?_
      case hz =>
        rfl
      show Qpure h0 n0 _ _ s₁.heap _
      rw [e0]
      exact ⟨by rw [isx_42, if_pos c45_1], N0, rfl⟩
    · skip
      refine OutW.back (fun t k => XS.icmpNo X0.here hx rfl (hb hby d1_45) rfl (flt c45_1).1 k) ?_
      show OutW _ _ _ _ _ _ _ (s₁.setTop (mkF m 48 #[.val (.int p1)] []))
      refine OutW.back (fun t k => XS.iloadN X0.here hx rfl (hb hby d1_48) rfl  k) ?_
      show OutW _ _ _ _ _ _ _ (s₁.setTop (mkF m 49 #[.val (.int p1)] [(.int p1)]))
      refine OutW.back (X0.ldcInt hx hown (mvT hZ (hw _ (List.mem_of_getElem? (i := 24) rfl))) (g := (mkF m 49 #[.val (.int p1)] [(.int p1)])) rfl (hb hby d1_49)) ?_
      show OutW _ _ _ _ _ _ _ (s₁.setTop (mkF m 51 #[.val (.int p1)] [(.int (1114111 : Int32)), (.int p1)]))
      by_cases c51_2 : (1114111 : Int32) < p1
      · skip
        refine OutW.back (fun t k => XS.icmpYes X0.here hx rfl (pc0 := 51) (pc' := 58) rfl (hb hby d1_51) rfl (tlt c51_2).2.2.1 (by decide) (by decide) k) ?_
        show OutW _ _ _ _ _ _ _ (s₁.setTop (mkF m 58 #[.val (.int p1)] []))
        refine OutW.back (fun t k => XS.iconst X0.here hx rfl (hb hby d1_58) k) ?_
        show OutW _ _ _ _ _ _ _ (s₁.setTop (mkF m 59 #[.val (.int p1)] [(.int (0 : Int32))]))
        refine OutW.retN X0 hx (t := .boolean) (z' := (0 : Int32)) Bd.returns (by simp) hlk (hb hby d1_59) ?hz (by decide) (by decide) ?_
        case hz =>
          rfl
        show Qpure h0 n0 _ _ s₁.heap _
        rw [e0]
        exact ⟨by rw [isx_42, if_neg c45_1, if_pos c51_2], N0, rfl⟩
      · skip
        refine OutW.back (fun t k => XS.icmpNo X0.here hx rfl (hb hby d1_51) rfl (flt c51_2).2.2.1 k) ?_
        show OutW _ _ _ _ _ _ _ (s₁.setTop (mkF m 54 #[.val (.int p1)] []))
        refine OutW.back (fun t k => XS.iconst X0.here hx rfl (hb hby d1_54) k) ?_
        show OutW _ _ _ _ _ _ _ (s₁.setTop (mkF m 55 #[.val (.int p1)] [(.int (1 : Int32))]))
        refine OutW.back (fun t k => XS.goto X0.here hx rfl (pc0 := 55) (pc' := 59) rfl (hb hby d1_55) (by decide) (by decide) k) ?_
        show OutW _ _ _ _ _ _ _ (s₁.setTop (mkF m 59 #[.val (.int p1)] [(.int (1 : Int32))]))
        refine OutW.retN X0 hx (t := .boolean) (z' := (1 : Int32)) Bd.returns (by simp) hlk (hb hby d1_59) ?hz (by decide) (by decide) ?_
        case hz =>
          rfl
        show Qpure h0 n0 _ _ s₁.heap _
        rw [e0]
        exact ⟨by rw [isx_42, if_neg c45_1, if_neg c51_2], N0, rfl⟩
  have b_30 : OutW p e below s 0 0 (Qpure h0 n0 (.int (isx_30 p1))) (s₁.setTop (mkF m 30 #[.val (.int p1)] [])) := by
    refine OutW.back (fun t k => XS.iloadN X0.here hx rfl (hb hby d1_30) rfl  k) ?_
    show OutW _ _ _ _ _ _ _ (s₁.setTop (mkF m 31 #[.val (.int p1)] [(.int p1)]))
    refine OutW.back (X0.ldcInt hx hown (mvT hZ (hw _ (List.mem_of_getElem? (i := 16) rfl))) (g := (mkF m 31 #[.val (.int p1)] [(.int p1)])) rfl (hb hby d1_31)) ?_
    show OutW _ _ _ _ _ _ _ (s₁.setTop (mkF m 33 #[.val (.int p1)] [(.int (57344 : Int32)), (.int p1)]))
    by_cases c33_3 : p1 < (57344 : Int32)
    · skip
      refine OutW.back (fun t k => XS.icmpYes X0.here hx rfl (pc0 := 33) (pc' := 42) rfl (hb hby d1_33) rfl (tlt c33_3).1 (by decide) (by decide) k) ?_
      show OutW _ _ _ _ _ _ _ (s₁.setTop (mkF m 42 #[.val (.int p1)] []))
      have eqb : isx_30 p1 = isx_42 p1 := by rw [isx_30, if_pos c33_3]
      rw [eqb]
      exact b_42
    · skip
      refine OutW.back (fun t k => XS.icmpNo X0.here hx rfl (hb hby d1_33) rfl (flt c33_3).1 k) ?_
      show OutW _ _ _ _ _ _ _ (s₁.setTop (mkF m 36 #[.val (.int p1)] []))
      refine OutW.back (fun t k => XS.iloadN X0.here hx rfl (hb hby d1_36) rfl  k) ?_
      show OutW _ _ _ _ _ _ _ (s₁.setTop (mkF m 37 #[.val (.int p1)] [(.int p1)]))
      refine OutW.back (X0.ldcInt hx hown (mvT hZ (hw _ (List.mem_of_getElem? (i := 23) rfl))) (g := (mkF m 37 #[.val (.int p1)] [(.int p1)])) rfl (hb hby d1_37)) ?_
      show OutW _ _ _ _ _ _ _ (s₁.setTop (mkF m 39 #[.val (.int p1)] [(.int (65533 : Int32)), (.int p1)]))
      by_cases c39_4 : (65533 : Int32) < p1
      · skip
        refine OutW.back (fun t k => XS.icmpNo X0.here hx rfl (hb hby d1_39) rfl (tlt c39_4).2.2.2 k) ?_
        show OutW _ _ _ _ _ _ _ (s₁.setTop (mkF m 42 #[.val (.int p1)] []))
        have eqb : isx_30 p1 = isx_42 p1 := by rw [isx_30, if_neg c33_3, if_pos c39_4]
        rw [eqb]
        exact b_42
      · skip
        refine OutW.back (fun t k => XS.icmpYes X0.here hx rfl (pc0 := 39) (pc' := 54) rfl (hb hby d1_39) rfl (flt c39_4).2.2.2 (by decide) (by decide) k) ?_
        show OutW _ _ _ _ _ _ _ (s₁.setTop (mkF m 54 #[.val (.int p1)] []))
        refine OutW.back (fun t k => XS.iconst X0.here hx rfl (hb hby d1_54) k) ?_
        show OutW _ _ _ _ _ _ _ (s₁.setTop (mkF m 55 #[.val (.int p1)] [(.int (1 : Int32))]))
        refine OutW.back (fun t k => XS.goto X0.here hx rfl (pc0 := 55) (pc' := 59) rfl (hb hby d1_55) (by decide) (by decide) k) ?_
        show OutW _ _ _ _ _ _ _ (s₁.setTop (mkF m 59 #[.val (.int p1)] [(.int (1 : Int32))]))
        refine OutW.retN X0 hx (t := .boolean) (z' := (1 : Int32)) Bd.returns (by simp) hlk (hb hby d1_59) ?hz (by decide) (by decide) ?_
        case hz =>
          rfl
        show Qpure h0 n0 _ _ s₁.heap _
        rw [e0]
        exact ⟨by rw [isx_30, if_neg c33_3, if_neg c39_4], N0, rfl⟩
  refine OutW.back (fun t k => XS.iloadN X0.here hx rfl (hb hby d1_0) rfl  k) ?_
  show OutW _ _ _ _ _ _ _ (s₁.setTop (mkF m 1 #[.val (.int p1)] [(.int p1)]))
  refine OutW.back (fun t k => XS.bipush X0.here hx rfl (hb hby d1_1) k) ?_
  show OutW _ _ _ _ _ _ _ (s₁.setTop (mkF m 3 #[.val (.int p1)] [(.int (9 : Int32)), (.int p1)]))
  by_cases c3_5 : p1 = (9 : Int32)
  · skip
    refine OutW.back (fun t k => XS.icmpYes X0.here hx rfl (pc0 := 3) (pc' := 54) rfl (hb hby d1_3) rfl (teq c3_5).1 (by decide) (by decide) k) ?_
    show OutW _ _ _ _ _ _ _ (s₁.setTop (mkF m 54 #[.val (.int p1)] []))
    refine OutW.back (fun t k => XS.iconst X0.here hx rfl (hb hby d1_54) k) ?_
    show OutW _ _ _ _ _ _ _ (s₁.setTop (mkF m 55 #[.val (.int p1)] [(.int (1 : Int32))]))
    refine OutW.back (fun t k => XS.goto X0.here hx rfl (pc0 := 55) (pc' := 59) rfl (hb hby d1_55) (by decide) (by decide) k) ?_
    show OutW _ _ _ _ _ _ _ (s₁.setTop (mkF m 59 #[.val (.int p1)] [(.int (1 : Int32))]))
    refine OutW.retN X0 hx (t := .boolean) (z' := (1 : Int32)) Bd.returns (by simp) hlk (hb hby d1_59) ?hz (by decide) (by decide) ?_
    case hz =>
      rfl
    show Qpure h0 n0 _ _ s₁.heap _
    rw [e0]
    exact ⟨by rw [isx_0, if_pos c3_5], N0, rfl⟩
  · skip
    refine OutW.back (fun t k => XS.icmpNo X0.here hx rfl (hb hby d1_3) rfl (feq c3_5).1 k) ?_
    show OutW _ _ _ _ _ _ _ (s₁.setTop (mkF m 6 #[.val (.int p1)] []))
    refine OutW.back (fun t k => XS.iloadN X0.here hx rfl (hb hby d1_6) rfl  k) ?_
    show OutW _ _ _ _ _ _ _ (s₁.setTop (mkF m 7 #[.val (.int p1)] [(.int p1)]))
    refine OutW.back (fun t k => XS.bipush X0.here hx rfl (hb hby d1_7) k) ?_
    show OutW _ _ _ _ _ _ _ (s₁.setTop (mkF m 9 #[.val (.int p1)] [(.int (10 : Int32)), (.int p1)]))
    by_cases c9_6 : p1 = (10 : Int32)
    · skip
      refine OutW.back (fun t k => XS.icmpYes X0.here hx rfl (pc0 := 9) (pc' := 54) rfl (hb hby d1_9) rfl (teq c9_6).1 (by decide) (by decide) k) ?_
      show OutW _ _ _ _ _ _ _ (s₁.setTop (mkF m 54 #[.val (.int p1)] []))
      refine OutW.back (fun t k => XS.iconst X0.here hx rfl (hb hby d1_54) k) ?_
      show OutW _ _ _ _ _ _ _ (s₁.setTop (mkF m 55 #[.val (.int p1)] [(.int (1 : Int32))]))
      refine OutW.back (fun t k => XS.goto X0.here hx rfl (pc0 := 55) (pc' := 59) rfl (hb hby d1_55) (by decide) (by decide) k) ?_
      show OutW _ _ _ _ _ _ _ (s₁.setTop (mkF m 59 #[.val (.int p1)] [(.int (1 : Int32))]))
      refine OutW.retN X0 hx (t := .boolean) (z' := (1 : Int32)) Bd.returns (by simp) hlk (hb hby d1_59) ?hz (by decide) (by decide) ?_
      case hz =>
        rfl
      show Qpure h0 n0 _ _ s₁.heap _
      rw [e0]
      exact ⟨by rw [isx_0, if_neg c3_5, if_pos c9_6], N0, rfl⟩
    · skip
      refine OutW.back (fun t k => XS.icmpNo X0.here hx rfl (hb hby d1_9) rfl (feq c9_6).1 k) ?_
      show OutW _ _ _ _ _ _ _ (s₁.setTop (mkF m 12 #[.val (.int p1)] []))
      refine OutW.back (fun t k => XS.iloadN X0.here hx rfl (hb hby d1_12) rfl  k) ?_
      show OutW _ _ _ _ _ _ _ (s₁.setTop (mkF m 13 #[.val (.int p1)] [(.int p1)]))
      refine OutW.back (fun t k => XS.bipush X0.here hx rfl (hb hby d1_13) k) ?_
      show OutW _ _ _ _ _ _ _ (s₁.setTop (mkF m 15 #[.val (.int p1)] [(.int (13 : Int32)), (.int p1)]))
      by_cases c15_7 : p1 = (13 : Int32)
      · skip
        refine OutW.back (fun t k => XS.icmpYes X0.here hx rfl (pc0 := 15) (pc' := 54) rfl (hb hby d1_15) rfl (teq c15_7).1 (by decide) (by decide) k) ?_
        show OutW _ _ _ _ _ _ _ (s₁.setTop (mkF m 54 #[.val (.int p1)] []))
        refine OutW.back (fun t k => XS.iconst X0.here hx rfl (hb hby d1_54) k) ?_
        show OutW _ _ _ _ _ _ _ (s₁.setTop (mkF m 55 #[.val (.int p1)] [(.int (1 : Int32))]))
        refine OutW.back (fun t k => XS.goto X0.here hx rfl (pc0 := 55) (pc' := 59) rfl (hb hby d1_55) (by decide) (by decide) k) ?_
        show OutW _ _ _ _ _ _ _ (s₁.setTop (mkF m 59 #[.val (.int p1)] [(.int (1 : Int32))]))
        refine OutW.retN X0 hx (t := .boolean) (z' := (1 : Int32)) Bd.returns (by simp) hlk (hb hby d1_59) ?hz (by decide) (by decide) ?_
        case hz =>
          rfl
        show Qpure h0 n0 _ _ s₁.heap _
        rw [e0]
        exact ⟨by rw [isx_0, if_neg c3_5, if_neg c9_6, if_pos c15_7], N0, rfl⟩
      · skip
        refine OutW.back (fun t k => XS.icmpNo X0.here hx rfl (hb hby d1_15) rfl (feq c15_7).1 k) ?_
        show OutW _ _ _ _ _ _ _ (s₁.setTop (mkF m 18 #[.val (.int p1)] []))
        refine OutW.back (fun t k => XS.iloadN X0.here hx rfl (hb hby d1_18) rfl  k) ?_
        show OutW _ _ _ _ _ _ _ (s₁.setTop (mkF m 19 #[.val (.int p1)] [(.int p1)]))
        refine OutW.back (fun t k => XS.bipush X0.here hx rfl (hb hby d1_19) k) ?_
        show OutW _ _ _ _ _ _ _ (s₁.setTop (mkF m 21 #[.val (.int p1)] [(.int (32 : Int32)), (.int p1)]))
        by_cases c21_8 : p1 < (32 : Int32)
        · skip
          refine OutW.back (fun t k => XS.icmpYes X0.here hx rfl (pc0 := 21) (pc' := 30) rfl (hb hby d1_21) rfl (tlt c21_8).1 (by decide) (by decide) k) ?_
          show OutW _ _ _ _ _ _ _ (s₁.setTop (mkF m 30 #[.val (.int p1)] []))
          have eqb : isx_0 p1 = isx_30 p1 := by rw [isx_0, if_neg c3_5, if_neg c9_6, if_neg c15_7, if_pos c21_8]
          rw [eqb]
          exact b_30
        · skip
          refine OutW.back (fun t k => XS.icmpNo X0.here hx rfl (hb hby d1_21) rfl (flt c21_8).1 k) ?_
          show OutW _ _ _ _ _ _ _ (s₁.setTop (mkF m 24 #[.val (.int p1)] []))
          refine OutW.back (fun t k => XS.iloadN X0.here hx rfl (hb hby d1_24) rfl  k) ?_
          show OutW _ _ _ _ _ _ _ (s₁.setTop (mkF m 25 #[.val (.int p1)] [(.int p1)]))
          refine OutW.back (X0.ldcInt hx hown (mvT hZ (hw _ (List.mem_of_getElem? (i := 22) rfl))) (g := (mkF m 25 #[.val (.int p1)] [(.int p1)])) rfl (hb hby d1_25)) ?_
          show OutW _ _ _ _ _ _ _ (s₁.setTop (mkF m 27 #[.val (.int p1)] [(.int (55295 : Int32)), (.int p1)]))
          by_cases c27_9 : (55295 : Int32) < p1
          · skip
            refine OutW.back (fun t k => XS.icmpNo X0.here hx rfl (hb hby d1_27) rfl (tlt c27_9).2.2.2 k) ?_
            show OutW _ _ _ _ _ _ _ (s₁.setTop (mkF m 30 #[.val (.int p1)] []))
            have eqb : isx_0 p1 = isx_30 p1 := by rw [isx_0, if_neg c3_5, if_neg c9_6, if_neg c15_7, if_neg c21_8, if_pos c27_9]
            rw [eqb]
            exact b_30
          · skip
            refine OutW.back (fun t k => XS.icmpYes X0.here hx rfl (pc0 := 27) (pc' := 54) rfl (hb hby d1_27) rfl (flt c27_9).2.2.2 (by decide) (by decide) k) ?_
            show OutW _ _ _ _ _ _ _ (s₁.setTop (mkF m 54 #[.val (.int p1)] []))
            refine OutW.back (fun t k => XS.iconst X0.here hx rfl (hb hby d1_54) k) ?_
            show OutW _ _ _ _ _ _ _ (s₁.setTop (mkF m 55 #[.val (.int p1)] [(.int (1 : Int32))]))
            refine OutW.back (fun t k => XS.goto X0.here hx rfl (pc0 := 55) (pc' := 59) rfl (hb hby d1_55) (by decide) (by decide) k) ?_
            show OutW _ _ _ _ _ _ _ (s₁.setTop (mkF m 59 #[.val (.int p1)] [(.int (1 : Int32))]))
            refine OutW.retN X0 hx (t := .boolean) (z' := (1 : Int32)) Bd.returns (by simp) hlk (hb hby d1_59) ?hz (by decide) (by decide) ?_
            case hz =>
              rfl
            show Qpure h0 n0 _ _ s₁.heap _
            rw [e0]
            exact ⟨by rw [isx_0, if_neg c3_5, if_neg c9_6, if_neg c15_7, if_neg c21_8, if_neg c27_9], N0, rfl⟩
def rfx_56 (p1 : Int32) : Int32 := (if p1 = (65534 : Int32) then (0 : Int32) else (if p1 = (65535 : Int32) then (0 : Int32) else (1 : Int32)))
def rfx_0 (p1 : Int32) : Int32 := (if p1 < (0 : Int32) then (0 : Int32) else (if (1114111 : Int32) < p1 then (0 : Int32) else (if p1 < (32 : Int32) then (if p1 = (9 : Int32) then (1 : Int32) else (if p1 = (10 : Int32) then (1 : Int32) else (if p1 = (13 : Int32) then (1 : Int32) else (0 : Int32)))) else (if p1 < (55296 : Int32) then (rfx_56 p1) else (if (57343 : Int32) < p1 then (rfx_56 p1) else (0 : Int32))))))
theorem d2_0 : decode method_2_code 0 = .ok (.iload_n 0, 1) := by decide +kernel
theorem d2_1 : decode method_2_code 1 = .ok (.ifCond .lt 9, 3) := by decide +kernel
theorem d2_4 : decode method_2_code 4 = .ok (.iload_n 0, 1) := by decide +kernel
theorem d2_5 : decode method_2_code 5 = .ok (.ldc 7, 2) := by decide +kernel
theorem d2_7 : decode method_2_code 7 = .ok (.if_icmp .le 5, 3) := by decide +kernel
theorem d2_10 : decode method_2_code 10 = .ok (.iconst 0, 1) := by decide +kernel
theorem d2_11 : decode method_2_code 11 = .ok (.ireturn, 1) := by decide +kernel
theorem d2_12 : decode method_2_code 12 = .ok (.iload_n 0, 1) := by decide +kernel
theorem d2_13 : decode method_2_code 13 = .ok (.bipush 32, 2) := by decide +kernel
theorem d2_15 : decode method_2_code 15 = .ok (.if_icmp .ge 27, 3) := by decide +kernel
theorem d2_18 : decode method_2_code 18 = .ok (.iload_n 0, 1) := by decide +kernel
theorem d2_19 : decode method_2_code 19 = .ok (.bipush 9, 2) := by decide +kernel
theorem d2_21 : decode method_2_code 21 = .ok (.if_icmp .eq 15, 3) := by decide +kernel
theorem d2_24 : decode method_2_code 24 = .ok (.iload_n 0, 1) := by decide +kernel
theorem d2_25 : decode method_2_code 25 = .ok (.bipush 10, 2) := by decide +kernel
theorem d2_27 : decode method_2_code 27 = .ok (.if_icmp .eq 9, 3) := by decide +kernel
theorem d2_30 : decode method_2_code 30 = .ok (.iload_n 0, 1) := by decide +kernel
theorem d2_31 : decode method_2_code 31 = .ok (.bipush 13, 2) := by decide +kernel
theorem d2_33 : decode method_2_code 33 = .ok (.if_icmp .ne 7, 3) := by decide +kernel
theorem d2_36 : decode method_2_code 36 = .ok (.iconst 1, 1) := by decide +kernel
theorem d2_37 : decode method_2_code 37 = .ok (.goto 4, 3) := by decide +kernel
theorem d2_40 : decode method_2_code 40 = .ok (.iconst 0, 1) := by decide +kernel
theorem d2_41 : decode method_2_code 41 = .ok (.ireturn, 1) := by decide +kernel
theorem d2_42 : decode method_2_code 42 = .ok (.iload_n 0, 1) := by decide +kernel
theorem d2_43 : decode method_2_code 43 = .ok (.ldc 8, 2) := by decide +kernel
theorem d2_45 : decode method_2_code 45 = .ok (.if_icmp .lt 11, 3) := by decide +kernel
theorem d2_48 : decode method_2_code 48 = .ok (.iload_n 0, 1) := by decide +kernel
theorem d2_49 : decode method_2_code 49 = .ok (.ldc 9, 2) := by decide +kernel
theorem d2_51 : decode method_2_code 51 = .ok (.if_icmp .gt 5, 3) := by decide +kernel
theorem d2_54 : decode method_2_code 54 = .ok (.iconst 0, 1) := by decide +kernel
theorem d2_55 : decode method_2_code 55 = .ok (.ireturn, 1) := by decide +kernel
theorem d2_56 : decode method_2_code 56 = .ok (.iload_n 0, 1) := by decide +kernel
theorem d2_57 : decode method_2_code 57 = .ok (.ldc 10, 2) := by decide +kernel
theorem d2_59 : decode method_2_code 59 = .ok (.if_icmp .eq 9, 3) := by decide +kernel
theorem d2_62 : decode method_2_code 62 = .ok (.iload_n 0, 1) := by decide +kernel
theorem d2_63 : decode method_2_code 63 = .ok (.ldc 11, 2) := by decide +kernel
theorem d2_65 : decode method_2_code 65 = .ok (.if_icmp .ne 5, 3) := by decide +kernel
theorem d2_68 : decode method_2_code 68 = .ok (.iconst 0, 1) := by decide +kernel
theorem d2_69 : decode method_2_code 69 = .ok (.ireturn, 1) := by decide +kernel
theorem d2_70 : decode method_2_code 70 = .ok (.iconst 1, 1) := by decide +kernel
theorem d2_71 : decode method_2_code 71 = .ok (.ireturn, 1) := by decide +kernel
theorem pn_2 : plainName "com/example/xml_document_query/xmldocumentquery/value/XmlCharactersIsXmlCharPinLaw" = true := by first | (simp [plainName, overriddenIn]; done) | decide +kernel
theorem ef_2 (m : MethodId) (x0 : Int32) : entryFrame m #[(.int x0)] 1 = mkF m 0 #[.val (.int x0)] [] := by first | (simp [entryFrame, mkF, argsToLocals, Value.category]; done) | rfl
def Q2 (Z : State) (p1 : Int32)  (h0 : Heap) (n0 : Nat) (v : Option Value) (h : Heap) (L : List Loc) : Prop := v = some (.int (rfx_0 p1)) ∧ Fr n0 L ∧ h = h0
set_option maxRecDepth 65536 in
set_option maxHeartbeats 40000000 in
theorem rm2 (l : Launch) (Z : State) (a0 : Array Value) (hw : ∀ d ∈ tables_1, d.before a0 Z = true) (ws : List Jvm.Cond) (p1 : Int32)  (h0 : Heap) (n0 : Nat) (Z0 : n0 ≤ h0.size) :
    MetFree l (⟨"com/example/xml_document_query/xmldocumentquery/value/XmlCharactersIsXmlCharPinLaw", "ref", "(I)Z"⟩ : MethodName) (head1 (Jvm.Cond.code (⟨"com/example/xml_document_query/xmldocumentquery/value/XmlCharactersIsXmlCharPinLaw", "ref", "(I)Z"⟩ : MethodName) method_2_code 1 (some .boolean) :: ws) ({ frames := 0, cells := 0, slots := 0, locals := 0 } : Room)) (fun a U => a = #[(.int p1)] ∧ Z.Warmed39 U.vm ∧ U.heap = h0) (fun _ _ _ _ _ => True) (fun _ U o U' => ∃ v L, o = .returned v ∧ Q2 Z p1 h0 n0 v U'.heap L ∧ FrameEnd U o U' L ({ frames := 0, cells := 0, slots := 0, locals := 0 } : Room).cells ({ frames := 0, cells := 0, slots := 0, locals := 0 } : Room).slots) := by
  refine MetFree.of_bodySF (plainFor_of_name pn_2) hisR ?_
  intro p e s m args below meth c s₁ Bd hml0 hP hK
  obtain ⟨rfl, hZ, hh⟩ := hP
  have hx := Bd.exec
  have hby := Bd.bytes
  have hlk := Bd.notSynchronized
  have hml : c.maxLocals = 1 := hml0
  have hown : s.vm.findClass "com/example/xml_document_query/xmldocumentquery/value/XmlCharactersIsXmlCharPinLaw" = some m.cls := findClass_of_methodNamed Bd.named
  have hnm := (name_of_methodNamed Bd.named Bd.method).1
  have X0 : Stand p l e ({ frames := 0, cells := 0, slots := 0, locals := 0 } : Room) s m #[(.int p1)] below meth c s₁ [] 0 0 := Stand.of_body Bd
  have e0 : s₁.heap = h0 := by rw [← hh, Bd.state]; rfl
  have N0 := Fr.nil n0
  have K0 : Keep h0 h0 [] := Keep.refl h0 _
  show OutW p e below s ({ frames := 0, cells := 0, slots := 0, locals := 0 } : Room).cells ({ frames := 0, cells := 0, slots := 0, locals := 0 } : Room).slots (Qpure h0 n0 (.int (rfx_0 p1))) _
  refine OutW.back (fun t k => castTop (ef_2 m p1) k) ?_
  show OutW _ _ _ _ _ _ _ (s₁.setTop (mkF m 0 #[.val (.int p1)] []))
  have b_56 : OutW p e below s 0 0 (Qpure h0 n0 (.int (rfx_56 p1))) (s₁.setTop (mkF m 56 #[.val (.int p1)] [])) := by
    refine OutW.back (fun t k => XS.iloadN X0.here hx rfl (hb hby d2_56) rfl  k) ?_
    show OutW _ _ _ _ _ _ _ (s₁.setTop (mkF m 57 #[.val (.int p1)] [(.int p1)]))
    refine OutW.back (X0.ldcInt hx hown (mvT hZ (hw _ (List.mem_of_getElem? (i := 6) rfl))) (g := (mkF m 57 #[.val (.int p1)] [(.int p1)])) rfl (hb hby d2_57)) ?_
    show OutW _ _ _ _ _ _ _ (s₁.setTop (mkF m 59 #[.val (.int p1)] [(.int (65534 : Int32)), (.int p1)]))
    by_cases c59_1 : p1 = (65534 : Int32)
    · skip
      refine OutW.back (fun t k => XS.icmpYes X0.here hx rfl (pc0 := 59) (pc' := 68) rfl (hb hby d2_59) rfl (teq c59_1).1 (by decide) (by decide) k) ?_
      show OutW _ _ _ _ _ _ _ (s₁.setTop (mkF m 68 #[.val (.int p1)] []))
      refine OutW.back (fun t k => XS.iconst X0.here hx rfl (hb hby d2_68) k) ?_
      show OutW _ _ _ _ _ _ _ (s₁.setTop (mkF m 69 #[.val (.int p1)] [(.int (0 : Int32))]))
      refine OutW.retN X0 hx (t := .boolean) (z' := (0 : Int32)) Bd.returns (by simp) hlk (hb hby d2_69) ?hz (by decide) (by decide) ?_
      case hz =>
        rfl
      show Qpure h0 n0 _ _ s₁.heap _
      rw [e0]
      exact ⟨by rw [rfx_56, if_pos c59_1], N0, rfl⟩
    · skip
      refine OutW.back (fun t k => XS.icmpNo X0.here hx rfl (hb hby d2_59) rfl (feq c59_1).1 k) ?_
      show OutW _ _ _ _ _ _ _ (s₁.setTop (mkF m 62 #[.val (.int p1)] []))
      refine OutW.back (fun t k => XS.iloadN X0.here hx rfl (hb hby d2_62) rfl  k) ?_
      show OutW _ _ _ _ _ _ _ (s₁.setTop (mkF m 63 #[.val (.int p1)] [(.int p1)]))
      refine OutW.back (X0.ldcInt hx hown (mvT hZ (hw _ (List.mem_of_getElem? (i := 25) rfl))) (g := (mkF m 63 #[.val (.int p1)] [(.int p1)])) rfl (hb hby d2_63)) ?_
      show OutW _ _ _ _ _ _ _ (s₁.setTop (mkF m 65 #[.val (.int p1)] [(.int (65535 : Int32)), (.int p1)]))
      by_cases c65_2 : p1 = (65535 : Int32)
      · skip
        refine OutW.back (fun t k => XS.icmpNo X0.here hx rfl (hb hby d2_65) rfl (teq c65_2).2 k) ?_
        show OutW _ _ _ _ _ _ _ (s₁.setTop (mkF m 68 #[.val (.int p1)] []))
        refine OutW.back (fun t k => XS.iconst X0.here hx rfl (hb hby d2_68) k) ?_
        show OutW _ _ _ _ _ _ _ (s₁.setTop (mkF m 69 #[.val (.int p1)] [(.int (0 : Int32))]))
        refine OutW.retN X0 hx (t := .boolean) (z' := (0 : Int32)) Bd.returns (by simp) hlk (hb hby d2_69) ?hz (by decide) (by decide) ?_
        case hz =>
          rfl
        show Qpure h0 n0 _ _ s₁.heap _
        rw [e0]
        exact ⟨by rw [rfx_56, if_neg c59_1, if_pos c65_2], N0, rfl⟩
      · skip
        refine OutW.back (fun t k => XS.icmpYes X0.here hx rfl (pc0 := 65) (pc' := 70) rfl (hb hby d2_65) rfl (feq c65_2).2 (by decide) (by decide) k) ?_
        show OutW _ _ _ _ _ _ _ (s₁.setTop (mkF m 70 #[.val (.int p1)] []))
        refine OutW.back (fun t k => XS.iconst X0.here hx rfl (hb hby d2_70) k) ?_
        show OutW _ _ _ _ _ _ _ (s₁.setTop (mkF m 71 #[.val (.int p1)] [(.int (1 : Int32))]))
        refine OutW.retN X0 hx (t := .boolean) (z' := (1 : Int32)) Bd.returns (by simp) hlk (hb hby d2_71) ?hz (by decide) (by decide) ?_
        case hz =>
          rfl
        show Qpure h0 n0 _ _ s₁.heap _
        rw [e0]
        exact ⟨by rw [rfx_56, if_neg c59_1, if_neg c65_2], N0, rfl⟩
  refine OutW.back (fun t k => XS.iloadN X0.here hx rfl (hb hby d2_0) rfl  k) ?_
  show OutW _ _ _ _ _ _ _ (s₁.setTop (mkF m 1 #[.val (.int p1)] [(.int p1)]))
  by_cases c1_3 : p1 < (0 : Int32)
  · skip
    refine OutW.back (fun t k => XS.ifYes X0.here hx rfl (pc0 := 1) (pc' := 10) rfl (hb hby d2_1) rfl ((if0 _ _).trans (tlt c1_3).1) (by decide) (by decide) k) ?_
    show OutW _ _ _ _ _ _ _ (s₁.setTop (mkF m 10 #[.val (.int p1)] []))
    refine OutW.back (fun t k => XS.iconst X0.here hx rfl (hb hby d2_10) k) ?_
    show OutW _ _ _ _ _ _ _ (s₁.setTop (mkF m 11 #[.val (.int p1)] [(.int (0 : Int32))]))
    refine OutW.retN X0 hx (t := .boolean) (z' := (0 : Int32)) Bd.returns (by simp) hlk (hb hby d2_11) ?hz (by decide) (by decide) ?_
    case hz =>
      rfl
    show Qpure h0 n0 _ _ s₁.heap _
    rw [e0]
    exact ⟨by rw [rfx_0, if_pos c1_3], N0, rfl⟩
  · skip
    refine OutW.back (fun t k => XS.ifNo X0.here hx rfl (hb hby d2_1) rfl ((if0 _ _).trans (flt c1_3).1) k) ?_
    show OutW _ _ _ _ _ _ _ (s₁.setTop (mkF m 4 #[.val (.int p1)] []))
    refine OutW.back (fun t k => XS.iloadN X0.here hx rfl (hb hby d2_4) rfl  k) ?_
    show OutW _ _ _ _ _ _ _ (s₁.setTop (mkF m 5 #[.val (.int p1)] [(.int p1)]))
    refine OutW.back (X0.ldcInt hx hown (mvT hZ (hw _ (List.mem_of_getElem? (i := 8) rfl))) (g := (mkF m 5 #[.val (.int p1)] [(.int p1)])) rfl (hb hby d2_5)) ?_
    show OutW _ _ _ _ _ _ _ (s₁.setTop (mkF m 7 #[.val (.int p1)] [(.int (1114111 : Int32)), (.int p1)]))
    by_cases c7_4 : (1114111 : Int32) < p1
    · skip
      refine OutW.back (fun t k => XS.icmpNo X0.here hx rfl (hb hby d2_7) rfl (tlt c7_4).2.2.2 k) ?_
      show OutW _ _ _ _ _ _ _ (s₁.setTop (mkF m 10 #[.val (.int p1)] []))
      refine OutW.back (fun t k => XS.iconst X0.here hx rfl (hb hby d2_10) k) ?_
      show OutW _ _ _ _ _ _ _ (s₁.setTop (mkF m 11 #[.val (.int p1)] [(.int (0 : Int32))]))
      refine OutW.retN X0 hx (t := .boolean) (z' := (0 : Int32)) Bd.returns (by simp) hlk (hb hby d2_11) ?hz (by decide) (by decide) ?_
      case hz =>
        rfl
      show Qpure h0 n0 _ _ s₁.heap _
      rw [e0]
      exact ⟨by rw [rfx_0, if_neg c1_3, if_pos c7_4], N0, rfl⟩
    · skip
      refine OutW.back (fun t k => XS.icmpYes X0.here hx rfl (pc0 := 7) (pc' := 12) rfl (hb hby d2_7) rfl (flt c7_4).2.2.2 (by decide) (by decide) k) ?_
      show OutW _ _ _ _ _ _ _ (s₁.setTop (mkF m 12 #[.val (.int p1)] []))
      refine OutW.back (fun t k => XS.iloadN X0.here hx rfl (hb hby d2_12) rfl  k) ?_
      show OutW _ _ _ _ _ _ _ (s₁.setTop (mkF m 13 #[.val (.int p1)] [(.int p1)]))
      refine OutW.back (fun t k => XS.bipush X0.here hx rfl (hb hby d2_13) k) ?_
      show OutW _ _ _ _ _ _ _ (s₁.setTop (mkF m 15 #[.val (.int p1)] [(.int (32 : Int32)), (.int p1)]))
      by_cases c15_5 : p1 < (32 : Int32)
      · skip
        refine OutW.back (fun t k => XS.icmpNo X0.here hx rfl (hb hby d2_15) rfl (tlt c15_5).2.1 k) ?_
        show OutW _ _ _ _ _ _ _ (s₁.setTop (mkF m 18 #[.val (.int p1)] []))
        refine OutW.back (fun t k => XS.iloadN X0.here hx rfl (hb hby d2_18) rfl  k) ?_
        show OutW _ _ _ _ _ _ _ (s₁.setTop (mkF m 19 #[.val (.int p1)] [(.int p1)]))
        refine OutW.back (fun t k => XS.bipush X0.here hx rfl (hb hby d2_19) k) ?_
        show OutW _ _ _ _ _ _ _ (s₁.setTop (mkF m 21 #[.val (.int p1)] [(.int (9 : Int32)), (.int p1)]))
        by_cases c21_6 : p1 = (9 : Int32)
        · skip
          refine OutW.back (fun t k => XS.icmpYes X0.here hx rfl (pc0 := 21) (pc' := 36) rfl (hb hby d2_21) rfl (teq c21_6).1 (by decide) (by decide) k) ?_
          show OutW _ _ _ _ _ _ _ (s₁.setTop (mkF m 36 #[.val (.int p1)] []))
          refine OutW.back (fun t k => XS.iconst X0.here hx rfl (hb hby d2_36) k) ?_
          show OutW _ _ _ _ _ _ _ (s₁.setTop (mkF m 37 #[.val (.int p1)] [(.int (1 : Int32))]))
          refine OutW.back (fun t k => XS.goto X0.here hx rfl (pc0 := 37) (pc' := 41) rfl (hb hby d2_37) (by decide) (by decide) k) ?_
          show OutW _ _ _ _ _ _ _ (s₁.setTop (mkF m 41 #[.val (.int p1)] [(.int (1 : Int32))]))
          refine OutW.retN X0 hx (t := .boolean) (z' := (1 : Int32)) Bd.returns (by simp) hlk (hb hby d2_41) ?hz (by decide) (by decide) ?_
          case hz =>
            rfl
          show Qpure h0 n0 _ _ s₁.heap _
          rw [e0]
          exact ⟨by rw [rfx_0, if_neg c1_3, if_neg c7_4, if_pos c15_5, if_pos c21_6], N0, rfl⟩
        · skip
          refine OutW.back (fun t k => XS.icmpNo X0.here hx rfl (hb hby d2_21) rfl (feq c21_6).1 k) ?_
          show OutW _ _ _ _ _ _ _ (s₁.setTop (mkF m 24 #[.val (.int p1)] []))
          refine OutW.back (fun t k => XS.iloadN X0.here hx rfl (hb hby d2_24) rfl  k) ?_
          show OutW _ _ _ _ _ _ _ (s₁.setTop (mkF m 25 #[.val (.int p1)] [(.int p1)]))
          refine OutW.back (fun t k => XS.bipush X0.here hx rfl (hb hby d2_25) k) ?_
          show OutW _ _ _ _ _ _ _ (s₁.setTop (mkF m 27 #[.val (.int p1)] [(.int (10 : Int32)), (.int p1)]))
          by_cases c27_7 : p1 = (10 : Int32)
          · skip
            refine OutW.back (fun t k => XS.icmpYes X0.here hx rfl (pc0 := 27) (pc' := 36) rfl (hb hby d2_27) rfl (teq c27_7).1 (by decide) (by decide) k) ?_
            show OutW _ _ _ _ _ _ _ (s₁.setTop (mkF m 36 #[.val (.int p1)] []))
            refine OutW.back (fun t k => XS.iconst X0.here hx rfl (hb hby d2_36) k) ?_
            show OutW _ _ _ _ _ _ _ (s₁.setTop (mkF m 37 #[.val (.int p1)] [(.int (1 : Int32))]))
            refine OutW.back (fun t k => XS.goto X0.here hx rfl (pc0 := 37) (pc' := 41) rfl (hb hby d2_37) (by decide) (by decide) k) ?_
            show OutW _ _ _ _ _ _ _ (s₁.setTop (mkF m 41 #[.val (.int p1)] [(.int (1 : Int32))]))
            refine OutW.retN X0 hx (t := .boolean) (z' := (1 : Int32)) Bd.returns (by simp) hlk (hb hby d2_41) ?hz (by decide) (by decide) ?_
            case hz =>
              rfl
            show Qpure h0 n0 _ _ s₁.heap _
            rw [e0]
            exact ⟨by rw [rfx_0, if_neg c1_3, if_neg c7_4, if_pos c15_5, if_neg c21_6, if_pos c27_7], N0, rfl⟩
          · skip
            refine OutW.back (fun t k => XS.icmpNo X0.here hx rfl (hb hby d2_27) rfl (feq c27_7).1 k) ?_
            show OutW _ _ _ _ _ _ _ (s₁.setTop (mkF m 30 #[.val (.int p1)] []))
            refine OutW.back (fun t k => XS.iloadN X0.here hx rfl (hb hby d2_30) rfl  k) ?_
            show OutW _ _ _ _ _ _ _ (s₁.setTop (mkF m 31 #[.val (.int p1)] [(.int p1)]))
            refine OutW.back (fun t k => XS.bipush X0.here hx rfl (hb hby d2_31) k) ?_
            show OutW _ _ _ _ _ _ _ (s₁.setTop (mkF m 33 #[.val (.int p1)] [(.int (13 : Int32)), (.int p1)]))
            by_cases c33_8 : p1 = (13 : Int32)
            · skip
              refine OutW.back (fun t k => XS.icmpNo X0.here hx rfl (hb hby d2_33) rfl (teq c33_8).2 k) ?_
              show OutW _ _ _ _ _ _ _ (s₁.setTop (mkF m 36 #[.val (.int p1)] []))
              refine OutW.back (fun t k => XS.iconst X0.here hx rfl (hb hby d2_36) k) ?_
              show OutW _ _ _ _ _ _ _ (s₁.setTop (mkF m 37 #[.val (.int p1)] [(.int (1 : Int32))]))
              refine OutW.back (fun t k => XS.goto X0.here hx rfl (pc0 := 37) (pc' := 41) rfl (hb hby d2_37) (by decide) (by decide) k) ?_
              show OutW _ _ _ _ _ _ _ (s₁.setTop (mkF m 41 #[.val (.int p1)] [(.int (1 : Int32))]))
              refine OutW.retN X0 hx (t := .boolean) (z' := (1 : Int32)) Bd.returns (by simp) hlk (hb hby d2_41) ?hz (by decide) (by decide) ?_
              case hz =>
                rfl
              show Qpure h0 n0 _ _ s₁.heap _
              rw [e0]
              exact ⟨by rw [rfx_0, if_neg c1_3, if_neg c7_4, if_pos c15_5, if_neg c21_6, if_neg c27_7, if_pos c33_8], N0, rfl⟩
            · skip
              refine OutW.back (fun t k => XS.icmpYes X0.here hx rfl (pc0 := 33) (pc' := 40) rfl (hb hby d2_33) rfl (feq c33_8).2 (by decide) (by decide) k) ?_
              show OutW _ _ _ _ _ _ _ (s₁.setTop (mkF m 40 #[.val (.int p1)] []))
              refine OutW.back (fun t k => XS.iconst X0.here hx rfl (hb hby d2_40) k) ?_
              show OutW _ _ _ _ _ _ _ (s₁.setTop (mkF m 41 #[.val (.int p1)] [(.int (0 : Int32))]))
              refine OutW.retN X0 hx (t := .boolean) (z' := (0 : Int32)) Bd.returns (by simp) hlk (hb hby d2_41) ?hz (by decide) (by decide) ?_
              case hz =>
                rfl
              show Qpure h0 n0 _ _ s₁.heap _
              rw [e0]
              exact ⟨by rw [rfx_0, if_neg c1_3, if_neg c7_4, if_pos c15_5, if_neg c21_6, if_neg c27_7, if_neg c33_8], N0, rfl⟩
      · skip
        refine OutW.back (fun t k => XS.icmpYes X0.here hx rfl (pc0 := 15) (pc' := 42) rfl (hb hby d2_15) rfl (flt c15_5).2.1 (by decide) (by decide) k) ?_
        show OutW _ _ _ _ _ _ _ (s₁.setTop (mkF m 42 #[.val (.int p1)] []))
        refine OutW.back (fun t k => XS.iloadN X0.here hx rfl (hb hby d2_42) rfl  k) ?_
        show OutW _ _ _ _ _ _ _ (s₁.setTop (mkF m 43 #[.val (.int p1)] [(.int p1)]))
        refine OutW.back (X0.ldcInt hx hown (mvT hZ (hw _ (List.mem_of_getElem? (i := 2) rfl))) (g := (mkF m 43 #[.val (.int p1)] [(.int p1)])) rfl (hb hby d2_43)) ?_
        show OutW _ _ _ _ _ _ _ (s₁.setTop (mkF m 45 #[.val (.int p1)] [(.int (55296 : Int32)), (.int p1)]))
        by_cases c45_9 : p1 < (55296 : Int32)
        · skip
          refine OutW.back (fun t k => XS.icmpYes X0.here hx rfl (pc0 := 45) (pc' := 56) rfl (hb hby d2_45) rfl (tlt c45_9).1 (by decide) (by decide) k) ?_
          show OutW _ _ _ _ _ _ _ (s₁.setTop (mkF m 56 #[.val (.int p1)] []))
          have eqb : rfx_0 p1 = rfx_56 p1 := by rw [rfx_0, if_neg c1_3, if_neg c7_4, if_neg c15_5, if_pos c45_9]
          rw [eqb]
          exact b_56
        · skip
          refine OutW.back (fun t k => XS.icmpNo X0.here hx rfl (hb hby d2_45) rfl (flt c45_9).1 k) ?_
          show OutW _ _ _ _ _ _ _ (s₁.setTop (mkF m 48 #[.val (.int p1)] []))
          refine OutW.back (fun t k => XS.iloadN X0.here hx rfl (hb hby d2_48) rfl  k) ?_
          show OutW _ _ _ _ _ _ _ (s₁.setTop (mkF m 49 #[.val (.int p1)] [(.int p1)]))
          refine OutW.back (X0.ldcInt hx hown (mvT hZ (hw _ (List.mem_of_getElem? (i := 3) rfl))) (g := (mkF m 49 #[.val (.int p1)] [(.int p1)])) rfl (hb hby d2_49)) ?_
          show OutW _ _ _ _ _ _ _ (s₁.setTop (mkF m 51 #[.val (.int p1)] [(.int (57343 : Int32)), (.int p1)]))
          by_cases c51_10 : (57343 : Int32) < p1
          · skip
            refine OutW.back (fun t k => XS.icmpYes X0.here hx rfl (pc0 := 51) (pc' := 56) rfl (hb hby d2_51) rfl (tlt c51_10).2.2.1 (by decide) (by decide) k) ?_
            show OutW _ _ _ _ _ _ _ (s₁.setTop (mkF m 56 #[.val (.int p1)] []))
            have eqb : rfx_0 p1 = rfx_56 p1 := by rw [rfx_0, if_neg c1_3, if_neg c7_4, if_neg c15_5, if_neg c45_9, if_pos c51_10]
            rw [eqb]
            exact b_56
          · skip
            refine OutW.back (fun t k => XS.icmpNo X0.here hx rfl (hb hby d2_51) rfl (flt c51_10).2.2.1 k) ?_
            show OutW _ _ _ _ _ _ _ (s₁.setTop (mkF m 54 #[.val (.int p1)] []))
            refine OutW.back (fun t k => XS.iconst X0.here hx rfl (hb hby d2_54) k) ?_
            show OutW _ _ _ _ _ _ _ (s₁.setTop (mkF m 55 #[.val (.int p1)] [(.int (0 : Int32))]))
            refine OutW.retN X0 hx (t := .boolean) (z' := (0 : Int32)) Bd.returns (by simp) hlk (hb hby d2_55) ?hz (by decide) (by decide) ?_
            case hz =>
              rfl
            show Qpure h0 n0 _ _ s₁.heap _
            rw [e0]
            exact ⟨by rw [rfx_0, if_neg c1_3, if_neg c7_4, if_neg c15_5, if_neg c45_9, if_neg c51_10], N0, rfl⟩
def isxS_42 (x : Int) : Prop := (65536 ≤ x ∧ x ≤ 1114111)
theorem isxL_42 (c : Int32) : (isx_42 c = 1 ∧ isxS_42 c.toInt) ∨ (isx_42 c = 0 ∧ ¬ isxS_42 c.toInt) := by
  unfold isx_42 isxS_42
  simp only [Int32.lt_iff_toInt_lt, eqI c, Int32.reduceToInt]
  repeat' split
  all_goals first | exact Or.inl ⟨rfl, by omega⟩ | exact Or.inr ⟨rfl, by omega⟩
def isxS_30 (x : Int) : Prop := (57344 ≤ x ∧ x ≤ 65533) ∨ (65536 ≤ x ∧ x ≤ 1114111)
theorem isxL_30 (c : Int32) : (isx_30 c = 1 ∧ isxS_30 c.toInt) ∨ (isx_30 c = 0 ∧ ¬ isxS_30 c.toInt) := by
  have l42 := isxL_42 c
  unfold isxS_42 at l42
  unfold isx_30 isxS_30
  simp only [Int32.lt_iff_toInt_lt, eqI c, Int32.reduceToInt]
  repeat' split
  all_goals first | exact Or.inl ⟨rfl, by omega⟩ | exact Or.inr ⟨rfl, by omega⟩ | (rcases l42 with ⟨e, r⟩ | ⟨e, r⟩ <;> first | exact Or.inl ⟨e, by omega⟩ | exact Or.inr ⟨e, by omega⟩)
def isxS_0 (x : Int) : Prop := x = 9 ∨ x = 10 ∨ x = 13 ∨ (32 ≤ x ∧ x ≤ 55295) ∨ (57344 ≤ x ∧ x ≤ 65533) ∨ (65536 ≤ x ∧ x ≤ 1114111)
theorem isxL_0 (c : Int32) : (isx_0 c = 1 ∧ isxS_0 c.toInt) ∨ (isx_0 c = 0 ∧ ¬ isxS_0 c.toInt) := by
  have l30 := isxL_30 c
  unfold isxS_30 at l30
  unfold isx_0 isxS_0
  simp only [Int32.lt_iff_toInt_lt, eqI c, Int32.reduceToInt]
  repeat' split
  all_goals first | exact Or.inl ⟨rfl, by omega⟩ | exact Or.inr ⟨rfl, by omega⟩ | (rcases l30 with ⟨e, r⟩ | ⟨e, r⟩ <;> first | exact Or.inl ⟨e, by omega⟩ | exact Or.inr ⟨e, by omega⟩)
def rfxS_56 (x : Int) : Prop := ¬ x = 65534 ∧ ¬ x = 65535
theorem rfxL_56 (c : Int32) : (rfx_56 c = 1 ∧ rfxS_56 c.toInt) ∨ (rfx_56 c = 0 ∧ ¬ rfxS_56 c.toInt) := by
  unfold rfx_56 rfxS_56
  simp only [Int32.lt_iff_toInt_lt, eqI c, Int32.reduceToInt]
  repeat' split
  all_goals first | exact Or.inl ⟨rfl, by omega⟩ | exact Or.inr ⟨rfl, by omega⟩
def rfxS_0 (x : Int) : Prop := 0 ≤ x ∧ x ≤ 1114111 ∧ ((x < 32 ∧ (x = 9 ∨ x = 10 ∨ x = 13)) ∨ (32 ≤ x ∧ ¬ (55296 ≤ x ∧ x ≤ 57343) ∧ ¬ x = 65534 ∧ ¬ x = 65535))
theorem rfxL_0 (c : Int32) : (rfx_0 c = 1 ∧ rfxS_0 c.toInt) ∨ (rfx_0 c = 0 ∧ ¬ rfxS_0 c.toInt) := by
  have l56 := rfxL_56 c
  unfold rfxS_56 at l56
  unfold rfx_0 rfxS_0
  simp only [Int32.lt_iff_toInt_lt, eqI c, Int32.reduceToInt]
  repeat' split
  all_goals first | exact Or.inl ⟨rfl, by omega⟩ | exact Or.inr ⟨rfl, by omega⟩ | (rcases l56 with ⟨e, r⟩ | ⟨e, r⟩ <;> first | exact Or.inl ⟨e, by omega⟩ | exact Or.inr ⟨e, by omega⟩)
theorem own_same (c : Int32) : isx_0 c = rfx_0 c := by
  have l1 := isxL_0 c
  have l2 := rfxL_0 c
  unfold isxS_0 at l1
  unfold rfxS_0 at l2
  rcases l1 with ⟨e1, r1⟩ | ⟨e1, r1⟩ <;> rcases l2 with ⟨e2, r2⟩ | ⟨e2, r2⟩
  · rw [e1, e2]
  · exfalso; omega
  · exfalso; omega
  · rw [e1, e2]
theorem pd_0 : parseMethodDescriptor "(I)Z" = some ⟨[.int], some .boolean⟩ := by decide +kernel
theorem pn_0 : plainName "com/example/xml_document_query/xmldocumentquery/value/XmlCharactersIsXmlCharPinLaw" = true := by first | (simp [plainName, overriddenIn]; done) | decide +kernel
theorem ef_0 (m : MethodId) (x0 : Int32) (x1 : Int32) (x2 : Int32) : entryFrame m #[(.int x0), (.int x1), (.int x2)] maxLocals = mkF m 0 #[.val (.int x0), .val (.int x1), .val (.int x2), .unset, .unset] [] := by first | (simp [entryFrame, mkF, argsToLocals, Value.category, maxLocals]; done) | rfl
def Q0 (Z : State) (p1 : Int32) (p2 : Int32) (p3 : Int32)  (h0 : Heap) (n0 : Nat) (v : Option Value) (h : Heap) (L : List Loc) : Prop := v = some (.int 1) ∧ Fr n0 L
set_option maxRecDepth 65536 in
set_option maxHeartbeats 40000000 in
theorem rm0 (l : Launch) (Z : State) (a0 : Array Value) (hw : ∀ d ∈ tables_1, d.before a0 Z = true) (ws : List Jvm.Cond) (p1 : Int32) (p2 : Int32) (p3 : Int32)  (h0 : Heap) (n0 : Nat) (Z0 : n0 ≤ h0.size) :
    MetFree l x (head1 (Jvm.Cond.code x code maxLocals ret :: ws) room_1) (fun a U => a = #[(.int p1), (.int p2), (.int p3)] ∧ Z.Warmed39 U.vm ∧ U.heap = h0) (fun _ _ _ _ _ => True) (fun _ U o U' => ∃ v L, o = .returned v ∧ Q0 Z p1 p2 p3 h0 n0 v U'.heap L ∧ FrameEnd U o U' L room_1.cells room_1.slots) := by
  refine MetFree.of_bodySF (plainFor_of_name pn_0) hisR ?_
  intro p e s m args below meth c s₁ Bd hml0 hP hK
  obtain ⟨rfl, hZ, hh⟩ := hP
  have hx := Bd.exec
  have hby := Bd.bytes
  have hlk := Bd.notSynchronized
  have hml : c.maxLocals = 5 := hml0
  have hown : s.vm.findClass "com/example/xml_document_query/xmldocumentquery/value/XmlCharactersIsXmlCharPinLaw" = some m.cls := findClass_of_methodNamed Bd.named
  have hnm := (name_of_methodNamed Bd.named Bd.method).1
  have X0 : Stand p l e room_1 s m #[(.int p1), (.int p2), (.int p3)] below meth c s₁ [] 0 0 := Stand.of_body Bd
  have e0 : s₁.heap = h0 := by rw [← hh, Bd.state]; rfl
  have N0 := Fr.nil n0
  have K0 : Keep h0 h0 [] := Keep.refl h0 _
  show OutW p e below s room_1.cells room_1.slots (Q0 Z p1 p2 p3 h0 n0) _
  refine OutW.back (fun t k => castTop (ef_0 m p1 p2 p3) k) ?_
  show OutW _ _ _ _ _ _ _ (s₁.setTop (mkF m 0 #[.val (.int p1), .val (.int p2), .val (.int p3), .unset, .unset] []))
  refine OutW.back (fun t k => XS.bipush X0.here hx rfl (hb hby at_0) k) ?_
  show OutW _ _ _ _ _ _ _ (s₁.setTop (mkF m 2 #[.val (.int p1), .val (.int p2), .val (.int p3), .unset, .unset] [(.int (16 : Int32))]))
  obtain ⟨T1, h1, k1, X1, e1, E1, A1, st1⟩ := newP X0 hx hZ (hw _ (List.mem_of_getElem? (i := 0) rfl)) e0 (g := (mkF m 2 #[.val (.int p1), .val (.int p2), .val (.int p3), .unset, .unset] [(.int (16 : Int32))])) rfl (hb hby at_2) rfl (by decide) (cap := 16) (by decide) (by decide) (by decide) (by decide)
  obtain ⟨b1, g1⟩ : ∃ z, z = h0.size := ⟨_, rfl⟩
  rw [← g1] at A1 st1
  have g_b1 : n0 ≤ b1 := Nat.le_trans Z0 (Nat.le_of_eq g1.symm)
  have sz_b1 : h0.size ≤ b1 := Nat.le_trans K0.1 (Nat.le_of_eq g1.symm)
  have Z1 : n0 ≤ h1.size := Nat.le_trans Z0 E1.1
  have K1 := K0.ext E1
  have V_b1 : Arv Z h1 b1 k1 .int (16 : Int32) [(.int (0 : Int32)), (.int (0 : Int32)), (.int (0 : Int32)), (.int (0 : Int32)), (.int (0 : Int32)), (.int (0 : Int32)), (.int (0 : Int32)), (.int (0 : Int32)), (.int (0 : Int32)), (.int (0 : Int32)), (.int (0 : Int32)), (.int (0 : Int32)), (.int (0 : Int32)), (.int (0 : Int32)), (.int (0 : Int32)), (.int (0 : Int32))] (.int (0 : Int32)) := (Arv.new A1 (by decide)).pad (pad_rep [] (.int (0 : Int32)) 16)
  refine OutW.back st1 ?_
  show OutW _ _ _ _ _ _ _ (T1.setTop (mkF m 4 #[.val (.int p1), .val (.int p2), .val (.int p3), .unset, .unset] [(.ref b1)]))
  refine OutW.back (fun t k => XS.dup X1.here hx rfl (hb hby at_4) rfl rfl k) ?_
  show OutW _ _ _ _ _ _ _ (T1.setTop (mkF m 5 #[.val (.int p1), .val (.int p2), .val (.int p3), .unset, .unset] [(.ref b1), (.ref b1)]))
  refine OutW.back (fun t k => XS.iconst X1.here hx rfl (hb hby at_5) k) ?_
  show OutW _ _ _ _ _ _ _ (T1.setTop (mkF m 6 #[.val (.int p1), .val (.int p2), .val (.int p3), .unset, .unset] [(.int (0 : Int32)), (.ref b1), (.ref b1)]))
  refine OutW.back (fun t k => XS.iconst X1.here hx rfl (hb hby at_6) k) ?_
  show OutW _ _ _ _ _ _ _ (T1.setTop (mkF m 7 #[.val (.int p1), .val (.int p2), .val (.int p3), .unset, .unset] [(.int (0 : Int32)), (.int (0 : Int32)), (.ref b1), (.ref b1)]))
  obtain ⟨cl2, Ar2, q2, Sz2, Nn2, Hh2, Gg2⟩ := V_b1
  have hin2 : ¬ ((0 : Int32) < 0 ∨ cl2.slots.size ≤ ((0 : Int32)).toNatClampNeg) := inb_of Sz2 ⟨by decide, by decide⟩
  obtain ⟨T2, h2, X2, e2, W2, st2⟩ := stI X1 hx hZ e1 Ar2 (j := (0 : Int32)) hin2 (g := (mkF m 7 #[.val (.int p1), .val (.int p2), .val (.int p3), .unset, .unset] [(.int (0 : Int32)), (.int (0 : Int32)), (.ref b1), (.ref b1)])) rfl rfl (hb hby at_7)
  have V_b1_2 : Arv Z h2 b1 k1 .int (16 : Int32) [(.int (0 : Int32)), (.int (0 : Int32)), (.int (0 : Int32)), (.int (0 : Int32)), (.int (0 : Int32)), (.int (0 : Int32)), (.int (0 : Int32)), (.int (0 : Int32)), (.int (0 : Int32)), (.int (0 : Int32)), (.int (0 : Int32)), (.int (0 : Int32)), (.int (0 : Int32)), (.int (0 : Int32)), (.int (0 : Int32)), (.int (0 : Int32))] (.int (0 : Int32)) := Arv.set Ar2 q2 Sz2 Nn2 Hh2 Gg2 rfl W2 0 rfl (Nat.le_of_ble_eq_true rfl)
  have N2 := Fr.snoc X2 N0 g_b1
  have Z2 : n0 ≤ h2.size := Nat.le_trans Z1 (Keep.of_wr W2).1
  have K2 := K1.wr W2 (Or.inr sz_b1)
  refine OutW.back st2 ?_
  show OutW _ _ _ _ _ _ _ (T2.setTop (mkF m 8 #[.val (.int p1), .val (.int p2), .val (.int p3), .unset, .unset] [(.ref b1)]))
  refine OutW.back (fun t k => XS.dup X2.here hx rfl (hb hby at_8) rfl rfl k) ?_
  show OutW _ _ _ _ _ _ _ (T2.setTop (mkF m 9 #[.val (.int p1), .val (.int p2), .val (.int p3), .unset, .unset] [(.ref b1), (.ref b1)]))
  refine OutW.back (fun t k => XS.iconst X2.here hx rfl (hb hby at_9) k) ?_
  show OutW _ _ _ _ _ _ _ (T2.setTop (mkF m 10 #[.val (.int p1), .val (.int p2), .val (.int p3), .unset, .unset] [(.int (1 : Int32)), (.ref b1), (.ref b1)]))
  refine OutW.back (fun t k => XS.bipush X2.here hx rfl (hb hby at_10) k) ?_
  show OutW _ _ _ _ _ _ _ (T2.setTop (mkF m 12 #[.val (.int p1), .val (.int p2), .val (.int p3), .unset, .unset] [(.int (9 : Int32)), (.int (1 : Int32)), (.ref b1), (.ref b1)]))
  obtain ⟨cl3, Ar3, q3, Sz3, Nn3, Hh3, Gg3⟩ := V_b1_2
  have hin3 : ¬ ((1 : Int32) < 0 ∨ cl3.slots.size ≤ ((1 : Int32)).toNatClampNeg) := inb_of Sz3 ⟨by decide, by decide⟩
  obtain ⟨T3, h3, X3, e3, W3, st3⟩ := stI X2 hx hZ e2 Ar3 (j := (1 : Int32)) hin3 (g := (mkF m 12 #[.val (.int p1), .val (.int p2), .val (.int p3), .unset, .unset] [(.int (9 : Int32)), (.int (1 : Int32)), (.ref b1), (.ref b1)])) rfl rfl (hb hby at_12)
  have V_b1_3 : Arv Z h3 b1 k1 .int (16 : Int32) [(.int (0 : Int32)), (.int (9 : Int32)), (.int (0 : Int32)), (.int (0 : Int32)), (.int (0 : Int32)), (.int (0 : Int32)), (.int (0 : Int32)), (.int (0 : Int32)), (.int (0 : Int32)), (.int (0 : Int32)), (.int (0 : Int32)), (.int (0 : Int32)), (.int (0 : Int32)), (.int (0 : Int32)), (.int (0 : Int32)), (.int (0 : Int32))] (.int (0 : Int32)) := Arv.set Ar3 q3 Sz3 Nn3 Hh3 Gg3 rfl W3 1 rfl (Nat.le_of_ble_eq_true rfl)
  have N3 := Fr.snoc X3 N2 g_b1
  have Z3 : n0 ≤ h3.size := Nat.le_trans Z2 (Keep.of_wr W3).1
  have K3 := K2.wr W3 (Or.inr sz_b1)
  refine OutW.back st3 ?_
  show OutW _ _ _ _ _ _ _ (T3.setTop (mkF m 13 #[.val (.int p1), .val (.int p2), .val (.int p3), .unset, .unset] [(.ref b1)]))
  refine OutW.back (fun t k => XS.dup X3.here hx rfl (hb hby at_13) rfl rfl k) ?_
  show OutW _ _ _ _ _ _ _ (T3.setTop (mkF m 14 #[.val (.int p1), .val (.int p2), .val (.int p3), .unset, .unset] [(.ref b1), (.ref b1)]))
  refine OutW.back (fun t k => XS.iconst X3.here hx rfl (hb hby at_14) k) ?_
  show OutW _ _ _ _ _ _ _ (T3.setTop (mkF m 15 #[.val (.int p1), .val (.int p2), .val (.int p3), .unset, .unset] [(.int (2 : Int32)), (.ref b1), (.ref b1)]))
  refine OutW.back (fun t k => XS.bipush X3.here hx rfl (hb hby at_15) k) ?_
  show OutW _ _ _ _ _ _ _ (T3.setTop (mkF m 17 #[.val (.int p1), .val (.int p2), .val (.int p3), .unset, .unset] [(.int (10 : Int32)), (.int (2 : Int32)), (.ref b1), (.ref b1)]))
  obtain ⟨cl4, Ar4, q4, Sz4, Nn4, Hh4, Gg4⟩ := V_b1_3
  have hin4 : ¬ ((2 : Int32) < 0 ∨ cl4.slots.size ≤ ((2 : Int32)).toNatClampNeg) := inb_of Sz4 ⟨by decide, by decide⟩
  obtain ⟨T4, h4, X4, e4, W4, st4⟩ := stI X3 hx hZ e3 Ar4 (j := (2 : Int32)) hin4 (g := (mkF m 17 #[.val (.int p1), .val (.int p2), .val (.int p3), .unset, .unset] [(.int (10 : Int32)), (.int (2 : Int32)), (.ref b1), (.ref b1)])) rfl rfl (hb hby at_17)
  have V_b1_4 : Arv Z h4 b1 k1 .int (16 : Int32) [(.int (0 : Int32)), (.int (9 : Int32)), (.int (10 : Int32)), (.int (0 : Int32)), (.int (0 : Int32)), (.int (0 : Int32)), (.int (0 : Int32)), (.int (0 : Int32)), (.int (0 : Int32)), (.int (0 : Int32)), (.int (0 : Int32)), (.int (0 : Int32)), (.int (0 : Int32)), (.int (0 : Int32)), (.int (0 : Int32)), (.int (0 : Int32))] (.int (0 : Int32)) := Arv.set Ar4 q4 Sz4 Nn4 Hh4 Gg4 rfl W4 2 rfl (Nat.le_of_ble_eq_true rfl)
  have N4 := Fr.snoc X4 N3 g_b1
  have Z4 : n0 ≤ h4.size := Nat.le_trans Z3 (Keep.of_wr W4).1
  have K4 := K3.wr W4 (Or.inr sz_b1)
  refine OutW.back st4 ?_
  show OutW _ _ _ _ _ _ _ (T4.setTop (mkF m 18 #[.val (.int p1), .val (.int p2), .val (.int p3), .unset, .unset] [(.ref b1)]))
  refine OutW.back (fun t k => XS.dup X4.here hx rfl (hb hby at_18) rfl rfl k) ?_
  show OutW _ _ _ _ _ _ _ (T4.setTop (mkF m 19 #[.val (.int p1), .val (.int p2), .val (.int p3), .unset, .unset] [(.ref b1), (.ref b1)]))
  refine OutW.back (fun t k => XS.iconst X4.here hx rfl (hb hby at_19) k) ?_
  show OutW _ _ _ _ _ _ _ (T4.setTop (mkF m 20 #[.val (.int p1), .val (.int p2), .val (.int p3), .unset, .unset] [(.int (3 : Int32)), (.ref b1), (.ref b1)]))
  refine OutW.back (fun t k => XS.bipush X4.here hx rfl (hb hby at_20) k) ?_
  show OutW _ _ _ _ _ _ _ (T4.setTop (mkF m 22 #[.val (.int p1), .val (.int p2), .val (.int p3), .unset, .unset] [(.int (13 : Int32)), (.int (3 : Int32)), (.ref b1), (.ref b1)]))
  obtain ⟨cl5, Ar5, q5, Sz5, Nn5, Hh5, Gg5⟩ := V_b1_4
  have hin5 : ¬ ((3 : Int32) < 0 ∨ cl5.slots.size ≤ ((3 : Int32)).toNatClampNeg) := inb_of Sz5 ⟨by decide, by decide⟩
  obtain ⟨T5, h5, X5, e5, W5, st5⟩ := stI X4 hx hZ e4 Ar5 (j := (3 : Int32)) hin5 (g := (mkF m 22 #[.val (.int p1), .val (.int p2), .val (.int p3), .unset, .unset] [(.int (13 : Int32)), (.int (3 : Int32)), (.ref b1), (.ref b1)])) rfl rfl (hb hby at_22)
  have V_b1_5 : Arv Z h5 b1 k1 .int (16 : Int32) [(.int (0 : Int32)), (.int (9 : Int32)), (.int (10 : Int32)), (.int (13 : Int32)), (.int (0 : Int32)), (.int (0 : Int32)), (.int (0 : Int32)), (.int (0 : Int32)), (.int (0 : Int32)), (.int (0 : Int32)), (.int (0 : Int32)), (.int (0 : Int32)), (.int (0 : Int32)), (.int (0 : Int32)), (.int (0 : Int32)), (.int (0 : Int32))] (.int (0 : Int32)) := Arv.set Ar5 q5 Sz5 Nn5 Hh5 Gg5 rfl W5 3 rfl (Nat.le_of_ble_eq_true rfl)
  have N5 := Fr.snoc X5 N4 g_b1
  have Z5 : n0 ≤ h5.size := Nat.le_trans Z4 (Keep.of_wr W5).1
  have K5 := K4.wr W5 (Or.inr sz_b1)
  refine OutW.back st5 ?_
  show OutW _ _ _ _ _ _ _ (T5.setTop (mkF m 23 #[.val (.int p1), .val (.int p2), .val (.int p3), .unset, .unset] [(.ref b1)]))
  refine OutW.back (fun t k => XS.dup X5.here hx rfl (hb hby at_23) rfl rfl k) ?_
  show OutW _ _ _ _ _ _ _ (T5.setTop (mkF m 24 #[.val (.int p1), .val (.int p2), .val (.int p3), .unset, .unset] [(.ref b1), (.ref b1)]))
  refine OutW.back (fun t k => XS.iconst X5.here hx rfl (hb hby at_24) k) ?_
  show OutW _ _ _ _ _ _ _ (T5.setTop (mkF m 25 #[.val (.int p1), .val (.int p2), .val (.int p3), .unset, .unset] [(.int (4 : Int32)), (.ref b1), (.ref b1)]))
  refine OutW.back (fun t k => XS.bipush X5.here hx rfl (hb hby at_25) k) ?_
  show OutW _ _ _ _ _ _ _ (T5.setTop (mkF m 27 #[.val (.int p1), .val (.int p2), .val (.int p3), .unset, .unset] [(.int (32 : Int32)), (.int (4 : Int32)), (.ref b1), (.ref b1)]))
  obtain ⟨cl6, Ar6, q6, Sz6, Nn6, Hh6, Gg6⟩ := V_b1_5
  have hin6 : ¬ ((4 : Int32) < 0 ∨ cl6.slots.size ≤ ((4 : Int32)).toNatClampNeg) := inb_of Sz6 ⟨by decide, by decide⟩
  obtain ⟨T6, h6, X6, e6, W6, st6⟩ := stI X5 hx hZ e5 Ar6 (j := (4 : Int32)) hin6 (g := (mkF m 27 #[.val (.int p1), .val (.int p2), .val (.int p3), .unset, .unset] [(.int (32 : Int32)), (.int (4 : Int32)), (.ref b1), (.ref b1)])) rfl rfl (hb hby at_27)
  have V_b1_6 : Arv Z h6 b1 k1 .int (16 : Int32) [(.int (0 : Int32)), (.int (9 : Int32)), (.int (10 : Int32)), (.int (13 : Int32)), (.int (32 : Int32)), (.int (0 : Int32)), (.int (0 : Int32)), (.int (0 : Int32)), (.int (0 : Int32)), (.int (0 : Int32)), (.int (0 : Int32)), (.int (0 : Int32)), (.int (0 : Int32)), (.int (0 : Int32)), (.int (0 : Int32)), (.int (0 : Int32))] (.int (0 : Int32)) := Arv.set Ar6 q6 Sz6 Nn6 Hh6 Gg6 rfl W6 4 rfl (Nat.le_of_ble_eq_true rfl)
  have N6 := Fr.snoc X6 N5 g_b1
  have Z6 : n0 ≤ h6.size := Nat.le_trans Z5 (Keep.of_wr W6).1
  have K6 := K5.wr W6 (Or.inr sz_b1)
  refine OutW.back st6 ?_
  show OutW _ _ _ _ _ _ _ (T6.setTop (mkF m 28 #[.val (.int p1), .val (.int p2), .val (.int p3), .unset, .unset] [(.ref b1)]))
  refine OutW.back (fun t k => XS.dup X6.here hx rfl (hb hby at_28) rfl rfl k) ?_
  show OutW _ _ _ _ _ _ _ (T6.setTop (mkF m 29 #[.val (.int p1), .val (.int p2), .val (.int p3), .unset, .unset] [(.ref b1), (.ref b1)]))
  refine OutW.back (fun t k => XS.iconst X6.here hx rfl (hb hby at_29) k) ?_
  show OutW _ _ _ _ _ _ _ (T6.setTop (mkF m 30 #[.val (.int p1), .val (.int p2), .val (.int p3), .unset, .unset] [(.int (5 : Int32)), (.ref b1), (.ref b1)]))
  refine OutW.back (X6.ldcInt hx hown (mvT hZ (hw _ (List.mem_of_getElem? (i := 1) rfl))) (g := (mkF m 30 #[.val (.int p1), .val (.int p2), .val (.int p3), .unset, .unset] [(.int (5 : Int32)), (.ref b1), (.ref b1)])) rfl (hb hby at_30)) ?_
  show OutW _ _ _ _ _ _ _ (T6.setTop (mkF m 32 #[.val (.int p1), .val (.int p2), .val (.int p3), .unset, .unset] [(.int (55295 : Int32)), (.int (5 : Int32)), (.ref b1), (.ref b1)]))
  obtain ⟨cl7, Ar7, q7, Sz7, Nn7, Hh7, Gg7⟩ := V_b1_6
  have hin7 : ¬ ((5 : Int32) < 0 ∨ cl7.slots.size ≤ ((5 : Int32)).toNatClampNeg) := inb_of Sz7 ⟨by decide, by decide⟩
  obtain ⟨T7, h7, X7, e7, W7, st7⟩ := stI X6 hx hZ e6 Ar7 (j := (5 : Int32)) hin7 (g := (mkF m 32 #[.val (.int p1), .val (.int p2), .val (.int p3), .unset, .unset] [(.int (55295 : Int32)), (.int (5 : Int32)), (.ref b1), (.ref b1)])) rfl rfl (hb hby at_32)
  have V_b1_7 : Arv Z h7 b1 k1 .int (16 : Int32) [(.int (0 : Int32)), (.int (9 : Int32)), (.int (10 : Int32)), (.int (13 : Int32)), (.int (32 : Int32)), (.int (55295 : Int32)), (.int (0 : Int32)), (.int (0 : Int32)), (.int (0 : Int32)), (.int (0 : Int32)), (.int (0 : Int32)), (.int (0 : Int32)), (.int (0 : Int32)), (.int (0 : Int32)), (.int (0 : Int32)), (.int (0 : Int32))] (.int (0 : Int32)) := Arv.set Ar7 q7 Sz7 Nn7 Hh7 Gg7 rfl W7 5 rfl (Nat.le_of_ble_eq_true rfl)
  have N7 := Fr.snoc X7 N6 g_b1
  have Z7 : n0 ≤ h7.size := Nat.le_trans Z6 (Keep.of_wr W7).1
  have K7 := K6.wr W7 (Or.inr sz_b1)
  refine OutW.back st7 ?_
  show OutW _ _ _ _ _ _ _ (T7.setTop (mkF m 33 #[.val (.int p1), .val (.int p2), .val (.int p3), .unset, .unset] [(.ref b1)]))
  refine OutW.back (fun t k => XS.dup X7.here hx rfl (hb hby at_33) rfl rfl k) ?_
  show OutW _ _ _ _ _ _ _ (T7.setTop (mkF m 34 #[.val (.int p1), .val (.int p2), .val (.int p3), .unset, .unset] [(.ref b1), (.ref b1)]))
  refine OutW.back (fun t k => XS.bipush X7.here hx rfl (hb hby at_34) k) ?_
  show OutW _ _ _ _ _ _ _ (T7.setTop (mkF m 36 #[.val (.int p1), .val (.int p2), .val (.int p3), .unset, .unset] [(.int (6 : Int32)), (.ref b1), (.ref b1)]))
  refine OutW.back (X7.ldcInt hx hown (mvT hZ (hw _ (List.mem_of_getElem? (i := 2) rfl))) (g := (mkF m 36 #[.val (.int p1), .val (.int p2), .val (.int p3), .unset, .unset] [(.int (6 : Int32)), (.ref b1), (.ref b1)])) rfl (hb hby at_36)) ?_
  show OutW _ _ _ _ _ _ _ (T7.setTop (mkF m 38 #[.val (.int p1), .val (.int p2), .val (.int p3), .unset, .unset] [(.int (55296 : Int32)), (.int (6 : Int32)), (.ref b1), (.ref b1)]))
  obtain ⟨cl8, Ar8, q8, Sz8, Nn8, Hh8, Gg8⟩ := V_b1_7
  have hin8 : ¬ ((6 : Int32) < 0 ∨ cl8.slots.size ≤ ((6 : Int32)).toNatClampNeg) := inb_of Sz8 ⟨by decide, by decide⟩
  obtain ⟨T8, h8, X8, e8, W8, st8⟩ := stI X7 hx hZ e7 Ar8 (j := (6 : Int32)) hin8 (g := (mkF m 38 #[.val (.int p1), .val (.int p2), .val (.int p3), .unset, .unset] [(.int (55296 : Int32)), (.int (6 : Int32)), (.ref b1), (.ref b1)])) rfl rfl (hb hby at_38)
  have V_b1_8 : Arv Z h8 b1 k1 .int (16 : Int32) [(.int (0 : Int32)), (.int (9 : Int32)), (.int (10 : Int32)), (.int (13 : Int32)), (.int (32 : Int32)), (.int (55295 : Int32)), (.int (55296 : Int32)), (.int (0 : Int32)), (.int (0 : Int32)), (.int (0 : Int32)), (.int (0 : Int32)), (.int (0 : Int32)), (.int (0 : Int32)), (.int (0 : Int32)), (.int (0 : Int32)), (.int (0 : Int32))] (.int (0 : Int32)) := Arv.set Ar8 q8 Sz8 Nn8 Hh8 Gg8 rfl W8 6 rfl (Nat.le_of_ble_eq_true rfl)
  have N8 := Fr.snoc X8 N7 g_b1
  have Z8 : n0 ≤ h8.size := Nat.le_trans Z7 (Keep.of_wr W8).1
  have K8 := K7.wr W8 (Or.inr sz_b1)
  refine OutW.back st8 ?_
  show OutW _ _ _ _ _ _ _ (T8.setTop (mkF m 39 #[.val (.int p1), .val (.int p2), .val (.int p3), .unset, .unset] [(.ref b1)]))
  refine OutW.back (fun t k => XS.dup X8.here hx rfl (hb hby at_39) rfl rfl k) ?_
  show OutW _ _ _ _ _ _ _ (T8.setTop (mkF m 40 #[.val (.int p1), .val (.int p2), .val (.int p3), .unset, .unset] [(.ref b1), (.ref b1)]))
  refine OutW.back (fun t k => XS.bipush X8.here hx rfl (hb hby at_40) k) ?_
  show OutW _ _ _ _ _ _ _ (T8.setTop (mkF m 42 #[.val (.int p1), .val (.int p2), .val (.int p3), .unset, .unset] [(.int (7 : Int32)), (.ref b1), (.ref b1)]))
  refine OutW.back (X8.ldcInt hx hown (mvT hZ (hw _ (List.mem_of_getElem? (i := 3) rfl))) (g := (mkF m 42 #[.val (.int p1), .val (.int p2), .val (.int p3), .unset, .unset] [(.int (7 : Int32)), (.ref b1), (.ref b1)])) rfl (hb hby at_42)) ?_
  show OutW _ _ _ _ _ _ _ (T8.setTop (mkF m 44 #[.val (.int p1), .val (.int p2), .val (.int p3), .unset, .unset] [(.int (57343 : Int32)), (.int (7 : Int32)), (.ref b1), (.ref b1)]))
  obtain ⟨cl9, Ar9, q9, Sz9, Nn9, Hh9, Gg9⟩ := V_b1_8
  have hin9 : ¬ ((7 : Int32) < 0 ∨ cl9.slots.size ≤ ((7 : Int32)).toNatClampNeg) := inb_of Sz9 ⟨by decide, by decide⟩
  obtain ⟨T9, h9, X9, e9, W9, st9⟩ := stI X8 hx hZ e8 Ar9 (j := (7 : Int32)) hin9 (g := (mkF m 44 #[.val (.int p1), .val (.int p2), .val (.int p3), .unset, .unset] [(.int (57343 : Int32)), (.int (7 : Int32)), (.ref b1), (.ref b1)])) rfl rfl (hb hby at_44)
  have V_b1_9 : Arv Z h9 b1 k1 .int (16 : Int32) [(.int (0 : Int32)), (.int (9 : Int32)), (.int (10 : Int32)), (.int (13 : Int32)), (.int (32 : Int32)), (.int (55295 : Int32)), (.int (55296 : Int32)), (.int (57343 : Int32)), (.int (0 : Int32)), (.int (0 : Int32)), (.int (0 : Int32)), (.int (0 : Int32)), (.int (0 : Int32)), (.int (0 : Int32)), (.int (0 : Int32)), (.int (0 : Int32))] (.int (0 : Int32)) := Arv.set Ar9 q9 Sz9 Nn9 Hh9 Gg9 rfl W9 7 rfl (Nat.le_of_ble_eq_true rfl)
  have N9 := Fr.snoc X9 N8 g_b1
  have Z9 : n0 ≤ h9.size := Nat.le_trans Z8 (Keep.of_wr W9).1
  have K9 := K8.wr W9 (Or.inr sz_b1)
  refine OutW.back st9 ?_
  show OutW _ _ _ _ _ _ _ (T9.setTop (mkF m 45 #[.val (.int p1), .val (.int p2), .val (.int p3), .unset, .unset] [(.ref b1)]))
  refine OutW.back (fun t k => XS.dup X9.here hx rfl (hb hby at_45) rfl rfl k) ?_
  show OutW _ _ _ _ _ _ _ (T9.setTop (mkF m 46 #[.val (.int p1), .val (.int p2), .val (.int p3), .unset, .unset] [(.ref b1), (.ref b1)]))
  refine OutW.back (fun t k => XS.bipush X9.here hx rfl (hb hby at_46) k) ?_
  show OutW _ _ _ _ _ _ _ (T9.setTop (mkF m 48 #[.val (.int p1), .val (.int p2), .val (.int p3), .unset, .unset] [(.int (8 : Int32)), (.ref b1), (.ref b1)]))
  refine OutW.back (X9.ldcInt hx hown (mvT hZ (hw _ (List.mem_of_getElem? (i := 4) rfl))) (g := (mkF m 48 #[.val (.int p1), .val (.int p2), .val (.int p3), .unset, .unset] [(.int (8 : Int32)), (.ref b1), (.ref b1)])) rfl (hb hby at_48)) ?_
  show OutW _ _ _ _ _ _ _ (T9.setTop (mkF m 50 #[.val (.int p1), .val (.int p2), .val (.int p3), .unset, .unset] [(.int (57344 : Int32)), (.int (8 : Int32)), (.ref b1), (.ref b1)]))
  obtain ⟨cl10, Ar10, q10, Sz10, Nn10, Hh10, Gg10⟩ := V_b1_9
  have hin10 : ¬ ((8 : Int32) < 0 ∨ cl10.slots.size ≤ ((8 : Int32)).toNatClampNeg) := inb_of Sz10 ⟨by decide, by decide⟩
  obtain ⟨T10, h10, X10, e10, W10, st10⟩ := stI X9 hx hZ e9 Ar10 (j := (8 : Int32)) hin10 (g := (mkF m 50 #[.val (.int p1), .val (.int p2), .val (.int p3), .unset, .unset] [(.int (57344 : Int32)), (.int (8 : Int32)), (.ref b1), (.ref b1)])) rfl rfl (hb hby at_50)
  have V_b1_10 : Arv Z h10 b1 k1 .int (16 : Int32) [(.int (0 : Int32)), (.int (9 : Int32)), (.int (10 : Int32)), (.int (13 : Int32)), (.int (32 : Int32)), (.int (55295 : Int32)), (.int (55296 : Int32)), (.int (57343 : Int32)), (.int (57344 : Int32)), (.int (0 : Int32)), (.int (0 : Int32)), (.int (0 : Int32)), (.int (0 : Int32)), (.int (0 : Int32)), (.int (0 : Int32)), (.int (0 : Int32))] (.int (0 : Int32)) := Arv.set Ar10 q10 Sz10 Nn10 Hh10 Gg10 rfl W10 8 rfl (Nat.le_of_ble_eq_true rfl)
  have N10 := Fr.snoc X10 N9 g_b1
  have Z10 : n0 ≤ h10.size := Nat.le_trans Z9 (Keep.of_wr W10).1
  have K10 := K9.wr W10 (Or.inr sz_b1)
  refine OutW.back st10 ?_
  show OutW _ _ _ _ _ _ _ (T10.setTop (mkF m 51 #[.val (.int p1), .val (.int p2), .val (.int p3), .unset, .unset] [(.ref b1)]))
  refine OutW.back (fun t k => XS.dup X10.here hx rfl (hb hby at_51) rfl rfl k) ?_
  show OutW _ _ _ _ _ _ _ (T10.setTop (mkF m 52 #[.val (.int p1), .val (.int p2), .val (.int p3), .unset, .unset] [(.ref b1), (.ref b1)]))
  refine OutW.back (fun t k => XS.bipush X10.here hx rfl (hb hby at_52) k) ?_
  show OutW _ _ _ _ _ _ _ (T10.setTop (mkF m 54 #[.val (.int p1), .val (.int p2), .val (.int p3), .unset, .unset] [(.int (9 : Int32)), (.ref b1), (.ref b1)]))
  refine OutW.back (X10.ldcInt hx hown (mvT hZ (hw _ (List.mem_of_getElem? (i := 5) rfl))) (g := (mkF m 54 #[.val (.int p1), .val (.int p2), .val (.int p3), .unset, .unset] [(.int (9 : Int32)), (.ref b1), (.ref b1)])) rfl (hb hby at_54)) ?_
  show OutW _ _ _ _ _ _ _ (T10.setTop (mkF m 56 #[.val (.int p1), .val (.int p2), .val (.int p3), .unset, .unset] [(.int (65533 : Int32)), (.int (9 : Int32)), (.ref b1), (.ref b1)]))
  obtain ⟨cl11, Ar11, q11, Sz11, Nn11, Hh11, Gg11⟩ := V_b1_10
  have hin11 : ¬ ((9 : Int32) < 0 ∨ cl11.slots.size ≤ ((9 : Int32)).toNatClampNeg) := inb_of Sz11 ⟨by decide, by decide⟩
  obtain ⟨T11, h11, X11, e11, W11, st11⟩ := stI X10 hx hZ e10 Ar11 (j := (9 : Int32)) hin11 (g := (mkF m 56 #[.val (.int p1), .val (.int p2), .val (.int p3), .unset, .unset] [(.int (65533 : Int32)), (.int (9 : Int32)), (.ref b1), (.ref b1)])) rfl rfl (hb hby at_56)
  have V_b1_11 : Arv Z h11 b1 k1 .int (16 : Int32) [(.int (0 : Int32)), (.int (9 : Int32)), (.int (10 : Int32)), (.int (13 : Int32)), (.int (32 : Int32)), (.int (55295 : Int32)), (.int (55296 : Int32)), (.int (57343 : Int32)), (.int (57344 : Int32)), (.int (65533 : Int32)), (.int (0 : Int32)), (.int (0 : Int32)), (.int (0 : Int32)), (.int (0 : Int32)), (.int (0 : Int32)), (.int (0 : Int32))] (.int (0 : Int32)) := Arv.set Ar11 q11 Sz11 Nn11 Hh11 Gg11 rfl W11 9 rfl (Nat.le_of_ble_eq_true rfl)
  have N11 := Fr.snoc X11 N10 g_b1
  have Z11 : n0 ≤ h11.size := Nat.le_trans Z10 (Keep.of_wr W11).1
  have K11 := K10.wr W11 (Or.inr sz_b1)
  refine OutW.back st11 ?_
  show OutW _ _ _ _ _ _ _ (T11.setTop (mkF m 57 #[.val (.int p1), .val (.int p2), .val (.int p3), .unset, .unset] [(.ref b1)]))
  refine OutW.back (fun t k => XS.dup X11.here hx rfl (hb hby at_57) rfl rfl k) ?_
  show OutW _ _ _ _ _ _ _ (T11.setTop (mkF m 58 #[.val (.int p1), .val (.int p2), .val (.int p3), .unset, .unset] [(.ref b1), (.ref b1)]))
  refine OutW.back (fun t k => XS.bipush X11.here hx rfl (hb hby at_58) k) ?_
  show OutW _ _ _ _ _ _ _ (T11.setTop (mkF m 60 #[.val (.int p1), .val (.int p2), .val (.int p3), .unset, .unset] [(.int (10 : Int32)), (.ref b1), (.ref b1)]))
  refine OutW.back (X11.ldcInt hx hown (mvT hZ (hw _ (List.mem_of_getElem? (i := 6) rfl))) (g := (mkF m 60 #[.val (.int p1), .val (.int p2), .val (.int p3), .unset, .unset] [(.int (10 : Int32)), (.ref b1), (.ref b1)])) rfl (hb hby at_60)) ?_
  show OutW _ _ _ _ _ _ _ (T11.setTop (mkF m 62 #[.val (.int p1), .val (.int p2), .val (.int p3), .unset, .unset] [(.int (65534 : Int32)), (.int (10 : Int32)), (.ref b1), (.ref b1)]))
  obtain ⟨cl12, Ar12, q12, Sz12, Nn12, Hh12, Gg12⟩ := V_b1_11
  have hin12 : ¬ ((10 : Int32) < 0 ∨ cl12.slots.size ≤ ((10 : Int32)).toNatClampNeg) := inb_of Sz12 ⟨by decide, by decide⟩
  obtain ⟨T12, h12, X12, e12, W12, st12⟩ := stI X11 hx hZ e11 Ar12 (j := (10 : Int32)) hin12 (g := (mkF m 62 #[.val (.int p1), .val (.int p2), .val (.int p3), .unset, .unset] [(.int (65534 : Int32)), (.int (10 : Int32)), (.ref b1), (.ref b1)])) rfl rfl (hb hby at_62)
  have V_b1_12 : Arv Z h12 b1 k1 .int (16 : Int32) [(.int (0 : Int32)), (.int (9 : Int32)), (.int (10 : Int32)), (.int (13 : Int32)), (.int (32 : Int32)), (.int (55295 : Int32)), (.int (55296 : Int32)), (.int (57343 : Int32)), (.int (57344 : Int32)), (.int (65533 : Int32)), (.int (65534 : Int32)), (.int (0 : Int32)), (.int (0 : Int32)), (.int (0 : Int32)), (.int (0 : Int32)), (.int (0 : Int32))] (.int (0 : Int32)) := Arv.set Ar12 q12 Sz12 Nn12 Hh12 Gg12 rfl W12 10 rfl (Nat.le_of_ble_eq_true rfl)
  have N12 := Fr.snoc X12 N11 g_b1
  have Z12 : n0 ≤ h12.size := Nat.le_trans Z11 (Keep.of_wr W12).1
  have K12 := K11.wr W12 (Or.inr sz_b1)
  refine OutW.back st12 ?_
  show OutW _ _ _ _ _ _ _ (T12.setTop (mkF m 63 #[.val (.int p1), .val (.int p2), .val (.int p3), .unset, .unset] [(.ref b1)]))
  refine OutW.back (fun t k => XS.dup X12.here hx rfl (hb hby at_63) rfl rfl k) ?_
  show OutW _ _ _ _ _ _ _ (T12.setTop (mkF m 64 #[.val (.int p1), .val (.int p2), .val (.int p3), .unset, .unset] [(.ref b1), (.ref b1)]))
  refine OutW.back (fun t k => XS.bipush X12.here hx rfl (hb hby at_64) k) ?_
  show OutW _ _ _ _ _ _ _ (T12.setTop (mkF m 66 #[.val (.int p1), .val (.int p2), .val (.int p3), .unset, .unset] [(.int (11 : Int32)), (.ref b1), (.ref b1)]))
  refine OutW.back (X12.ldcInt hx hown (mvT hZ (hw _ (List.mem_of_getElem? (i := 7) rfl))) (g := (mkF m 66 #[.val (.int p1), .val (.int p2), .val (.int p3), .unset, .unset] [(.int (11 : Int32)), (.ref b1), (.ref b1)])) rfl (hb hby at_66)) ?_
  show OutW _ _ _ _ _ _ _ (T12.setTop (mkF m 68 #[.val (.int p1), .val (.int p2), .val (.int p3), .unset, .unset] [(.int (65536 : Int32)), (.int (11 : Int32)), (.ref b1), (.ref b1)]))
  obtain ⟨cl13, Ar13, q13, Sz13, Nn13, Hh13, Gg13⟩ := V_b1_12
  have hin13 : ¬ ((11 : Int32) < 0 ∨ cl13.slots.size ≤ ((11 : Int32)).toNatClampNeg) := inb_of Sz13 ⟨by decide, by decide⟩
  obtain ⟨T13, h13, X13, e13, W13, st13⟩ := stI X12 hx hZ e12 Ar13 (j := (11 : Int32)) hin13 (g := (mkF m 68 #[.val (.int p1), .val (.int p2), .val (.int p3), .unset, .unset] [(.int (65536 : Int32)), (.int (11 : Int32)), (.ref b1), (.ref b1)])) rfl rfl (hb hby at_68)
  have V_b1_13 : Arv Z h13 b1 k1 .int (16 : Int32) [(.int (0 : Int32)), (.int (9 : Int32)), (.int (10 : Int32)), (.int (13 : Int32)), (.int (32 : Int32)), (.int (55295 : Int32)), (.int (55296 : Int32)), (.int (57343 : Int32)), (.int (57344 : Int32)), (.int (65533 : Int32)), (.int (65534 : Int32)), (.int (65536 : Int32)), (.int (0 : Int32)), (.int (0 : Int32)), (.int (0 : Int32)), (.int (0 : Int32))] (.int (0 : Int32)) := Arv.set Ar13 q13 Sz13 Nn13 Hh13 Gg13 rfl W13 11 rfl (Nat.le_of_ble_eq_true rfl)
  have N13 := Fr.snoc X13 N12 g_b1
  have Z13 : n0 ≤ h13.size := Nat.le_trans Z12 (Keep.of_wr W13).1
  have K13 := K12.wr W13 (Or.inr sz_b1)
  refine OutW.back st13 ?_
  show OutW _ _ _ _ _ _ _ (T13.setTop (mkF m 69 #[.val (.int p1), .val (.int p2), .val (.int p3), .unset, .unset] [(.ref b1)]))
  refine OutW.back (fun t k => XS.dup X13.here hx rfl (hb hby at_69) rfl rfl k) ?_
  show OutW _ _ _ _ _ _ _ (T13.setTop (mkF m 70 #[.val (.int p1), .val (.int p2), .val (.int p3), .unset, .unset] [(.ref b1), (.ref b1)]))
  refine OutW.back (fun t k => XS.bipush X13.here hx rfl (hb hby at_70) k) ?_
  show OutW _ _ _ _ _ _ _ (T13.setTop (mkF m 72 #[.val (.int p1), .val (.int p2), .val (.int p3), .unset, .unset] [(.int (12 : Int32)), (.ref b1), (.ref b1)]))
  refine OutW.back (X13.ldcInt hx hown (mvT hZ (hw _ (List.mem_of_getElem? (i := 8) rfl))) (g := (mkF m 72 #[.val (.int p1), .val (.int p2), .val (.int p3), .unset, .unset] [(.int (12 : Int32)), (.ref b1), (.ref b1)])) rfl (hb hby at_72)) ?_
  show OutW _ _ _ _ _ _ _ (T13.setTop (mkF m 74 #[.val (.int p1), .val (.int p2), .val (.int p3), .unset, .unset] [(.int (1114111 : Int32)), (.int (12 : Int32)), (.ref b1), (.ref b1)]))
  obtain ⟨cl14, Ar14, q14, Sz14, Nn14, Hh14, Gg14⟩ := V_b1_13
  have hin14 : ¬ ((12 : Int32) < 0 ∨ cl14.slots.size ≤ ((12 : Int32)).toNatClampNeg) := inb_of Sz14 ⟨by decide, by decide⟩
  obtain ⟨T14, h14, X14, e14, W14, st14⟩ := stI X13 hx hZ e13 Ar14 (j := (12 : Int32)) hin14 (g := (mkF m 74 #[.val (.int p1), .val (.int p2), .val (.int p3), .unset, .unset] [(.int (1114111 : Int32)), (.int (12 : Int32)), (.ref b1), (.ref b1)])) rfl rfl (hb hby at_74)
  have V_b1_14 : Arv Z h14 b1 k1 .int (16 : Int32) [(.int (0 : Int32)), (.int (9 : Int32)), (.int (10 : Int32)), (.int (13 : Int32)), (.int (32 : Int32)), (.int (55295 : Int32)), (.int (55296 : Int32)), (.int (57343 : Int32)), (.int (57344 : Int32)), (.int (65533 : Int32)), (.int (65534 : Int32)), (.int (65536 : Int32)), (.int (1114111 : Int32)), (.int (0 : Int32)), (.int (0 : Int32)), (.int (0 : Int32))] (.int (0 : Int32)) := Arv.set Ar14 q14 Sz14 Nn14 Hh14 Gg14 rfl W14 12 rfl (Nat.le_of_ble_eq_true rfl)
  have N14 := Fr.snoc X14 N13 g_b1
  have Z14 : n0 ≤ h14.size := Nat.le_trans Z13 (Keep.of_wr W14).1
  have K14 := K13.wr W14 (Or.inr sz_b1)
  refine OutW.back st14 ?_
  show OutW _ _ _ _ _ _ _ (T14.setTop (mkF m 75 #[.val (.int p1), .val (.int p2), .val (.int p3), .unset, .unset] [(.ref b1)]))
  refine OutW.back (fun t k => XS.dup X14.here hx rfl (hb hby at_75) rfl rfl k) ?_
  show OutW _ _ _ _ _ _ _ (T14.setTop (mkF m 76 #[.val (.int p1), .val (.int p2), .val (.int p3), .unset, .unset] [(.ref b1), (.ref b1)]))
  refine OutW.back (fun t k => XS.bipush X14.here hx rfl (hb hby at_76) k) ?_
  show OutW _ _ _ _ _ _ _ (T14.setTop (mkF m 78 #[.val (.int p1), .val (.int p2), .val (.int p3), .unset, .unset] [(.int (13 : Int32)), (.ref b1), (.ref b1)]))
  refine OutW.back (X14.ldcInt hx hown (mvT hZ (hw _ (List.mem_of_getElem? (i := 9) rfl))) (g := (mkF m 78 #[.val (.int p1), .val (.int p2), .val (.int p3), .unset, .unset] [(.int (13 : Int32)), (.ref b1), (.ref b1)])) rfl (hb hby at_78)) ?_
  show OutW _ _ _ _ _ _ _ (T14.setTop (mkF m 80 #[.val (.int p1), .val (.int p2), .val (.int p3), .unset, .unset] [(.int (1114112 : Int32)), (.int (13 : Int32)), (.ref b1), (.ref b1)]))
  obtain ⟨cl15, Ar15, q15, Sz15, Nn15, Hh15, Gg15⟩ := V_b1_14
  have hin15 : ¬ ((13 : Int32) < 0 ∨ cl15.slots.size ≤ ((13 : Int32)).toNatClampNeg) := inb_of Sz15 ⟨by decide, by decide⟩
  obtain ⟨T15, h15, X15, e15, W15, st15⟩ := stI X14 hx hZ e14 Ar15 (j := (13 : Int32)) hin15 (g := (mkF m 80 #[.val (.int p1), .val (.int p2), .val (.int p3), .unset, .unset] [(.int (1114112 : Int32)), (.int (13 : Int32)), (.ref b1), (.ref b1)])) rfl rfl (hb hby at_80)
  have V_b1_15 : Arv Z h15 b1 k1 .int (16 : Int32) [(.int (0 : Int32)), (.int (9 : Int32)), (.int (10 : Int32)), (.int (13 : Int32)), (.int (32 : Int32)), (.int (55295 : Int32)), (.int (55296 : Int32)), (.int (57343 : Int32)), (.int (57344 : Int32)), (.int (65533 : Int32)), (.int (65534 : Int32)), (.int (65536 : Int32)), (.int (1114111 : Int32)), (.int (1114112 : Int32)), (.int (0 : Int32)), (.int (0 : Int32))] (.int (0 : Int32)) := Arv.set Ar15 q15 Sz15 Nn15 Hh15 Gg15 rfl W15 13 rfl (Nat.le_of_ble_eq_true rfl)
  have N15 := Fr.snoc X15 N14 g_b1
  have Z15 : n0 ≤ h15.size := Nat.le_trans Z14 (Keep.of_wr W15).1
  have K15 := K14.wr W15 (Or.inr sz_b1)
  refine OutW.back st15 ?_
  show OutW _ _ _ _ _ _ _ (T15.setTop (mkF m 81 #[.val (.int p1), .val (.int p2), .val (.int p3), .unset, .unset] [(.ref b1)]))
  refine OutW.back (fun t k => XS.dup X15.here hx rfl (hb hby at_81) rfl rfl k) ?_
  show OutW _ _ _ _ _ _ _ (T15.setTop (mkF m 82 #[.val (.int p1), .val (.int p2), .val (.int p3), .unset, .unset] [(.ref b1), (.ref b1)]))
  refine OutW.back (fun t k => XS.bipush X15.here hx rfl (hb hby at_82) k) ?_
  show OutW _ _ _ _ _ _ _ (T15.setTop (mkF m 84 #[.val (.int p1), .val (.int p2), .val (.int p3), .unset, .unset] [(.int (14 : Int32)), (.ref b1), (.ref b1)]))
  refine OutW.back (X15.ldcInt hx hown (mvT hZ (hw _ (List.mem_of_getElem? (i := 10) rfl))) (g := (mkF m 84 #[.val (.int p1), .val (.int p2), .val (.int p3), .unset, .unset] [(.int (14 : Int32)), (.ref b1), (.ref b1)])) rfl (hb hby at_84)) ?_
  show OutW _ _ _ _ _ _ _ (T15.setTop (mkF m 86 #[.val (.int p1), .val (.int p2), .val (.int p3), .unset, .unset] [(.int (-2147483648 : Int32)), (.int (14 : Int32)), (.ref b1), (.ref b1)]))
  obtain ⟨cl16, Ar16, q16, Sz16, Nn16, Hh16, Gg16⟩ := V_b1_15
  have hin16 : ¬ ((14 : Int32) < 0 ∨ cl16.slots.size ≤ ((14 : Int32)).toNatClampNeg) := inb_of Sz16 ⟨by decide, by decide⟩
  obtain ⟨T16, h16, X16, e16, W16, st16⟩ := stI X15 hx hZ e15 Ar16 (j := (14 : Int32)) hin16 (g := (mkF m 86 #[.val (.int p1), .val (.int p2), .val (.int p3), .unset, .unset] [(.int (-2147483648 : Int32)), (.int (14 : Int32)), (.ref b1), (.ref b1)])) rfl rfl (hb hby at_86)
  have V_b1_16 : Arv Z h16 b1 k1 .int (16 : Int32) [(.int (0 : Int32)), (.int (9 : Int32)), (.int (10 : Int32)), (.int (13 : Int32)), (.int (32 : Int32)), (.int (55295 : Int32)), (.int (55296 : Int32)), (.int (57343 : Int32)), (.int (57344 : Int32)), (.int (65533 : Int32)), (.int (65534 : Int32)), (.int (65536 : Int32)), (.int (1114111 : Int32)), (.int (1114112 : Int32)), (.int (-2147483648 : Int32)), (.int (0 : Int32))] (.int (0 : Int32)) := Arv.set Ar16 q16 Sz16 Nn16 Hh16 Gg16 rfl W16 14 rfl (Nat.le_of_ble_eq_true rfl)
  have N16 := Fr.snoc X16 N15 g_b1
  have Z16 : n0 ≤ h16.size := Nat.le_trans Z15 (Keep.of_wr W16).1
  have K16 := K15.wr W16 (Or.inr sz_b1)
  refine OutW.back st16 ?_
  show OutW _ _ _ _ _ _ _ (T16.setTop (mkF m 87 #[.val (.int p1), .val (.int p2), .val (.int p3), .unset, .unset] [(.ref b1)]))
  refine OutW.back (fun t k => XS.dup X16.here hx rfl (hb hby at_87) rfl rfl k) ?_
  show OutW _ _ _ _ _ _ _ (T16.setTop (mkF m 88 #[.val (.int p1), .val (.int p2), .val (.int p3), .unset, .unset] [(.ref b1), (.ref b1)]))
  refine OutW.back (fun t k => XS.bipush X16.here hx rfl (hb hby at_88) k) ?_
  show OutW _ _ _ _ _ _ _ (T16.setTop (mkF m 90 #[.val (.int p1), .val (.int p2), .val (.int p3), .unset, .unset] [(.int (15 : Int32)), (.ref b1), (.ref b1)]))
  refine OutW.back (X16.ldcInt hx hown (mvT hZ (hw _ (List.mem_of_getElem? (i := 11) rfl))) (g := (mkF m 90 #[.val (.int p1), .val (.int p2), .val (.int p3), .unset, .unset] [(.int (15 : Int32)), (.ref b1), (.ref b1)])) rfl (hb hby at_90)) ?_
  show OutW _ _ _ _ _ _ _ (T16.setTop (mkF m 92 #[.val (.int p1), .val (.int p2), .val (.int p3), .unset, .unset] [(.int (2147483647 : Int32)), (.int (15 : Int32)), (.ref b1), (.ref b1)]))
  obtain ⟨cl17, Ar17, q17, Sz17, Nn17, Hh17, Gg17⟩ := V_b1_16
  have hin17 : ¬ ((15 : Int32) < 0 ∨ cl17.slots.size ≤ ((15 : Int32)).toNatClampNeg) := inb_of Sz17 ⟨by decide, by decide⟩
  obtain ⟨T17, h17, X17, e17, W17, st17⟩ := stI X16 hx hZ e16 Ar17 (j := (15 : Int32)) hin17 (g := (mkF m 92 #[.val (.int p1), .val (.int p2), .val (.int p3), .unset, .unset] [(.int (2147483647 : Int32)), (.int (15 : Int32)), (.ref b1), (.ref b1)])) rfl rfl (hb hby at_92)
  have V_b1_17 : Arv Z h17 b1 k1 .int (16 : Int32) [(.int (0 : Int32)), (.int (9 : Int32)), (.int (10 : Int32)), (.int (13 : Int32)), (.int (32 : Int32)), (.int (55295 : Int32)), (.int (55296 : Int32)), (.int (57343 : Int32)), (.int (57344 : Int32)), (.int (65533 : Int32)), (.int (65534 : Int32)), (.int (65536 : Int32)), (.int (1114111 : Int32)), (.int (1114112 : Int32)), (.int (-2147483648 : Int32)), (.int (2147483647 : Int32))] (.int (0 : Int32)) := Arv.set Ar17 q17 Sz17 Nn17 Hh17 Gg17 rfl W17 15 rfl (Nat.le_of_ble_eq_true rfl)
  have N17 := Fr.snoc X17 N16 g_b1
  have Z17 : n0 ≤ h17.size := Nat.le_trans Z16 (Keep.of_wr W17).1
  have K17 := K16.wr W17 (Or.inr sz_b1)
  refine OutW.back st17 ?_
  show OutW _ _ _ _ _ _ _ (T17.setTop (mkF m 93 #[.val (.int p1), .val (.int p2), .val (.int p3), .unset, .unset] [(.ref b1)]))
  refine OutW.back (fun t k => XS.astoreN X17.here hx rfl (hb hby at_93) rfl rfl (l' := #[.val (.int p1), .val (.int p2), .val (.int p3), .val (.ref b1), .unset]) rfl k) ?_
  show OutW _ _ _ _ _ _ _ (T17.setTop (mkF m 94 #[.val (.int p1), .val (.int p2), .val (.int p3), .val (.ref b1), .unset] []))
  refine OutW.back (fun t k => XS.aloadN X17.here hx rfl (hb hby at_94) rfl rfl  k) ?_
  show OutW _ _ _ _ _ _ _ (T17.setTop (mkF m 95 #[.val (.int p1), .val (.int p2), .val (.int p3), .val (.ref b1), .unset] [(.ref b1)]))
  refine OutW.back (fun t k => XS.iloadN X17.here hx rfl (hb hby at_95) rfl  k) ?_
  show OutW _ _ _ _ _ _ _ (T17.setTop (mkF m 96 #[.val (.int p1), .val (.int p2), .val (.int p3), .val (.ref b1), .unset] [(.int p2), (.ref b1)]))
  refine OutW.back (fun t k => XS.bipush X17.here hx rfl (hb hby at_96) k) ?_
  show OutW _ _ _ _ _ _ _ (T17.setTop (mkF m 98 #[.val (.int p1), .val (.int p2), .val (.int p3), .val (.ref b1), .unset] [(.int (15 : Int32)), (.int p2), (.ref b1)]))
  refine OutW.back (fun t k => XS.iand X17.here hx rfl (hb hby at_98) rfl k) ?_
  show OutW _ _ _ _ _ _ _ (T17.setTop (mkF m 99 #[.val (.int p1), .val (.int p2), .val (.int p3), .val (.ref b1), .unset] [(.int (p2 &&& (15 : Int32))), (.ref b1)]))
  have hin_99 : ¬ (p2 &&& (15 : Int32)) < 0 ∧ (p2 &&& (15 : Int32)) < (16 : Int32) := own_idx _
  obtain ⟨cl18, Ar18, q18, Sz18, Nn18, Hh18, Gg18⟩ := V_b1_17
  have hin18 : ¬ ((p2 &&& (15 : Int32)) < 0 ∨ cl18.slots.size ≤ ((p2 &&& (15 : Int32))).toNatClampNeg) := inb_of Sz18 hin_99
  obtain ⟨wtab, hat_99⟩ : ∃ z : Int32, ([(.int (0 : Int32)), (.int (9 : Int32)), (.int (10 : Int32)), (.int (13 : Int32)), (.int (32 : Int32)), (.int (55295 : Int32)), (.int (55296 : Int32)), (.int (57343 : Int32)), (.int (57344 : Int32)), (.int (65533 : Int32)), (.int (65534 : Int32)), (.int (65536 : Int32)), (.int (1114111 : Int32)), (.int (1114112 : Int32)), (.int (-2147483648 : Int32)), (.int (2147483647 : Int32))] : List Value).getD ((p2 &&& (15 : Int32))).toNatClampNeg (.int (0 : Int32)) = .int z := ⟨_, own_getD [(0 : Int32), (9 : Int32), (10 : Int32), (13 : Int32), (32 : Int32), (55295 : Int32), (55296 : Int32), (57343 : Int32), (57344 : Int32), (65533 : Int32), (65534 : Int32), (65536 : Int32), (1114111 : Int32), (1114112 : Int32), (-2147483648 : Int32), (2147483647 : Int32)] _ 0⟩
  refine OutW.back (X17.iaload hx (j := (p2 &&& (15 : Int32))) (v := (.int wtab)) (by rw [e17]; exact Ar18.1) (State.isArrayOf_alike hZ.alike Ar18.2.1) Ar18.2.2 hin18 (Hh18.at hin18 hat_99) (g := (mkF m 99 #[.val (.int p1), .val (.int p2), .val (.int p3), .val (.ref b1), .unset] [(.int (p2 &&& (15 : Int32))), (.ref b1)])) rfl rfl (hb hby at_99)) ?_
  show OutW _ _ _ _ _ _ _ (T17.setTop (mkF m 100 #[.val (.int p1), .val (.int p2), .val (.int p3), .val (.ref b1), .unset] [(.int wtab)]))
  refine OutW.back (fun t k => XS.iloadN X17.here hx rfl (hb hby at_100) rfl  k) ?_
  show OutW _ _ _ _ _ _ _ (T17.setTop (mkF m 101 #[.val (.int p1), .val (.int p2), .val (.int p3), .val (.ref b1), .unset] [(.int p3), (.int wtab)]))
  refine OutW.back (fun t k => XS.bipush X17.here hx rfl (hb hby at_101) k) ?_
  show OutW _ _ _ _ _ _ _ (T17.setTop (mkF m 103 #[.val (.int p1), .val (.int p2), .val (.int p3), .val (.ref b1), .unset] [(.int (7 : Int32)), (.int p3), (.int wtab)]))
  refine OutW.back (fun t k => XS.iand X17.here hx rfl (hb hby at_103) rfl k) ?_
  show OutW _ _ _ _ _ _ _ (T17.setTop (mkF m 104 #[.val (.int p1), .val (.int p2), .val (.int p3), .val (.ref b1), .unset] [(.int (p3 &&& (7 : Int32))), (.int wtab)]))
  refine OutW.back (fun t k => XS.iconst X17.here hx rfl (hb hby at_104) k) ?_
  show OutW _ _ _ _ _ _ _ (T17.setTop (mkF m 105 #[.val (.int p1), .val (.int p2), .val (.int p3), .val (.ref b1), .unset] [(.int (4 : Int32)), (.int (p3 &&& (7 : Int32))), (.int wtab)]))
  refine OutW.back (fun t k => XS.isub X17.here hx rfl (hb hby at_105) rfl k) ?_
  show OutW _ _ _ _ _ _ _ (T17.setTop (mkF m 106 #[.val (.int p1), .val (.int p2), .val (.int p3), .val (.ref b1), .unset] [(.int ((p3 &&& (7 : Int32)) - (4 : Int32))), (.int wtab)]))
  refine OutW.back (fun t k => XS.iadd X17.here hx rfl (hb hby at_106) rfl k) ?_
  show OutW _ _ _ _ _ _ _ (T17.setTop (mkF m 107 #[.val (.int p1), .val (.int p2), .val (.int p3), .val (.ref b1), .unset] [(.int (wtab + ((p3 &&& (7 : Int32)) - (4 : Int32))))]))
  generalize hv_v19 : (wtab + ((p3 &&& (7 : Int32)) - (4 : Int32))) = v19
  refine OutW.back (fun t k => XS.istore X17.here hx rfl (hb hby at_107) rfl (l' := #[.val (.int p1), .val (.int p2), .val (.int p3), .val (.ref b1), .val (.int v19)]) rfl k) ?_
  show OutW _ _ _ _ _ _ _ (T17.setTop (mkF m 109 #[.val (.int p1), .val (.int p2), .val (.int p3), .val (.ref b1), .val (.int v19)] []))
  refine OutW.back (fun t k => XS.iloadN X17.here hx rfl (hb hby at_109) rfl  k) ?_
  show OutW _ _ _ _ _ _ _ (T17.setTop (mkF m 110 #[.val (.int p1), .val (.int p2), .val (.int p3), .val (.ref b1), .val (.int v19)] [(.int p1)]))
  obtain ⟨_, _, ⟨T20, L20, k20, n20⟩, -, X20, ⟨Lc20, hQ20, l20, y20, z20⟩, st20⟩ := Jvm.LawKit.callS X17 hx (y := (⟨"com/example/xml_document_query/xmldocumentquery/value/XmlCharacters", "isXmlChar", "(I)Z"⟩ : MethodName)) hown (mvT hZ (hw _ (List.mem_of_getElem? (i := 12) rfl))) (mvT hZ (hw _ (List.mem_of_getElem? (i := 13) rfl))) (mvT hZ (hw _ (List.mem_of_getElem? (i := 14) rfl))) (mvT hZ (hw _ (List.mem_of_getElem? (i := 15) rfl))) (by decide) (backOf (W := 0) (rm1 l Z a0 hw [] p1 h17 n0 Z17) hZ (hw _ (List.mem_of_getElem? (i := 15) rfl)) (hw _ (List.mem_of_getElem? (i := 14) rfl)) (by decide) (by decide)) (g := (mkF m 110 #[.val (.int p1), .val (.int p2), .val (.int p3), .val (.ref b1), .val (.int v19)] [(.int p1)])) rfl (by rw [hml]; rfl) (argsL := [(.int p1)]) (rest := []) (lenOf pd_0 rfl) rfl (by show 2 * 0 + _ ≤ _; exact Nat.le_of_eq rfl) (hb hby at_110) (fun _ _ => ⟨rfl, e17, (by decide : 1 + 0 ≤ _), (by decide : 16 + 0 ≤ _)⟩)
  dsimp only [Pt.U, Pt.locs, Pt.cells, Pt.slots] at X20 l20 y20 z20 st20 hQ20
  subst l20 y20 z20
  obtain ⟨rfl, Nq20, e20⟩ := hQ20
  have N20 := Fr.app N17 Nq20
  refine OutW.back st20 ?_
  show OutW _ _ _ _ _ _ _ (T20.setTop (mkF m 113 #[.val (.int p1), .val (.int p2), .val (.int p3), .val (.ref b1), .val (.int v19)] [(.int (isx_0 p1))]))
  refine OutW.back (fun t k => XS.iloadN X20.here hx rfl (hb hby at_113) rfl  k) ?_
  show OutW _ _ _ _ _ _ _ (T20.setTop (mkF m 114 #[.val (.int p1), .val (.int p2), .val (.int p3), .val (.ref b1), .val (.int v19)] [(.int p1), (.int (isx_0 p1))]))
  obtain ⟨_, _, ⟨T21, L21, k21, n21⟩, -, X21, ⟨Lc21, hQ21, l21, y21, z21⟩, st21⟩ := Jvm.LawKit.callS X20 hx (y := (⟨"com/example/xml_document_query/xmldocumentquery/value/XmlCharactersIsXmlCharPinLaw", "ref", "(I)Z"⟩ : MethodName)) hown (mvT hZ (hw _ (List.mem_of_getElem? (i := 18) rfl))) (mvT hZ (hw _ (List.mem_of_getElem? (i := 19) rfl))) (mvT hZ (hw _ (List.mem_of_getElem? (i := 20) rfl))) (mvT hZ (hw _ (List.mem_of_getElem? (i := 21) rfl))) (by decide) (backOf (W := 1) (rm2 l Z a0 hw [] p1 h17 n0 Z17) hZ (hw _ (List.mem_of_getElem? (i := 21) rfl)) (hw _ (List.mem_of_getElem? (i := 20) rfl)) (by decide) (by decide)) (g := (mkF m 114 #[.val (.int p1), .val (.int p2), .val (.int p3), .val (.ref b1), .val (.int v19)] [(.int p1), (.int (isx_0 p1))])) rfl (by rw [hml]; rfl) (argsL := [(.int p1)]) (rest := [(.int (isx_0 p1))]) (lenOf pd_0 rfl) rfl (by show 2 * 0 + _ ≤ _; exact Nat.le_of_eq rfl) (hb hby at_114) (fun _ _ => ⟨rfl, e20, (by decide : 1 + 0 ≤ _), (by decide : 16 + 0 ≤ _)⟩)
  dsimp only [Pt.U, Pt.locs, Pt.cells, Pt.slots] at X21 l21 y21 z21 st21 hQ21
  subst l21 y21 z21
  obtain ⟨rfl, Nq21, e21⟩ := hQ21
  have N21 := Fr.app N20 Nq21
  refine OutW.back st21 ?_
  show OutW _ _ _ _ _ _ _ (T21.setTop (mkF m 117 #[.val (.int p1), .val (.int p2), .val (.int p3), .val (.ref b1), .val (.int v19)] [(.int (rfx_0 p1)), (.int (isx_0 p1))]))
  refine OutW.back (fun t k => XS.icmpNo X21.here hx rfl (hb hby at_117) rfl (teq (own_same _)).2 k) ?_
  show OutW _ _ _ _ _ _ _ (T21.setTop (mkF m 120 #[.val (.int p1), .val (.int p2), .val (.int p3), .val (.ref b1), .val (.int v19)] []))
  refine OutW.back (fun t k => XS.iload X21.here hx rfl (hb hby at_120) rfl  k) ?_
  show OutW _ _ _ _ _ _ _ (T21.setTop (mkF m 122 #[.val (.int p1), .val (.int p2), .val (.int p3), .val (.ref b1), .val (.int v19)] [(.int v19)]))
  obtain ⟨_, _, ⟨T22, L22, k22, n22⟩, -, X22, ⟨Lc22, hQ22, l22, y22, z22⟩, st22⟩ := Jvm.LawKit.callS X21 hx (y := (⟨"com/example/xml_document_query/xmldocumentquery/value/XmlCharacters", "isXmlChar", "(I)Z"⟩ : MethodName)) hown (mvT hZ (hw _ (List.mem_of_getElem? (i := 12) rfl))) (mvT hZ (hw _ (List.mem_of_getElem? (i := 13) rfl))) (mvT hZ (hw _ (List.mem_of_getElem? (i := 14) rfl))) (mvT hZ (hw _ (List.mem_of_getElem? (i := 15) rfl))) (by decide) (backOf (W := 0) (rm1 l Z a0 hw [] v19 h17 n0 Z17) hZ (hw _ (List.mem_of_getElem? (i := 15) rfl)) (hw _ (List.mem_of_getElem? (i := 14) rfl)) (by decide) (by decide)) (g := (mkF m 122 #[.val (.int p1), .val (.int p2), .val (.int p3), .val (.ref b1), .val (.int v19)] [(.int v19)])) rfl (by rw [hml]; rfl) (argsL := [(.int v19)]) (rest := []) (lenOf pd_0 rfl) rfl (by show 2 * 0 + _ ≤ _; exact Nat.le_of_eq rfl) (hb hby at_122) (fun _ _ => ⟨rfl, e21, (by decide : 1 + 0 ≤ _), (by decide : 16 + 0 ≤ _)⟩)
  dsimp only [Pt.U, Pt.locs, Pt.cells, Pt.slots] at X22 l22 y22 z22 st22 hQ22
  subst l22 y22 z22
  obtain ⟨rfl, Nq22, e22⟩ := hQ22
  have N22 := Fr.app N21 Nq22
  refine OutW.back st22 ?_
  show OutW _ _ _ _ _ _ _ (T22.setTop (mkF m 125 #[.val (.int p1), .val (.int p2), .val (.int p3), .val (.ref b1), .val (.int v19)] [(.int (isx_0 v19))]))
  refine OutW.back (fun t k => XS.iload X22.here hx rfl (hb hby at_125) rfl  k) ?_
  show OutW _ _ _ _ _ _ _ (T22.setTop (mkF m 127 #[.val (.int p1), .val (.int p2), .val (.int p3), .val (.ref b1), .val (.int v19)] [(.int v19), (.int (isx_0 v19))]))
  obtain ⟨_, _, ⟨T23, L23, k23, n23⟩, -, X23, ⟨Lc23, hQ23, l23, y23, z23⟩, st23⟩ := Jvm.LawKit.callS X22 hx (y := (⟨"com/example/xml_document_query/xmldocumentquery/value/XmlCharactersIsXmlCharPinLaw", "ref", "(I)Z"⟩ : MethodName)) hown (mvT hZ (hw _ (List.mem_of_getElem? (i := 18) rfl))) (mvT hZ (hw _ (List.mem_of_getElem? (i := 19) rfl))) (mvT hZ (hw _ (List.mem_of_getElem? (i := 20) rfl))) (mvT hZ (hw _ (List.mem_of_getElem? (i := 21) rfl))) (by decide) (backOf (W := 1) (rm2 l Z a0 hw [] v19 h17 n0 Z17) hZ (hw _ (List.mem_of_getElem? (i := 21) rfl)) (hw _ (List.mem_of_getElem? (i := 20) rfl)) (by decide) (by decide)) (g := (mkF m 127 #[.val (.int p1), .val (.int p2), .val (.int p3), .val (.ref b1), .val (.int v19)] [(.int v19), (.int (isx_0 v19))])) rfl (by rw [hml]; rfl) (argsL := [(.int v19)]) (rest := [(.int (isx_0 v19))]) (lenOf pd_0 rfl) rfl (by show 2 * 0 + _ ≤ _; exact Nat.le_of_eq rfl) (hb hby at_127) (fun _ _ => ⟨rfl, e22, (by decide : 1 + 0 ≤ _), (by decide : 16 + 0 ≤ _)⟩)
  dsimp only [Pt.U, Pt.locs, Pt.cells, Pt.slots] at X23 l23 y23 z23 st23 hQ23
  subst l23 y23 z23
  obtain ⟨rfl, Nq23, e23⟩ := hQ23
  have N23 := Fr.app N22 Nq23
  refine OutW.back st23 ?_
  show OutW _ _ _ _ _ _ _ (T23.setTop (mkF m 130 #[.val (.int p1), .val (.int p2), .val (.int p3), .val (.ref b1), .val (.int v19)] [(.int (rfx_0 v19)), (.int (isx_0 v19))]))
  refine OutW.back (fun t k => XS.icmpNo X23.here hx rfl (hb hby at_130) rfl (teq (own_same _)).2 k) ?_
  show OutW _ _ _ _ _ _ _ (T23.setTop (mkF m 133 #[.val (.int p1), .val (.int p2), .val (.int p3), .val (.ref b1), .val (.int v19)] []))
  refine OutW.back (fun t k => XS.iconst X23.here hx rfl (hb hby at_133) k) ?_
  show OutW _ _ _ _ _ _ _ (T23.setTop (mkF m 134 #[.val (.int p1), .val (.int p2), .val (.int p3), .val (.ref b1), .val (.int v19)] [(.int (1 : Int32))]))
  refine OutW.back (fun t k => XS.goto X23.here hx rfl (pc0 := 134) (pc' := 138) rfl (hb hby at_134) (by decide) (by decide) k) ?_
  show OutW _ _ _ _ _ _ _ (T23.setTop (mkF m 138 #[.val (.int p1), .val (.int p2), .val (.int p3), .val (.ref b1), .val (.int v19)] [(.int (1 : Int32))]))
  refine OutW.retN X23 hx (t := .boolean) (z' := 1) Bd.returns (by simp) hlk (hb hby at_138) ?hz (by decide) (by decide) ?_
  case hz =>
    rfl
  show Q0 Z p1 p2 p3 h0 n0 _ T23.heap _
  rw [e23]
  exact ⟨rfl, N23⟩
set_option maxRecDepth 65536 in
set_option maxHeartbeats 40000000 in
theorem comes_1 {Post : Tables → Env → Array Value → State → Outcome → State → Prop} (hpost : ∀ tb e args s v u, (limb_1_1.after args s (.returned v) u = true ∧ limb_1_2.after args s (.returned v) u = true ∧ True) → FrameEnd s (.returned v) u (Jvm.fieldLocs frame_1_writes args s ++ Jvm.arrayLocs frame_1_arrays args s ++ Jvm.staticLocs frame_1_statics s) 16 128 → Post tb e args s (.returned v) u) :
    ArmFor flags0 classFile x code maxLocals ret World_1 tables_1 room_1 Calls_1 rest_1 Pre_1 Post := by
  intro l hfl _ _ p e ha hc hk s m args below hf hA hF happ hP
  obtain ⟨hcalls, hrest, hpre⟩ := hP
  obtain ⟨-, -, -, hnamed, -, -, -, hat⟩ := (Spec.applies_iff hf).mp happ
  obtain ⟨hg, hn⟩ := and_e (Cond.before_iff.mp (show (Jvm.Cond.and given_1 narrow_1).before args s = true from hpre))
  obtain ⟨hcount, hg0⟩ := and_e hg
  obtain ⟨ga0, hg1⟩ := and_e hg0
  obtain ⟨ga1, hg2⟩ := and_e hg1
  have ga2 := hg2
  obtain ⟨w0, w1, w2, rfl⟩ : ∃ w0 w1 w2 : Value, args = #[w0, w1, w2] := by
    have hs : args.size = 3 := by simpa [Cond.value, given_1] using hcount
    obtain ⟨L⟩ := args
    match L, hs with
    | [w0, w1, w2], _ => exact ⟨w0, w1, w2, rfl⟩
  have hw := fun d (hd : d ∈ tables_1) => atoms_spec (ws := Jvm.Cond.code x code maxLocals ret :: tables_1) hat d (List.mem_cons_of_mem _ hd)
  obtain ⟨i0, ei0⟩ := is_v ga0
  obtain rfl : w0 = (.int i0) := Option.some.inj ei0
  obtain ⟨i1, ei1⟩ := is_v ga1
  obtain rfl : w1 = (.int i1) := Option.some.inj ei1
  obtain ⟨i2, ei2⟩ := is_v ga2
  obtain rfl : w2 = (.int i2) := Option.some.inj ei2
  obtain ⟨n, o, h1, h2, h3, _, L, rfl, ⟨rfl, N⟩, hq⟩ := rm0 l s _ hw tables_1 i0 i1 i2  s.heap s.heap.size (Nat.le_refl _)  p e ha hc hk s m _ below hf ((Spec.applies_iff_loose hf).mp happ).1 ⟨rfl, State.Warmed39.refl s, rfl⟩ trivial
  refine ⟨n, _, h1, h2, h3, hpost _ _ _ _ _ _ ⟨Cond.after_iff.mpr rfl, Cond.after_iff.mpr (eq_i res_at (Term.int_eval (1)) rfl), trivial⟩ ⟨hq.1, hq.2.1, (hq.2.2.sift fun y hy => Or.inr (N y hy)).mono (by decide) (by decide)⟩⟩
theorem main_1_1 : Claimed_1_1 := comes_1 fun _ _ _ _ _ _ h hF => ⟨h.1, hF⟩
theorem main_1_2 : Claimed_1_2 := comes_1 fun _ _ _ _ _ _ h hF => ⟨h.2.1, hF⟩
end Jvm.Pilot.@@N@@
namespace Jvm.Pilot.@@N@@
open Jvm Jvm.ClassFile Sem Op Lib Jvm.Free Jvm.Stand Jvm.Pilot.@@N@@.Jvm.D
/-! MADE BY PROGRAM (witnessworld.py) out of the Statement's table words and the real class files: 9 classes; the members and pool entries that the words name. The judged class is class 1, her method 2. -/
namespace start1
open Jvm.ClassFile
def u (s : String) : CpInfo := .utf8 (stringToUtf16 s)
/-- a pool by its gaps: so many unusable entries, then the entry; so many at the end -/
def gap : Nat → List CpInfo → List CpInfo
  | 0, r => r
  | n + 1, r => .unusable :: gap n r
def poolList (es : List (Nat × CpInfo)) (last : Nat) : List CpInfo := es.foldr (fun e r => gap e.1 (e.2 :: r)) (gap last [])
def pool (es : List (Nat × CpInfo)) (last : Nat) : Array CpInfo := ⟨poolList es last⟩
def fileOf (pool : Array CpInfo) (this : Nat) (attrs : Array Attribute := #[]) (ms : Array MethodInfo := #[]) (fl : Nat := 33) (sup : Nat := 0) (ifs : Array Nat := #[]) (fds : Array FieldInfo := #[]) : ClassFile where
  minorVersion := 0
  majorVersion := 65
  constantPool := pool
  accessFlags := fl
  thisClass := this
  superClass := sup
  interfaces := ifs
  fields := fds
  methods := ms
  attributes := attrs
def plain (name : String) (sup : Option ClassId) : Class where
  name := name
  kind := .ordinary
  loader := none
  accessFlags := 33
  super := sup
  interfaces := #[]
  cf := none
  fields := #[]
  methods := #[]
  instanceTypes := #[]
  staticTypes := #[]
  resolved := #[]
  callSites := []
  init := .initialized
  statics := none
  mirror := none

def pool0 : Array CpInfo := pool [(5, u "<init>"), (0, u "()V"), (1, .class_ 10), (1, u "java/lang/Object")] 113

def k0m0 : Method := { name := "<init>", desc := "()V", sig := { parameters := [], returnType := none }, accessFlags := 1, code := none }
/-- java/lang/Object -/
def k0 : Class := { plain "java/lang/Object" none with
  accessFlags := 33
  interfaces := #[]
  cf := some (fileOf pool0 8 #[] #[{ accessFlags := 1, nameIndex := 5, descriptorIndex := 6, attributes := #[] }] 33 0 #[] #[])
  fields := #[]
  methods := #[k0m0]
  instanceTypes := #[]
  staticTypes := #[]
  resolved := Array.replicate 124 none
  statics := none }

def pool1 : Array CpInfo := pool [(2, .class_ 4), (1, u "java/lang/Object"), (0, u "<init>"), (0, u "()V"), (0, .integer 1114111), (0, .integer 55296), (0, .integer 57343), (0, .integer 65534), (0, .integer 65535), (0, .integer 55295), (0, .integer 57344), (0, .integer 65533), (0, .integer 65536), (0, .integer 1114112), (2, .integer 2147483648), (0, .integer 2147483647), (0, .methodref 22 23), (0, .class_ 24), (0, .nameAndType 25 26), (0, u "com/example/xml_document_query/xmldocumentquery/value/XmlCharacters"), (0, u "isXmlChar"), (0, u "(I)Z"), (0, .methodref 28 29), (0, .class_ 30), (0, .nameAndType 31 26), (0, u "com/example/xml_document_query/xmldocumentquery/value/XmlCharactersIsXmlCharPinLaw"), (0, u "ref"), (3, u "law"), (0, u "(III)Z")] 4

def k1m0 : Method := { name := "<init>", desc := "()V", sig := { parameters := [], returnType := none }, accessFlags := 2, code := none }
def k1c1 : Code := { maxStack := 2, maxLocals := 1, code := method_2_code, exceptionTable := #[], attributes := #[] }
def k1m1 : Method := { name := "ref", desc := "(I)Z", sig := { parameters := [.int], returnType := some .boolean }, accessFlags := 10, code := some k1c1 }
def k1c2 : Code := { maxStack := 4, maxLocals := 5, code := code, exceptionTable := #[], attributes := #[] }
def k1m2 : Method := { name := "law", desc := "(III)Z", sig := { parameters := [.int, .int, .int], returnType := some .boolean }, accessFlags := 9, code := some k1c2 }
/-- com/example/xml_document_query/xmldocumentquery/value/XmlCharactersIsXmlCharPinLaw -/
def k1 : Class := { plain "com/example/xml_document_query/xmldocumentquery/value/XmlCharactersIsXmlCharPinLaw" (some 0) with
  accessFlags := 49
  interfaces := #[]
  cf := some (fileOf pool1 28 #[] #[{ accessFlags := 2, nameIndex := 5, descriptorIndex := 6, attributes := #[] }, { accessFlags := 10, nameIndex := 31, descriptorIndex := 26, attributes := #[] }, { accessFlags := 9, nameIndex := 35, descriptorIndex := 36, attributes := #[] }] 49 2 #[] #[])
  fields := #[]
  methods := #[k1m0, k1m1, k1m2]
  instanceTypes := #[]
  staticTypes := #[]
  resolved := Array.replicate 41 none
  statics := none }

def pool2 : Array CpInfo := pool [(2, .class_ 4), (1, u "java/lang/Object"), (0, u "<init>"), (0, u "()V"), (0, .integer 55295), (3, .integer 65533), (0, .integer 65536), (2, .class_ 17), (1, u "com/example/xml_document_query/xmldocumentquery/value/XmlCharacters"), (1, u "(I)Z"), (7, .integer 57344), (0, .integer 1114111), (49, u "isXmlChar")] 4

def k2m0 : Method := { name := "<init>", desc := "()V", sig := { parameters := [], returnType := none }, accessFlags := 2, code := none }
def k2c1 : Code := { maxStack := 2, maxLocals := 1, code := prog_233_method_10_code, exceptionTable := #[], attributes := #[] }
def k2m1 : Method := { name := "isXmlChar", desc := "(I)Z", sig := { parameters := [.int], returnType := some .boolean }, accessFlags := 9, code := some k2c1 }
/-- com/example/xml_document_query/xmldocumentquery/value/XmlCharacters -/
def k2 : Class := { plain "com/example/xml_document_query/xmldocumentquery/value/XmlCharacters" (some 0) with
  accessFlags := 49
  interfaces := #[]
  cf := some (fileOf pool2 15 #[] #[{ accessFlags := 2, nameIndex := 5, descriptorIndex := 6, attributes := #[] }, { accessFlags := 9, nameIndex := 78, descriptorIndex := 19, attributes := #[] }] 49 2 #[] #[])
  fields := #[]
  methods := #[k2m0, k2m1]
  instanceTypes := #[]
  staticTypes := #[]
  resolved := Array.replicate 83 none
  statics := none }

def pool3 : Array CpInfo := pool [(1, u "java/lang/Cloneable"), (0, .class_ 1), (0, u "java/lang/Object"), (0, .class_ 3)] 3

/-- java/lang/Cloneable -/
def k3 : Class := { plain "java/lang/Cloneable" (some 0) with
  accessFlags := 1537
  interfaces := #[]
  cf := some (fileOf pool3 2 #[] #[] 1537 4 #[] #[])
  fields := #[]
  methods := #[]
  instanceTypes := #[]
  staticTypes := #[]
  resolved := Array.replicate 8 none
  statics := none }

def pool4 : Array CpInfo := pool [(1, u "java/io/Serializable"), (0, .class_ 1), (0, u "java/lang/Object"), (0, .class_ 3)] 3

/-- java/io/Serializable -/
def k4 : Class := { plain "java/io/Serializable" (some 0) with
  accessFlags := 1537
  interfaces := #[]
  cf := some (fileOf pool4 2 #[] #[] 1537 4 #[] #[])
  fields := #[]
  methods := #[]
  instanceTypes := #[]
  staticTypes := #[]
  resolved := Array.replicate 8 none
  statics := none }

/-- the primitive byte -/
def k5 : Class := { plain "byte" none with kind := .primitive 'B', accessFlags := 0x411 }
/-- [B -/
def k6 : Class := { plain "[B" (some 0) with kind := .array 5 .byte, interfaces := #[3, 4], accessFlags := 1041 }

/-- the primitive int -/
def k7 : Class := { plain "int" none with kind := .primitive 'I', accessFlags := 0x411 }
/-- [I -/
def k8 : Class := { plain "[I" (some 0) with kind := .array 7 .int, interfaces := #[3, 4], accessFlags := 1041 }

def heap : Heap := #[]
def classes : Array Class := #[k0, k1, k2, k3, k4, k5, k6, k7, k8]
def interned : List (Array UInt16 × Addr) := []
def slotsUsed : Nat := 0
def theMethod : MethodId := ⟨1, 2⟩
def args0 : Array Value := #[.int 5, .int 6, .int 7]
def aboutOver (below : List Frame) : State where
  vm := { classes := classes, interned := interned.toArray }
  heap := heap
  slotsUsed := slotsUsed
  threads := #[{ frames := .invoking theMethod args0 :: below }]
def below0 : List Frame := [.native { method := ⟨0, 0⟩, args := #[] }]
def about1 : State := aboutOver below0
def p0 : Program := .bare "" "" ""
def e0 : Env := launch0.env 0 0 0
theorem w_frames : about1.frames = Frame.invoking theMethod args0 :: below0 := rfl
set_option maxRecDepth 65536 in
theorem w_args : argsFit about1.vm theMethod args0 = true := by decide +kernel
set_option maxRecDepth 65536 in
theorem w_heap : heapFits about1 = true := by decide +kernel
set_option maxRecDepth 65536 in
theorem w_runnable : about1.curStatus? = some .runnable := by decide +kernel
set_option maxRecDepth 65536 in
theorem w_alone : about1.alone = true := by decide +kernel
set_option maxRecDepth 65536 in
theorem w_named : about1.methodNamed? x = some theMethod := by decide +kernel
set_option maxRecDepth 65536 in
theorem w_hears : about1.hears theMethod below0 = true := by decide +kernel
set_option maxRecDepth 65536 in
theorem w_ripe : about1.ripe theMethod args0 below0 = true := by decide +kernel
theorem w_running : about1.status = .running := rfl
set_option maxRecDepth 65536 in
theorem w_room : about1.hasRoom e0.platform room_1 = true :=
  launch0.hasRoom_least _ room_1 (by decide +kernel) (by decide +kernel) (by decide +kernel) (by decide +kernel) (by decide +kernel) (by decide +kernel)
theorem allAtoms_all (ts : List Jvm.Cond) (a : Array Jvm.Value) (st : Jvm.State) : (allAtoms ts).before a st = ts.all (fun c => c.before a st) := by
  induction ts with
  | nil => rfl
  | cons c t ih =>
    show (Jvm.Cond.and c (allAtoms t)).before a st = _
    rw [Jvm.Cond.before_and, ih, List.all_cons]
def words1 : List Jvm.Cond := Jvm.Cond.code x code maxLocals ret :: tables_1
/-- a 'code' word, met by the world's own term for the bytes: nothing is compared byte by byte -/
theorem code_word {y : MethodName} {bytes : ByteArray} {mx : Nat} {rt : Option FieldType} {a : Array Value} {s : State} {m : MethodId} {meth : Method} {c : Code} (h1 : s.methodNamed? y = some m) (h2 : s.vm.method? m = some meth) (h3 : meth.code = some c) (h4 : c.code = bytes)
    (h5 : (c.maxLocals == mx && c.exceptionTable.isEmpty && decide (c.maxStack ≤ mostOperands) && decide (meth.sig.returnType = rt) && !meth.locks && decide (parseMethodDescriptor y.desc = some meth.sig)) = true) : (Jvm.Cond.code y bytes mx rt).before a s = true := by
  simp only [Bool.and_eq_true, beq_iff_eq, Bool.not_eq_true', decide_eq_true_eq] at h5
  obtain ⟨⟨⟨⟨⟨g1, g2⟩, g3⟩, g4⟩, g5⟩, g6⟩ := h5
  simp [Cond.before, Cond.holds, Cond.value, h1, h2, h3, h4, g1, g2, g3, g4, g5, g6]
def isCode : Jvm.Cond → Bool
  | .code _ _ _ _ => true
  | _ => false
theorem all_split {L : List Jvm.Cond} {P : Jvm.Cond → Bool} (h1 : L.all (fun c => isCode c || P c) = true) (h2 : ∀ c ∈ L.filter isCode, P c = true) : L.all P = true := by
  refine List.all_eq_true.mpr fun c hc => ?_
  have h := List.all_eq_true.mp h1 c hc
  rcases Bool.eq_false_or_eq_true (isCode c) with hi | hi
  · exact h2 c (List.mem_filter.mpr ⟨hc, hi⟩)
  · simpa [hi] using h
set_option maxRecDepth 65536 in
theorem w_c0 : (Jvm.Cond.code x code maxLocals ret).before args0 about1 = true := code_word (m := ⟨1, 2⟩) (meth := k1m2) (c := k1c2) (by decide +kernel) rfl rfl rfl (by decide +kernel)
set_option maxRecDepth 65536 in
theorem w_c1 : (Jvm.Cond.code ({ cls := "com/example/xml_document_query/xmldocumentquery/value/XmlCharacters", name := "isXmlChar", desc := "(I)Z" } : Jvm.MethodName) prog_233_method_10_code (1 : Nat) (Option.some Jvm.ClassFile.FieldType.boolean)).before args0 about1 = true := code_word (m := ⟨2, 1⟩) (meth := k2m1) (c := k2c1) (by decide +kernel) rfl rfl rfl (by decide +kernel)
set_option maxRecDepth 65536 in
theorem w_c2 : (Jvm.Cond.code ({ cls := "com/example/xml_document_query/xmldocumentquery/value/XmlCharactersIsXmlCharPinLaw", name := "ref", desc := "(I)Z" } : Jvm.MethodName) method_2_code (1 : Nat) (Option.some Jvm.ClassFile.FieldType.boolean)).before args0 about1 = true := code_word (m := ⟨1, 1⟩) (meth := k1m1) (c := k1c1) (by decide +kernel) rfl rfl rfl (by decide +kernel)
def codes1 : List Jvm.Cond := [Jvm.Cond.code x code maxLocals ret, Jvm.Cond.code ({ cls := "com/example/xml_document_query/xmldocumentquery/value/XmlCharacters", name := "isXmlChar", desc := "(I)Z" } : Jvm.MethodName) prog_233_method_10_code (1 : Nat) (Option.some Jvm.ClassFile.FieldType.boolean), Jvm.Cond.code ({ cls := "com/example/xml_document_query/xmldocumentquery/value/XmlCharactersIsXmlCharPinLaw", name := "ref", desc := "(I)Z" } : Jvm.MethodName) method_2_code (1 : Nat) (Option.some Jvm.ClassFile.FieldType.boolean)]
set_option maxRecDepth 65536 in
theorem codes_eq : words1.filter isCode = codes1 := rfl
theorem w_codes : ∀ c ∈ words1.filter isCode, c.before args0 about1 = true := by
  rw [codes_eq]
  intro c hc
  simp only [codes1, List.mem_cons, List.not_mem_nil, or_false] at hc
  rcases hc with rfl | rfl | rfl
  · exact w_c0
  · exact w_c1
  · exact w_c2
set_option maxRecDepth 65536 in
theorem w_t1 : (words1.take 24).all (fun c => isCode c || c.before args0 about1) = true := by decide +kernel
set_option maxRecDepth 65536 in
theorem w_t2 : (words1.drop 24).all (fun c => isCode c || c.before args0 about1) = true := by decide +kernel
theorem w_tables : (allAtoms (Jvm.Cond.code x code maxLocals ret :: tables_1)).before args0 about1 = true := by
  rw [allAtoms_all]
  show words1.all (fun c => c.before args0 about1) = true
  refine all_split ?_ w_codes
  rw [← List.take_append_drop 24 words1, List.all_append, w_t1, w_t2]
  rfl
set_option maxRecDepth 65536 in
theorem w_case : (Jvm.Cond.and given_1 narrow_1).before args0 about1 = true := by decide +kernel
theorem w_applies : (headSpec (Jvm.Cond.code x code maxLocals ret :: tables_1) room_1).applies x e0.platform about1 = true :=
  (Spec.applies_iff w_frames).mpr ⟨w_running, w_runnable, w_alone, w_named, w_hears, w_ripe, w_room, w_tables⟩
theorem atStart : AtStart classFile x code maxLocals ret World_1 tables_1 room_1 Calls_1 rest_1 Pre_1 launch0 p0 e0 about1 theMethod args0 below0 :=
  ⟨lists_1, trivial, launch0.admits_env _ _ _, launch0.least_env, fairChoices_fair.cas, fairChoices_fair.clock, w_frames, w_args, w_heap, w_applies, trivial, trivial, w_case⟩
end start1
theorem witness_1 : WitnessClaimed_1 := ⟨start1.p0, start1.e0, start1.about1, start1.theMethod, start1.args0, start1.below0, start1.atStart⟩
end Jvm.Pilot.@@N@@
