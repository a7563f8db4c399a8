import JvmDerived
import JvmDerived.Pilot.@@N@@Statement
import JvmDerived.Pilot.@@N@@Code
set_option linter.unusedVariables false
set_option linter.unusedSimpArgs false
namespace Jvm.RoadKit
open Sem ClassFile Op Lib Jvm.Stand Jvm.Free Jvm.LawKit
section Own
variable {p : Program} {l : Launch} {e : Env} {R : Room} {s : State} {m : MethodId} {args : Array Value} {below : List Frame} {meth : Method} {c : Code} {T A B : State} {locs : List Loc} {cells slots K N : Nat} {Q : Option Value → Heap → List Loc → Prop}
/-- from A the walk comes to its end, and Q holds there -/
def OutW (p : Program) (e : Env) (below : List Frame) (s : State) (K N : Nat) (Q : Option Value → Heap → List Loc → Prop) (A : State) : Prop :=
  ∃ s₂ o, Steps p.tables e below A s₂ ∧ s₂.status = .running ∧ Ended s₂ below o ∧ ∃ v L, o = .returned v ∧ Q v s₂.heap L ∧ FrameEnd s o s₂ L K N
/-- a body that writes nothing: what it returns -/
def Qpure (h0 : Heap) (n0 : Nat) (r : Value) (v : Option Value) (h : Heap) (L : List Loc) : Prop := v = some r ∧ Fr n0 L ∧ h = h0
theorem OutW.back (h : ∀ t, Steps p.tables e below B t → Steps p.tables e below A t) (k : OutW p e below s K N Q B) : OutW p e below s K N Q A := by
  obtain ⟨t, o, h1, h2⟩ := k
  exact ⟨t, o, h t h1, h2⟩
theorem OutW.via (h : Steps p.tables e below A B) (k : OutW p e below s K N Q B) : OutW p e below s K N Q A := by
  obtain ⟨t, o, h1, h2⟩ := k
  exact ⟨t, o, h.trans h1, h2⟩
theorem OutW.retV (X : Stand p l e R s m args below meth c T locs cells slots) (hx : p.tables.exec = Jvm.exec) {pc : Nat} {Ls : Array Slot} (hret : meth.sig.returnType = none) (hlk : meth.locks = false) (hd : decode c.code pc = .ok (.return_, 1))
    (hK : cells ≤ K) (hN : slots ≤ N) (hq : Q none T.heap locs) : OutW p e below s K N Q (T.setTop (mkF m pc Ls [])) := by
  obtain ⟨fs, hr, hrun, hended, hW, hsame⟩ := X.leave (v := none) (fun _ => rfl) hlk
  exact ⟨_, _, X.returnOut hx hret hd hr, hrun, hended, _, _, rfl, hq, ⟨_, rfl⟩, hW, hsame.mono hK hN⟩
theorem OutW.retI (X : Stand p l e R s m args below meth c T locs cells slots) (hx : p.tables.exec = Jvm.exec) {pc : Nat} {Ls : Array Slot} {z : Int32} {rest : List Value} (hret : meth.sig.returnType = some .int) (hlk : meth.locks = false) (hd : decode c.code pc = .ok (.ireturn, 1))
    (hK : cells ≤ K) (hN : slots ≤ N) (hq : Q (some (.int z)) T.heap locs) : OutW p e below s K N Q (T.setTop (mkF m pc Ls (.int z :: rest))) := by
  obtain ⟨fs, hr, hrun, hended, hW, hsame⟩ := X.leave (v := some (.int z)) (fun h => by rw [hret] at h; cases h) hlk
  exact ⟨_, _, retOut X hx hret rfl (Or.inl ⟨rfl, Or.inl rfl, z, rfl⟩) hd hr, hrun, hended, _, _, rfl, hq, ⟨_, rfl⟩, hW, hsame.mono hK hN⟩
theorem OutW.retJ (X : Stand p l e R s m args below meth c T locs cells slots) (hx : p.tables.exec = Jvm.exec) {pc : Nat} {Ls : Array Slot} {z : Int64} {rest : List Value} (hret : meth.sig.returnType = some .long) (hlk : meth.locks = false) (hd : decode c.code pc = .ok (.lreturn, 1))
    (hK : cells ≤ K) (hN : slots ≤ N) (hq : Q (some (.long z)) T.heap locs) : OutW p e below s K N Q (T.setTop (mkF m pc Ls (.long z :: rest))) := by
  obtain ⟨fs, hr, hrun, hended, hW, hsame⟩ := X.leave (v := some (.long z)) (fun h => by rw [hret] at h; cases h) hlk
  exact ⟨_, _, retOut X hx hret rfl (Or.inr (Or.inl ⟨rfl, rfl, z, rfl⟩)) hd hr, hrun, hended, _, _, rfl, hq, ⟨_, rfl⟩, hW, hsame.mono hK hN⟩
theorem nar_ref {t : FieldType} {v : Value} (h : v.isRef = true) : narrow t v = v := by
  rcases ref_cases h with rfl | ⟨a, rfl⟩ <;> cases t <;> rfl
theorem cat_ref {v : Value} (h : v.isRef = true) : v.category = 1 := by
  rcases ref_cases h with rfl | ⟨a, rfl⟩ <;> rfl
theorem fit_ref {t : FieldType} {v : Value} (ht : refKind t = true) (h : v.isRef = true) : fits t v = true := by
  rcases ref_cases h with rfl | ⟨a, rfl⟩ <;> cases t <;> first | rfl | (simp [refKind] at ht)
theorem OutW.retA (X : Stand p l e R s m args below meth c T locs cells slots) (hx : p.tables.exec = Jvm.exec) {pc : Nat} {Ls : Array Slot} {w : Value} {t : FieldType} {rest : List Value} (hret : meth.sig.returnType = some t) (ht : t.isReference = true) (hw : w.isRef = true) (hlk : meth.locks = false) (hd : decode c.code pc = .ok (.areturn, 1))
    (hK : cells ≤ K) (hN : slots ≤ N) (hq : Q (some w) T.heap locs) : OutW p e below s K N Q (T.setTop (mkF m pc Ls (w :: rest))) := by
  obtain ⟨fs, hr, hrun, hended, hW, hsame⟩ := X.leave (v := some w) (fun h => by rw [hret] at h; cases h) hlk
  exact ⟨_, _, retOut X hx hret (nar_ref hw) (Or.inr (Or.inr (Or.inr (Or.inr ⟨rfl, ht, hw⟩)))) hd hr, hrun, hended, _, _, rfl, hq, ⟨_, rfl⟩, hW, hsame.mono hK hN⟩
theorem OutW.retN (X : Stand p l e R s m args below meth c T locs cells slots) (hx : p.tables.exec = Jvm.exec) {pc : Nat} {Ls : Array Slot} {z z' : Int32} {t : FieldType} {rest : List Value} (hret : meth.sig.returnType = some t) (ht : t = .boolean ∨ t = .byte ∨ t = .char ∨ t = .short) (hlk : meth.locks = false) (hd : decode c.code pc = .ok (.ireturn, 1)) (hz : nar t z = z')
    (hK : cells ≤ K) (hN : slots ≤ N) (hq : Q (some (.int z')) T.heap locs) : OutW p e below s K N Q (T.setTop (mkF m pc Ls (.int z :: rest))) := by
  subst hz
  obtain ⟨fs, hr, hrun, hended, hW, hsame⟩ := X.leave (v := some (.int (nar t z))) (fun h => by rw [hret] at h; cases h) hlk
  exact ⟨_, _, Jvm.RoadKit.retN X hx hret ht hd hr, hrun, hended, _, _, rfl, hq, ⟨_, rfl⟩, hW, hsame.mono hK hN⟩
theorem store1' {L L' : Array Slot} {i : Nat} {v : Value} {o : Slot} (hold : L[i]? = some o) (ho : One o) (hv : v.category = 1) (h : L.setIfInBounds i (.val v) = L') : storeLocals L i v = some L' := h ▸ XS.store1 hold ho hv
theorem own_lt_mono {x a b : Int32} (h : x < a) (q : a ≤ b) : x < b := by
  rw [Int32.lt_iff_toInt_lt] at *
  rw [Int32.le_iff_toInt_le] at q
  omega
theorem own_nlt_mono {x a b : Int32} (h : ¬ x < a) (q : b ≤ a) : ¬ x < b := by
  rw [Int32.lt_iff_toInt_lt] at *
  rw [Int32.le_iff_toInt_le] at q
  omega
/-- every element of the array's cell is an object of exactly that class -/
def Els (Z : State) (h : Heap) (cl : Cell) (C : String) : Prop := ∀ j : Int32, ¬ (j < 0 ∨ cl.slots.size ≤ j.toNatClampNeg) → ∃ y : Addr, cl.slots[j.toNatClampNeg]? = some (.ref y) ∧ Exa Z h y C
theorem own_Uext {Z : State} {h h' : Heap} {cl : Cell} {C : String} (U : Els Z h cl C) (E : Ext h h') : Els Z h' cl C := fun j hj => by
  obtain ⟨y, a, b⟩ := U j hj
  exact ⟨y, a, b.ext E⟩
theorem own_Uwr {Z : State} {h h' : Heap} {cl : Cell} {C : String} {a : Addr} {sl : Nat} {v : Value} (U : Els Z h cl C) (W : Wr h h' a sl v) : Els Z h' cl C := fun j hj => by
  obtain ⟨y, q, b⟩ := U j hj
  exact ⟨y, q, b.wr W⟩
theorem own_Ukeep {Z : State} {h h' : Heap} {cl : Cell} {C : String} {ws : List Addr} (U : Els Z h cl C) (K : Keep h h' ws) : Els Z h' cl C := fun j hj => by
  obtain ⟨y, a, b⟩ := U j hj
  exact ⟨y, a, b.keep K⟩
theorem own_Akeep {Z : State} {h h' : Heap} {a : Addr} {c : Cell} {ty : FieldType} {ws : List Addr} (A : Arr Z h a c ty) (K : Keep h h' ws) (q : a ∉ ws) : Arr Z h' a c ty := ⟨K.2.1 a c A.1 q, A.2⟩
theorem own_notFace {args : Array Value} {s : State} {C : String} {x z y : MethodName} (h : (Cond.selects C x z).before args s = true) (e : y.cls = z.cls) : NotFace s y := fun r0 h0 => by
  obtain ⟨c, r, m, q1, q2, q3, q4, mk, k1, k2⟩ := Cond.selects_spec h
  have a := findClass_of_methodNamed h0
  have b := findClass_of_methodNamed q3
  rw [e] at a
  have i : r0.cls = m.cls := Option.some.inj (a.symm.trans b)
  exact ⟨mk, by rw [i]; exact k1, k2⟩
theorem own_keepS {Z : State} {h h' : Heap} {C n d : String} {v : Value} {ws : List Addr} (F : Sta Z h C n d v) (K : Keep h h' ws) (q : ∀ x ∈ ws, ∃ C', Exa Z h x C') : Sta Z h' C n d v := by
  obtain ⟨cf, i, k, f, st, cell, h1, h2, h3, h4, h5, h6, h7⟩ := F
  have ne : st ∉ ws := fun hm => by
    obtain ⟨C', c', k', e1, -, -, e4, -⟩ := q st hm
    cases h5.symm.trans e1
    rw [h6] at e4; cases e4
  exact ⟨cf, i, k, f, st, cell, h1, h2, h3, h4, K.2.1 _ _ h5 ne, h6, h7⟩
end Own
end Jvm.RoadKit
namespace Jvm.Pilot.@@N@@
open Jvm Jvm.ClassFile Sem Op Lib Jvm.Free Jvm.Stand Jvm.LawKit Jvm.RoadKit Bundle Jvm.Pilot.@@N@@.Jvm.D
theorem d11_22 : decode prog_168_method_5_code 22 = .ok (.aload_n 0, 1) := by decide +kernel
theorem d11_23 : decode prog_168_method_5_code 23 = .ok (.getfield 28, 3) := by decide +kernel
theorem d11_26 : decode prog_168_method_5_code 26 = .ok (.iconst (-1), 1) := by decide +kernel
theorem d11_27 : decode prog_168_method_5_code 27 = .ok (.iload_n 1, 1) := by decide +kernel
theorem d11_28 : decode prog_168_method_5_code 28 = .ok (.isub, 1) := by decide +kernel
theorem d11_29 : decode prog_168_method_5_code 29 = .ok (.iload_n 2, 1) := by decide +kernel
theorem d11_30 : decode prog_168_method_5_code 30 = .ok (.invokevirtual 42, 3) := by decide +kernel
theorem d12_21 : decode prog_168_method_4_code 21 = .ok (.aload_n 0, 1) := by decide +kernel
theorem d12_22 : decode prog_168_method_4_code 22 = .ok (.getfield 28, 3) := by decide +kernel
theorem d12_25 : decode prog_168_method_4_code 25 = .ok (.iconst (-1), 1) := by decide +kernel
theorem d12_26 : decode prog_168_method_4_code 26 = .ok (.iload_n 1, 1) := by decide +kernel
theorem d12_27 : decode prog_168_method_4_code 27 = .ok (.isub, 1) := by decide +kernel
theorem d12_28 : decode prog_168_method_4_code 28 = .ok (.invokevirtual 38, 3) := by decide +kernel
theorem own_caps (s v : Int32) (h : ((1 : Int32) <<< ((((s.toUInt32 >>> ((2 : Int32) &&& 31).toUInt32).toInt32) &&& (3 : Int32)) &&& 31)) = v) : v = (1 : Int32) ∨ v = (2 : Int32) ∨ v = (4 : Int32) ∨ v = (8 : Int32) := by
  have q := c_and ((s.toUInt32 >>> ((2 : Int32) &&& 31).toUInt32).toInt32) (3 : Int32) (by decide)
  generalize ((s.toUInt32 >>> ((2 : Int32) &&& 31).toUInt32).toInt32) &&& (3 : Int32) = k at *
  have e : k = (0 : Int32) ∨ k = (1 : Int32) ∨ k = (2 : Int32) ∨ k = (3 : Int32) := by
    simp only [← Int32.toInt_inj, Int32.reduceToInt] at q ⊢
    omega
  rcases e with rfl | rfl | rfl | rfl <;> subst h <;> decide
theorem own_is (s v : Int32) (h : ((s &&& (3 : Int32)) - (2 : Int32)) = v) : v = (-2 : Int32) ∨ v = (-1 : Int32) ∨ v = (0 : Int32) ∨ v = (1 : Int32) := by
  have q := c_and s (3 : Int32) (by decide)
  generalize s &&& (3 : Int32) = k at *
  have e : k = (0 : Int32) ∨ k = (1 : Int32) ∨ k = (2 : Int32) ∨ k = (3 : Int32) := by
    simp only [← Int32.toInt_inj, Int32.reduceToInt] at q ⊢
    omega
  rcases e with rfl | rfl | rfl | rfl <;> subst h <;> decide
theorem d2_0 : decode prog_165_method_1_code 0 = .ok (.aload_n 0, 1) := by decide +kernel
theorem d2_1 : decode prog_165_method_1_code 1 = .ok (.invokespecial 1, 3) := by decide +kernel
theorem d2_4 : decode prog_165_method_1_code 4 = .ok (.aload_n 0, 1) := by decide +kernel
theorem d2_5 : decode prog_165_method_1_code 5 = .ok (.iload_n 1, 1) := by decide +kernel
theorem d2_6 : decode prog_165_method_1_code 6 = .ok (.putfield 7, 3) := by decide +kernel
theorem d2_9 : decode prog_165_method_1_code 9 = .ok (.aload_n 0, 1) := by decide +kernel
theorem d2_10 : decode prog_165_method_1_code 10 = .ok (.iload_n 2, 1) := by decide +kernel
theorem d2_11 : decode prog_165_method_1_code 11 = .ok (.putfield 13, 3) := by decide +kernel
theorem d2_14 : decode prog_165_method_1_code 14 = .ok (.return_, 1) := by decide +kernel
theorem pn_2 : plainName "com/example/xml_document_query/xmldocumentquery/tree/BlockedArray" = true := by first | (simp [plainName, overriddenIn]; done) | decide +kernel
theorem ef_2 (m : MethodId) (x0 : Addr) (x1 : Int32) (x2 : Int32) : entryFrame m #[(.ref x0), (.int x1), (.int x2)] 3 = mkF m 0 #[.val (.ref x0), .val (.int x1), .val (.int x2)] [] := by first | (simp [entryFrame, mkF, argsToLocals, Value.category]; done) | rfl
def Q2 (Z : State) (a1 : Addr) (p2 : Int32) (p3 : Int32)  (h0 : Heap) (n0 : Nat) (v : Option Value) (h : Heap) (L : List Loc) : Prop := v = none ∧ Fr n0 L ∧ Keep h0 h [a1] ∧ Fld Z h a1 "com/example/xml_document_query/xmldocumentquery/tree/BlockedArray" "blockBits" "I" (.int p2) ∧ Fld Z h a1 "com/example/xml_document_query/xmldocumentquery/tree/BlockedArray" "capacity" "I" (.int p3)
set_option maxRecDepth 65536 in
set_option maxHeartbeats 40000000 in
theorem rm2 (l : Launch) (Z : State) (a0 : Array Value) (hw : ∀ d ∈ tables_1, d.before a0 Z = true) (ws : List Jvm.Cond) (a1 : Addr) (p2 : Int32) (p3 : Int32)  (h0 : Heap) (n0 : Nat) (Z0 : n0 ≤ h0.size) (E_a1 : Exa Z h0 a1 "com/example/xml_document_query/xmldocumentquery/tree/IntColumn") (g_a1 : n0 ≤ a1) (F_blockBits_a1 : Fld Z h0 a1 "com/example/xml_document_query/xmldocumentquery/tree/BlockedArray" "blockBits" "I" (.int (0 : Int32))) (F_capacity_a1 : Fld Z h0 a1 "com/example/xml_document_query/xmldocumentquery/tree/BlockedArray" "capacity" "I" (.int (0 : Int32))) :
    MetFree l (⟨"com/example/xml_document_query/xmldocumentquery/tree/BlockedArray", "<init>", "(II)V"⟩ : MethodName) (head1 (Jvm.Cond.code (⟨"com/example/xml_document_query/xmldocumentquery/tree/BlockedArray", "<init>", "(II)V"⟩ : MethodName) prog_165_method_1_code 3 none :: ws) ({ frames := 1, cells := 0, slots := 0, locals := 12 } : Room)) (fun a U => a = #[(.ref a1), (.int p2), (.int p3)] ∧ Z.Warmed39 U.vm ∧ U.heap = h0) (fun _ _ _ _ _ => True) (fun _ U o U' => ∃ v L, o = .returned v ∧ Q2 Z a1 p2 p3 h0 n0 v U'.heap L ∧ FrameEnd U o U' L ({ frames := 1, cells := 0, slots := 0, locals := 12 } : Room).cells ({ frames := 1, cells := 0, slots := 0, locals := 12 } : Room).slots) := by
  refine MetFree.of_bodySF (plainFor_of_name pn_2) hisR ?_
  intro p e s m args below meth c s₁ Bd hml0 hP hK
  obtain ⟨rfl, hZ, hh⟩ := hP
  have hx := Bd.exec
  have hby := Bd.bytes
  have hlk := Bd.notSynchronized
  have hml : c.maxLocals = 3 := hml0
  have hown : s.vm.findClass "com/example/xml_document_query/xmldocumentquery/tree/BlockedArray" = some m.cls := findClass_of_methodNamed Bd.named
  have hnm := (name_of_methodNamed Bd.named Bd.method).1
  have X0 : Stand p l e ({ frames := 1, cells := 0, slots := 0, locals := 12 } : Room) s m #[(.ref a1), (.int p2), (.int p3)] below meth c s₁ [] 0 0 := Stand.of_body Bd
  have e0 : s₁.heap = h0 := by rw [← hh, Bd.state]; rfl
  have N0 := Fr.nil n0
  have K0 : Keep h0 h0 [a1] := Keep.refl h0 _
  show OutW p e below s ({ frames := 1, cells := 0, slots := 0, locals := 12 } : Room).cells ({ frames := 1, cells := 0, slots := 0, locals := 12 } : Room).slots (Q2 Z a1 p2 p3 h0 n0) _
  refine OutW.back (fun t k => castTop (ef_2 m a1 p2 p3) k) ?_
  show OutW _ _ _ _ _ _ _ (s₁.setTop (mkF m 0 #[.val (.ref a1), .val (.int p2), .val (.int p3)] []))
  refine OutW.back (fun t k => XS.aloadN X0.here hx rfl (hb hby d2_0) rfl rfl  k) ?_
  show OutW _ _ _ _ _ _ _ (s₁.setTop (mkF m 1 #[.val (.ref a1), .val (.int p2), .val (.int p3)] [(.ref a1)]))
  obtain ⟨T1, X1, e1, st1⟩ := initO X0 hx hZ hown (hw _ (List.mem_of_getElem? (i := 11) rfl)) (hw _ (List.mem_of_getElem? (i := 12) rfl)) (hw _ (List.mem_of_getElem? (i := 13) rfl)) e0 (g := (mkF m 1 #[.val (.ref a1), .val (.int p2), .val (.int p3)] [(.ref a1)])) rfl (by rw [hml]; rfl) rfl (hb hby d2_1) (by decide) (W := 0) (by show 2 * 0 + _ ≤ _; exact Nat.le_of_eq rfl) (by decide)
  refine OutW.back st1 ?_
  show OutW _ _ _ _ _ _ _ (T1.setTop (mkF m 4 #[.val (.ref a1), .val (.int p2), .val (.int p3)] []))
  refine OutW.back (fun t k => XS.aloadN X1.here hx rfl (hb hby d2_4) rfl rfl  k) ?_
  show OutW _ _ _ _ _ _ _ (T1.setTop (mkF m 5 #[.val (.ref a1), .val (.int p2), .val (.int p3)] [(.ref a1)]))
  refine OutW.back (fun t k => XS.iloadN X1.here hx rfl (hb hby d2_5) rfl  k) ?_
  show OutW _ _ _ _ _ _ _ (T1.setTop (mkF m 6 #[.val (.ref a1), .val (.int p2), .val (.int p3)] [(.int p2), (.ref a1)]))
  obtain ⟨T2, h2, X2, e2, W2, st2⟩ := putF X1 hx hZ hown (host := "") (Or.inl (hw _ (List.mem_of_getElem? (i := 14) rfl))) Via.refl e1 F_blockBits_a1 E_a1 (Or.inr ⟨(hw _ (List.mem_of_getElem? (i := 15) rfl)), rfl, hnm⟩) (hw _ (List.mem_of_getElem? (i := 1) rfl)) (ty := .int) (by decide) rfl rfl (g := (mkF m 6 #[.val (.ref a1), .val (.int p2), .val (.int p3)] [(.int p2), (.ref a1)])) rfl rfl (hb hby d2_6)
  have E_a1 := E_a1.wr W2
  have F_blockBits_a1 := F_blockBits_a1.same W2
  have F_capacity_a1 := F_capacity_a1.other W2 (Or.inr (slot_ne (Or.inl (hw _ (List.mem_of_getElem? (i := 17) rfl))) (Or.inr (hw _ (List.mem_of_getElem? (i := 15) rfl))) (by decide) (t := .int) (t' := .int) (by decide) (by decide)))
  have N2 := Fr.snoc X2 N0 g_a1
  have Z2 : n0 ≤ h2.size := Nat.le_trans Z0 (Keep.of_wr W2).1
  have K2 := K0.wr W2 (Or.inl (List.mem_of_getElem? (i := 0) rfl))
  obtain ⟨lc2, X2, N2⟩ : ∃ lc, Stand p l e ({ frames := 1, cells := 0, slots := 0, locals := 12 } : Room) s m #[(.ref a1), (.int p2), (.int p3)] below meth c T2 lc 0 0 ∧ Fr n0 lc := ⟨_, X2, N2⟩
  refine OutW.back st2 ?_
  show OutW _ _ _ _ _ _ _ (T2.setTop (mkF m 9 #[.val (.ref a1), .val (.int p2), .val (.int p3)] []))
  refine OutW.back (fun t k => XS.aloadN X2.here hx rfl (hb hby d2_9) rfl rfl  k) ?_
  show OutW _ _ _ _ _ _ _ (T2.setTop (mkF m 10 #[.val (.ref a1), .val (.int p2), .val (.int p3)] [(.ref a1)]))
  refine OutW.back (fun t k => XS.iloadN X2.here hx rfl (hb hby d2_10) rfl  k) ?_
  show OutW _ _ _ _ _ _ _ (T2.setTop (mkF m 11 #[.val (.ref a1), .val (.int p2), .val (.int p3)] [(.int p3), (.ref a1)]))
  obtain ⟨T3, h3, X3, e3, W3, st3⟩ := putF X2 hx hZ hown (host := "") (Or.inl (hw _ (List.mem_of_getElem? (i := 16) rfl))) Via.refl e2 F_capacity_a1 E_a1 (Or.inl (hw _ (List.mem_of_getElem? (i := 17) rfl))) (hw _ (List.mem_of_getElem? (i := 1) rfl)) (ty := .int) (by decide) rfl rfl (g := (mkF m 11 #[.val (.ref a1), .val (.int p2), .val (.int p3)] [(.int p3), (.ref a1)])) rfl rfl (hb hby d2_11)
  have E_a1 := E_a1.wr W3
  have F_blockBits_a1 := F_blockBits_a1.other W3 (Or.inr (slot_ne (Or.inr (hw _ (List.mem_of_getElem? (i := 15) rfl))) (Or.inl (hw _ (List.mem_of_getElem? (i := 17) rfl))) (by decide) (t := .int) (t' := .int) (by decide) (by decide)))
  have F_capacity_a1 := F_capacity_a1.same W3
  have N3 := Fr.snoc X3 N2 g_a1
  have Z3 : n0 ≤ h3.size := Nat.le_trans Z2 (Keep.of_wr W3).1
  have K3 := K2.wr W3 (Or.inl (List.mem_of_getElem? (i := 0) rfl))
  obtain ⟨lc3, X3, N3⟩ : ∃ lc, Stand p l e ({ frames := 1, cells := 0, slots := 0, locals := 12 } : Room) s m #[(.ref a1), (.int p2), (.int p3)] below meth c T3 lc 0 0 ∧ Fr n0 lc := ⟨_, X3, N3⟩
  refine OutW.back st3 ?_
  show OutW _ _ _ _ _ _ _ (T3.setTop (mkF m 14 #[.val (.ref a1), .val (.int p2), .val (.int p3)] []))
  refine OutW.retV X3 hx Bd.returns hlk (hb hby d2_14) (by decide) (by decide) ?_
  show Q2 Z a1 p2 p3 h0 n0 _ T3.heap _
  rw [e3]
  exact ⟨rfl, N3, K3, F_blockBits_a1, F_capacity_a1⟩
theorem ef_2x (m : MethodId) (x0 : Addr) (x1 : Int32) (x2 : Int32) : entryFrame m #[(.ref x0), (.int x1), (.int x2)] 3 = mkF m 0 #[.val (.ref x0), .val (.int x1), .val (.int x2)] [] := by first | (simp [entryFrame, mkF, argsToLocals, Value.category]; done) | rfl
def Q2x (Z : State) (a1 : Addr) (p2 : Int32) (p3 : Int32)  (h0 : Heap) (n0 : Nat) (v : Option Value) (h : Heap) (L : List Loc) : Prop := v = none ∧ Fr n0 L ∧ Keep h0 h [a1] ∧ Fld Z h a1 "com/example/xml_document_query/xmldocumentquery/tree/BlockedArray" "blockBits" "I" (.int p2) ∧ Fld Z h a1 "com/example/xml_document_query/xmldocumentquery/tree/BlockedArray" "capacity" "I" (.int p3) ∧ Fld Z h a1 "com/example/xml_document_query/xmldocumentquery/tree/IntColumn" "size" "I" (.int (0 : Int32)) ∧ Fld Z h a1 "com/example/xml_document_query/xmldocumentquery/tree/IntColumn" "blocks" "[[I" .null ∧ Fld Z h a1 "com/example/xml_document_query/xmldocumentquery/tree/IntColumn" "before" "Lcom/example/xml_document_query/xmldocumentquery/tree/IntColumn;" .null
set_option maxRecDepth 65536 in
set_option maxHeartbeats 40000000 in
theorem rm2x (l : Launch) (Z : State) (a0 : Array Value) (hw : ∀ d ∈ tables_1, d.before a0 Z = true) (ws : List Jvm.Cond) (a1 : Addr) (p2 : Int32) (p3 : Int32)  (h0 : Heap) (n0 : Nat) (Z0 : n0 ≤ h0.size) (E_a1 : Exa Z h0 a1 "com/example/xml_document_query/xmldocumentquery/tree/IntColumn") (g_a1 : n0 ≤ a1) (F_blockBits_a1 : Fld Z h0 a1 "com/example/xml_document_query/xmldocumentquery/tree/BlockedArray" "blockBits" "I" (.int (0 : Int32))) (F_capacity_a1 : Fld Z h0 a1 "com/example/xml_document_query/xmldocumentquery/tree/BlockedArray" "capacity" "I" (.int (0 : Int32))) (F_size_a1 : Fld Z h0 a1 "com/example/xml_document_query/xmldocumentquery/tree/IntColumn" "size" "I" (.int (0 : Int32))) (F_blocks_a1 : Fld Z h0 a1 "com/example/xml_document_query/xmldocumentquery/tree/IntColumn" "blocks" "[[I" .null) (F_before_a1 : Fld Z h0 a1 "com/example/xml_document_query/xmldocumentquery/tree/IntColumn" "before" "Lcom/example/xml_document_query/xmldocumentquery/tree/IntColumn;" .null) :
    MetFree l (⟨"com/example/xml_document_query/xmldocumentquery/tree/BlockedArray", "<init>", "(II)V"⟩ : MethodName) (head1 (Jvm.Cond.code (⟨"com/example/xml_document_query/xmldocumentquery/tree/BlockedArray", "<init>", "(II)V"⟩ : MethodName) prog_165_method_1_code 3 none :: ws) ({ frames := 1, cells := 0, slots := 0, locals := 12 } : Room)) (fun a U => a = #[(.ref a1), (.int p2), (.int p3)] ∧ Z.Warmed39 U.vm ∧ U.heap = h0) (fun _ _ _ _ _ => True) (fun _ U o U' => ∃ v L, o = .returned v ∧ Q2x Z a1 p2 p3 h0 n0 v U'.heap L ∧ FrameEnd U o U' L ({ frames := 1, cells := 0, slots := 0, locals := 12 } : Room).cells ({ frames := 1, cells := 0, slots := 0, locals := 12 } : Room).slots) := by
  refine MetFree.of_bodySF (plainFor_of_name pn_2) hisR ?_
  intro p e s m args below meth c s₁ Bd hml0 hP hK
  obtain ⟨rfl, hZ, hh⟩ := hP
  have hx := Bd.exec
  have hby := Bd.bytes
  have hlk := Bd.notSynchronized
  have hml : c.maxLocals = 3 := hml0
  have hown : s.vm.findClass "com/example/xml_document_query/xmldocumentquery/tree/BlockedArray" = some m.cls := findClass_of_methodNamed Bd.named
  have hnm := (name_of_methodNamed Bd.named Bd.method).1
  have X0 : Stand p l e ({ frames := 1, cells := 0, slots := 0, locals := 12 } : Room) s m #[(.ref a1), (.int p2), (.int p3)] below meth c s₁ [] 0 0 := Stand.of_body Bd
  have e0 : s₁.heap = h0 := by rw [← hh, Bd.state]; rfl
  have N0 := Fr.nil n0
  have K0 : Keep h0 h0 [a1] := Keep.refl h0 _
  show OutW p e below s ({ frames := 1, cells := 0, slots := 0, locals := 12 } : Room).cells ({ frames := 1, cells := 0, slots := 0, locals := 12 } : Room).slots (Q2x Z a1 p2 p3 h0 n0) _
  refine OutW.back (fun t k => castTop (ef_2x m a1 p2 p3) k) ?_
  show OutW _ _ _ _ _ _ _ (s₁.setTop (mkF m 0 #[.val (.ref a1), .val (.int p2), .val (.int p3)] []))
  refine OutW.back (fun t k => XS.aloadN X0.here hx rfl (hb hby d2_0) rfl rfl  k) ?_
  show OutW _ _ _ _ _ _ _ (s₁.setTop (mkF m 1 #[.val (.ref a1), .val (.int p2), .val (.int p3)] [(.ref a1)]))
  obtain ⟨T1, X1, e1, st1⟩ := initO X0 hx hZ hown (hw _ (List.mem_of_getElem? (i := 11) rfl)) (hw _ (List.mem_of_getElem? (i := 12) rfl)) (hw _ (List.mem_of_getElem? (i := 13) rfl)) e0 (g := (mkF m 1 #[.val (.ref a1), .val (.int p2), .val (.int p3)] [(.ref a1)])) rfl (by rw [hml]; rfl) rfl (hb hby d2_1) (by decide) (W := 0) (by show 2 * 0 + _ ≤ _; exact Nat.le_of_eq rfl) (by decide)
  refine OutW.back st1 ?_
  show OutW _ _ _ _ _ _ _ (T1.setTop (mkF m 4 #[.val (.ref a1), .val (.int p2), .val (.int p3)] []))
  refine OutW.back (fun t k => XS.aloadN X1.here hx rfl (hb hby d2_4) rfl rfl  k) ?_
  show OutW _ _ _ _ _ _ _ (T1.setTop (mkF m 5 #[.val (.ref a1), .val (.int p2), .val (.int p3)] [(.ref a1)]))
  refine OutW.back (fun t k => XS.iloadN X1.here hx rfl (hb hby d2_5) rfl  k) ?_
  show OutW _ _ _ _ _ _ _ (T1.setTop (mkF m 6 #[.val (.ref a1), .val (.int p2), .val (.int p3)] [(.int p2), (.ref a1)]))
  obtain ⟨T2, h2, X2, e2, W2, st2⟩ := putF X1 hx hZ hown (host := "") (Or.inl (hw _ (List.mem_of_getElem? (i := 14) rfl))) Via.refl e1 F_blockBits_a1 E_a1 (Or.inr ⟨(hw _ (List.mem_of_getElem? (i := 15) rfl)), rfl, hnm⟩) (hw _ (List.mem_of_getElem? (i := 1) rfl)) (ty := .int) (by decide) rfl rfl (g := (mkF m 6 #[.val (.ref a1), .val (.int p2), .val (.int p3)] [(.int p2), (.ref a1)])) rfl rfl (hb hby d2_6)
  have E_a1 := E_a1.wr W2
  have F_blockBits_a1 := F_blockBits_a1.same W2
  have F_capacity_a1 := F_capacity_a1.other W2 (Or.inr (slot_ne (Or.inl (hw _ (List.mem_of_getElem? (i := 17) rfl))) (Or.inr (hw _ (List.mem_of_getElem? (i := 15) rfl))) (by decide) (t := .int) (t' := .int) (by decide) (by decide)))
  have F_size_a1 := F_size_a1.other W2 (Or.inr (slot_ne (Or.inl (hw _ (List.mem_of_getElem? (i := 30) rfl))) (Or.inr (hw _ (List.mem_of_getElem? (i := 15) rfl))) (by decide) (t := .int) (t' := .int) (by decide) (by decide)))
  have F_blocks_a1 := F_blocks_a1.other W2 (Or.inr (slot_ne (Or.inl (hw _ (List.mem_of_getElem? (i := 23) rfl))) (Or.inr (hw _ (List.mem_of_getElem? (i := 15) rfl))) (by decide) (t := (.array (.array .int))) (t' := .int) (by decide) (by decide)))
  have F_before_a1 := F_before_a1.other W2 (Or.inr (slot_ne (Or.inl (hw _ (List.mem_of_getElem? (i := 68) rfl))) (Or.inr (hw _ (List.mem_of_getElem? (i := 15) rfl))) (by decide) (t := (.object "com/example/xml_document_query/xmldocumentquery/tree/IntColumn")) (t' := .int) (by decide) (by decide)))
  have N2 := Fr.snoc X2 N0 g_a1
  have Z2 : n0 ≤ h2.size := Nat.le_trans Z0 (Keep.of_wr W2).1
  have K2 := K0.wr W2 (Or.inl (List.mem_of_getElem? (i := 0) rfl))
  obtain ⟨lc2, X2, N2⟩ : ∃ lc, Stand p l e ({ frames := 1, cells := 0, slots := 0, locals := 12 } : Room) s m #[(.ref a1), (.int p2), (.int p3)] below meth c T2 lc 0 0 ∧ Fr n0 lc := ⟨_, X2, N2⟩
  refine OutW.back st2 ?_
  show OutW _ _ _ _ _ _ _ (T2.setTop (mkF m 9 #[.val (.ref a1), .val (.int p2), .val (.int p3)] []))
  refine OutW.back (fun t k => XS.aloadN X2.here hx rfl (hb hby d2_9) rfl rfl  k) ?_
  show OutW _ _ _ _ _ _ _ (T2.setTop (mkF m 10 #[.val (.ref a1), .val (.int p2), .val (.int p3)] [(.ref a1)]))
  refine OutW.back (fun t k => XS.iloadN X2.here hx rfl (hb hby d2_10) rfl  k) ?_
  show OutW _ _ _ _ _ _ _ (T2.setTop (mkF m 11 #[.val (.ref a1), .val (.int p2), .val (.int p3)] [(.int p3), (.ref a1)]))
  obtain ⟨T3, h3, X3, e3, W3, st3⟩ := putF X2 hx hZ hown (host := "") (Or.inl (hw _ (List.mem_of_getElem? (i := 16) rfl))) Via.refl e2 F_capacity_a1 E_a1 (Or.inl (hw _ (List.mem_of_getElem? (i := 17) rfl))) (hw _ (List.mem_of_getElem? (i := 1) rfl)) (ty := .int) (by decide) rfl rfl (g := (mkF m 11 #[.val (.ref a1), .val (.int p2), .val (.int p3)] [(.int p3), (.ref a1)])) rfl rfl (hb hby d2_11)
  have E_a1 := E_a1.wr W3
  have F_blockBits_a1 := F_blockBits_a1.other W3 (Or.inr (slot_ne (Or.inr (hw _ (List.mem_of_getElem? (i := 15) rfl))) (Or.inl (hw _ (List.mem_of_getElem? (i := 17) rfl))) (by decide) (t := .int) (t' := .int) (by decide) (by decide)))
  have F_capacity_a1 := F_capacity_a1.same W3
  have F_size_a1 := F_size_a1.other W3 (Or.inr (slot_ne (Or.inl (hw _ (List.mem_of_getElem? (i := 30) rfl))) (Or.inl (hw _ (List.mem_of_getElem? (i := 17) rfl))) (by decide) (t := .int) (t' := .int) (by decide) (by decide)))
  have F_blocks_a1 := F_blocks_a1.other W3 (Or.inr (slot_ne (Or.inl (hw _ (List.mem_of_getElem? (i := 23) rfl))) (Or.inl (hw _ (List.mem_of_getElem? (i := 17) rfl))) (by decide) (t := (.array (.array .int))) (t' := .int) (by decide) (by decide)))
  have F_before_a1 := F_before_a1.other W3 (Or.inr (slot_ne (Or.inl (hw _ (List.mem_of_getElem? (i := 68) rfl))) (Or.inl (hw _ (List.mem_of_getElem? (i := 17) rfl))) (by decide) (t := (.object "com/example/xml_document_query/xmldocumentquery/tree/IntColumn")) (t' := .int) (by decide) (by decide)))
  have N3 := Fr.snoc X3 N2 g_a1
  have Z3 : n0 ≤ h3.size := Nat.le_trans Z2 (Keep.of_wr W3).1
  have K3 := K2.wr W3 (Or.inl (List.mem_of_getElem? (i := 0) rfl))
  obtain ⟨lc3, X3, N3⟩ : ∃ lc, Stand p l e ({ frames := 1, cells := 0, slots := 0, locals := 12 } : Room) s m #[(.ref a1), (.int p2), (.int p3)] below meth c T3 lc 0 0 ∧ Fr n0 lc := ⟨_, X3, N3⟩
  refine OutW.back st3 ?_
  show OutW _ _ _ _ _ _ _ (T3.setTop (mkF m 14 #[.val (.ref a1), .val (.int p2), .val (.int p3)] []))
  refine OutW.retV X3 hx Bd.returns hlk (hb hby d2_14) (by decide) (by decide) ?_
  show Q2x Z a1 p2 p3 h0 n0 _ T3.heap _
  rw [e3]
  exact ⟨rfl, N3, K3, F_blockBits_a1, F_capacity_a1, F_size_a1, F_blocks_a1, F_before_a1⟩
theorem pd_0 : parseMethodDescriptor "(II)V" = some ⟨[.int, .int], none⟩ := by decide +kernel
theorem d1_0 : decode prog_168_method_1_code 0 = .ok (.aload_n 0, 1) := by decide +kernel
theorem d1_1 : decode prog_168_method_1_code 1 = .ok (.bipush 16, 2) := by decide +kernel
theorem d1_3 : decode prog_168_method_1_code 3 = .ok (.iload_n 1, 1) := by decide +kernel
theorem d1_4 : decode prog_168_method_1_code 4 = .ok (.invokespecial 3, 3) := by decide +kernel
theorem d1_7 : decode prog_168_method_1_code 7 = .ok (.aload_n 0, 1) := by decide +kernel
theorem d1_8 : decode prog_168_method_1_code 8 = .ok (.iconst 1, 1) := by decide +kernel
theorem d1_9 : decode prog_168_method_1_code 9 = .ok (.anewarray 9, 3) := by decide +kernel
theorem d1_12 : decode prog_168_method_1_code 12 = .ok (.dup, 1) := by decide +kernel
theorem d1_13 : decode prog_168_method_1_code 13 = .ok (.iconst 0, 1) := by decide +kernel
theorem d1_14 : decode prog_168_method_1_code 14 = .ok (.iload_n 1, 1) := by decide +kernel
theorem d1_15 : decode prog_168_method_1_code 15 = .ok (.newarray .int, 2) := by decide +kernel
theorem d1_17 : decode prog_168_method_1_code 17 = .ok (.aastore, 1) := by decide +kernel
theorem d1_18 : decode prog_168_method_1_code 18 = .ok (.putfield 11, 3) := by decide +kernel
theorem d1_21 : decode prog_168_method_1_code 21 = .ok (.return_, 1) := by decide +kernel
theorem pn_1 : plainName "com/example/xml_document_query/xmldocumentquery/tree/IntColumn" = true := by first | (simp [plainName, overriddenIn]; done) | decide +kernel
theorem ef_1_1 (m : MethodId) (x0 : Addr) : entryFrame m #[(.ref x0), (.int (1 : Int32))] 2 = mkF m 0 #[.val (.ref x0), .val (.int (1 : Int32))] [] := by first | (simp [entryFrame, mkF, argsToLocals, Value.category]; done) | rfl
def Q1_1 (Z : State) (a1 : Addr)  (h0 : Heap) (n0 : Nat) (v : Option Value) (h : Heap) (L : List Loc) : Prop := ∃ bN : Addr, ∃ dN : Addr, ∃ kB : ClassId, ∃ kD : ClassId, v = none ∧ Fr n0 L ∧ Keep h0 h [a1] ∧ Fld Z h a1 "com/example/xml_document_query/xmldocumentquery/tree/BlockedArray" "blockBits" "I" (.int (16 : Int32)) ∧ Fld Z h a1 "com/example/xml_document_query/xmldocumentquery/tree/BlockedArray" "capacity" "I" (.int (1 : Int32)) ∧ Fld Z h a1 "com/example/xml_document_query/xmldocumentquery/tree/IntColumn" "size" "I" (.int (0 : Int32)) ∧ Fld Z h a1 "com/example/xml_document_query/xmldocumentquery/tree/IntColumn" "blocks" "[[I" (.ref bN) ∧ Fld Z h a1 "com/example/xml_document_query/xmldocumentquery/tree/IntColumn" "before" "Lcom/example/xml_document_query/xmldocumentquery/tree/IntColumn;" .null ∧ h0.size ≤ bN ∧ h0.size ≤ dN ∧ n0 ≤ bN ∧ n0 ≤ dN ∧ bN ≠ dN ∧ Arv Z h bN kB (.array .int) (1 : Int32) [(.ref dN)] .null ∧ Arv Z h dN kD .int (1 : Int32) [(.int (0 : Int32))] (.int (0 : Int32)) ∧ OvrA Z kB .int "[I"
set_option maxRecDepth 65536 in
set_option maxHeartbeats 40000000 in
theorem rm1_1 (l : Launch) (Z : State) (a0 : Array Value) (hw : ∀ d ∈ tables_1, d.before a0 Z = true) (ws : List Jvm.Cond) (a1 : Addr)  (h0 : Heap) (n0 : Nat) (Z0 : n0 ≤ h0.size) (E_a1 : Exa Z h0 a1 "com/example/xml_document_query/xmldocumentquery/tree/IntColumn") (g_a1 : n0 ≤ a1) (F_blockBits_a1 : Fld Z h0 a1 "com/example/xml_document_query/xmldocumentquery/tree/BlockedArray" "blockBits" "I" (.int (0 : Int32))) (F_capacity_a1 : Fld Z h0 a1 "com/example/xml_document_query/xmldocumentquery/tree/BlockedArray" "capacity" "I" (.int (0 : Int32))) (F_size_a1 : Fld Z h0 a1 "com/example/xml_document_query/xmldocumentquery/tree/IntColumn" "size" "I" (.int (0 : Int32))) (F_blocks_a1 : Fld Z h0 a1 "com/example/xml_document_query/xmldocumentquery/tree/IntColumn" "blocks" "[[I" .null) (F_before_a1 : Fld Z h0 a1 "com/example/xml_document_query/xmldocumentquery/tree/IntColumn" "before" "Lcom/example/xml_document_query/xmldocumentquery/tree/IntColumn;" .null) :
    MetFree l (⟨"com/example/xml_document_query/xmldocumentquery/tree/IntColumn", "<init>", "(I)V"⟩ : MethodName) (head1 (Jvm.Cond.code (⟨"com/example/xml_document_query/xmldocumentquery/tree/IntColumn", "<init>", "(I)V"⟩ : MethodName) prog_168_method_1_code 2 none :: ws) ({ frames := 2, cells := 2, slots := 2, locals := 26 } : Room)) (fun a U => a = #[(.ref a1), (.int (1 : Int32))] ∧ Z.Warmed39 U.vm ∧ U.heap = h0) (fun _ _ _ _ _ => True) (fun _ U o U' => ∃ v L, o = .returned v ∧ Q1_1 Z a1 h0 n0 v U'.heap L ∧ FrameEnd U o U' L ({ frames := 2, cells := 2, slots := 2, locals := 26 } : Room).cells ({ frames := 2, cells := 2, slots := 2, locals := 26 } : Room).slots) := by
  refine MetFree.of_bodySF (plainFor_of_name pn_1) hisR ?_
  intro p e s m args below meth c s₁ Bd hml0 hP hK
  obtain ⟨rfl, hZ, hh⟩ := hP
  have hx := Bd.exec
  have hby := Bd.bytes
  have hlk := Bd.notSynchronized
  have hml : c.maxLocals = 2 := hml0
  have hown : s.vm.findClass "com/example/xml_document_query/xmldocumentquery/tree/IntColumn" = some m.cls := findClass_of_methodNamed Bd.named
  have hnm := (name_of_methodNamed Bd.named Bd.method).1
  have X0 : Stand p l e ({ frames := 2, cells := 2, slots := 2, locals := 26 } : Room) s m #[(.ref a1), (.int (1 : Int32))] below meth c s₁ [] 0 0 := Stand.of_body Bd
  have e0 : s₁.heap = h0 := by rw [← hh, Bd.state]; rfl
  have N0 := Fr.nil n0
  have K0 : Keep h0 h0 [a1] := Keep.refl h0 _
  show OutW p e below s ({ frames := 2, cells := 2, slots := 2, locals := 26 } : Room).cells ({ frames := 2, cells := 2, slots := 2, locals := 26 } : Room).slots (Q1_1 Z a1 h0 n0) _
  refine OutW.back (fun t k => castTop (ef_1_1 m a1) k) ?_
  show OutW _ _ _ _ _ _ _ (s₁.setTop (mkF m 0 #[.val (.ref a1), .val (.int (1 : Int32))] []))
  refine OutW.back (fun t k => XS.aloadN X0.here hx rfl (hb hby d1_0) rfl rfl  k) ?_
  show OutW _ _ _ _ _ _ _ (s₁.setTop (mkF m 1 #[.val (.ref a1), .val (.int (1 : Int32))] [(.ref a1)]))
  refine OutW.back (fun t k => XS.bipush X0.here hx rfl (hb hby d1_1) k) ?_
  show OutW _ _ _ _ _ _ _ (s₁.setTop (mkF m 3 #[.val (.ref a1), .val (.int (1 : Int32))] [(.int (16 : Int32)), (.ref a1)]))
  refine OutW.back (fun t k => XS.iloadN X0.here hx rfl (hb hby d1_3) rfl  k) ?_
  show OutW _ _ _ _ _ _ _ (s₁.setTop (mkF m 4 #[.val (.ref a1), .val (.int (1 : Int32))] [(.int (1 : Int32)), (.int (16 : Int32)), (.ref a1)]))
  obtain ⟨_, _, ⟨T1, L1, k1, n1⟩, -, X1, ⟨Lc1, hQ1, l1, y1, z1⟩, st1⟩ := X0.specialBack hx (y := (⟨"com/example/xml_document_query/xmldocumentquery/tree/BlockedArray", "<init>", "(II)V"⟩ : MethodName)) rfl hown (mvT hZ (hw _ (List.mem_of_getElem? (i := 6) rfl))) (mvT hZ (hw _ (List.mem_of_getElem? (i := 7) rfl))) (mvT hZ (hw _ (List.mem_of_getElem? (i := 10) rfl))) (by decide) (backOf (W := 0) (rm2x l Z a0 hw [] a1 (16 : Int32) (1 : Int32) h0 n0 Z0 E_a1 g_a1 F_blockBits_a1 F_capacity_a1 F_size_a1 F_blocks_a1 F_before_a1) hZ (hw _ (List.mem_of_getElem? (i := 10) rfl)) (hw _ (List.mem_of_getElem? (i := 9) rfl)) (by decide) (by decide)) (g := (mkF m 4 #[.val (.ref a1), .val (.int (1 : Int32))] [(.int (1 : Int32)), (.int (16 : Int32)), (.ref a1)])) rfl (by rw [hml]; rfl) (Steps.refl _) (a := a1) (argsL := [(.int (16 : Int32)), (.int (1 : Int32))]) (rest := []) (lenOf pd_0 rfl) rfl (by show 2 * 0 + _ ≤ _; exact Nat.le_of_eq rfl) (hb hby d1_4) (fun _ _ => ⟨rfl, e0, (by decide : 0 + 0 ≤ _), (by decide : 0 + 0 ≤ _)⟩)
  dsimp only [Pt.U, Pt.locs, Pt.cells, Pt.slots] at X1 l1 y1 z1 st1 hQ1
  subst l1 y1 z1
  obtain ⟨h1, eh1⟩ : ∃ z, z = T1.heap := ⟨_, rfl⟩
  rw [← eh1] at hQ1
  have e1 : T1.heap = h1 := eh1.symm
  obtain ⟨rfl, Nq1, Kq1, F_blockBits_a1, F_capacity_a1, F_size_a1, F_blocks_a1, F_before_a1⟩ := hQ1
  have E_a1 := E_a1.keep Kq1
  have Z1 : n0 ≤ h1.size := Nat.le_trans Z0 Kq1.1
  have K1 := K0.trans Kq1 (allS (Or.inl (List.mem_of_getElem? (i := 0) rfl)) all0)
  have N1 := Fr.app N0 Nq1
  obtain ⟨lc1, X1, N1⟩ : ∃ lc, Stand p l e ({ frames := 2, cells := 2, slots := 2, locals := 26 } : Room) s m #[(.ref a1), (.int (1 : Int32))] below meth c T1 lc 0 0 ∧ Fr n0 lc := ⟨_, X1, N1⟩
  refine OutW.via st1 ?_
  show OutW _ _ _ _ _ _ _ (T1.setTop (mkF m 7 #[.val (.ref a1), .val (.int (1 : Int32))] []))
  refine OutW.back (fun t k => XS.aloadN X1.here hx rfl (hb hby d1_7) rfl rfl  k) ?_
  show OutW _ _ _ _ _ _ _ (T1.setTop (mkF m 8 #[.val (.ref a1), .val (.int (1 : Int32))] [(.ref a1)]))
  refine OutW.back (fun t k => XS.iconst X1.here hx rfl (hb hby d1_8) k) ?_
  show OutW _ _ _ _ _ _ _ (T1.setTop (mkF m 9 #[.val (.ref a1), .val (.int (1 : Int32))] [(.int (1 : Int32)), (.ref a1)]))
  obtain ⟨T2, h2, k2, X2, e2, E2, A2, -, O2, st2⟩ := newRA X1 hx hZ hown (ty := .int) (by decide) (hw _ (List.mem_of_getElem? (i := 18) rfl)) (hw _ (List.mem_of_getElem? (i := 19) rfl)) e1 (g := (mkF m 9 #[.val (.ref a1), .val (.int (1 : Int32))] [(.int (1 : Int32)), (.ref a1)])) rfl (hb hby d1_9) rfl (by decide) (cap := 1) (by decide) (by decide) (by decide) (by decide) (ad := "[[I") (by decide)
  obtain ⟨b2, g2⟩ : ∃ z, z = h1.size := ⟨_, rfl⟩
  rw [← g2] at A2 st2
  have ne_a1_b2 : a1 ≠ b2 := Nat.ne_of_lt (Nat.lt_of_lt_of_le E_a1.lt (Nat.le_of_eq g2.symm))
  have g_b2 : n0 ≤ b2 := Nat.le_trans Z1 (Nat.le_of_eq g2.symm)
  have sz_b2 : h0.size ≤ b2 := Nat.le_trans K1.1 (Nat.le_of_eq g2.symm)
  have E_a1 := E_a1.ext E2
  have F_blockBits_a1 := F_blockBits_a1.ext E2
  have F_capacity_a1 := F_capacity_a1.ext E2
  have F_size_a1 := F_size_a1.ext E2
  have F_blocks_a1 := F_blocks_a1.ext E2
  have F_before_a1 := F_before_a1.ext E2
  have Z2 : n0 ≤ h2.size := Nat.le_trans Z1 E2.1
  have K2 := K1.ext E2
  have V_b2 : Arv Z h2 b2 k2 (.array .int) (1 : Int32) [.null] .null := (Arv.new A2 (by decide)).pad (pad_rep [] .null 1)
  refine OutW.back st2 ?_
  show OutW _ _ _ _ _ _ _ (T2.setTop (mkF m 12 #[.val (.ref a1), .val (.int (1 : Int32))] [(.ref b2), (.ref a1)]))
  refine OutW.back (fun t k => XS.dup X2.here hx rfl (hb hby d1_12) rfl rfl k) ?_
  show OutW _ _ _ _ _ _ _ (T2.setTop (mkF m 13 #[.val (.ref a1), .val (.int (1 : Int32))] [(.ref b2), (.ref b2), (.ref a1)]))
  refine OutW.back (fun t k => XS.iconst X2.here hx rfl (hb hby d1_13) k) ?_
  show OutW _ _ _ _ _ _ _ (T2.setTop (mkF m 14 #[.val (.ref a1), .val (.int (1 : Int32))] [(.int (0 : Int32)), (.ref b2), (.ref b2), (.ref a1)]))
  refine OutW.back (fun t k => XS.iloadN X2.here hx rfl (hb hby d1_14) rfl  k) ?_
  show OutW _ _ _ _ _ _ _ (T2.setTop (mkF m 15 #[.val (.ref a1), .val (.int (1 : Int32))] [(.int (1 : Int32)), (.int (0 : Int32)), (.ref b2), (.ref b2), (.ref a1)]))
  obtain ⟨T3, h3, k3, X3, e3, E3, A3, Ax3, st3⟩ := newPE X2 hx hZ (hw _ (List.mem_of_getElem? (i := 20) rfl)) e2 (g := (mkF m 15 #[.val (.ref a1), .val (.int (1 : Int32))] [(.int (1 : Int32)), (.int (0 : Int32)), (.ref b2), (.ref b2), (.ref a1)])) rfl (hb hby d1_15) rfl (by decide) (cap := 1) (by decide) (by decide) (by decide) (by decide) (ad := "[I") (by decide)
  obtain ⟨b3, g3⟩ : ∃ z, z = h2.size := ⟨_, rfl⟩
  rw [← g3] at A3 st3 Ax3
  have ne_a1_b3 : a1 ≠ b3 := Nat.ne_of_lt (Nat.lt_of_lt_of_le E_a1.lt (Nat.le_of_eq g3.symm))
  have ne_b2_b3 : b2 ≠ b3 := Nat.ne_of_lt (Nat.lt_of_lt_of_le V_b2.lt (Nat.le_of_eq g3.symm))
  have g_b3 : n0 ≤ b3 := Nat.le_trans Z2 (Nat.le_of_eq g3.symm)
  have sz_b3 : h0.size ≤ b3 := Nat.le_trans K2.1 (Nat.le_of_eq g3.symm)
  have E_a1 := E_a1.ext E3
  have F_blockBits_a1 := F_blockBits_a1.ext E3
  have F_capacity_a1 := F_capacity_a1.ext E3
  have F_size_a1 := F_size_a1.ext E3
  have F_blocks_a1 := F_blocks_a1.ext E3
  have F_before_a1 := F_before_a1.ext E3
  have V_b2 := V_b2.ext E3
  have Z3 : n0 ≤ h3.size := Nat.le_trans Z2 E3.1
  have K3 := K2.ext E3
  have E_b3 := Ax3
  have V_b3 : Arv Z h3 b3 k3 .int (1 : Int32) [(.int (0 : Int32))] (.int (0 : Int32)) := (Arv.new A3 (by decide)).pad (pad_rep [] (.int (0 : Int32)) 1)
  refine OutW.back st3 ?_
  show OutW _ _ _ _ _ _ _ (T3.setTop (mkF m 17 #[.val (.ref a1), .val (.int (1 : Int32))] [(.ref b3), (.int (0 : Int32)), (.ref b2), (.ref b2), (.ref a1)]))
  obtain ⟨cl4, Ar4, Qk4, Sz4, Nn4, Hh4, Gg4⟩ := id V_b2
  have hin4 : ¬ ((0 : Int32) < 0 ∨ cl4.slots.size ≤ ((0 : Int32)).toNatClampNeg) := inb_of Sz4 ⟨by decide, by decide⟩
  obtain ⟨T4, h4, X4, e4, W4, st4⟩ := stR X3 hx hZ e3 Ar4 (j := (0 : Int32)) hin4 rfl (Sto.ofVA Ar4 Qk4 O2 (Ins.self E_b3)) (g := (mkF m 17 #[.val (.ref a1), .val (.int (1 : Int32))] [(.ref b3), (.int (0 : Int32)), (.ref b2), (.ref b2), (.ref a1)])) rfl rfl (hb hby d1_17)
  have V_b2_4 : Arv Z h4 b2 k2 (.array .int) (1 : Int32) [(.ref b3)] .null := Arv.set Ar4 Qk4 Sz4 Nn4 Hh4 Gg4 rfl W4 0 rfl (Nat.le_of_ble_eq_true rfl)
  have E_a1 := E_a1.wr W4
  have F_blockBits_a1 := F_blockBits_a1.other W4 (Or.inl ne_a1_b2)
  have F_capacity_a1 := F_capacity_a1.other W4 (Or.inl ne_a1_b2)
  have F_size_a1 := F_size_a1.other W4 (Or.inl ne_a1_b2)
  have F_blocks_a1 := F_blocks_a1.other W4 (Or.inl ne_a1_b2)
  have F_before_a1 := F_before_a1.other W4 (Or.inl ne_a1_b2)
  have E_b3 := E_b3.wr W4
  have V_b3 := V_b3.other W4 (Ne.symm ne_b2_b3)
  have N4 := Fr.snoc X4 N1 g_b2
  have Z4 : n0 ≤ h4.size := Nat.le_trans Z3 (Keep.of_wr W4).1
  have K4 := K3.wr W4 (Or.inr sz_b2)
  obtain ⟨lc4, X4, N4⟩ : ∃ lc, Stand p l e ({ frames := 2, cells := 2, slots := 2, locals := 26 } : Room) s m #[(.ref a1), (.int (1 : Int32))] below meth c T4 lc 2 2 ∧ Fr n0 lc := ⟨_, X4, N4⟩
  refine OutW.back st4 ?_
  show OutW _ _ _ _ _ _ _ (T4.setTop (mkF m 18 #[.val (.ref a1), .val (.int (1 : Int32))] [(.ref b2), (.ref a1)]))
  obtain ⟨T5, h5, X5, e5, W5, st5⟩ := putF X4 hx hZ hown (host := "") (Or.inl (hw _ (List.mem_of_getElem? (i := 22) rfl))) Via.refl e4 F_blocks_a1 E_a1 (Or.inl (hw _ (List.mem_of_getElem? (i := 23) rfl))) (hw _ (List.mem_of_getElem? (i := 1) rfl)) (ty := (.array (.array .int))) (by decide) rfl rfl (g := (mkF m 18 #[.val (.ref a1), .val (.int (1 : Int32))] [(.ref b2), (.ref a1)])) rfl rfl (hb hby d1_18)
  have E_a1 := E_a1.wr W5
  have F_blockBits_a1 := F_blockBits_a1.other W5 (Or.inr (slot_ne (Or.inr (hw _ (List.mem_of_getElem? (i := 15) rfl))) (Or.inl (hw _ (List.mem_of_getElem? (i := 23) rfl))) (by decide) (t := .int) (t' := (.array (.array .int))) (by decide) (by decide)))
  have F_capacity_a1 := F_capacity_a1.other W5 (Or.inr (slot_ne (Or.inl (hw _ (List.mem_of_getElem? (i := 17) rfl))) (Or.inl (hw _ (List.mem_of_getElem? (i := 23) rfl))) (by decide) (t := .int) (t' := (.array (.array .int))) (by decide) (by decide)))
  have F_size_a1 := F_size_a1.other W5 (Or.inr (slot_ne (Or.inl (hw _ (List.mem_of_getElem? (i := 30) rfl))) (Or.inl (hw _ (List.mem_of_getElem? (i := 23) rfl))) (by decide) (t := .int) (t' := (.array (.array .int))) (by decide) (by decide)))
  have F_blocks_a1 := F_blocks_a1.same W5
  have F_before_a1 := F_before_a1.other W5 (Or.inr (slot_ne (Or.inl (hw _ (List.mem_of_getElem? (i := 68) rfl))) (Or.inl (hw _ (List.mem_of_getElem? (i := 23) rfl))) (by decide) (t := (.object "com/example/xml_document_query/xmldocumentquery/tree/IntColumn")) (t' := (.array (.array .int))) (by decide) (by decide)))
  have E_b3 := E_b3.wr W5
  have V_b3 := V_b3.other W5 (Ne.symm ne_a1_b3)
  have V_b2_4 := V_b2_4.other W5 (Ne.symm ne_a1_b2)
  have N5 := Fr.snoc X5 N4 g_a1
  have Z5 : n0 ≤ h5.size := Nat.le_trans Z4 (Keep.of_wr W5).1
  have K5 := K4.wr W5 (Or.inl (List.mem_of_getElem? (i := 0) rfl))
  obtain ⟨lc5, X5, N5⟩ : ∃ lc, Stand p l e ({ frames := 2, cells := 2, slots := 2, locals := 26 } : Room) s m #[(.ref a1), (.int (1 : Int32))] below meth c T5 lc 2 2 ∧ Fr n0 lc := ⟨_, X5, N5⟩
  refine OutW.back st5 ?_
  show OutW _ _ _ _ _ _ _ (T5.setTop (mkF m 21 #[.val (.ref a1), .val (.int (1 : Int32))] []))
  refine OutW.retV X5 hx Bd.returns hlk (hb hby d1_21) (by decide) (by decide) ?_
  show Q1_1 Z a1 h0 n0 _ T5.heap _
  rw [e5]
  exact ⟨b2, b3, k2, k3, rfl, N5, K5, F_blockBits_a1, F_capacity_a1, F_size_a1, (by have q := F_blocks_a1; exact q), F_before_a1, sz_b2, sz_b3, g_b2, g_b3, ne_b2_b3, V_b2_4, V_b3, O2⟩
theorem ef_1_2 (m : MethodId) (x0 : Addr) : entryFrame m #[(.ref x0), (.int (2 : Int32))] 2 = mkF m 0 #[.val (.ref x0), .val (.int (2 : Int32))] [] := by first | (simp [entryFrame, mkF, argsToLocals, Value.category]; done) | rfl
def Q1_2 (Z : State) (a1 : Addr)  (h0 : Heap) (n0 : Nat) (v : Option Value) (h : Heap) (L : List Loc) : Prop := ∃ bN : Addr, ∃ dN : Addr, ∃ kB : ClassId, ∃ kD : ClassId, v = none ∧ Fr n0 L ∧ Keep h0 h [a1] ∧ Fld Z h a1 "com/example/xml_document_query/xmldocumentquery/tree/BlockedArray" "blockBits" "I" (.int (16 : Int32)) ∧ Fld Z h a1 "com/example/xml_document_query/xmldocumentquery/tree/BlockedArray" "capacity" "I" (.int (2 : Int32)) ∧ Fld Z h a1 "com/example/xml_document_query/xmldocumentquery/tree/IntColumn" "size" "I" (.int (0 : Int32)) ∧ Fld Z h a1 "com/example/xml_document_query/xmldocumentquery/tree/IntColumn" "blocks" "[[I" (.ref bN) ∧ Fld Z h a1 "com/example/xml_document_query/xmldocumentquery/tree/IntColumn" "before" "Lcom/example/xml_document_query/xmldocumentquery/tree/IntColumn;" .null ∧ h0.size ≤ bN ∧ h0.size ≤ dN ∧ n0 ≤ bN ∧ n0 ≤ dN ∧ bN ≠ dN ∧ Arv Z h bN kB (.array .int) (1 : Int32) [(.ref dN)] .null ∧ Arv Z h dN kD .int (2 : Int32) [(.int (0 : Int32)), (.int (0 : Int32))] (.int (0 : Int32)) ∧ OvrA Z kB .int "[I"
set_option maxRecDepth 65536 in
set_option maxHeartbeats 40000000 in
theorem rm1_2 (l : Launch) (Z : State) (a0 : Array Value) (hw : ∀ d ∈ tables_1, d.before a0 Z = true) (ws : List Jvm.Cond) (a1 : Addr)  (h0 : Heap) (n0 : Nat) (Z0 : n0 ≤ h0.size) (E_a1 : Exa Z h0 a1 "com/example/xml_document_query/xmldocumentquery/tree/IntColumn") (g_a1 : n0 ≤ a1) (F_blockBits_a1 : Fld Z h0 a1 "com/example/xml_document_query/xmldocumentquery/tree/BlockedArray" "blockBits" "I" (.int (0 : Int32))) (F_capacity_a1 : Fld Z h0 a1 "com/example/xml_document_query/xmldocumentquery/tree/BlockedArray" "capacity" "I" (.int (0 : Int32))) (F_size_a1 : Fld Z h0 a1 "com/example/xml_document_query/xmldocumentquery/tree/IntColumn" "size" "I" (.int (0 : Int32))) (F_blocks_a1 : Fld Z h0 a1 "com/example/xml_document_query/xmldocumentquery/tree/IntColumn" "blocks" "[[I" .null) (F_before_a1 : Fld Z h0 a1 "com/example/xml_document_query/xmldocumentquery/tree/IntColumn" "before" "Lcom/example/xml_document_query/xmldocumentquery/tree/IntColumn;" .null) :
    MetFree l (⟨"com/example/xml_document_query/xmldocumentquery/tree/IntColumn", "<init>", "(I)V"⟩ : MethodName) (head1 (Jvm.Cond.code (⟨"com/example/xml_document_query/xmldocumentquery/tree/IntColumn", "<init>", "(I)V"⟩ : MethodName) prog_168_method_1_code 2 none :: ws) ({ frames := 2, cells := 2, slots := 3, locals := 26 } : Room)) (fun a U => a = #[(.ref a1), (.int (2 : Int32))] ∧ Z.Warmed39 U.vm ∧ U.heap = h0) (fun _ _ _ _ _ => True) (fun _ U o U' => ∃ v L, o = .returned v ∧ Q1_2 Z a1 h0 n0 v U'.heap L ∧ FrameEnd U o U' L ({ frames := 2, cells := 2, slots := 3, locals := 26 } : Room).cells ({ frames := 2, cells := 2, slots := 3, locals := 26 } : Room).slots) := by
  refine MetFree.of_bodySF (plainFor_of_name pn_1) hisR ?_
  intro p e s m args below meth c s₁ Bd hml0 hP hK
  obtain ⟨rfl, hZ, hh⟩ := hP
  have hx := Bd.exec
  have hby := Bd.bytes
  have hlk := Bd.notSynchronized
  have hml : c.maxLocals = 2 := hml0
  have hown : s.vm.findClass "com/example/xml_document_query/xmldocumentquery/tree/IntColumn" = some m.cls := findClass_of_methodNamed Bd.named
  have hnm := (name_of_methodNamed Bd.named Bd.method).1
  have X0 : Stand p l e ({ frames := 2, cells := 2, slots := 3, locals := 26 } : Room) s m #[(.ref a1), (.int (2 : Int32))] below meth c s₁ [] 0 0 := Stand.of_body Bd
  have e0 : s₁.heap = h0 := by rw [← hh, Bd.state]; rfl
  have N0 := Fr.nil n0
  have K0 : Keep h0 h0 [a1] := Keep.refl h0 _
  show OutW p e below s ({ frames := 2, cells := 2, slots := 3, locals := 26 } : Room).cells ({ frames := 2, cells := 2, slots := 3, locals := 26 } : Room).slots (Q1_2 Z a1 h0 n0) _
  refine OutW.back (fun t k => castTop (ef_1_2 m a1) k) ?_
  show OutW _ _ _ _ _ _ _ (s₁.setTop (mkF m 0 #[.val (.ref a1), .val (.int (2 : Int32))] []))
  refine OutW.back (fun t k => XS.aloadN X0.here hx rfl (hb hby d1_0) rfl rfl  k) ?_
  show OutW _ _ _ _ _ _ _ (s₁.setTop (mkF m 1 #[.val (.ref a1), .val (.int (2 : Int32))] [(.ref a1)]))
  refine OutW.back (fun t k => XS.bipush X0.here hx rfl (hb hby d1_1) k) ?_
  show OutW _ _ _ _ _ _ _ (s₁.setTop (mkF m 3 #[.val (.ref a1), .val (.int (2 : Int32))] [(.int (16 : Int32)), (.ref a1)]))
  refine OutW.back (fun t k => XS.iloadN X0.here hx rfl (hb hby d1_3) rfl  k) ?_
  show OutW _ _ _ _ _ _ _ (s₁.setTop (mkF m 4 #[.val (.ref a1), .val (.int (2 : Int32))] [(.int (2 : Int32)), (.int (16 : Int32)), (.ref a1)]))
  obtain ⟨_, _, ⟨T1, L1, k1, n1⟩, -, X1, ⟨Lc1, hQ1, l1, y1, z1⟩, st1⟩ := X0.specialBack hx (y := (⟨"com/example/xml_document_query/xmldocumentquery/tree/BlockedArray", "<init>", "(II)V"⟩ : MethodName)) rfl hown (mvT hZ (hw _ (List.mem_of_getElem? (i := 6) rfl))) (mvT hZ (hw _ (List.mem_of_getElem? (i := 7) rfl))) (mvT hZ (hw _ (List.mem_of_getElem? (i := 10) rfl))) (by decide) (backOf (W := 0) (rm2x l Z a0 hw [] a1 (16 : Int32) (2 : Int32) h0 n0 Z0 E_a1 g_a1 F_blockBits_a1 F_capacity_a1 F_size_a1 F_blocks_a1 F_before_a1) hZ (hw _ (List.mem_of_getElem? (i := 10) rfl)) (hw _ (List.mem_of_getElem? (i := 9) rfl)) (by decide) (by decide)) (g := (mkF m 4 #[.val (.ref a1), .val (.int (2 : Int32))] [(.int (2 : Int32)), (.int (16 : Int32)), (.ref a1)])) rfl (by rw [hml]; rfl) (Steps.refl _) (a := a1) (argsL := [(.int (16 : Int32)), (.int (2 : Int32))]) (rest := []) (lenOf pd_0 rfl) rfl (by show 2 * 0 + _ ≤ _; exact Nat.le_of_eq rfl) (hb hby d1_4) (fun _ _ => ⟨rfl, e0, (by decide : 0 + 0 ≤ _), (by decide : 0 + 0 ≤ _)⟩)
  dsimp only [Pt.U, Pt.locs, Pt.cells, Pt.slots] at X1 l1 y1 z1 st1 hQ1
  subst l1 y1 z1
  obtain ⟨h1, eh1⟩ : ∃ z, z = T1.heap := ⟨_, rfl⟩
  rw [← eh1] at hQ1
  have e1 : T1.heap = h1 := eh1.symm
  obtain ⟨rfl, Nq1, Kq1, F_blockBits_a1, F_capacity_a1, F_size_a1, F_blocks_a1, F_before_a1⟩ := hQ1
  have E_a1 := E_a1.keep Kq1
  have Z1 : n0 ≤ h1.size := Nat.le_trans Z0 Kq1.1
  have K1 := K0.trans Kq1 (allS (Or.inl (List.mem_of_getElem? (i := 0) rfl)) all0)
  have N1 := Fr.app N0 Nq1
  obtain ⟨lc1, X1, N1⟩ : ∃ lc, Stand p l e ({ frames := 2, cells := 2, slots := 3, locals := 26 } : Room) s m #[(.ref a1), (.int (2 : Int32))] below meth c T1 lc 0 0 ∧ Fr n0 lc := ⟨_, X1, N1⟩
  refine OutW.via st1 ?_
  show OutW _ _ _ _ _ _ _ (T1.setTop (mkF m 7 #[.val (.ref a1), .val (.int (2 : Int32))] []))
  refine OutW.back (fun t k => XS.aloadN X1.here hx rfl (hb hby d1_7) rfl rfl  k) ?_
  show OutW _ _ _ _ _ _ _ (T1.setTop (mkF m 8 #[.val (.ref a1), .val (.int (2 : Int32))] [(.ref a1)]))
  refine OutW.back (fun t k => XS.iconst X1.here hx rfl (hb hby d1_8) k) ?_
  show OutW _ _ _ _ _ _ _ (T1.setTop (mkF m 9 #[.val (.ref a1), .val (.int (2 : Int32))] [(.int (1 : Int32)), (.ref a1)]))
  obtain ⟨T2, h2, k2, X2, e2, E2, A2, -, O2, st2⟩ := newRA X1 hx hZ hown (ty := .int) (by decide) (hw _ (List.mem_of_getElem? (i := 18) rfl)) (hw _ (List.mem_of_getElem? (i := 19) rfl)) e1 (g := (mkF m 9 #[.val (.ref a1), .val (.int (2 : Int32))] [(.int (1 : Int32)), (.ref a1)])) rfl (hb hby d1_9) rfl (by decide) (cap := 1) (by decide) (by decide) (by decide) (by decide) (ad := "[[I") (by decide)
  obtain ⟨b2, g2⟩ : ∃ z, z = h1.size := ⟨_, rfl⟩
  rw [← g2] at A2 st2
  have ne_a1_b2 : a1 ≠ b2 := Nat.ne_of_lt (Nat.lt_of_lt_of_le E_a1.lt (Nat.le_of_eq g2.symm))
  have g_b2 : n0 ≤ b2 := Nat.le_trans Z1 (Nat.le_of_eq g2.symm)
  have sz_b2 : h0.size ≤ b2 := Nat.le_trans K1.1 (Nat.le_of_eq g2.symm)
  have E_a1 := E_a1.ext E2
  have F_blockBits_a1 := F_blockBits_a1.ext E2
  have F_capacity_a1 := F_capacity_a1.ext E2
  have F_size_a1 := F_size_a1.ext E2
  have F_blocks_a1 := F_blocks_a1.ext E2
  have F_before_a1 := F_before_a1.ext E2
  have Z2 : n0 ≤ h2.size := Nat.le_trans Z1 E2.1
  have K2 := K1.ext E2
  have V_b2 : Arv Z h2 b2 k2 (.array .int) (1 : Int32) [.null] .null := (Arv.new A2 (by decide)).pad (pad_rep [] .null 1)
  refine OutW.back st2 ?_
  show OutW _ _ _ _ _ _ _ (T2.setTop (mkF m 12 #[.val (.ref a1), .val (.int (2 : Int32))] [(.ref b2), (.ref a1)]))
  refine OutW.back (fun t k => XS.dup X2.here hx rfl (hb hby d1_12) rfl rfl k) ?_
  show OutW _ _ _ _ _ _ _ (T2.setTop (mkF m 13 #[.val (.ref a1), .val (.int (2 : Int32))] [(.ref b2), (.ref b2), (.ref a1)]))
  refine OutW.back (fun t k => XS.iconst X2.here hx rfl (hb hby d1_13) k) ?_
  show OutW _ _ _ _ _ _ _ (T2.setTop (mkF m 14 #[.val (.ref a1), .val (.int (2 : Int32))] [(.int (0 : Int32)), (.ref b2), (.ref b2), (.ref a1)]))
  refine OutW.back (fun t k => XS.iloadN X2.here hx rfl (hb hby d1_14) rfl  k) ?_
  show OutW _ _ _ _ _ _ _ (T2.setTop (mkF m 15 #[.val (.ref a1), .val (.int (2 : Int32))] [(.int (2 : Int32)), (.int (0 : Int32)), (.ref b2), (.ref b2), (.ref a1)]))
  obtain ⟨T3, h3, k3, X3, e3, E3, A3, Ax3, st3⟩ := newPE X2 hx hZ (hw _ (List.mem_of_getElem? (i := 20) rfl)) e2 (g := (mkF m 15 #[.val (.ref a1), .val (.int (2 : Int32))] [(.int (2 : Int32)), (.int (0 : Int32)), (.ref b2), (.ref b2), (.ref a1)])) rfl (hb hby d1_15) rfl (by decide) (cap := 2) (by decide) (by decide) (by decide) (by decide) (ad := "[I") (by decide)
  obtain ⟨b3, g3⟩ : ∃ z, z = h2.size := ⟨_, rfl⟩
  rw [← g3] at A3 st3 Ax3
  have ne_a1_b3 : a1 ≠ b3 := Nat.ne_of_lt (Nat.lt_of_lt_of_le E_a1.lt (Nat.le_of_eq g3.symm))
  have ne_b2_b3 : b2 ≠ b3 := Nat.ne_of_lt (Nat.lt_of_lt_of_le V_b2.lt (Nat.le_of_eq g3.symm))
  have g_b3 : n0 ≤ b3 := Nat.le_trans Z2 (Nat.le_of_eq g3.symm)
  have sz_b3 : h0.size ≤ b3 := Nat.le_trans K2.1 (Nat.le_of_eq g3.symm)
  have E_a1 := E_a1.ext E3
  have F_blockBits_a1 := F_blockBits_a1.ext E3
  have F_capacity_a1 := F_capacity_a1.ext E3
  have F_size_a1 := F_size_a1.ext E3
  have F_blocks_a1 := F_blocks_a1.ext E3
  have F_before_a1 := F_before_a1.ext E3
  have V_b2 := V_b2.ext E3
  have Z3 : n0 ≤ h3.size := Nat.le_trans Z2 E3.1
  have K3 := K2.ext E3
  have E_b3 := Ax3
  have V_b3 : Arv Z h3 b3 k3 .int (2 : Int32) [(.int (0 : Int32)), (.int (0 : Int32))] (.int (0 : Int32)) := (Arv.new A3 (by decide)).pad (pad_rep [] (.int (0 : Int32)) 2)
  refine OutW.back st3 ?_
  show OutW _ _ _ _ _ _ _ (T3.setTop (mkF m 17 #[.val (.ref a1), .val (.int (2 : Int32))] [(.ref b3), (.int (0 : Int32)), (.ref b2), (.ref b2), (.ref a1)]))
  obtain ⟨cl4, Ar4, Qk4, Sz4, Nn4, Hh4, Gg4⟩ := id V_b2
  have hin4 : ¬ ((0 : Int32) < 0 ∨ cl4.slots.size ≤ ((0 : Int32)).toNatClampNeg) := inb_of Sz4 ⟨by decide, by decide⟩
  obtain ⟨T4, h4, X4, e4, W4, st4⟩ := stR X3 hx hZ e3 Ar4 (j := (0 : Int32)) hin4 rfl (Sto.ofVA Ar4 Qk4 O2 (Ins.self E_b3)) (g := (mkF m 17 #[.val (.ref a1), .val (.int (2 : Int32))] [(.ref b3), (.int (0 : Int32)), (.ref b2), (.ref b2), (.ref a1)])) rfl rfl (hb hby d1_17)
  have V_b2_4 : Arv Z h4 b2 k2 (.array .int) (1 : Int32) [(.ref b3)] .null := Arv.set Ar4 Qk4 Sz4 Nn4 Hh4 Gg4 rfl W4 0 rfl (Nat.le_of_ble_eq_true rfl)
  have E_a1 := E_a1.wr W4
  have F_blockBits_a1 := F_blockBits_a1.other W4 (Or.inl ne_a1_b2)
  have F_capacity_a1 := F_capacity_a1.other W4 (Or.inl ne_a1_b2)
  have F_size_a1 := F_size_a1.other W4 (Or.inl ne_a1_b2)
  have F_blocks_a1 := F_blocks_a1.other W4 (Or.inl ne_a1_b2)
  have F_before_a1 := F_before_a1.other W4 (Or.inl ne_a1_b2)
  have E_b3 := E_b3.wr W4
  have V_b3 := V_b3.other W4 (Ne.symm ne_b2_b3)
  have N4 := Fr.snoc X4 N1 g_b2
  have Z4 : n0 ≤ h4.size := Nat.le_trans Z3 (Keep.of_wr W4).1
  have K4 := K3.wr W4 (Or.inr sz_b2)
  obtain ⟨lc4, X4, N4⟩ : ∃ lc, Stand p l e ({ frames := 2, cells := 2, slots := 3, locals := 26 } : Room) s m #[(.ref a1), (.int (2 : Int32))] below meth c T4 lc 2 3 ∧ Fr n0 lc := ⟨_, X4, N4⟩
  refine OutW.back st4 ?_
  show OutW _ _ _ _ _ _ _ (T4.setTop (mkF m 18 #[.val (.ref a1), .val (.int (2 : Int32))] [(.ref b2), (.ref a1)]))
  obtain ⟨T5, h5, X5, e5, W5, st5⟩ := putF X4 hx hZ hown (host := "") (Or.inl (hw _ (List.mem_of_getElem? (i := 22) rfl))) Via.refl e4 F_blocks_a1 E_a1 (Or.inl (hw _ (List.mem_of_getElem? (i := 23) rfl))) (hw _ (List.mem_of_getElem? (i := 1) rfl)) (ty := (.array (.array .int))) (by decide) rfl rfl (g := (mkF m 18 #[.val (.ref a1), .val (.int (2 : Int32))] [(.ref b2), (.ref a1)])) rfl rfl (hb hby d1_18)
  have E_a1 := E_a1.wr W5
  have F_blockBits_a1 := F_blockBits_a1.other W5 (Or.inr (slot_ne (Or.inr (hw _ (List.mem_of_getElem? (i := 15) rfl))) (Or.inl (hw _ (List.mem_of_getElem? (i := 23) rfl))) (by decide) (t := .int) (t' := (.array (.array .int))) (by decide) (by decide)))
  have F_capacity_a1 := F_capacity_a1.other W5 (Or.inr (slot_ne (Or.inl (hw _ (List.mem_of_getElem? (i := 17) rfl))) (Or.inl (hw _ (List.mem_of_getElem? (i := 23) rfl))) (by decide) (t := .int) (t' := (.array (.array .int))) (by decide) (by decide)))
  have F_size_a1 := F_size_a1.other W5 (Or.inr (slot_ne (Or.inl (hw _ (List.mem_of_getElem? (i := 30) rfl))) (Or.inl (hw _ (List.mem_of_getElem? (i := 23) rfl))) (by decide) (t := .int) (t' := (.array (.array .int))) (by decide) (by decide)))
  have F_blocks_a1 := F_blocks_a1.same W5
  have F_before_a1 := F_before_a1.other W5 (Or.inr (slot_ne (Or.inl (hw _ (List.mem_of_getElem? (i := 68) rfl))) (Or.inl (hw _ (List.mem_of_getElem? (i := 23) rfl))) (by decide) (t := (.object "com/example/xml_document_query/xmldocumentquery/tree/IntColumn")) (t' := (.array (.array .int))) (by decide) (by decide)))
  have E_b3 := E_b3.wr W5
  have V_b3 := V_b3.other W5 (Ne.symm ne_a1_b3)
  have V_b2_4 := V_b2_4.other W5 (Ne.symm ne_a1_b2)
  have N5 := Fr.snoc X5 N4 g_a1
  have Z5 : n0 ≤ h5.size := Nat.le_trans Z4 (Keep.of_wr W5).1
  have K5 := K4.wr W5 (Or.inl (List.mem_of_getElem? (i := 0) rfl))
  obtain ⟨lc5, X5, N5⟩ : ∃ lc, Stand p l e ({ frames := 2, cells := 2, slots := 3, locals := 26 } : Room) s m #[(.ref a1), (.int (2 : Int32))] below meth c T5 lc 2 3 ∧ Fr n0 lc := ⟨_, X5, N5⟩
  refine OutW.back st5 ?_
  show OutW _ _ _ _ _ _ _ (T5.setTop (mkF m 21 #[.val (.ref a1), .val (.int (2 : Int32))] []))
  refine OutW.retV X5 hx Bd.returns hlk (hb hby d1_21) (by decide) (by decide) ?_
  show Q1_2 Z a1 h0 n0 _ T5.heap _
  rw [e5]
  exact ⟨b2, b3, k2, k3, rfl, N5, K5, F_blockBits_a1, F_capacity_a1, F_size_a1, (by have q := F_blocks_a1; exact q), F_before_a1, sz_b2, sz_b3, g_b2, g_b3, ne_b2_b3, V_b2_4, V_b3, O2⟩
theorem ef_1_4 (m : MethodId) (x0 : Addr) : entryFrame m #[(.ref x0), (.int (4 : Int32))] 2 = mkF m 0 #[.val (.ref x0), .val (.int (4 : Int32))] [] := by first | (simp [entryFrame, mkF, argsToLocals, Value.category]; done) | rfl
def Q1_4 (Z : State) (a1 : Addr)  (h0 : Heap) (n0 : Nat) (v : Option Value) (h : Heap) (L : List Loc) : Prop := ∃ bN : Addr, ∃ dN : Addr, ∃ kB : ClassId, ∃ kD : ClassId, v = none ∧ Fr n0 L ∧ Keep h0 h [a1] ∧ Fld Z h a1 "com/example/xml_document_query/xmldocumentquery/tree/BlockedArray" "blockBits" "I" (.int (16 : Int32)) ∧ Fld Z h a1 "com/example/xml_document_query/xmldocumentquery/tree/BlockedArray" "capacity" "I" (.int (4 : Int32)) ∧ Fld Z h a1 "com/example/xml_document_query/xmldocumentquery/tree/IntColumn" "size" "I" (.int (0 : Int32)) ∧ Fld Z h a1 "com/example/xml_document_query/xmldocumentquery/tree/IntColumn" "blocks" "[[I" (.ref bN) ∧ Fld Z h a1 "com/example/xml_document_query/xmldocumentquery/tree/IntColumn" "before" "Lcom/example/xml_document_query/xmldocumentquery/tree/IntColumn;" .null ∧ h0.size ≤ bN ∧ h0.size ≤ dN ∧ n0 ≤ bN ∧ n0 ≤ dN ∧ bN ≠ dN ∧ Arv Z h bN kB (.array .int) (1 : Int32) [(.ref dN)] .null ∧ Arv Z h dN kD .int (4 : Int32) [(.int (0 : Int32)), (.int (0 : Int32)), (.int (0 : Int32)), (.int (0 : Int32))] (.int (0 : Int32)) ∧ OvrA Z kB .int "[I"
set_option maxRecDepth 65536 in
set_option maxHeartbeats 40000000 in
theorem rm1_4 (l : Launch) (Z : State) (a0 : Array Value) (hw : ∀ d ∈ tables_1, d.before a0 Z = true) (ws : List Jvm.Cond) (a1 : Addr)  (h0 : Heap) (n0 : Nat) (Z0 : n0 ≤ h0.size) (E_a1 : Exa Z h0 a1 "com/example/xml_document_query/xmldocumentquery/tree/IntColumn") (g_a1 : n0 ≤ a1) (F_blockBits_a1 : Fld Z h0 a1 "com/example/xml_document_query/xmldocumentquery/tree/BlockedArray" "blockBits" "I" (.int (0 : Int32))) (F_capacity_a1 : Fld Z h0 a1 "com/example/xml_document_query/xmldocumentquery/tree/BlockedArray" "capacity" "I" (.int (0 : Int32))) (F_size_a1 : Fld Z h0 a1 "com/example/xml_document_query/xmldocumentquery/tree/IntColumn" "size" "I" (.int (0 : Int32))) (F_blocks_a1 : Fld Z h0 a1 "com/example/xml_document_query/xmldocumentquery/tree/IntColumn" "blocks" "[[I" .null) (F_before_a1 : Fld Z h0 a1 "com/example/xml_document_query/xmldocumentquery/tree/IntColumn" "before" "Lcom/example/xml_document_query/xmldocumentquery/tree/IntColumn;" .null) :
    MetFree l (⟨"com/example/xml_document_query/xmldocumentquery/tree/IntColumn", "<init>", "(I)V"⟩ : MethodName) (head1 (Jvm.Cond.code (⟨"com/example/xml_document_query/xmldocumentquery/tree/IntColumn", "<init>", "(I)V"⟩ : MethodName) prog_168_method_1_code 2 none :: ws) ({ frames := 2, cells := 2, slots := 5, locals := 26 } : Room)) (fun a U => a = #[(.ref a1), (.int (4 : Int32))] ∧ Z.Warmed39 U.vm ∧ U.heap = h0) (fun _ _ _ _ _ => True) (fun _ U o U' => ∃ v L, o = .returned v ∧ Q1_4 Z a1 h0 n0 v U'.heap L ∧ FrameEnd U o U' L ({ frames := 2, cells := 2, slots := 5, locals := 26 } : Room).cells ({ frames := 2, cells := 2, slots := 5, locals := 26 } : Room).slots) := by
  refine MetFree.of_bodySF (plainFor_of_name pn_1) hisR ?_
  intro p e s m args below meth c s₁ Bd hml0 hP hK
  obtain ⟨rfl, hZ, hh⟩ := hP
  have hx := Bd.exec
  have hby := Bd.bytes
  have hlk := Bd.notSynchronized
  have hml : c.maxLocals = 2 := hml0
  have hown : s.vm.findClass "com/example/xml_document_query/xmldocumentquery/tree/IntColumn" = some m.cls := findClass_of_methodNamed Bd.named
  have hnm := (name_of_methodNamed Bd.named Bd.method).1
  have X0 : Stand p l e ({ frames := 2, cells := 2, slots := 5, locals := 26 } : Room) s m #[(.ref a1), (.int (4 : Int32))] below meth c s₁ [] 0 0 := Stand.of_body Bd
  have e0 : s₁.heap = h0 := by rw [← hh, Bd.state]; rfl
  have N0 := Fr.nil n0
  have K0 : Keep h0 h0 [a1] := Keep.refl h0 _
  show OutW p e below s ({ frames := 2, cells := 2, slots := 5, locals := 26 } : Room).cells ({ frames := 2, cells := 2, slots := 5, locals := 26 } : Room).slots (Q1_4 Z a1 h0 n0) _
  refine OutW.back (fun t k => castTop (ef_1_4 m a1) k) ?_
  show OutW _ _ _ _ _ _ _ (s₁.setTop (mkF m 0 #[.val (.ref a1), .val (.int (4 : Int32))] []))
  refine OutW.back (fun t k => XS.aloadN X0.here hx rfl (hb hby d1_0) rfl rfl  k) ?_
  show OutW _ _ _ _ _ _ _ (s₁.setTop (mkF m 1 #[.val (.ref a1), .val (.int (4 : Int32))] [(.ref a1)]))
  refine OutW.back (fun t k => XS.bipush X0.here hx rfl (hb hby d1_1) k) ?_
  show OutW _ _ _ _ _ _ _ (s₁.setTop (mkF m 3 #[.val (.ref a1), .val (.int (4 : Int32))] [(.int (16 : Int32)), (.ref a1)]))
  refine OutW.back (fun t k => XS.iloadN X0.here hx rfl (hb hby d1_3) rfl  k) ?_
  show OutW _ _ _ _ _ _ _ (s₁.setTop (mkF m 4 #[.val (.ref a1), .val (.int (4 : Int32))] [(.int (4 : Int32)), (.int (16 : Int32)), (.ref a1)]))
  obtain ⟨_, _, ⟨T1, L1, k1, n1⟩, -, X1, ⟨Lc1, hQ1, l1, y1, z1⟩, st1⟩ := X0.specialBack hx (y := (⟨"com/example/xml_document_query/xmldocumentquery/tree/BlockedArray", "<init>", "(II)V"⟩ : MethodName)) rfl hown (mvT hZ (hw _ (List.mem_of_getElem? (i := 6) rfl))) (mvT hZ (hw _ (List.mem_of_getElem? (i := 7) rfl))) (mvT hZ (hw _ (List.mem_of_getElem? (i := 10) rfl))) (by decide) (backOf (W := 0) (rm2x l Z a0 hw [] a1 (16 : Int32) (4 : Int32) h0 n0 Z0 E_a1 g_a1 F_blockBits_a1 F_capacity_a1 F_size_a1 F_blocks_a1 F_before_a1) hZ (hw _ (List.mem_of_getElem? (i := 10) rfl)) (hw _ (List.mem_of_getElem? (i := 9) rfl)) (by decide) (by decide)) (g := (mkF m 4 #[.val (.ref a1), .val (.int (4 : Int32))] [(.int (4 : Int32)), (.int (16 : Int32)), (.ref a1)])) rfl (by rw [hml]; rfl) (Steps.refl _) (a := a1) (argsL := [(.int (16 : Int32)), (.int (4 : Int32))]) (rest := []) (lenOf pd_0 rfl) rfl (by show 2 * 0 + _ ≤ _; exact Nat.le_of_eq rfl) (hb hby d1_4) (fun _ _ => ⟨rfl, e0, (by decide : 0 + 0 ≤ _), (by decide : 0 + 0 ≤ _)⟩)
  dsimp only [Pt.U, Pt.locs, Pt.cells, Pt.slots] at X1 l1 y1 z1 st1 hQ1
  subst l1 y1 z1
  obtain ⟨h1, eh1⟩ : ∃ z, z = T1.heap := ⟨_, rfl⟩
  rw [← eh1] at hQ1
  have e1 : T1.heap = h1 := eh1.symm
  obtain ⟨rfl, Nq1, Kq1, F_blockBits_a1, F_capacity_a1, F_size_a1, F_blocks_a1, F_before_a1⟩ := hQ1
  have E_a1 := E_a1.keep Kq1
  have Z1 : n0 ≤ h1.size := Nat.le_trans Z0 Kq1.1
  have K1 := K0.trans Kq1 (allS (Or.inl (List.mem_of_getElem? (i := 0) rfl)) all0)
  have N1 := Fr.app N0 Nq1
  obtain ⟨lc1, X1, N1⟩ : ∃ lc, Stand p l e ({ frames := 2, cells := 2, slots := 5, locals := 26 } : Room) s m #[(.ref a1), (.int (4 : Int32))] below meth c T1 lc 0 0 ∧ Fr n0 lc := ⟨_, X1, N1⟩
  refine OutW.via st1 ?_
  show OutW _ _ _ _ _ _ _ (T1.setTop (mkF m 7 #[.val (.ref a1), .val (.int (4 : Int32))] []))
  refine OutW.back (fun t k => XS.aloadN X1.here hx rfl (hb hby d1_7) rfl rfl  k) ?_
  show OutW _ _ _ _ _ _ _ (T1.setTop (mkF m 8 #[.val (.ref a1), .val (.int (4 : Int32))] [(.ref a1)]))
  refine OutW.back (fun t k => XS.iconst X1.here hx rfl (hb hby d1_8) k) ?_
  show OutW _ _ _ _ _ _ _ (T1.setTop (mkF m 9 #[.val (.ref a1), .val (.int (4 : Int32))] [(.int (1 : Int32)), (.ref a1)]))
  obtain ⟨T2, h2, k2, X2, e2, E2, A2, -, O2, st2⟩ := newRA X1 hx hZ hown (ty := .int) (by decide) (hw _ (List.mem_of_getElem? (i := 18) rfl)) (hw _ (List.mem_of_getElem? (i := 19) rfl)) e1 (g := (mkF m 9 #[.val (.ref a1), .val (.int (4 : Int32))] [(.int (1 : Int32)), (.ref a1)])) rfl (hb hby d1_9) rfl (by decide) (cap := 1) (by decide) (by decide) (by decide) (by decide) (ad := "[[I") (by decide)
  obtain ⟨b2, g2⟩ : ∃ z, z = h1.size := ⟨_, rfl⟩
  rw [← g2] at A2 st2
  have ne_a1_b2 : a1 ≠ b2 := Nat.ne_of_lt (Nat.lt_of_lt_of_le E_a1.lt (Nat.le_of_eq g2.symm))
  have g_b2 : n0 ≤ b2 := Nat.le_trans Z1 (Nat.le_of_eq g2.symm)
  have sz_b2 : h0.size ≤ b2 := Nat.le_trans K1.1 (Nat.le_of_eq g2.symm)
  have E_a1 := E_a1.ext E2
  have F_blockBits_a1 := F_blockBits_a1.ext E2
  have F_capacity_a1 := F_capacity_a1.ext E2
  have F_size_a1 := F_size_a1.ext E2
  have F_blocks_a1 := F_blocks_a1.ext E2
  have F_before_a1 := F_before_a1.ext E2
  have Z2 : n0 ≤ h2.size := Nat.le_trans Z1 E2.1
  have K2 := K1.ext E2
  have V_b2 : Arv Z h2 b2 k2 (.array .int) (1 : Int32) [.null] .null := (Arv.new A2 (by decide)).pad (pad_rep [] .null 1)
  refine OutW.back st2 ?_
  show OutW _ _ _ _ _ _ _ (T2.setTop (mkF m 12 #[.val (.ref a1), .val (.int (4 : Int32))] [(.ref b2), (.ref a1)]))
  refine OutW.back (fun t k => XS.dup X2.here hx rfl (hb hby d1_12) rfl rfl k) ?_
  show OutW _ _ _ _ _ _ _ (T2.setTop (mkF m 13 #[.val (.ref a1), .val (.int (4 : Int32))] [(.ref b2), (.ref b2), (.ref a1)]))
  refine OutW.back (fun t k => XS.iconst X2.here hx rfl (hb hby d1_13) k) ?_
  show OutW _ _ _ _ _ _ _ (T2.setTop (mkF m 14 #[.val (.ref a1), .val (.int (4 : Int32))] [(.int (0 : Int32)), (.ref b2), (.ref b2), (.ref a1)]))
  refine OutW.back (fun t k => XS.iloadN X2.here hx rfl (hb hby d1_14) rfl  k) ?_
  show OutW _ _ _ _ _ _ _ (T2.setTop (mkF m 15 #[.val (.ref a1), .val (.int (4 : Int32))] [(.int (4 : Int32)), (.int (0 : Int32)), (.ref b2), (.ref b2), (.ref a1)]))
  obtain ⟨T3, h3, k3, X3, e3, E3, A3, Ax3, st3⟩ := newPE X2 hx hZ (hw _ (List.mem_of_getElem? (i := 20) rfl)) e2 (g := (mkF m 15 #[.val (.ref a1), .val (.int (4 : Int32))] [(.int (4 : Int32)), (.int (0 : Int32)), (.ref b2), (.ref b2), (.ref a1)])) rfl (hb hby d1_15) rfl (by decide) (cap := 4) (by decide) (by decide) (by decide) (by decide) (ad := "[I") (by decide)
  obtain ⟨b3, g3⟩ : ∃ z, z = h2.size := ⟨_, rfl⟩
  rw [← g3] at A3 st3 Ax3
  have ne_a1_b3 : a1 ≠ b3 := Nat.ne_of_lt (Nat.lt_of_lt_of_le E_a1.lt (Nat.le_of_eq g3.symm))
  have ne_b2_b3 : b2 ≠ b3 := Nat.ne_of_lt (Nat.lt_of_lt_of_le V_b2.lt (Nat.le_of_eq g3.symm))
  have g_b3 : n0 ≤ b3 := Nat.le_trans Z2 (Nat.le_of_eq g3.symm)
  have sz_b3 : h0.size ≤ b3 := Nat.le_trans K2.1 (Nat.le_of_eq g3.symm)
  have E_a1 := E_a1.ext E3
  have F_blockBits_a1 := F_blockBits_a1.ext E3
  have F_capacity_a1 := F_capacity_a1.ext E3
  have F_size_a1 := F_size_a1.ext E3
  have F_blocks_a1 := F_blocks_a1.ext E3
  have F_before_a1 := F_before_a1.ext E3
  have V_b2 := V_b2.ext E3
  have Z3 : n0 ≤ h3.size := Nat.le_trans Z2 E3.1
  have K3 := K2.ext E3
  have E_b3 := Ax3
  have V_b3 : Arv Z h3 b3 k3 .int (4 : Int32) [(.int (0 : Int32)), (.int (0 : Int32)), (.int (0 : Int32)), (.int (0 : Int32))] (.int (0 : Int32)) := (Arv.new A3 (by decide)).pad (pad_rep [] (.int (0 : Int32)) 4)
  refine OutW.back st3 ?_
  show OutW _ _ _ _ _ _ _ (T3.setTop (mkF m 17 #[.val (.ref a1), .val (.int (4 : Int32))] [(.ref b3), (.int (0 : Int32)), (.ref b2), (.ref b2), (.ref a1)]))
  obtain ⟨cl4, Ar4, Qk4, Sz4, Nn4, Hh4, Gg4⟩ := id V_b2
  have hin4 : ¬ ((0 : Int32) < 0 ∨ cl4.slots.size ≤ ((0 : Int32)).toNatClampNeg) := inb_of Sz4 ⟨by decide, by decide⟩
  obtain ⟨T4, h4, X4, e4, W4, st4⟩ := stR X3 hx hZ e3 Ar4 (j := (0 : Int32)) hin4 rfl (Sto.ofVA Ar4 Qk4 O2 (Ins.self E_b3)) (g := (mkF m 17 #[.val (.ref a1), .val (.int (4 : Int32))] [(.ref b3), (.int (0 : Int32)), (.ref b2), (.ref b2), (.ref a1)])) rfl rfl (hb hby d1_17)
  have V_b2_4 : Arv Z h4 b2 k2 (.array .int) (1 : Int32) [(.ref b3)] .null := Arv.set Ar4 Qk4 Sz4 Nn4 Hh4 Gg4 rfl W4 0 rfl (Nat.le_of_ble_eq_true rfl)
  have E_a1 := E_a1.wr W4
  have F_blockBits_a1 := F_blockBits_a1.other W4 (Or.inl ne_a1_b2)
  have F_capacity_a1 := F_capacity_a1.other W4 (Or.inl ne_a1_b2)
  have F_size_a1 := F_size_a1.other W4 (Or.inl ne_a1_b2)
  have F_blocks_a1 := F_blocks_a1.other W4 (Or.inl ne_a1_b2)
  have F_before_a1 := F_before_a1.other W4 (Or.inl ne_a1_b2)
  have E_b3 := E_b3.wr W4
  have V_b3 := V_b3.other W4 (Ne.symm ne_b2_b3)
  have N4 := Fr.snoc X4 N1 g_b2
  have Z4 : n0 ≤ h4.size := Nat.le_trans Z3 (Keep.of_wr W4).1
  have K4 := K3.wr W4 (Or.inr sz_b2)
  obtain ⟨lc4, X4, N4⟩ : ∃ lc, Stand p l e ({ frames := 2, cells := 2, slots := 5, locals := 26 } : Room) s m #[(.ref a1), (.int (4 : Int32))] below meth c T4 lc 2 5 ∧ Fr n0 lc := ⟨_, X4, N4⟩
  refine OutW.back st4 ?_
  show OutW _ _ _ _ _ _ _ (T4.setTop (mkF m 18 #[.val (.ref a1), .val (.int (4 : Int32))] [(.ref b2), (.ref a1)]))
  obtain ⟨T5, h5, X5, e5, W5, st5⟩ := putF X4 hx hZ hown (host := "") (Or.inl (hw _ (List.mem_of_getElem? (i := 22) rfl))) Via.refl e4 F_blocks_a1 E_a1 (Or.inl (hw _ (List.mem_of_getElem? (i := 23) rfl))) (hw _ (List.mem_of_getElem? (i := 1) rfl)) (ty := (.array (.array .int))) (by decide) rfl rfl (g := (mkF m 18 #[.val (.ref a1), .val (.int (4 : Int32))] [(.ref b2), (.ref a1)])) rfl rfl (hb hby d1_18)
  have E_a1 := E_a1.wr W5
  have F_blockBits_a1 := F_blockBits_a1.other W5 (Or.inr (slot_ne (Or.inr (hw _ (List.mem_of_getElem? (i := 15) rfl))) (Or.inl (hw _ (List.mem_of_getElem? (i := 23) rfl))) (by decide) (t := .int) (t' := (.array (.array .int))) (by decide) (by decide)))
  have F_capacity_a1 := F_capacity_a1.other W5 (Or.inr (slot_ne (Or.inl (hw _ (List.mem_of_getElem? (i := 17) rfl))) (Or.inl (hw _ (List.mem_of_getElem? (i := 23) rfl))) (by decide) (t := .int) (t' := (.array (.array .int))) (by decide) (by decide)))
  have F_size_a1 := F_size_a1.other W5 (Or.inr (slot_ne (Or.inl (hw _ (List.mem_of_getElem? (i := 30) rfl))) (Or.inl (hw _ (List.mem_of_getElem? (i := 23) rfl))) (by decide) (t := .int) (t' := (.array (.array .int))) (by decide) (by decide)))
  have F_blocks_a1 := F_blocks_a1.same W5
  have F_before_a1 := F_before_a1.other W5 (Or.inr (slot_ne (Or.inl (hw _ (List.mem_of_getElem? (i := 68) rfl))) (Or.inl (hw _ (List.mem_of_getElem? (i := 23) rfl))) (by decide) (t := (.object "com/example/xml_document_query/xmldocumentquery/tree/IntColumn")) (t' := (.array (.array .int))) (by decide) (by decide)))
  have E_b3 := E_b3.wr W5
  have V_b3 := V_b3.other W5 (Ne.symm ne_a1_b3)
  have V_b2_4 := V_b2_4.other W5 (Ne.symm ne_a1_b2)
  have N5 := Fr.snoc X5 N4 g_a1
  have Z5 : n0 ≤ h5.size := Nat.le_trans Z4 (Keep.of_wr W5).1
  have K5 := K4.wr W5 (Or.inl (List.mem_of_getElem? (i := 0) rfl))
  obtain ⟨lc5, X5, N5⟩ : ∃ lc, Stand p l e ({ frames := 2, cells := 2, slots := 5, locals := 26 } : Room) s m #[(.ref a1), (.int (4 : Int32))] below meth c T5 lc 2 5 ∧ Fr n0 lc := ⟨_, X5, N5⟩
  refine OutW.back st5 ?_
  show OutW _ _ _ _ _ _ _ (T5.setTop (mkF m 21 #[.val (.ref a1), .val (.int (4 : Int32))] []))
  refine OutW.retV X5 hx Bd.returns hlk (hb hby d1_21) (by decide) (by decide) ?_
  show Q1_4 Z a1 h0 n0 _ T5.heap _
  rw [e5]
  exact ⟨b2, b3, k2, k3, rfl, N5, K5, F_blockBits_a1, F_capacity_a1, F_size_a1, (by have q := F_blocks_a1; exact q), F_before_a1, sz_b2, sz_b3, g_b2, g_b3, ne_b2_b3, V_b2_4, V_b3, O2⟩
theorem ef_1_8 (m : MethodId) (x0 : Addr) : entryFrame m #[(.ref x0), (.int (8 : Int32))] 2 = mkF m 0 #[.val (.ref x0), .val (.int (8 : Int32))] [] := by first | (simp [entryFrame, mkF, argsToLocals, Value.category]; done) | rfl
def Q1_8 (Z : State) (a1 : Addr)  (h0 : Heap) (n0 : Nat) (v : Option Value) (h : Heap) (L : List Loc) : Prop := ∃ bN : Addr, ∃ dN : Addr, ∃ kB : ClassId, ∃ kD : ClassId, v = none ∧ Fr n0 L ∧ Keep h0 h [a1] ∧ Fld Z h a1 "com/example/xml_document_query/xmldocumentquery/tree/BlockedArray" "blockBits" "I" (.int (16 : Int32)) ∧ Fld Z h a1 "com/example/xml_document_query/xmldocumentquery/tree/BlockedArray" "capacity" "I" (.int (8 : Int32)) ∧ Fld Z h a1 "com/example/xml_document_query/xmldocumentquery/tree/IntColumn" "size" "I" (.int (0 : Int32)) ∧ Fld Z h a1 "com/example/xml_document_query/xmldocumentquery/tree/IntColumn" "blocks" "[[I" (.ref bN) ∧ Fld Z h a1 "com/example/xml_document_query/xmldocumentquery/tree/IntColumn" "before" "Lcom/example/xml_document_query/xmldocumentquery/tree/IntColumn;" .null ∧ h0.size ≤ bN ∧ h0.size ≤ dN ∧ n0 ≤ bN ∧ n0 ≤ dN ∧ bN ≠ dN ∧ Arv Z h bN kB (.array .int) (1 : Int32) [(.ref dN)] .null ∧ Arv Z h dN kD .int (8 : Int32) [(.int (0 : Int32)), (.int (0 : Int32)), (.int (0 : Int32)), (.int (0 : Int32)), (.int (0 : Int32)), (.int (0 : Int32)), (.int (0 : Int32)), (.int (0 : Int32))] (.int (0 : Int32)) ∧ OvrA Z kB .int "[I"
set_option maxRecDepth 65536 in
set_option maxHeartbeats 40000000 in
theorem rm1_8 (l : Launch) (Z : State) (a0 : Array Value) (hw : ∀ d ∈ tables_1, d.before a0 Z = true) (ws : List Jvm.Cond) (a1 : Addr)  (h0 : Heap) (n0 : Nat) (Z0 : n0 ≤ h0.size) (E_a1 : Exa Z h0 a1 "com/example/xml_document_query/xmldocumentquery/tree/IntColumn") (g_a1 : n0 ≤ a1) (F_blockBits_a1 : Fld Z h0 a1 "com/example/xml_document_query/xmldocumentquery/tree/BlockedArray" "blockBits" "I" (.int (0 : Int32))) (F_capacity_a1 : Fld Z h0 a1 "com/example/xml_document_query/xmldocumentquery/tree/BlockedArray" "capacity" "I" (.int (0 : Int32))) (F_size_a1 : Fld Z h0 a1 "com/example/xml_document_query/xmldocumentquery/tree/IntColumn" "size" "I" (.int (0 : Int32))) (F_blocks_a1 : Fld Z h0 a1 "com/example/xml_document_query/xmldocumentquery/tree/IntColumn" "blocks" "[[I" .null) (F_before_a1 : Fld Z h0 a1 "com/example/xml_document_query/xmldocumentquery/tree/IntColumn" "before" "Lcom/example/xml_document_query/xmldocumentquery/tree/IntColumn;" .null) :
    MetFree l (⟨"com/example/xml_document_query/xmldocumentquery/tree/IntColumn", "<init>", "(I)V"⟩ : MethodName) (head1 (Jvm.Cond.code (⟨"com/example/xml_document_query/xmldocumentquery/tree/IntColumn", "<init>", "(I)V"⟩ : MethodName) prog_168_method_1_code 2 none :: ws) ({ frames := 2, cells := 2, slots := 9, locals := 26 } : Room)) (fun a U => a = #[(.ref a1), (.int (8 : Int32))] ∧ Z.Warmed39 U.vm ∧ U.heap = h0) (fun _ _ _ _ _ => True) (fun _ U o U' => ∃ v L, o = .returned v ∧ Q1_8 Z a1 h0 n0 v U'.heap L ∧ FrameEnd U o U' L ({ frames := 2, cells := 2, slots := 9, locals := 26 } : Room).cells ({ frames := 2, cells := 2, slots := 9, locals := 26 } : Room).slots) := by
  refine MetFree.of_bodySF (plainFor_of_name pn_1) hisR ?_
  intro p e s m args below meth c s₁ Bd hml0 hP hK
  obtain ⟨rfl, hZ, hh⟩ := hP
  have hx := Bd.exec
  have hby := Bd.bytes
  have hlk := Bd.notSynchronized
  have hml : c.maxLocals = 2 := hml0
  have hown : s.vm.findClass "com/example/xml_document_query/xmldocumentquery/tree/IntColumn" = some m.cls := findClass_of_methodNamed Bd.named
  have hnm := (name_of_methodNamed Bd.named Bd.method).1
  have X0 : Stand p l e ({ frames := 2, cells := 2, slots := 9, locals := 26 } : Room) s m #[(.ref a1), (.int (8 : Int32))] below meth c s₁ [] 0 0 := Stand.of_body Bd
  have e0 : s₁.heap = h0 := by rw [← hh, Bd.state]; rfl
  have N0 := Fr.nil n0
  have K0 : Keep h0 h0 [a1] := Keep.refl h0 _
  show OutW p e below s ({ frames := 2, cells := 2, slots := 9, locals := 26 } : Room).cells ({ frames := 2, cells := 2, slots := 9, locals := 26 } : Room).slots (Q1_8 Z a1 h0 n0) _
  refine OutW.back (fun t k => castTop (ef_1_8 m a1) k) ?_
  show OutW _ _ _ _ _ _ _ (s₁.setTop (mkF m 0 #[.val (.ref a1), .val (.int (8 : Int32))] []))
  refine OutW.back (fun t k => XS.aloadN X0.here hx rfl (hb hby d1_0) rfl rfl  k) ?_
  show OutW _ _ _ _ _ _ _ (s₁.setTop (mkF m 1 #[.val (.ref a1), .val (.int (8 : Int32))] [(.ref a1)]))
  refine OutW.back (fun t k => XS.bipush X0.here hx rfl (hb hby d1_1) k) ?_
  show OutW _ _ _ _ _ _ _ (s₁.setTop (mkF m 3 #[.val (.ref a1), .val (.int (8 : Int32))] [(.int (16 : Int32)), (.ref a1)]))
  refine OutW.back (fun t k => XS.iloadN X0.here hx rfl (hb hby d1_3) rfl  k) ?_
  show OutW _ _ _ _ _ _ _ (s₁.setTop (mkF m 4 #[.val (.ref a1), .val (.int (8 : Int32))] [(.int (8 : Int32)), (.int (16 : Int32)), (.ref a1)]))
  obtain ⟨_, _, ⟨T1, L1, k1, n1⟩, -, X1, ⟨Lc1, hQ1, l1, y1, z1⟩, st1⟩ := X0.specialBack hx (y := (⟨"com/example/xml_document_query/xmldocumentquery/tree/BlockedArray", "<init>", "(II)V"⟩ : MethodName)) rfl hown (mvT hZ (hw _ (List.mem_of_getElem? (i := 6) rfl))) (mvT hZ (hw _ (List.mem_of_getElem? (i := 7) rfl))) (mvT hZ (hw _ (List.mem_of_getElem? (i := 10) rfl))) (by decide) (backOf (W := 0) (rm2x l Z a0 hw [] a1 (16 : Int32) (8 : Int32) h0 n0 Z0 E_a1 g_a1 F_blockBits_a1 F_capacity_a1 F_size_a1 F_blocks_a1 F_before_a1) hZ (hw _ (List.mem_of_getElem? (i := 10) rfl)) (hw _ (List.mem_of_getElem? (i := 9) rfl)) (by decide) (by decide)) (g := (mkF m 4 #[.val (.ref a1), .val (.int (8 : Int32))] [(.int (8 : Int32)), (.int (16 : Int32)), (.ref a1)])) rfl (by rw [hml]; rfl) (Steps.refl _) (a := a1) (argsL := [(.int (16 : Int32)), (.int (8 : Int32))]) (rest := []) (lenOf pd_0 rfl) rfl (by show 2 * 0 + _ ≤ _; exact Nat.le_of_eq rfl) (hb hby d1_4) (fun _ _ => ⟨rfl, e0, (by decide : 0 + 0 ≤ _), (by decide : 0 + 0 ≤ _)⟩)
  dsimp only [Pt.U, Pt.locs, Pt.cells, Pt.slots] at X1 l1 y1 z1 st1 hQ1
  subst l1 y1 z1
  obtain ⟨h1, eh1⟩ : ∃ z, z = T1.heap := ⟨_, rfl⟩
  rw [← eh1] at hQ1
  have e1 : T1.heap = h1 := eh1.symm
  obtain ⟨rfl, Nq1, Kq1, F_blockBits_a1, F_capacity_a1, F_size_a1, F_blocks_a1, F_before_a1⟩ := hQ1
  have E_a1 := E_a1.keep Kq1
  have Z1 : n0 ≤ h1.size := Nat.le_trans Z0 Kq1.1
  have K1 := K0.trans Kq1 (allS (Or.inl (List.mem_of_getElem? (i := 0) rfl)) all0)
  have N1 := Fr.app N0 Nq1
  obtain ⟨lc1, X1, N1⟩ : ∃ lc, Stand p l e ({ frames := 2, cells := 2, slots := 9, locals := 26 } : Room) s m #[(.ref a1), (.int (8 : Int32))] below meth c T1 lc 0 0 ∧ Fr n0 lc := ⟨_, X1, N1⟩
  refine OutW.via st1 ?_
  show OutW _ _ _ _ _ _ _ (T1.setTop (mkF m 7 #[.val (.ref a1), .val (.int (8 : Int32))] []))
  refine OutW.back (fun t k => XS.aloadN X1.here hx rfl (hb hby d1_7) rfl rfl  k) ?_
  show OutW _ _ _ _ _ _ _ (T1.setTop (mkF m 8 #[.val (.ref a1), .val (.int (8 : Int32))] [(.ref a1)]))
  refine OutW.back (fun t k => XS.iconst X1.here hx rfl (hb hby d1_8) k) ?_
  show OutW _ _ _ _ _ _ _ (T1.setTop (mkF m 9 #[.val (.ref a1), .val (.int (8 : Int32))] [(.int (1 : Int32)), (.ref a1)]))
  obtain ⟨T2, h2, k2, X2, e2, E2, A2, -, O2, st2⟩ := newRA X1 hx hZ hown (ty := .int) (by decide) (hw _ (List.mem_of_getElem? (i := 18) rfl)) (hw _ (List.mem_of_getElem? (i := 19) rfl)) e1 (g := (mkF m 9 #[.val (.ref a1), .val (.int (8 : Int32))] [(.int (1 : Int32)), (.ref a1)])) rfl (hb hby d1_9) rfl (by decide) (cap := 1) (by decide) (by decide) (by decide) (by decide) (ad := "[[I") (by decide)
  obtain ⟨b2, g2⟩ : ∃ z, z = h1.size := ⟨_, rfl⟩
  rw [← g2] at A2 st2
  have ne_a1_b2 : a1 ≠ b2 := Nat.ne_of_lt (Nat.lt_of_lt_of_le E_a1.lt (Nat.le_of_eq g2.symm))
  have g_b2 : n0 ≤ b2 := Nat.le_trans Z1 (Nat.le_of_eq g2.symm)
  have sz_b2 : h0.size ≤ b2 := Nat.le_trans K1.1 (Nat.le_of_eq g2.symm)
  have E_a1 := E_a1.ext E2
  have F_blockBits_a1 := F_blockBits_a1.ext E2
  have F_capacity_a1 := F_capacity_a1.ext E2
  have F_size_a1 := F_size_a1.ext E2
  have F_blocks_a1 := F_blocks_a1.ext E2
  have F_before_a1 := F_before_a1.ext E2
  have Z2 : n0 ≤ h2.size := Nat.le_trans Z1 E2.1
  have K2 := K1.ext E2
  have V_b2 : Arv Z h2 b2 k2 (.array .int) (1 : Int32) [.null] .null := (Arv.new A2 (by decide)).pad (pad_rep [] .null 1)
  refine OutW.back st2 ?_
  show OutW _ _ _ _ _ _ _ (T2.setTop (mkF m 12 #[.val (.ref a1), .val (.int (8 : Int32))] [(.ref b2), (.ref a1)]))
  refine OutW.back (fun t k => XS.dup X2.here hx rfl (hb hby d1_12) rfl rfl k) ?_
  show OutW _ _ _ _ _ _ _ (T2.setTop (mkF m 13 #[.val (.ref a1), .val (.int (8 : Int32))] [(.ref b2), (.ref b2), (.ref a1)]))
  refine OutW.back (fun t k => XS.iconst X2.here hx rfl (hb hby d1_13) k) ?_
  show OutW _ _ _ _ _ _ _ (T2.setTop (mkF m 14 #[.val (.ref a1), .val (.int (8 : Int32))] [(.int (0 : Int32)), (.ref b2), (.ref b2), (.ref a1)]))
  refine OutW.back (fun t k => XS.iloadN X2.here hx rfl (hb hby d1_14) rfl  k) ?_
  show OutW _ _ _ _ _ _ _ (T2.setTop (mkF m 15 #[.val (.ref a1), .val (.int (8 : Int32))] [(.int (8 : Int32)), (.int (0 : Int32)), (.ref b2), (.ref b2), (.ref a1)]))
  obtain ⟨T3, h3, k3, X3, e3, E3, A3, Ax3, st3⟩ := newPE X2 hx hZ (hw _ (List.mem_of_getElem? (i := 20) rfl)) e2 (g := (mkF m 15 #[.val (.ref a1), .val (.int (8 : Int32))] [(.int (8 : Int32)), (.int (0 : Int32)), (.ref b2), (.ref b2), (.ref a1)])) rfl (hb hby d1_15) rfl (by decide) (cap := 8) (by decide) (by decide) (by decide) (by decide) (ad := "[I") (by decide)
  obtain ⟨b3, g3⟩ : ∃ z, z = h2.size := ⟨_, rfl⟩
  rw [← g3] at A3 st3 Ax3
  have ne_a1_b3 : a1 ≠ b3 := Nat.ne_of_lt (Nat.lt_of_lt_of_le E_a1.lt (Nat.le_of_eq g3.symm))
  have ne_b2_b3 : b2 ≠ b3 := Nat.ne_of_lt (Nat.lt_of_lt_of_le V_b2.lt (Nat.le_of_eq g3.symm))
  have g_b3 : n0 ≤ b3 := Nat.le_trans Z2 (Nat.le_of_eq g3.symm)
  have sz_b3 : h0.size ≤ b3 := Nat.le_trans K2.1 (Nat.le_of_eq g3.symm)
  have E_a1 := E_a1.ext E3
  have F_blockBits_a1 := F_blockBits_a1.ext E3
  have F_capacity_a1 := F_capacity_a1.ext E3
  have F_size_a1 := F_size_a1.ext E3
  have F_blocks_a1 := F_blocks_a1.ext E3
  have F_before_a1 := F_before_a1.ext E3
  have V_b2 := V_b2.ext E3
  have Z3 : n0 ≤ h3.size := Nat.le_trans Z2 E3.1
  have K3 := K2.ext E3
  have E_b3 := Ax3
  have V_b3 : Arv Z h3 b3 k3 .int (8 : Int32) [(.int (0 : Int32)), (.int (0 : Int32)), (.int (0 : Int32)), (.int (0 : Int32)), (.int (0 : Int32)), (.int (0 : Int32)), (.int (0 : Int32)), (.int (0 : Int32))] (.int (0 : Int32)) := (Arv.new A3 (by decide)).pad (pad_rep [] (.int (0 : Int32)) 8)
  refine OutW.back st3 ?_
  show OutW _ _ _ _ _ _ _ (T3.setTop (mkF m 17 #[.val (.ref a1), .val (.int (8 : Int32))] [(.ref b3), (.int (0 : Int32)), (.ref b2), (.ref b2), (.ref a1)]))
  obtain ⟨cl4, Ar4, Qk4, Sz4, Nn4, Hh4, Gg4⟩ := id V_b2
  have hin4 : ¬ ((0 : Int32) < 0 ∨ cl4.slots.size ≤ ((0 : Int32)).toNatClampNeg) := inb_of Sz4 ⟨by decide, by decide⟩
  obtain ⟨T4, h4, X4, e4, W4, st4⟩ := stR X3 hx hZ e3 Ar4 (j := (0 : Int32)) hin4 rfl (Sto.ofVA Ar4 Qk4 O2 (Ins.self E_b3)) (g := (mkF m 17 #[.val (.ref a1), .val (.int (8 : Int32))] [(.ref b3), (.int (0 : Int32)), (.ref b2), (.ref b2), (.ref a1)])) rfl rfl (hb hby d1_17)
  have V_b2_4 : Arv Z h4 b2 k2 (.array .int) (1 : Int32) [(.ref b3)] .null := Arv.set Ar4 Qk4 Sz4 Nn4 Hh4 Gg4 rfl W4 0 rfl (Nat.le_of_ble_eq_true rfl)
  have E_a1 := E_a1.wr W4
  have F_blockBits_a1 := F_blockBits_a1.other W4 (Or.inl ne_a1_b2)
  have F_capacity_a1 := F_capacity_a1.other W4 (Or.inl ne_a1_b2)
  have F_size_a1 := F_size_a1.other W4 (Or.inl ne_a1_b2)
  have F_blocks_a1 := F_blocks_a1.other W4 (Or.inl ne_a1_b2)
  have F_before_a1 := F_before_a1.other W4 (Or.inl ne_a1_b2)
  have E_b3 := E_b3.wr W4
  have V_b3 := V_b3.other W4 (Ne.symm ne_b2_b3)
  have N4 := Fr.snoc X4 N1 g_b2
  have Z4 : n0 ≤ h4.size := Nat.le_trans Z3 (Keep.of_wr W4).1
  have K4 := K3.wr W4 (Or.inr sz_b2)
  obtain ⟨lc4, X4, N4⟩ : ∃ lc, Stand p l e ({ frames := 2, cells := 2, slots := 9, locals := 26 } : Room) s m #[(.ref a1), (.int (8 : Int32))] below meth c T4 lc 2 9 ∧ Fr n0 lc := ⟨_, X4, N4⟩
  refine OutW.back st4 ?_
  show OutW _ _ _ _ _ _ _ (T4.setTop (mkF m 18 #[.val (.ref a1), .val (.int (8 : Int32))] [(.ref b2), (.ref a1)]))
  obtain ⟨T5, h5, X5, e5, W5, st5⟩ := putF X4 hx hZ hown (host := "") (Or.inl (hw _ (List.mem_of_getElem? (i := 22) rfl))) Via.refl e4 F_blocks_a1 E_a1 (Or.inl (hw _ (List.mem_of_getElem? (i := 23) rfl))) (hw _ (List.mem_of_getElem? (i := 1) rfl)) (ty := (.array (.array .int))) (by decide) rfl rfl (g := (mkF m 18 #[.val (.ref a1), .val (.int (8 : Int32))] [(.ref b2), (.ref a1)])) rfl rfl (hb hby d1_18)
  have E_a1 := E_a1.wr W5
  have F_blockBits_a1 := F_blockBits_a1.other W5 (Or.inr (slot_ne (Or.inr (hw _ (List.mem_of_getElem? (i := 15) rfl))) (Or.inl (hw _ (List.mem_of_getElem? (i := 23) rfl))) (by decide) (t := .int) (t' := (.array (.array .int))) (by decide) (by decide)))
  have F_capacity_a1 := F_capacity_a1.other W5 (Or.inr (slot_ne (Or.inl (hw _ (List.mem_of_getElem? (i := 17) rfl))) (Or.inl (hw _ (List.mem_of_getElem? (i := 23) rfl))) (by decide) (t := .int) (t' := (.array (.array .int))) (by decide) (by decide)))
  have F_size_a1 := F_size_a1.other W5 (Or.inr (slot_ne (Or.inl (hw _ (List.mem_of_getElem? (i := 30) rfl))) (Or.inl (hw _ (List.mem_of_getElem? (i := 23) rfl))) (by decide) (t := .int) (t' := (.array (.array .int))) (by decide) (by decide)))
  have F_blocks_a1 := F_blocks_a1.same W5
  have F_before_a1 := F_before_a1.other W5 (Or.inr (slot_ne (Or.inl (hw _ (List.mem_of_getElem? (i := 68) rfl))) (Or.inl (hw _ (List.mem_of_getElem? (i := 23) rfl))) (by decide) (t := (.object "com/example/xml_document_query/xmldocumentquery/tree/IntColumn")) (t' := (.array (.array .int))) (by decide) (by decide)))
  have E_b3 := E_b3.wr W5
  have V_b3 := V_b3.other W5 (Ne.symm ne_a1_b3)
  have V_b2_4 := V_b2_4.other W5 (Ne.symm ne_a1_b2)
  have N5 := Fr.snoc X5 N4 g_a1
  have Z5 : n0 ≤ h5.size := Nat.le_trans Z4 (Keep.of_wr W5).1
  have K5 := K4.wr W5 (Or.inl (List.mem_of_getElem? (i := 0) rfl))
  obtain ⟨lc5, X5, N5⟩ : ∃ lc, Stand p l e ({ frames := 2, cells := 2, slots := 9, locals := 26 } : Room) s m #[(.ref a1), (.int (8 : Int32))] below meth c T5 lc 2 9 ∧ Fr n0 lc := ⟨_, X5, N5⟩
  refine OutW.back st5 ?_
  show OutW _ _ _ _ _ _ _ (T5.setTop (mkF m 21 #[.val (.ref a1), .val (.int (8 : Int32))] []))
  refine OutW.retV X5 hx Bd.returns hlk (hb hby d1_21) (by decide) (by decide) ?_
  show Q1_8 Z a1 h0 n0 _ T5.heap _
  rw [e5]
  exact ⟨b2, b3, k2, k3, rfl, N5, K5, F_blockBits_a1, F_capacity_a1, F_size_a1, (by have q := F_blocks_a1; exact q), F_before_a1, sz_b2, sz_b3, g_b2, g_b3, ne_b2_b3, V_b2_4, V_b3, O2⟩
def minF_0 (p1 : Int32) (p2 : Int32) : Int32 := (if p2 < p1 then p2 else p1)
theorem d7_0 : decode jdk_29_method_69_code 0 = .ok (.iload_n 0, 1) := by decide +kernel
theorem d7_1 : decode jdk_29_method_69_code 1 = .ok (.iload_n 1, 1) := by decide +kernel
theorem d7_2 : decode jdk_29_method_69_code 2 = .ok (.if_icmp .gt 7, 3) := by decide +kernel
theorem d7_5 : decode jdk_29_method_69_code 5 = .ok (.iload_n 0, 1) := by decide +kernel
theorem d7_6 : decode jdk_29_method_69_code 6 = .ok (.goto 4, 3) := by decide +kernel
theorem d7_9 : decode jdk_29_method_69_code 9 = .ok (.iload_n 1, 1) := by decide +kernel
theorem d7_10 : decode jdk_29_method_69_code 10 = .ok (.ireturn, 1) := by decide +kernel
theorem ef_7 (m : MethodId) (x0 : Int32) (x1 : Int32) : entryFrame m #[(.int x0), (.int x1)] 2 = mkF m 0 #[.val (.int x0), .val (.int x1)] [] := by first | (simp [entryFrame, mkF, argsToLocals, Value.category]; done) | rfl
def Q7 (Z : State) (p1 : Int32) (p2 : Int32)  (h0 : Heap) (n0 : Nat) (v : Option Value) (h : Heap) (L : List Loc) : Prop := v = some (.int (minF_0 p1 p2)) ∧ Fr n0 L ∧ h = h0
set_option maxRecDepth 65536 in
set_option maxHeartbeats 40000000 in
theorem rm7 (l : Launch) (Z : State) (a0 : Array Value) (hw : ∀ d ∈ tables_1, d.before a0 Z = true) (ws : List Jvm.Cond) (p1 : Int32) (p2 : Int32)  (h0 : Heap) (n0 : Nat) (Z0 : n0 ≤ h0.size) :
    MetFree l (⟨"java/lang/Math", "min", "(II)I"⟩ : MethodName) (head1 (Jvm.Cond.code (⟨"java/lang/Math", "min", "(II)I"⟩ : MethodName) jdk_29_method_69_code 2 (some .int) :: ws) ({ frames := 0, cells := 0, slots := 0, locals := 0 } : Room)) (fun a U => a = #[(.int p1), (.int p2)] ∧ Z.Warmed39 U.vm ∧ U.heap = h0) (fun _ _ _ _ _ => True) (fun _ U o U' => ∃ v L, o = .returned v ∧ Q7 Z p1 p2 h0 n0 v U'.heap L ∧ FrameEnd U o U' L ({ frames := 0, cells := 0, slots := 0, locals := 0 } : Room).cells ({ frames := 0, cells := 0, slots := 0, locals := 0 } : Room).slots) := by
  refine MetFree.of_bodySF (Jvm.Free.JP.mathPlain rfl (by decide +kernel)) hisR ?_
  intro p e s m args below meth c s₁ Bd hml0 hP hK
  obtain ⟨rfl, hZ, hh⟩ := hP
  have hx := Bd.exec
  have hby := Bd.bytes
  have hlk := Bd.notSynchronized
  have hml : c.maxLocals = 2 := hml0
  have hown : s.vm.findClass "java/lang/Math" = some m.cls := findClass_of_methodNamed Bd.named
  have hnm := (name_of_methodNamed Bd.named Bd.method).1
  have X0 : Stand p l e ({ frames := 0, cells := 0, slots := 0, locals := 0 } : Room) s m #[(.int p1), (.int p2)] below meth c s₁ [] 0 0 := Stand.of_body Bd
  have e0 : s₁.heap = h0 := by rw [← hh, Bd.state]; rfl
  have N0 := Fr.nil n0
  have K0 : Keep h0 h0 [] := Keep.refl h0 _
  show OutW p e below s ({ frames := 0, cells := 0, slots := 0, locals := 0 } : Room).cells ({ frames := 0, cells := 0, slots := 0, locals := 0 } : Room).slots (Q7 Z p1 p2 h0 n0) _
  refine OutW.back (fun t k => castTop (ef_7 m p1 p2) k) ?_
  show OutW _ _ _ _ _ _ _ (s₁.setTop (mkF m 0 #[.val (.int p1), .val (.int p2)] []))
  refine OutW.back (fun t k => XS.iloadN X0.here hx rfl (hb hby d7_0) rfl  k) ?_
  show OutW _ _ _ _ _ _ _ (s₁.setTop (mkF m 1 #[.val (.int p1), .val (.int p2)] [(.int p1)]))
  refine OutW.back (fun t k => XS.iloadN X0.here hx rfl (hb hby d7_1) rfl  k) ?_
  show OutW _ _ _ _ _ _ _ (s₁.setTop (mkF m 2 #[.val (.int p1), .val (.int p2)] [(.int p2), (.int p1)]))
  by_cases c2_1 : p2 < p1
  · skip
    refine OutW.back (fun t k => XS.icmpYes X0.here hx rfl (pc0 := 2) (pc' := 9) rfl (hb hby d7_2) rfl (tlt c2_1).2.2.1 (by decide) (by decide) k) ?_
    show OutW _ _ _ _ _ _ _ (s₁.setTop (mkF m 9 #[.val (.int p1), .val (.int p2)] []))
    refine OutW.back (fun t k => XS.iloadN X0.here hx rfl (hb hby d7_9) rfl  k) ?_
    show OutW _ _ _ _ _ _ _ (s₁.setTop (mkF m 10 #[.val (.int p1), .val (.int p2)] [(.int p2)]))
    refine OutW.retI X0 hx Bd.returns hlk (hb hby d7_10) (by decide) (by decide) ?_
    show Q7 Z p1 p2 h0 n0 _ s₁.heap _
    rw [e0]
    exact ⟨by rw [minF_0, if_pos c2_1], N0, rfl⟩
  · skip
    refine OutW.back (fun t k => XS.icmpNo X0.here hx rfl (hb hby d7_2) rfl (flt c2_1).2.2.1 k) ?_
    show OutW _ _ _ _ _ _ _ (s₁.setTop (mkF m 5 #[.val (.int p1), .val (.int p2)] []))
    refine OutW.back (fun t k => XS.iloadN X0.here hx rfl (hb hby d7_5) rfl  k) ?_
    show OutW _ _ _ _ _ _ _ (s₁.setTop (mkF m 6 #[.val (.int p1), .val (.int p2)] [(.int p1)]))
    refine OutW.back (fun t k => XS.goto X0.here hx rfl (pc0 := 6) (pc' := 10) rfl (hb hby d7_6) (by decide) (by decide) k) ?_
    show OutW _ _ _ _ _ _ _ (s₁.setTop (mkF m 10 #[.val (.int p1), .val (.int p2)] [(.int p1)]))
    refine OutW.retI X0 hx Bd.returns hlk (hb hby d7_10) (by decide) (by decide) ?_
    show Q7 Z p1 p2 h0 n0 _ s₁.heap _
    rw [e0]
    exact ⟨by rw [minF_0, if_neg c2_1], N0, rfl⟩
theorem pd_1 : parseMethodDescriptor "(II)I" = some ⟨[.int, .int], some .int⟩ := by decide +kernel
theorem d9_0 : decode jdk_65_method_123_code 0 = .ok (.iload_n 1, 1) := by decide +kernel
theorem d9_1 : decode jdk_65_method_123_code 1 = .ok (.aload_n 0, 1) := by decide +kernel
theorem d9_2 : decode jdk_65_method_123_code 2 = .ok (.arraylength, 1) := by decide +kernel
theorem d9_3 : decode jdk_65_method_123_code 3 = .ok (.if_icmp .ne 11, 3) := by decide +kernel
theorem d9_14 : decode jdk_65_method_123_code 14 = .ok (.iload_n 1, 1) := by decide +kernel
theorem d9_15 : decode jdk_65_method_123_code 15 = .ok (.newarray .int, 2) := by decide +kernel
theorem d9_17 : decode jdk_65_method_123_code 17 = .ok (.astore_n 2, 1) := by decide +kernel
theorem d9_18 : decode jdk_65_method_123_code 18 = .ok (.aload_n 0, 1) := by decide +kernel
theorem d9_19 : decode jdk_65_method_123_code 19 = .ok (.iconst 0, 1) := by decide +kernel
theorem d9_20 : decode jdk_65_method_123_code 20 = .ok (.aload_n 2, 1) := by decide +kernel
theorem d9_21 : decode jdk_65_method_123_code 21 = .ok (.iconst 0, 1) := by decide +kernel
theorem d9_22 : decode jdk_65_method_123_code 22 = .ok (.aload_n 0, 1) := by decide +kernel
theorem d9_23 : decode jdk_65_method_123_code 23 = .ok (.arraylength, 1) := by decide +kernel
theorem d9_24 : decode jdk_65_method_123_code 24 = .ok (.iload_n 1, 1) := by decide +kernel
theorem d9_25 : decode jdk_65_method_123_code 25 = .ok (.invokestatic 304, 3) := by decide +kernel
theorem d9_28 : decode jdk_65_method_123_code 28 = .ok (.invokestatic 150, 3) := by decide +kernel
theorem d9_31 : decode jdk_65_method_123_code 31 = .ok (.aload_n 2, 1) := by decide +kernel
theorem d9_32 : decode jdk_65_method_123_code 32 = .ok (.areturn, 1) := by decide +kernel
theorem pn_9 : plainName "java/util/Arrays" = true := by first | (simp [plainName, overriddenIn]; done) | decide +kernel
theorem ef_9 (m : MethodId) (x0 : Addr) : entryFrame m #[(.ref x0), (.int (2 : Int32))] 3 = mkF m 0 #[.val (.ref x0), .val (.int (2 : Int32)), .unset] [] := by first | (simp [entryFrame, mkF, argsToLocals, Value.category]; done) | rfl
def Q9 (Z : State) (a1 : Addr) (w0 : Int32) (kk : ClassId) (h0 : Heap) (n0 : Nat) (v : Option Value) (h : Heap) (L : List Loc) : Prop := ∃ dN : Addr, ∃ kD : ClassId, v = some (.ref dN) ∧ Fr n0 L ∧ Keep h0 h [] ∧ h0.size ≤ dN ∧ n0 ≤ dN ∧ Exa Z h dN "[I" ∧ Arv Z h dN kD .int (2 : Int32) [(.int w0), (.int (0 : Int32))] (.int (0 : Int32))
set_option maxRecDepth 65536 in
set_option maxHeartbeats 40000000 in
theorem rm9 (l : Launch) (Z : State) (a0 : Array Value) (hw : ∀ d ∈ tables_1, d.before a0 Z = true) (ws : List Jvm.Cond) (a1 : Addr) (w0 : Int32) (kk : ClassId) (h0 : Heap) (n0 : Nat) (Z0 : n0 ≤ h0.size) (V_a1 : Arv Z h0 a1 kk .int (1 : Int32) [(.int w0)] (.int (0 : Int32))) :
    MetFree l (⟨"java/util/Arrays", "copyOf", "([II)[I"⟩ : MethodName) (head1 (Jvm.Cond.code (⟨"java/util/Arrays", "copyOf", "([II)[I"⟩ : MethodName) jdk_65_method_123_code 3 (some (.array .int)) :: ws) ({ frames := 1, cells := 1, slots := 2, locals := 40 } : Room)) (fun a U => a = #[(.ref a1), (.int (2 : Int32))] ∧ Z.Warmed39 U.vm ∧ U.heap = h0) (fun _ _ _ _ _ => True) (fun _ U o U' => ∃ v L, o = .returned v ∧ Q9 Z a1 w0 kk h0 n0 v U'.heap L ∧ FrameEnd U o U' L ({ frames := 1, cells := 1, slots := 2, locals := 40 } : Room).cells ({ frames := 1, cells := 1, slots := 2, locals := 40 } : Room).slots) := by
  refine MetFree.of_bodySF (plainFor_of_name pn_9) hisR ?_
  intro p e s m args below meth c s₁ Bd hml0 hP hK
  obtain ⟨rfl, hZ, hh⟩ := hP
  have hx := Bd.exec
  have hby := Bd.bytes
  have hlk := Bd.notSynchronized
  have hml : c.maxLocals = 3 := hml0
  have hown : s.vm.findClass "java/util/Arrays" = some m.cls := findClass_of_methodNamed Bd.named
  have hnm := (name_of_methodNamed Bd.named Bd.method).1
  have X0 : Stand p l e ({ frames := 1, cells := 1, slots := 2, locals := 40 } : Room) s m #[(.ref a1), (.int (2 : Int32))] below meth c s₁ [] 0 0 := Stand.of_body Bd
  have e0 : s₁.heap = h0 := by rw [← hh, Bd.state]; rfl
  have N0 := Fr.nil n0
  have K0 : Keep h0 h0 [] := Keep.refl h0 _
  show OutW p e below s ({ frames := 1, cells := 1, slots := 2, locals := 40 } : Room).cells ({ frames := 1, cells := 1, slots := 2, locals := 40 } : Room).slots (Q9 Z a1 w0 kk h0 n0) _
  refine OutW.back (fun t k => castTop (ef_9 m a1) k) ?_
  show OutW _ _ _ _ _ _ _ (s₁.setTop (mkF m 0 #[.val (.ref a1), .val (.int (2 : Int32)), .unset] []))
  refine OutW.back (fun t k => XS.iloadN X0.here hx rfl (hb hby d9_0) rfl  k) ?_
  show OutW _ _ _ _ _ _ _ (s₁.setTop (mkF m 1 #[.val (.ref a1), .val (.int (2 : Int32)), .unset] [(.int (2 : Int32))]))
  refine OutW.back (fun t k => XS.aloadN X0.here hx rfl (hb hby d9_1) rfl rfl  k) ?_
  show OutW _ _ _ _ _ _ _ (s₁.setTop (mkF m 2 #[.val (.ref a1), .val (.int (2 : Int32)), .unset] [(.ref a1), (.int (2 : Int32))]))
  obtain ⟨cl1, Ar1, Qk1, Sz1, Nn1, Hh1, Gg1⟩ := id V_a1
  refine OutW.back (X0.arraylength hx (by rw [e0]; exact Ar1.1) (State.isArrayOf_alike hZ.alike Ar1.2.1) (g := (mkF m 2 #[.val (.ref a1), .val (.int (2 : Int32)), .unset] [(.ref a1), (.int (2 : Int32))])) rfl rfl (hb hby d9_2)) ?_
  rw [len_of Sz1 Nn1]
  show OutW _ _ _ _ _ _ _ (s₁.setTop (mkF m 3 #[.val (.ref a1), .val (.int (2 : Int32)), .unset] [(.int (1 : Int32)), (.int (2 : Int32))]))
  refine OutW.back (fun t k => XS.icmpYes X0.here hx rfl (pc0 := 3) (pc' := 14) rfl (hb hby d9_3) rfl (feq (by decide : ¬ ((2 : Int32) = (1 : Int32)))).2 (by decide) (by decide) k) ?_
  show OutW _ _ _ _ _ _ _ (s₁.setTop (mkF m 14 #[.val (.ref a1), .val (.int (2 : Int32)), .unset] []))
  refine OutW.back (fun t k => XS.iloadN X0.here hx rfl (hb hby d9_14) rfl  k) ?_
  show OutW _ _ _ _ _ _ _ (s₁.setTop (mkF m 15 #[.val (.ref a1), .val (.int (2 : Int32)), .unset] [(.int (2 : Int32))]))
  obtain ⟨T2, h2, k2, X2, e2, E2, A2, Ax2, st2⟩ := newPE X0 hx hZ (hw _ (List.mem_of_getElem? (i := 20) rfl)) e0 (g := (mkF m 15 #[.val (.ref a1), .val (.int (2 : Int32)), .unset] [(.int (2 : Int32))])) rfl (hb hby d9_15) rfl (by decide) (cap := 2) (by decide) (by decide) (by decide) (by decide) (ad := "[I") (by decide)
  obtain ⟨b2, g2⟩ : ∃ z, z = h0.size := ⟨_, rfl⟩
  rw [← g2] at A2 st2 Ax2
  have ne_a1_b2 : a1 ≠ b2 := Nat.ne_of_lt (Nat.lt_of_lt_of_le V_a1.lt (Nat.le_of_eq g2.symm))
  have g_b2 : n0 ≤ b2 := Nat.le_trans Z0 (Nat.le_of_eq g2.symm)
  have sz_b2 : h0.size ≤ b2 := Nat.le_trans K0.1 (Nat.le_of_eq g2.symm)
  have V_a1 := V_a1.ext E2
  have Z2 : n0 ≤ h2.size := Nat.le_trans Z0 E2.1
  have K2 := K0.ext E2
  have E_b2 := Ax2
  have V_b2 : Arv Z h2 b2 k2 .int (2 : Int32) [(.int (0 : Int32)), (.int (0 : Int32))] (.int (0 : Int32)) := (Arv.new A2 (by decide)).pad (pad_rep [] (.int (0 : Int32)) 2)
  refine OutW.back st2 ?_
  show OutW _ _ _ _ _ _ _ (T2.setTop (mkF m 17 #[.val (.ref a1), .val (.int (2 : Int32)), .unset] [(.ref b2)]))
  refine OutW.back (fun t k => XS.astoreN X2.here hx rfl (hb hby d9_17) rfl rfl (l' := #[.val (.ref a1), .val (.int (2 : Int32)), .val (.ref b2)]) rfl k) ?_
  show OutW _ _ _ _ _ _ _ (T2.setTop (mkF m 18 #[.val (.ref a1), .val (.int (2 : Int32)), .val (.ref b2)] []))
  refine OutW.back (fun t k => XS.aloadN X2.here hx rfl (hb hby d9_18) rfl rfl  k) ?_
  show OutW _ _ _ _ _ _ _ (T2.setTop (mkF m 19 #[.val (.ref a1), .val (.int (2 : Int32)), .val (.ref b2)] [(.ref a1)]))
  refine OutW.back (fun t k => XS.iconst X2.here hx rfl (hb hby d9_19) k) ?_
  show OutW _ _ _ _ _ _ _ (T2.setTop (mkF m 20 #[.val (.ref a1), .val (.int (2 : Int32)), .val (.ref b2)] [(.int (0 : Int32)), (.ref a1)]))
  refine OutW.back (fun t k => XS.aloadN X2.here hx rfl (hb hby d9_20) rfl rfl  k) ?_
  show OutW _ _ _ _ _ _ _ (T2.setTop (mkF m 21 #[.val (.ref a1), .val (.int (2 : Int32)), .val (.ref b2)] [(.ref b2), (.int (0 : Int32)), (.ref a1)]))
  refine OutW.back (fun t k => XS.iconst X2.here hx rfl (hb hby d9_21) k) ?_
  show OutW _ _ _ _ _ _ _ (T2.setTop (mkF m 22 #[.val (.ref a1), .val (.int (2 : Int32)), .val (.ref b2)] [(.int (0 : Int32)), (.ref b2), (.int (0 : Int32)), (.ref a1)]))
  refine OutW.back (fun t k => XS.aloadN X2.here hx rfl (hb hby d9_22) rfl rfl  k) ?_
  show OutW _ _ _ _ _ _ _ (T2.setTop (mkF m 23 #[.val (.ref a1), .val (.int (2 : Int32)), .val (.ref b2)] [(.ref a1), (.int (0 : Int32)), (.ref b2), (.int (0 : Int32)), (.ref a1)]))
  obtain ⟨cl3, Ar3, Qk3, Sz3, Nn3, Hh3, Gg3⟩ := id V_a1
  refine OutW.back (X2.arraylength hx (by rw [e2]; exact Ar3.1) (State.isArrayOf_alike hZ.alike Ar3.2.1) (g := (mkF m 23 #[.val (.ref a1), .val (.int (2 : Int32)), .val (.ref b2)] [(.ref a1), (.int (0 : Int32)), (.ref b2), (.int (0 : Int32)), (.ref a1)])) rfl rfl (hb hby d9_23)) ?_
  rw [len_of Sz3 Nn3]
  show OutW _ _ _ _ _ _ _ (T2.setTop (mkF m 24 #[.val (.ref a1), .val (.int (2 : Int32)), .val (.ref b2)] [(.int (1 : Int32)), (.int (0 : Int32)), (.ref b2), (.int (0 : Int32)), (.ref a1)]))
  refine OutW.back (fun t k => XS.iloadN X2.here hx rfl (hb hby d9_24) rfl  k) ?_
  show OutW _ _ _ _ _ _ _ (T2.setTop (mkF m 25 #[.val (.ref a1), .val (.int (2 : Int32)), .val (.ref b2)] [(.int (2 : Int32)), (.int (1 : Int32)), (.int (0 : Int32)), (.ref b2), (.int (0 : Int32)), (.ref a1)]))
  obtain ⟨_, _, ⟨T4, L4, k4, n4⟩, -, X4, ⟨Lc4, hQ4, l4, y4, z4⟩, st4⟩ := Jvm.LawKit.callS X2 hx (y := (⟨"java/lang/Math", "min", "(II)I"⟩ : MethodName)) hown (mvT hZ (hw _ (List.mem_of_getElem? (i := 57) rfl))) (mvT hZ (hw _ (List.mem_of_getElem? (i := 45) rfl))) (mvT hZ (hw _ (List.mem_of_getElem? (i := 46) rfl))) (mvT hZ (hw _ (List.mem_of_getElem? (i := 47) rfl))) (by decide) (backOf (W := 4) (rm7 l Z a0 hw [] (1 : Int32) (2 : Int32) h2 n0 Z2) hZ (hw _ (List.mem_of_getElem? (i := 47) rfl)) (hw _ (List.mem_of_getElem? (i := 46) rfl)) (by decide) (by decide)) (g := (mkF m 25 #[.val (.ref a1), .val (.int (2 : Int32)), .val (.ref b2)] [(.int (2 : Int32)), (.int (1 : Int32)), (.int (0 : Int32)), (.ref b2), (.int (0 : Int32)), (.ref a1)])) rfl (by rw [hml]; rfl) (argsL := [(.int (1 : Int32)), (.int (2 : Int32))]) (rest := [(.int (0 : Int32)), (.ref b2), (.int (0 : Int32)), (.ref a1)]) (lenOf pd_1 rfl) rfl (by show 2 * 0 + _ ≤ _; exact Nat.le_of_eq rfl) (hb hby d9_25) (fun _ _ => ⟨rfl, e2, (by decide : 1 + 0 ≤ _), (by decide : 2 + 0 ≤ _)⟩)
  dsimp only [Pt.U, Pt.locs, Pt.cells, Pt.slots] at X4 l4 y4 z4 st4 hQ4
  subst l4 y4 z4
  obtain ⟨rfl, Nq4, e4⟩ := hQ4
  have N4 := Fr.app N0 Nq4
  obtain ⟨lc4, X4, N4⟩ : ∃ lc, Stand p l e ({ frames := 1, cells := 1, slots := 2, locals := 40 } : Room) s m #[(.ref a1), (.int (2 : Int32))] below meth c T4 lc 1 2 ∧ Fr n0 lc := ⟨_, X4, N4⟩
  refine OutW.back st4 ?_
  show OutW _ _ _ _ _ _ _ (T4.setTop (mkF m 28 #[.val (.ref a1), .val (.int (2 : Int32)), .val (.ref b2)] [(.int (minF_0 (1 : Int32) (2 : Int32))), (.int (0 : Int32)), (.ref b2), (.int (0 : Int32)), (.ref a1)]))
  rw [show (minF_0 (1 : Int32) (2 : Int32)) = (1 : Int32) from by decide]
  obtain ⟨T5, h5, L5, X5, e5, N5, Kq5, Vq5, st5⟩ := cpA X4 hx hZ hown (hw _ (List.mem_of_getElem? (i := 58) rfl)) (hw _ (List.mem_of_getElem? (i := 61) rfl)) (hw _ (List.mem_of_getElem? (i := 59) rfl)) (hw _ (List.mem_of_getElem? (i := 60) rfl)) e4 V_a1 V_b2 (Or.inl ⟨rfl, rfl⟩) (sp := (0 : Int32)) (dp := (0 : Int32)) (nn := (1 : Int32)) (us := [(.int w0)]) (by decide) (by decide) (by decide) (by decide) (by decide) rfl (Nat.le_of_ble_eq_true rfl) N4 g_b2 (g := (mkF m 28 #[.val (.ref a1), .val (.int (2 : Int32)), .val (.ref b2)] [(.int (1 : Int32)), (.int (0 : Int32)), (.ref b2), (.int (0 : Int32)), (.ref a1)])) rfl (by rw [hml]; rfl) rfl (hb hby d9_28) (by decide) (W := 0) (by show 2 * 0 + _ ≤ _; exact Nat.le_of_eq rfl) (by decide)
  have V_a1 := V_a1.keep Kq5 (ninS ne_a1_b2 nin0)
  have E_b2 := E_b2.keep Kq5
  have V_b2_5 : Arv Z h5 b2 k2 .int (2 : Int32) [(.int w0), (.int (0 : Int32))] (.int (0 : Int32)) := Vq5
  have Z5 : n0 ≤ h5.size := Nat.le_trans Z2 Kq5.1
  have K5 := K2.trans Kq5 (allS (Or.inr sz_b2) all0)
  refine OutW.back st5 ?_
  show OutW _ _ _ _ _ _ _ (T5.setTop (mkF m 31 #[.val (.ref a1), .val (.int (2 : Int32)), .val (.ref b2)] []))
  refine OutW.back (fun t k => XS.aloadN X5.here hx rfl (hb hby d9_31) rfl rfl  k) ?_
  show OutW _ _ _ _ _ _ _ (T5.setTop (mkF m 32 #[.val (.ref a1), .val (.int (2 : Int32)), .val (.ref b2)] [(.ref b2)]))
  refine OutW.retA X5 hx Bd.returns rfl rfl hlk (hb hby d9_32) (by decide) (by decide) ?_
  show Q9 Z a1 w0 kk h0 n0 _ T5.heap _
  rw [e5]
  exact ⟨b2, k2, rfl, N5, K5, sz_b2, g_b2, E_b2, V_b2_5⟩
theorem pd_2 : parseMethodDescriptor "([II)[I" = some ⟨[(.array .int), .int], some (.array .int)⟩ := by decide +kernel
theorem d8_0 : decode prog_168_method_8_code 0 = .ok (.aload_n 0, 1) := by decide +kernel
theorem d8_1 : decode prog_168_method_8_code 1 = .ok (.getfield 11, 3) := by decide +kernel
theorem d8_4 : decode prog_168_method_8_code 4 = .ok (.iconst 0, 1) := by decide +kernel
theorem d8_5 : decode prog_168_method_8_code 5 = .ok (.aload_n 0, 1) := by decide +kernel
theorem d8_6 : decode prog_168_method_8_code 6 = .ok (.getfield 11, 3) := by decide +kernel
theorem d8_9 : decode prog_168_method_8_code 9 = .ok (.iconst 0, 1) := by decide +kernel
theorem d8_10 : decode prog_168_method_8_code 10 = .ok (.aaload, 1) := by decide +kernel
theorem d8_11 : decode prog_168_method_8_code 11 = .ok (.iload_n 1, 1) := by decide +kernel
theorem d8_12 : decode prog_168_method_8_code 12 = .ok (.invokestatic 45, 3) := by decide +kernel
theorem d8_15 : decode prog_168_method_8_code 15 = .ok (.aastore, 1) := by decide +kernel
theorem d8_16 : decode prog_168_method_8_code 16 = .ok (.return_, 1) := by decide +kernel
theorem pn_8 : plainName "com/example/xml_document_query/xmldocumentquery/tree/IntColumn" = true := by first | (simp [plainName, overriddenIn]; done) | decide +kernel
theorem ef_8 (m : MethodId) (x0 : Addr) : entryFrame m #[(.ref x0), (.int (2 : Int32))] 2 = mkF m 0 #[.val (.ref x0), .val (.int (2 : Int32))] [] := by first | (simp [entryFrame, mkF, argsToLocals, Value.category]; done) | rfl
def Q8 (Z : State) (a1 : Addr) (b2 : Addr) (d3 : Addr) (kB : ClassId) (kD : ClassId) (w0 : Int32) (h0 : Heap) (n0 : Nat) (v : Option Value) (h : Heap) (L : List Loc) : Prop := ∃ dN : Addr, ∃ kN : ClassId, v = none ∧ Fr n0 L ∧ Keep h0 h [b2] ∧ h0.size ≤ dN ∧ n0 ≤ dN ∧ Arv Z h dN kN .int (2 : Int32) [(.int w0), (.int (0 : Int32))] (.int (0 : Int32)) ∧ Arv Z h b2 kB (.array .int) (1 : Int32) [(.ref dN)] .null
set_option maxRecDepth 65536 in
set_option maxHeartbeats 40000000 in
theorem rm8 (l : Launch) (Z : State) (a0 : Array Value) (hw : ∀ d ∈ tables_1, d.before a0 Z = true) (ws : List Jvm.Cond) (a1 : Addr) (b2 : Addr) (d3 : Addr) (kB : ClassId) (kD : ClassId) (w0 : Int32) (h0 : Heap) (n0 : Nat) (Z0 : n0 ≤ h0.size) (F_blocks_a1 : Fld Z h0 a1 "com/example/xml_document_query/xmldocumentquery/tree/IntColumn" "blocks" "[[I" (.ref b2)) (V_b2 : Arv Z h0 b2 kB (.array .int) (1 : Int32) [(.ref d3)] .null) (O_b2 : OvrA Z kB .int "[I") (V_d3 : Arv Z h0 d3 kD .int (1 : Int32) [(.int w0)] (.int (0 : Int32))) (g_b2 : n0 ≤ b2) (ne_a1_b2 : a1 ≠ b2) (ne_d3_b2 : d3 ≠ b2) :
    MetFree l (⟨"com/example/xml_document_query/xmldocumentquery/tree/IntColumn", "resizeFirstBlock", "(I)V"⟩ : MethodName) (head1 (Jvm.Cond.code (⟨"com/example/xml_document_query/xmldocumentquery/tree/IntColumn", "resizeFirstBlock", "(I)V"⟩ : MethodName) prog_168_method_8_code 2 none :: ws) ({ frames := 2, cells := 1, slots := 2, locals := 56 } : Room)) (fun a U => a = #[(.ref a1), (.int (2 : Int32))] ∧ Z.Warmed39 U.vm ∧ U.heap = h0) (fun _ _ _ _ _ => True) (fun _ U o U' => ∃ v L, o = .returned v ∧ Q8 Z a1 b2 d3 kB kD w0 h0 n0 v U'.heap L ∧ FrameEnd U o U' L ({ frames := 2, cells := 1, slots := 2, locals := 56 } : Room).cells ({ frames := 2, cells := 1, slots := 2, locals := 56 } : Room).slots) := by
  refine MetFree.of_bodySF (plainFor_of_name pn_8) hisR ?_
  intro p e s m args below meth c s₁ Bd hml0 hP hK
  obtain ⟨rfl, hZ, hh⟩ := hP
  have hx := Bd.exec
  have hby := Bd.bytes
  have hlk := Bd.notSynchronized
  have hml : c.maxLocals = 2 := hml0
  have hown : s.vm.findClass "com/example/xml_document_query/xmldocumentquery/tree/IntColumn" = some m.cls := findClass_of_methodNamed Bd.named
  have hnm := (name_of_methodNamed Bd.named Bd.method).1
  have X0 : Stand p l e ({ frames := 2, cells := 1, slots := 2, locals := 56 } : Room) s m #[(.ref a1), (.int (2 : Int32))] below meth c s₁ [] 0 0 := Stand.of_body Bd
  have e0 : s₁.heap = h0 := by rw [← hh, Bd.state]; rfl
  have N0 := Fr.nil n0
  have K0 : Keep h0 h0 [b2] := Keep.refl h0 _
  show OutW p e below s ({ frames := 2, cells := 1, slots := 2, locals := 56 } : Room).cells ({ frames := 2, cells := 1, slots := 2, locals := 56 } : Room).slots (Q8 Z a1 b2 d3 kB kD w0 h0 n0) _
  refine OutW.back (fun t k => castTop (ef_8 m a1) k) ?_
  show OutW _ _ _ _ _ _ _ (s₁.setTop (mkF m 0 #[.val (.ref a1), .val (.int (2 : Int32))] []))
  refine OutW.back (fun t k => XS.aloadN X0.here hx rfl (hb hby d8_0) rfl rfl  k) ?_
  show OutW _ _ _ _ _ _ _ (s₁.setTop (mkF m 1 #[.val (.ref a1), .val (.int (2 : Int32))] [(.ref a1)]))
  obtain ⟨T1, X1, e1, st1⟩ := getF X0 hx hZ hown (host := "") (Or.inl (hw _ (List.mem_of_getElem? (i := 22) rfl))) Via.refl e0 F_blocks_a1 (g := (mkF m 1 #[.val (.ref a1), .val (.int (2 : Int32))] [(.ref a1)])) rfl rfl (hb hby d8_1)
  refine OutW.back st1 ?_
  show OutW _ _ _ _ _ _ _ (T1.setTop (mkF m 4 #[.val (.ref a1), .val (.int (2 : Int32))] [(.ref b2)]))
  refine OutW.back (fun t k => XS.iconst X1.here hx rfl (hb hby d8_4) k) ?_
  show OutW _ _ _ _ _ _ _ (T1.setTop (mkF m 5 #[.val (.ref a1), .val (.int (2 : Int32))] [(.int (0 : Int32)), (.ref b2)]))
  refine OutW.back (fun t k => XS.aloadN X1.here hx rfl (hb hby d8_5) rfl rfl  k) ?_
  show OutW _ _ _ _ _ _ _ (T1.setTop (mkF m 6 #[.val (.ref a1), .val (.int (2 : Int32))] [(.ref a1), (.int (0 : Int32)), (.ref b2)]))
  obtain ⟨T2, X2, e2, st2⟩ := getF X1 hx hZ hown (host := "") (Or.inl (hw _ (List.mem_of_getElem? (i := 22) rfl))) Via.refl e1 F_blocks_a1 (g := (mkF m 6 #[.val (.ref a1), .val (.int (2 : Int32))] [(.ref a1), (.int (0 : Int32)), (.ref b2)])) rfl rfl (hb hby d8_6)
  refine OutW.back st2 ?_
  show OutW _ _ _ _ _ _ _ (T2.setTop (mkF m 9 #[.val (.ref a1), .val (.int (2 : Int32))] [(.ref b2), (.int (0 : Int32)), (.ref b2)]))
  refine OutW.back (fun t k => XS.iconst X2.here hx rfl (hb hby d8_9) k) ?_
  show OutW _ _ _ _ _ _ _ (T2.setTop (mkF m 10 #[.val (.ref a1), .val (.int (2 : Int32))] [(.int (0 : Int32)), (.ref b2), (.int (0 : Int32)), (.ref b2)]))
  obtain ⟨cl3, Ar3, Qk3, Sz3, Nn3, Hh3, Gg3⟩ := id V_b2
  have hin3 : ¬ ((0 : Int32) < 0 ∨ cl3.slots.size ≤ ((0 : Int32)).toNatClampNeg) := inb_of Sz3 ⟨by decide, by decide⟩
  refine OutW.back (X2.aaload hx (j := (0 : Int32)) (v := (.ref d3)) (by rw [e2]; exact Ar3.1) (State.isArrayOf_alike hZ.alike Ar3.2.1) rfl Ar3.2.2 hin3 (Hh3.at hin3 (by rfl)) (g := (mkF m 10 #[.val (.ref a1), .val (.int (2 : Int32))] [(.int (0 : Int32)), (.ref b2), (.int (0 : Int32)), (.ref b2)])) rfl rfl (hb hby d8_10)) ?_
  show OutW _ _ _ _ _ _ _ (T2.setTop (mkF m 11 #[.val (.ref a1), .val (.int (2 : Int32))] [(.ref d3), (.int (0 : Int32)), (.ref b2)]))
  refine OutW.back (fun t k => XS.iloadN X2.here hx rfl (hb hby d8_11) rfl  k) ?_
  show OutW _ _ _ _ _ _ _ (T2.setTop (mkF m 12 #[.val (.ref a1), .val (.int (2 : Int32))] [(.int (2 : Int32)), (.ref d3), (.int (0 : Int32)), (.ref b2)]))
  obtain ⟨_, _, ⟨T4, L4, k4, n4⟩, -, X4, ⟨Lc4, hQ4, l4, y4, z4⟩, st4⟩ := Jvm.LawKit.callS X2 hx (y := (⟨"java/util/Arrays", "copyOf", "([II)[I"⟩ : MethodName)) hown (mvT hZ (hw _ (List.mem_of_getElem? (i := 53) rfl))) (mvT hZ (hw _ (List.mem_of_getElem? (i := 54) rfl))) (mvT hZ (hw _ (List.mem_of_getElem? (i := 55) rfl))) (mvT hZ (hw _ (List.mem_of_getElem? (i := 56) rfl))) (by decide) (backOf (W := 2) (rm9 l Z a0 hw [] d3 w0 kD h0 n0 Z0 V_d3) hZ (hw _ (List.mem_of_getElem? (i := 56) rfl)) (hw _ (List.mem_of_getElem? (i := 55) rfl)) (by decide) (by decide)) (g := (mkF m 12 #[.val (.ref a1), .val (.int (2 : Int32))] [(.int (2 : Int32)), (.ref d3), (.int (0 : Int32)), (.ref b2)])) rfl (by rw [hml]; rfl) (argsL := [(.ref d3), (.int (2 : Int32))]) (rest := [(.int (0 : Int32)), (.ref b2)]) (lenOf pd_2 rfl) rfl (by show 2 * 0 + _ ≤ _; exact Nat.le_of_eq rfl) (hb hby d8_12) (fun _ _ => ⟨rfl, e2, (by decide : 0 + 1 ≤ _), (by decide : 0 + 2 ≤ _)⟩)
  dsimp only [Pt.U, Pt.locs, Pt.cells, Pt.slots] at X4 l4 y4 z4 st4 hQ4
  subst l4 y4 z4
  obtain ⟨h4, eh4⟩ : ∃ z, z = T4.heap := ⟨_, rfl⟩
  rw [← eh4] at hQ4
  have e4 : T4.heap = h4 := eh4.symm
  obtain ⟨dN_4, kD_4, rfl, Nq4, Kq4, szq_dN_4, g_dN_4, E_dN_4, V_dN_4⟩ := hQ4
  have lt4_a1 := F_blocks_a1.lt
  have lt4_b2 := V_b2.lt
  have lt4_d3 := V_d3.lt
  have ne_a1_dN_4 : a1 ≠ dN_4 := Nat.ne_of_lt (Nat.lt_of_lt_of_le lt4_a1 szq_dN_4)
  have ne_b2_dN_4 : b2 ≠ dN_4 := Nat.ne_of_lt (Nat.lt_of_lt_of_le lt4_b2 szq_dN_4)
  have ne_d3_dN_4 : d3 ≠ dN_4 := Nat.ne_of_lt (Nat.lt_of_lt_of_le lt4_d3 szq_dN_4)
  have sz_dN_4 : h0.size ≤ dN_4 := Nat.le_trans K0.1 szq_dN_4
  have F_blocks_a1 := F_blocks_a1.keep Kq4 nin0
  have V_b2 := V_b2.keep Kq4 nin0
  have V_d3 := V_d3.keep Kq4 nin0
  have Z4 : n0 ≤ h4.size := Nat.le_trans Z0 Kq4.1
  have K4 := K0.trans Kq4 all0
  have N4 := Fr.app N0 Nq4
  obtain ⟨lc4, X4, N4⟩ : ∃ lc, Stand p l e ({ frames := 2, cells := 1, slots := 2, locals := 56 } : Room) s m #[(.ref a1), (.int (2 : Int32))] below meth c T4 lc 1 2 ∧ Fr n0 lc := ⟨_, X4, N4⟩
  refine OutW.back st4 ?_
  show OutW _ _ _ _ _ _ _ (T4.setTop (mkF m 15 #[.val (.ref a1), .val (.int (2 : Int32))] [(.ref dN_4), (.int (0 : Int32)), (.ref b2)]))
  obtain ⟨cl5, Ar5, Qk5, Sz5, Nn5, Hh5, Gg5⟩ := id V_b2
  have hin5 : ¬ ((0 : Int32) < 0 ∨ cl5.slots.size ≤ ((0 : Int32)).toNatClampNeg) := inb_of Sz5 ⟨by decide, by decide⟩
  obtain ⟨T5, h5, X5, e5, W5, st5⟩ := stR X4 hx hZ e4 Ar5 (j := (0 : Int32)) hin5 rfl (Sto.ofVA Ar5 Qk5 O_b2 (Ins.self E_dN_4)) (g := (mkF m 15 #[.val (.ref a1), .val (.int (2 : Int32))] [(.ref dN_4), (.int (0 : Int32)), (.ref b2)])) rfl rfl (hb hby d8_15)
  have V_b2_5 : Arv Z h5 b2 kB (.array .int) (1 : Int32) [(.ref dN_4)] .null := Arv.set Ar5 Qk5 Sz5 Nn5 Hh5 Gg5 rfl W5 0 rfl (Nat.le_of_ble_eq_true rfl)
  have F_blocks_a1 := F_blocks_a1.other W5 (Or.inl ne_a1_b2)
  have V_d3 := V_d3.other W5 ne_d3_b2
  have E_dN_4 := E_dN_4.wr W5
  have V_dN_4 := V_dN_4.other W5 (Ne.symm ne_b2_dN_4)
  have N5 := Fr.snoc X5 N4 g_b2
  have Z5 : n0 ≤ h5.size := Nat.le_trans Z4 (Keep.of_wr W5).1
  have K5 := K4.wr W5 (Or.inl (List.mem_of_getElem? (i := 0) rfl))
  obtain ⟨lc5, X5, N5⟩ : ∃ lc, Stand p l e ({ frames := 2, cells := 1, slots := 2, locals := 56 } : Room) s m #[(.ref a1), (.int (2 : Int32))] below meth c T5 lc 1 2 ∧ Fr n0 lc := ⟨_, X5, N5⟩
  refine OutW.back st5 ?_
  show OutW _ _ _ _ _ _ _ (T5.setTop (mkF m 16 #[.val (.ref a1), .val (.int (2 : Int32))] []))
  refine OutW.retV X5 hx Bd.returns hlk (hb hby d8_16) (by decide) (by decide) ?_
  show Q8 Z a1 b2 d3 kB kD w0 h0 n0 _ T5.heap _
  rw [e5]
  exact ⟨dN_4, kD_4, rfl, N5, K5, sz_dN_4, g_dN_4, V_dN_4, V_b2_5⟩
theorem pd_3 : parseMethodDescriptor "(I)V" = some ⟨[.int], none⟩ := by decide +kernel
theorem d6_0 : decode prog_165_method_4_code 0 = .ok (.iconst 1, 1) := by decide +kernel
theorem d6_1 : decode prog_165_method_4_code 1 = .ok (.aload_n 0, 1) := by decide +kernel
theorem d6_2 : decode prog_165_method_4_code 2 = .ok (.getfield 7, 3) := by decide +kernel
theorem d6_5 : decode prog_165_method_4_code 5 = .ok (.ishl, 1) := by decide +kernel
theorem d6_6 : decode prog_165_method_4_code 6 = .ok (.istore_n 1, 1) := by decide +kernel
theorem d6_7 : decode prog_165_method_4_code 7 = .ok (.aload_n 0, 1) := by decide +kernel
theorem d6_8 : decode prog_165_method_4_code 8 = .ok (.getfield 13, 3) := by decide +kernel
theorem d6_11 : decode prog_165_method_4_code 11 = .ok (.iload_n 1, 1) := by decide +kernel
theorem d6_12 : decode prog_165_method_4_code 12 = .ok (.if_icmp .ge 28, 3) := by decide +kernel
theorem d6_15 : decode prog_165_method_4_code 15 = .ok (.aload_n 0, 1) := by decide +kernel
theorem d6_16 : decode prog_165_method_4_code 16 = .ok (.aload_n 0, 1) := by decide +kernel
theorem d6_17 : decode prog_165_method_4_code 17 = .ok (.getfield 13, 3) := by decide +kernel
theorem d6_20 : decode prog_165_method_4_code 20 = .ok (.iconst 2, 1) := by decide +kernel
theorem d6_21 : decode prog_165_method_4_code 21 = .ok (.imul, 1) := by decide +kernel
theorem d6_22 : decode prog_165_method_4_code 22 = .ok (.iload_n 1, 1) := by decide +kernel
theorem d6_23 : decode prog_165_method_4_code 23 = .ok (.invokestatic 19, 3) := by decide +kernel
theorem d6_26 : decode prog_165_method_4_code 26 = .ok (.putfield 13, 3) := by decide +kernel
theorem d6_29 : decode prog_165_method_4_code 29 = .ok (.aload_n 0, 1) := by decide +kernel
theorem d6_30 : decode prog_165_method_4_code 30 = .ok (.aload_n 0, 1) := by decide +kernel
theorem d6_31 : decode prog_165_method_4_code 31 = .ok (.getfield 13, 3) := by decide +kernel
theorem d6_34 : decode prog_165_method_4_code 34 = .ok (.invokevirtual 25, 3) := by decide +kernel
theorem d6_37 : decode prog_165_method_4_code 37 = .ok (.goto 59, 3) := by decide +kernel
theorem d6_96 : decode prog_165_method_4_code 96 = .ok (.return_, 1) := by decide +kernel
theorem pn_6 : plainName "com/example/xml_document_query/xmldocumentquery/tree/BlockedArray" = true := by first | (simp [plainName, overriddenIn]; done) | decide +kernel
theorem ef_6 (m : MethodId) (x0 : Addr) : entryFrame m #[(.ref x0)] 2 = mkF m 0 #[.val (.ref x0), .unset] [] := by first | (simp [entryFrame, mkF, argsToLocals, Value.category]; done) | rfl
def Q6 (Z : State) (a1 : Addr) (b2 : Addr) (d3 : Addr) (kB : ClassId) (kD : ClassId) (w0 : Int32) (h0 : Heap) (n0 : Nat) (v : Option Value) (h : Heap) (L : List Loc) : Prop := ∃ dN : Addr, ∃ kN : ClassId, v = none ∧ Fr n0 L ∧ Keep h0 h [a1, b2] ∧ Fld Z h a1 "com/example/xml_document_query/xmldocumentquery/tree/BlockedArray" "blockBits" "I" (.int (16 : Int32)) ∧ Fld Z h a1 "com/example/xml_document_query/xmldocumentquery/tree/BlockedArray" "capacity" "I" (.int (2 : Int32)) ∧ Fld Z h a1 "com/example/xml_document_query/xmldocumentquery/tree/IntColumn" "size" "I" (.int (1 : Int32)) ∧ Fld Z h a1 "com/example/xml_document_query/xmldocumentquery/tree/IntColumn" "blocks" "[[I" (.ref b2) ∧ Fld Z h a1 "com/example/xml_document_query/xmldocumentquery/tree/IntColumn" "before" "Lcom/example/xml_document_query/xmldocumentquery/tree/IntColumn;" .null ∧ h0.size ≤ dN ∧ n0 ≤ dN ∧ Arv Z h dN kN .int (2 : Int32) [(.int w0), (.int (0 : Int32))] (.int (0 : Int32)) ∧ Arv Z h b2 kB (.array .int) (1 : Int32) [(.ref dN)] .null
set_option maxRecDepth 65536 in
set_option maxHeartbeats 40000000 in
theorem rm6 (l : Launch) (Z : State) (a0 : Array Value) (hw : ∀ d ∈ tables_1, d.before a0 Z = true) (ws : List Jvm.Cond) (a1 : Addr) (b2 : Addr) (d3 : Addr) (kB : ClassId) (kD : ClassId) (w0 : Int32) (h0 : Heap) (n0 : Nat) (Z0 : n0 ≤ h0.size) (E_a1 : Exa Z h0 a1 "com/example/xml_document_query/xmldocumentquery/tree/IntColumn") (g_a1 : n0 ≤ a1) (F_blockBits_a1 : Fld Z h0 a1 "com/example/xml_document_query/xmldocumentquery/tree/BlockedArray" "blockBits" "I" (.int (16 : Int32))) (F_capacity_a1 : Fld Z h0 a1 "com/example/xml_document_query/xmldocumentquery/tree/BlockedArray" "capacity" "I" (.int (1 : Int32))) (F_size_a1 : Fld Z h0 a1 "com/example/xml_document_query/xmldocumentquery/tree/IntColumn" "size" "I" (.int (1 : Int32))) (F_blocks_a1 : Fld Z h0 a1 "com/example/xml_document_query/xmldocumentquery/tree/IntColumn" "blocks" "[[I" (.ref b2)) (F_before_a1 : Fld Z h0 a1 "com/example/xml_document_query/xmldocumentquery/tree/IntColumn" "before" "Lcom/example/xml_document_query/xmldocumentquery/tree/IntColumn;" .null) (V_b2 : Arv Z h0 b2 kB (.array .int) (1 : Int32) [(.ref d3)] .null) (O_b2 : OvrA Z kB .int "[I") (V_d3 : Arv Z h0 d3 kD .int (1 : Int32) [(.int w0)] (.int (0 : Int32))) (g_b2 : n0 ≤ b2) (ne_a1_b2 : a1 ≠ b2) (ne_d3_b2 : d3 ≠ b2) (ne_d3_a1 : d3 ≠ a1) :
    MetFree l (⟨"com/example/xml_document_query/xmldocumentquery/tree/BlockedArray", "grow", "()V"⟩ : MethodName) (head1 (Jvm.Cond.code (⟨"com/example/xml_document_query/xmldocumentquery/tree/BlockedArray", "grow", "()V"⟩ : MethodName) prog_165_method_4_code 2 none :: ws) ({ frames := 3, cells := 1, slots := 2, locals := 69 } : Room)) (fun a U => a = #[(.ref a1)] ∧ Z.Warmed39 U.vm ∧ U.heap = h0) (fun _ _ _ _ _ => True) (fun _ U o U' => ∃ v L, o = .returned v ∧ Q6 Z a1 b2 d3 kB kD w0 h0 n0 v U'.heap L ∧ FrameEnd U o U' L ({ frames := 3, cells := 1, slots := 2, locals := 69 } : Room).cells ({ frames := 3, cells := 1, slots := 2, locals := 69 } : Room).slots) := by
  refine MetFree.of_bodySF (plainFor_of_name pn_6) hisR ?_
  intro p e s m args below meth c s₁ Bd hml0 hP hK
  obtain ⟨rfl, hZ, hh⟩ := hP
  have hx := Bd.exec
  have hby := Bd.bytes
  have hlk := Bd.notSynchronized
  have hml : c.maxLocals = 2 := hml0
  have hown : s.vm.findClass "com/example/xml_document_query/xmldocumentquery/tree/BlockedArray" = some m.cls := findClass_of_methodNamed Bd.named
  have hnm := (name_of_methodNamed Bd.named Bd.method).1
  have X0 : Stand p l e ({ frames := 3, cells := 1, slots := 2, locals := 69 } : Room) s m #[(.ref a1)] below meth c s₁ [] 0 0 := Stand.of_body Bd
  have e0 : s₁.heap = h0 := by rw [← hh, Bd.state]; rfl
  have N0 := Fr.nil n0
  have K0 : Keep h0 h0 [a1, b2] := Keep.refl h0 _
  show OutW p e below s ({ frames := 3, cells := 1, slots := 2, locals := 69 } : Room).cells ({ frames := 3, cells := 1, slots := 2, locals := 69 } : Room).slots (Q6 Z a1 b2 d3 kB kD w0 h0 n0) _
  refine OutW.back (fun t k => castTop (ef_6 m a1) k) ?_
  show OutW _ _ _ _ _ _ _ (s₁.setTop (mkF m 0 #[.val (.ref a1), .unset] []))
  refine OutW.back (fun t k => XS.iconst X0.here hx rfl (hb hby d6_0) k) ?_
  show OutW _ _ _ _ _ _ _ (s₁.setTop (mkF m 1 #[.val (.ref a1), .unset] [(.int (1 : Int32))]))
  refine OutW.back (fun t k => XS.aloadN X0.here hx rfl (hb hby d6_1) rfl rfl  k) ?_
  show OutW _ _ _ _ _ _ _ (s₁.setTop (mkF m 2 #[.val (.ref a1), .unset] [(.ref a1), (.int (1 : Int32))]))
  obtain ⟨T1, X1, e1, st1⟩ := getF X0 hx hZ hown (host := "") (Or.inl (hw _ (List.mem_of_getElem? (i := 14) rfl))) Via.refl e0 F_blockBits_a1 (g := (mkF m 2 #[.val (.ref a1), .unset] [(.ref a1), (.int (1 : Int32))])) rfl rfl (hb hby d6_2)
  refine OutW.back st1 ?_
  show OutW _ _ _ _ _ _ _ (T1.setTop (mkF m 5 #[.val (.ref a1), .unset] [(.int (16 : Int32)), (.int (1 : Int32))]))
  refine OutW.back (fun t k => XS.ishl X1.here hx rfl (hb hby d6_5) rfl k) ?_
  show OutW _ _ _ _ _ _ _ (T1.setTop (mkF m 6 #[.val (.ref a1), .unset] [(.int ((1 : Int32) <<< ((16 : Int32) &&& 31)))]))
  rw [show ((1 : Int32) <<< ((16 : Int32) &&& 31)) = (65536 : Int32) from by decide]
  refine OutW.back (fun t k => XS.istoreN X1.here hx rfl (hb hby d6_6) rfl (l' := #[.val (.ref a1), .val (.int (65536 : Int32))]) rfl k) ?_
  show OutW _ _ _ _ _ _ _ (T1.setTop (mkF m 7 #[.val (.ref a1), .val (.int (65536 : Int32))] []))
  refine OutW.back (fun t k => XS.aloadN X1.here hx rfl (hb hby d6_7) rfl rfl  k) ?_
  show OutW _ _ _ _ _ _ _ (T1.setTop (mkF m 8 #[.val (.ref a1), .val (.int (65536 : Int32))] [(.ref a1)]))
  obtain ⟨T2, X2, e2, st2⟩ := getF X1 hx hZ hown (host := "") (Or.inl (hw _ (List.mem_of_getElem? (i := 16) rfl))) Via.refl e1 F_capacity_a1 (g := (mkF m 8 #[.val (.ref a1), .val (.int (65536 : Int32))] [(.ref a1)])) rfl rfl (hb hby d6_8)
  refine OutW.back st2 ?_
  show OutW _ _ _ _ _ _ _ (T2.setTop (mkF m 11 #[.val (.ref a1), .val (.int (65536 : Int32))] [(.int (1 : Int32))]))
  refine OutW.back (fun t k => XS.iloadN X2.here hx rfl (hb hby d6_11) rfl  k) ?_
  show OutW _ _ _ _ _ _ _ (T2.setTop (mkF m 12 #[.val (.ref a1), .val (.int (65536 : Int32))] [(.int (65536 : Int32)), (.int (1 : Int32))]))
  refine OutW.back (fun t k => XS.icmpNo X2.here hx rfl (hb hby d6_12) rfl (tlt (by decide : (1 : Int32) < (65536 : Int32))).2.1 k) ?_
  show OutW _ _ _ _ _ _ _ (T2.setTop (mkF m 15 #[.val (.ref a1), .val (.int (65536 : Int32))] []))
  refine OutW.back (fun t k => XS.aloadN X2.here hx rfl (hb hby d6_15) rfl rfl  k) ?_
  show OutW _ _ _ _ _ _ _ (T2.setTop (mkF m 16 #[.val (.ref a1), .val (.int (65536 : Int32))] [(.ref a1)]))
  refine OutW.back (fun t k => XS.aloadN X2.here hx rfl (hb hby d6_16) rfl rfl  k) ?_
  show OutW _ _ _ _ _ _ _ (T2.setTop (mkF m 17 #[.val (.ref a1), .val (.int (65536 : Int32))] [(.ref a1), (.ref a1)]))
  obtain ⟨T3, X3, e3, st3⟩ := getF X2 hx hZ hown (host := "") (Or.inl (hw _ (List.mem_of_getElem? (i := 16) rfl))) Via.refl e2 F_capacity_a1 (g := (mkF m 17 #[.val (.ref a1), .val (.int (65536 : Int32))] [(.ref a1), (.ref a1)])) rfl rfl (hb hby d6_17)
  refine OutW.back st3 ?_
  show OutW _ _ _ _ _ _ _ (T3.setTop (mkF m 20 #[.val (.ref a1), .val (.int (65536 : Int32))] [(.int (1 : Int32)), (.ref a1)]))
  refine OutW.back (fun t k => XS.iconst X3.here hx rfl (hb hby d6_20) k) ?_
  show OutW _ _ _ _ _ _ _ (T3.setTop (mkF m 21 #[.val (.ref a1), .val (.int (65536 : Int32))] [(.int (2 : Int32)), (.int (1 : Int32)), (.ref a1)]))
  refine OutW.back (fun t k => XS.imul X3.here hx rfl (hb hby d6_21) rfl k) ?_
  show OutW _ _ _ _ _ _ _ (T3.setTop (mkF m 22 #[.val (.ref a1), .val (.int (65536 : Int32))] [(.int ((1 : Int32) * (2 : Int32))), (.ref a1)]))
  rw [show ((1 : Int32) * (2 : Int32)) = (2 : Int32) from by decide]
  refine OutW.back (fun t k => XS.iloadN X3.here hx rfl (hb hby d6_22) rfl  k) ?_
  show OutW _ _ _ _ _ _ _ (T3.setTop (mkF m 23 #[.val (.ref a1), .val (.int (65536 : Int32))] [(.int (65536 : Int32)), (.int (2 : Int32)), (.ref a1)]))
  obtain ⟨_, _, ⟨T4, L4, k4, n4⟩, -, X4, ⟨Lc4, hQ4, l4, y4, z4⟩, st4⟩ := Jvm.LawKit.callS X3 hx (y := (⟨"java/lang/Math", "min", "(II)I"⟩ : MethodName)) hown (mvT hZ (hw _ (List.mem_of_getElem? (i := 44) rfl))) (mvT hZ (hw _ (List.mem_of_getElem? (i := 45) rfl))) (mvT hZ (hw _ (List.mem_of_getElem? (i := 46) rfl))) (mvT hZ (hw _ (List.mem_of_getElem? (i := 47) rfl))) (by decide) (backOf (W := 1) (rm7 l Z a0 hw [] (2 : Int32) (65536 : Int32) h0 n0 Z0) hZ (hw _ (List.mem_of_getElem? (i := 47) rfl)) (hw _ (List.mem_of_getElem? (i := 46) rfl)) (by decide) (by decide)) (g := (mkF m 23 #[.val (.ref a1), .val (.int (65536 : Int32))] [(.int (65536 : Int32)), (.int (2 : Int32)), (.ref a1)])) rfl (by rw [hml]; rfl) (argsL := [(.int (2 : Int32)), (.int (65536 : Int32))]) (rest := [(.ref a1)]) (lenOf pd_1 rfl) rfl (by show 2 * 0 + _ ≤ _; exact Nat.le_of_eq rfl) (hb hby d6_23) (fun _ _ => ⟨rfl, e3, (by decide : 0 + 0 ≤ _), (by decide : 0 + 0 ≤ _)⟩)
  dsimp only [Pt.U, Pt.locs, Pt.cells, Pt.slots] at X4 l4 y4 z4 st4 hQ4
  subst l4 y4 z4
  obtain ⟨rfl, Nq4, e4⟩ := hQ4
  have N4 := Fr.app N0 Nq4
  obtain ⟨lc4, X4, N4⟩ : ∃ lc, Stand p l e ({ frames := 3, cells := 1, slots := 2, locals := 69 } : Room) s m #[(.ref a1)] below meth c T4 lc 0 0 ∧ Fr n0 lc := ⟨_, X4, N4⟩
  refine OutW.back st4 ?_
  show OutW _ _ _ _ _ _ _ (T4.setTop (mkF m 26 #[.val (.ref a1), .val (.int (65536 : Int32))] [(.int (minF_0 (2 : Int32) (65536 : Int32))), (.ref a1)]))
  rw [show (minF_0 (2 : Int32) (65536 : Int32)) = (2 : Int32) from by decide]
  obtain ⟨T5, h5, X5, e5, W5, st5⟩ := putF X4 hx hZ hown (host := "") (Or.inl (hw _ (List.mem_of_getElem? (i := 16) rfl))) Via.refl e4 F_capacity_a1 E_a1 (Or.inl (hw _ (List.mem_of_getElem? (i := 17) rfl))) (hw _ (List.mem_of_getElem? (i := 1) rfl)) (ty := .int) (by decide) rfl rfl (g := (mkF m 26 #[.val (.ref a1), .val (.int (65536 : Int32))] [(.int (2 : Int32)), (.ref a1)])) rfl rfl (hb hby d6_26)
  have E_a1 := E_a1.wr W5
  have F_blockBits_a1 := F_blockBits_a1.other W5 (Or.inr (slot_ne (Or.inr (hw _ (List.mem_of_getElem? (i := 15) rfl))) (Or.inl (hw _ (List.mem_of_getElem? (i := 17) rfl))) (by decide) (t := .int) (t' := .int) (by decide) (by decide)))
  have F_capacity_a1 := F_capacity_a1.same W5
  have F_size_a1 := F_size_a1.other W5 (Or.inr (slot_ne (Or.inl (hw _ (List.mem_of_getElem? (i := 30) rfl))) (Or.inl (hw _ (List.mem_of_getElem? (i := 17) rfl))) (by decide) (t := .int) (t' := .int) (by decide) (by decide)))
  have F_blocks_a1 := F_blocks_a1.other W5 (Or.inr (slot_ne (Or.inl (hw _ (List.mem_of_getElem? (i := 23) rfl))) (Or.inl (hw _ (List.mem_of_getElem? (i := 17) rfl))) (by decide) (t := (.array (.array .int))) (t' := .int) (by decide) (by decide)))
  have F_before_a1 := F_before_a1.other W5 (Or.inr (slot_ne (Or.inl (hw _ (List.mem_of_getElem? (i := 68) rfl))) (Or.inl (hw _ (List.mem_of_getElem? (i := 17) rfl))) (by decide) (t := (.object "com/example/xml_document_query/xmldocumentquery/tree/IntColumn")) (t' := .int) (by decide) (by decide)))
  have V_b2 := V_b2.other W5 (Ne.symm ne_a1_b2)
  have V_d3 := V_d3.other W5 ne_d3_a1
  have N5 := Fr.snoc X5 N4 g_a1
  have Z5 : n0 ≤ h5.size := Nat.le_trans Z0 (Keep.of_wr W5).1
  have K5 := K0.wr W5 (Or.inl (List.mem_of_getElem? (i := 0) rfl))
  obtain ⟨lc5, X5, N5⟩ : ∃ lc, Stand p l e ({ frames := 3, cells := 1, slots := 2, locals := 69 } : Room) s m #[(.ref a1)] below meth c T5 lc 0 0 ∧ Fr n0 lc := ⟨_, X5, N5⟩
  refine OutW.back st5 ?_
  show OutW _ _ _ _ _ _ _ (T5.setTop (mkF m 29 #[.val (.ref a1), .val (.int (65536 : Int32))] []))
  refine OutW.back (fun t k => XS.aloadN X5.here hx rfl (hb hby d6_29) rfl rfl  k) ?_
  show OutW _ _ _ _ _ _ _ (T5.setTop (mkF m 30 #[.val (.ref a1), .val (.int (65536 : Int32))] [(.ref a1)]))
  refine OutW.back (fun t k => XS.aloadN X5.here hx rfl (hb hby d6_30) rfl rfl  k) ?_
  show OutW _ _ _ _ _ _ _ (T5.setTop (mkF m 31 #[.val (.ref a1), .val (.int (65536 : Int32))] [(.ref a1), (.ref a1)]))
  obtain ⟨T6, X6, e6, st6⟩ := getF X5 hx hZ hown (host := "") (Or.inl (hw _ (List.mem_of_getElem? (i := 16) rfl))) Via.refl e5 F_capacity_a1 (g := (mkF m 31 #[.val (.ref a1), .val (.int (65536 : Int32))] [(.ref a1), (.ref a1)])) rfl rfl (hb hby d6_31)
  refine OutW.back st6 ?_
  show OutW _ _ _ _ _ _ _ (T6.setTop (mkF m 34 #[.val (.ref a1), .val (.int (65536 : Int32))] [(.int (2 : Int32)), (.ref a1)]))
  obtain ⟨cq7, kq7, qa7, qb7, qc7⟩ := isOf hZ e6 E_a1
  obtain ⟨_, _, ⟨T7, L7, k7, n7⟩, -, X7, ⟨Lc7, hQ7, l7, y7, z7⟩, st7⟩ := X6.virtualBack hx (y := (⟨"com/example/xml_document_query/xmldocumentquery/tree/BlockedArray", "resizeFirstBlock", "(I)V"⟩ : MethodName)) (z := (⟨"com/example/xml_document_query/xmldocumentquery/tree/IntColumn", "resizeFirstBlock", "(I)V"⟩ : MethodName)) hown (mvT hZ (hw _ (List.mem_of_getElem? (i := 48) rfl))) (mvT hZ (hw _ (List.mem_of_getElem? (i := 49) rfl))) (own_notFace (args := #[]) (mvT hZ (hw _ (List.mem_of_getElem? (i := 35) rfl))) rfl) (mvT hZ (hw _ (List.mem_of_getElem? (i := 50) rfl))) (mvT hZ (hw _ (List.mem_of_getElem? (i := 51) rfl))) (by decide) (backOf (W := 0) (rm8 l Z a0 hw [] a1 b2 d3 kB kD w0 h5 n0 Z5 F_blocks_a1 V_b2 O_b2 V_d3 g_b2 ne_a1_b2 ne_d3_b2) hZ (hw _ (List.mem_of_getElem? (i := 52) rfl)) (hw _ (List.mem_of_getElem? (i := 2) rfl)) (by decide) (by decide)) qa7 qc7 (g := (mkF m 34 #[.val (.ref a1), .val (.int (65536 : Int32))] [(.int (2 : Int32)), (.ref a1)])) rfl (by rw [hml]; rfl) (Steps.refl _) (argsL := [(.int (2 : Int32))]) (rest := []) (lenOf pd_3 rfl) rfl (by show 2 * 0 + _ ≤ _; exact Nat.le_of_eq rfl) (hb hby d6_34) (fun _ _ => ⟨rfl, e6, (by decide : 0 + 1 ≤ _), (by decide : 0 + 2 ≤ _)⟩)
  dsimp only [Pt.U, Pt.locs, Pt.cells, Pt.slots] at X7 l7 y7 z7 st7 hQ7
  subst l7 y7 z7
  obtain ⟨h7, eh7⟩ : ∃ z, z = T7.heap := ⟨_, rfl⟩
  rw [← eh7] at hQ7
  have e7 : T7.heap = h7 := eh7.symm
  obtain ⟨dN_7, kN_7, rfl, Nq7, Kq7, szq_dN_7, g_dN_7, V_dN_7, V_b2_7⟩ := hQ7
  have lt7_a1 := E_a1.lt
  have lt7_b2 := V_b2.lt
  have lt7_d3 := V_d3.lt
  have ne_a1_dN_7 : a1 ≠ dN_7 := Nat.ne_of_lt (Nat.lt_of_lt_of_le lt7_a1 szq_dN_7)
  have ne_b2_dN_7 : b2 ≠ dN_7 := Nat.ne_of_lt (Nat.lt_of_lt_of_le lt7_b2 szq_dN_7)
  have ne_d3_dN_7 : d3 ≠ dN_7 := Nat.ne_of_lt (Nat.lt_of_lt_of_le lt7_d3 szq_dN_7)
  have sz_dN_7 : h0.size ≤ dN_7 := Nat.le_trans K5.1 szq_dN_7
  have E_a1 := E_a1.keep Kq7
  have F_blockBits_a1 := F_blockBits_a1.keep Kq7 (ninS ne_a1_b2 nin0)
  have F_capacity_a1 := F_capacity_a1.keep Kq7 (ninS ne_a1_b2 nin0)
  have F_size_a1 := F_size_a1.keep Kq7 (ninS ne_a1_b2 nin0)
  have F_blocks_a1 := F_blocks_a1.keep Kq7 (ninS ne_a1_b2 nin0)
  have F_before_a1 := F_before_a1.keep Kq7 (ninS ne_a1_b2 nin0)
  have V_d3 := V_d3.keep Kq7 (ninS ne_d3_b2 nin0)
  have Z7 : n0 ≤ h7.size := Nat.le_trans Z5 Kq7.1
  have K7 := K5.trans Kq7 (allS (Or.inl (List.mem_of_getElem? (i := 1) rfl)) all0)
  have N7 := Fr.app N5 Nq7
  obtain ⟨lc7, X7, N7⟩ : ∃ lc, Stand p l e ({ frames := 3, cells := 1, slots := 2, locals := 69 } : Room) s m #[(.ref a1)] below meth c T7 lc 1 2 ∧ Fr n0 lc := ⟨_, X7, N7⟩
  refine OutW.via st7 ?_
  show OutW _ _ _ _ _ _ _ (T7.setTop (mkF m 37 #[.val (.ref a1), .val (.int (65536 : Int32))] []))
  refine OutW.back (fun t k => XS.goto X7.here hx rfl (pc0 := 37) (pc' := 96) rfl (hb hby d6_37) (by decide) (by decide) k) ?_
  show OutW _ _ _ _ _ _ _ (T7.setTop (mkF m 96 #[.val (.ref a1), .val (.int (65536 : Int32))] []))
  refine OutW.retV X7 hx Bd.returns hlk (hb hby d6_96) (by decide) (by decide) ?_
  show Q6 Z a1 b2 d3 kB kD w0 h0 n0 _ T7.heap _
  rw [e7]
  exact ⟨dN_7, kN_7, rfl, N7, K7, F_blockBits_a1, F_capacity_a1, F_size_a1, F_blocks_a1, F_before_a1, sz_dN_7, g_dN_7, V_dN_7, V_b2_7⟩
theorem d5_0 : decode prog_165_method_3_code 0 = .ok (.aload_n 0, 1) := by decide +kernel
theorem d5_1 : decode prog_165_method_3_code 1 = .ok (.getfield 13, 3) := by decide +kernel
theorem d5_4 : decode prog_165_method_3_code 4 = .ok (.ireturn, 1) := by decide +kernel
theorem pn_5 : plainName "com/example/xml_document_query/xmldocumentquery/tree/BlockedArray" = true := by first | (simp [plainName, overriddenIn]; done) | decide +kernel
theorem ef_5 (m : MethodId) (x0 : Addr) : entryFrame m #[(.ref x0)] 1 = mkF m 0 #[.val (.ref x0)] [] := by first | (simp [entryFrame, mkF, argsToLocals, Value.category]; done) | rfl
def Q5 (Z : State) (a1 : Addr) (w_c : Int32) (h0 : Heap) (n0 : Nat) (v : Option Value) (h : Heap) (L : List Loc) : Prop := v = some (.int w_c) ∧ Fr n0 L ∧ h = h0
set_option maxRecDepth 65536 in
set_option maxHeartbeats 40000000 in
theorem rm5 (l : Launch) (Z : State) (a0 : Array Value) (hw : ∀ d ∈ tables_1, d.before a0 Z = true) (ws : List Jvm.Cond) (a1 : Addr) (w_c : Int32) (h0 : Heap) (n0 : Nat) (Z0 : n0 ≤ h0.size) (F_capacity_a1 : Fld Z h0 a1 "com/example/xml_document_query/xmldocumentquery/tree/BlockedArray" "capacity" "I" (.int w_c)) :
    MetFree l (⟨"com/example/xml_document_query/xmldocumentquery/tree/BlockedArray", "capacity", "()I"⟩ : MethodName) (head1 (Jvm.Cond.code (⟨"com/example/xml_document_query/xmldocumentquery/tree/BlockedArray", "capacity", "()I"⟩ : MethodName) prog_165_method_3_code 1 (some .int) :: ws) ({ frames := 0, cells := 0, slots := 0, locals := 0 } : Room)) (fun a U => a = #[(.ref a1)] ∧ Z.Warmed39 U.vm ∧ U.heap = h0) (fun _ _ _ _ _ => True) (fun _ U o U' => ∃ v L, o = .returned v ∧ Q5 Z a1 w_c h0 n0 v U'.heap L ∧ FrameEnd U o U' L ({ frames := 0, cells := 0, slots := 0, locals := 0 } : Room).cells ({ frames := 0, cells := 0, slots := 0, locals := 0 } : Room).slots) := by
  refine MetFree.of_bodySF (plainFor_of_name pn_5) hisR ?_
  intro p e s m args below meth c s₁ Bd hml0 hP hK
  obtain ⟨rfl, hZ, hh⟩ := hP
  have hx := Bd.exec
  have hby := Bd.bytes
  have hlk := Bd.notSynchronized
  have hml : c.maxLocals = 1 := hml0
  have hown : s.vm.findClass "com/example/xml_document_query/xmldocumentquery/tree/BlockedArray" = some m.cls := findClass_of_methodNamed Bd.named
  have hnm := (name_of_methodNamed Bd.named Bd.method).1
  have X0 : Stand p l e ({ frames := 0, cells := 0, slots := 0, locals := 0 } : Room) s m #[(.ref a1)] below meth c s₁ [] 0 0 := Stand.of_body Bd
  have e0 : s₁.heap = h0 := by rw [← hh, Bd.state]; rfl
  have N0 := Fr.nil n0
  have K0 : Keep h0 h0 [] := Keep.refl h0 _
  show OutW p e below s ({ frames := 0, cells := 0, slots := 0, locals := 0 } : Room).cells ({ frames := 0, cells := 0, slots := 0, locals := 0 } : Room).slots (Q5 Z a1 w_c h0 n0) _
  refine OutW.back (fun t k => castTop (ef_5 m a1) k) ?_
  show OutW _ _ _ _ _ _ _ (s₁.setTop (mkF m 0 #[.val (.ref a1)] []))
  refine OutW.back (fun t k => XS.aloadN X0.here hx rfl (hb hby d5_0) rfl rfl  k) ?_
  show OutW _ _ _ _ _ _ _ (s₁.setTop (mkF m 1 #[.val (.ref a1)] [(.ref a1)]))
  obtain ⟨T1, X1, e1, st1⟩ := getF X0 hx hZ hown (host := "") (Or.inl (hw _ (List.mem_of_getElem? (i := 16) rfl))) Via.refl e0 F_capacity_a1 (g := (mkF m 1 #[.val (.ref a1)] [(.ref a1)])) rfl rfl (hb hby d5_1)
  refine OutW.back st1 ?_
  show OutW _ _ _ _ _ _ _ (T1.setTop (mkF m 4 #[.val (.ref a1)] [(.int w_c)]))
  refine OutW.retI X1 hx Bd.returns hlk (hb hby d5_4) (by decide) (by decide) ?_
  show Q5 Z a1 w_c h0 n0 _ T1.heap _
  rw [e1]
  exact ⟨rfl, N0, rfl⟩
theorem pd_4 : parseMethodDescriptor "()I" = some ⟨[], some .int⟩ := by decide +kernel
theorem pd_5 : parseMethodDescriptor "()V" = some ⟨[], none⟩ := by decide +kernel
theorem d4_0 : decode prog_168_method_2_code 0 = .ok (.aload_n 0, 1) := by decide +kernel
theorem d4_1 : decode prog_168_method_2_code 1 = .ok (.getfield 15, 3) := by decide +kernel
theorem d4_4 : decode prog_168_method_2_code 4 = .ok (.aload_n 0, 1) := by decide +kernel
theorem d4_5 : decode prog_168_method_2_code 5 = .ok (.invokevirtual 19, 3) := by decide +kernel
theorem d4_8 : decode prog_168_method_2_code 8 = .ok (.if_icmp .ne 7, 3) := by decide +kernel
theorem d4_11 : decode prog_168_method_2_code 11 = .ok (.aload_n 0, 1) := by decide +kernel
theorem d4_12 : decode prog_168_method_2_code 12 = .ok (.invokevirtual 23, 3) := by decide +kernel
theorem d4_15 : decode prog_168_method_2_code 15 = .ok (.aload_n 0, 1) := by decide +kernel
theorem d4_16 : decode prog_168_method_2_code 16 = .ok (.getfield 11, 3) := by decide +kernel
theorem d4_19 : decode prog_168_method_2_code 19 = .ok (.aload_n 0, 1) := by decide +kernel
theorem d4_20 : decode prog_168_method_2_code 20 = .ok (.getfield 15, 3) := by decide +kernel
theorem d4_23 : decode prog_168_method_2_code 23 = .ok (.bipush 16, 2) := by decide +kernel
theorem d4_25 : decode prog_168_method_2_code 25 = .ok (.iushr, 1) := by decide +kernel
theorem d4_26 : decode prog_168_method_2_code 26 = .ok (.aaload, 1) := by decide +kernel
theorem d4_27 : decode prog_168_method_2_code 27 = .ok (.aload_n 0, 1) := by decide +kernel
theorem d4_28 : decode prog_168_method_2_code 28 = .ok (.getfield 15, 3) := by decide +kernel
theorem d4_31 : decode prog_168_method_2_code 31 = .ok (.ldc 27, 2) := by decide +kernel
theorem d4_33 : decode prog_168_method_2_code 33 = .ok (.iand, 1) := by decide +kernel
theorem d4_34 : decode prog_168_method_2_code 34 = .ok (.iload_n 1, 1) := by decide +kernel
theorem d4_35 : decode prog_168_method_2_code 35 = .ok (.iastore, 1) := by decide +kernel
theorem d4_36 : decode prog_168_method_2_code 36 = .ok (.aload_n 0, 1) := by decide +kernel
theorem d4_37 : decode prog_168_method_2_code 37 = .ok (.dup, 1) := by decide +kernel
theorem d4_38 : decode prog_168_method_2_code 38 = .ok (.getfield 15, 3) := by decide +kernel
theorem d4_41 : decode prog_168_method_2_code 41 = .ok (.iconst 1, 1) := by decide +kernel
theorem d4_42 : decode prog_168_method_2_code 42 = .ok (.iadd, 1) := by decide +kernel
theorem d4_43 : decode prog_168_method_2_code 43 = .ok (.putfield 15, 3) := by decide +kernel
theorem d4_46 : decode prog_168_method_2_code 46 = .ok (.return_, 1) := by decide +kernel
theorem pn_4 : plainName "com/example/xml_document_query/xmldocumentquery/tree/IntColumn" = true := by first | (simp [plainName, overriddenIn]; done) | decide +kernel
theorem ef_4_1_1 (m : MethodId) (x0 : Addr) (x1 : Int32) : entryFrame m #[(.ref x0), (.int x1)] 2 = mkF m 0 #[.val (.ref x0), .val (.int x1)] [] := by first | (simp [entryFrame, mkF, argsToLocals, Value.category]; done) | rfl
def Q4_1_1 (Z : State) (a1 : Addr) (p2 : Int32) (b2 : Addr) (d3 : Addr) (kB : ClassId) (kD : ClassId) (w0 : Int32) (h0 : Heap) (n0 : Nat) (v : Option Value) (h : Heap) (L : List Loc) : Prop := ∃ dN : Addr, ∃ kN : ClassId, v = none ∧ Fr n0 L ∧ Keep h0 h [a1, b2] ∧ Fld Z h a1 "com/example/xml_document_query/xmldocumentquery/tree/BlockedArray" "blockBits" "I" (.int (16 : Int32)) ∧ Fld Z h a1 "com/example/xml_document_query/xmldocumentquery/tree/BlockedArray" "capacity" "I" (.int (2 : Int32)) ∧ Fld Z h a1 "com/example/xml_document_query/xmldocumentquery/tree/IntColumn" "size" "I" (.int (2 : Int32)) ∧ Fld Z h a1 "com/example/xml_document_query/xmldocumentquery/tree/IntColumn" "blocks" "[[I" (.ref b2) ∧ Fld Z h a1 "com/example/xml_document_query/xmldocumentquery/tree/IntColumn" "before" "Lcom/example/xml_document_query/xmldocumentquery/tree/IntColumn;" .null ∧ h0.size ≤ dN ∧ n0 ≤ dN ∧ Arv Z h dN kN .int (2 : Int32) [(.int w0), (.int p2)] (.int (0 : Int32)) ∧ Arv Z h b2 kB (.array .int) (1 : Int32) [(.ref dN)] .null
set_option maxRecDepth 65536 in
set_option maxHeartbeats 40000000 in
theorem rm4_1_1 (l : Launch) (Z : State) (a0 : Array Value) (hw : ∀ d ∈ tables_1, d.before a0 Z = true) (ws : List Jvm.Cond) (a1 : Addr) (p2 : Int32) (b2 : Addr) (d3 : Addr) (kB : ClassId) (kD : ClassId) (w0 : Int32) (h0 : Heap) (n0 : Nat) (Z0 : n0 ≤ h0.size) (E_a1 : Exa Z h0 a1 "com/example/xml_document_query/xmldocumentquery/tree/IntColumn") (g_a1 : n0 ≤ a1) (F_blockBits_a1 : Fld Z h0 a1 "com/example/xml_document_query/xmldocumentquery/tree/BlockedArray" "blockBits" "I" (.int (16 : Int32))) (F_capacity_a1 : Fld Z h0 a1 "com/example/xml_document_query/xmldocumentquery/tree/BlockedArray" "capacity" "I" (.int (1 : Int32))) (F_size_a1 : Fld Z h0 a1 "com/example/xml_document_query/xmldocumentquery/tree/IntColumn" "size" "I" (.int (1 : Int32))) (F_blocks_a1 : Fld Z h0 a1 "com/example/xml_document_query/xmldocumentquery/tree/IntColumn" "blocks" "[[I" (.ref b2)) (F_before_a1 : Fld Z h0 a1 "com/example/xml_document_query/xmldocumentquery/tree/IntColumn" "before" "Lcom/example/xml_document_query/xmldocumentquery/tree/IntColumn;" .null) (V_b2 : Arv Z h0 b2 kB (.array .int) (1 : Int32) [(.ref d3)] .null) (O_b2 : OvrA Z kB .int "[I") (V_d3 : Arv Z h0 d3 kD .int (1 : Int32) [(.int w0)] (.int (0 : Int32))) (ne_a1_b2 : a1 ≠ b2) (ne_d3_b2 : d3 ≠ b2) (ne_d3_a1 : d3 ≠ a1) (g_b2 : n0 ≤ b2) (g_d3 : n0 ≤ d3) :
    MetFree l (⟨"com/example/xml_document_query/xmldocumentquery/tree/IntColumn", "add", "(I)V"⟩ : MethodName) (head1 (Jvm.Cond.code (⟨"com/example/xml_document_query/xmldocumentquery/tree/IntColumn", "add", "(I)V"⟩ : MethodName) prog_168_method_2_code 2 none :: ws) ({ frames := 4, cells := 1, slots := 2, locals := 82 } : Room)) (fun a U => a = #[(.ref a1), (.int p2)] ∧ Z.Warmed39 U.vm ∧ U.heap = h0) (fun _ _ _ _ _ => True) (fun _ U o U' => ∃ v L, o = .returned v ∧ Q4_1_1 Z a1 p2 b2 d3 kB kD w0 h0 n0 v U'.heap L ∧ FrameEnd U o U' L ({ frames := 4, cells := 1, slots := 2, locals := 82 } : Room).cells ({ frames := 4, cells := 1, slots := 2, locals := 82 } : Room).slots) := by
  refine MetFree.of_bodySF (plainFor_of_name pn_4) hisR ?_
  intro p e s m args below meth c s₁ Bd hml0 hP hK
  obtain ⟨rfl, hZ, hh⟩ := hP
  have hx := Bd.exec
  have hby := Bd.bytes
  have hlk := Bd.notSynchronized
  have hml : c.maxLocals = 2 := hml0
  have hown : s.vm.findClass "com/example/xml_document_query/xmldocumentquery/tree/IntColumn" = some m.cls := findClass_of_methodNamed Bd.named
  have hnm := (name_of_methodNamed Bd.named Bd.method).1
  have X0 : Stand p l e ({ frames := 4, cells := 1, slots := 2, locals := 82 } : Room) s m #[(.ref a1), (.int p2)] below meth c s₁ [] 0 0 := Stand.of_body Bd
  have e0 : s₁.heap = h0 := by rw [← hh, Bd.state]; rfl
  have N0 := Fr.nil n0
  have K0 : Keep h0 h0 [a1, b2] := Keep.refl h0 _
  show OutW p e below s ({ frames := 4, cells := 1, slots := 2, locals := 82 } : Room).cells ({ frames := 4, cells := 1, slots := 2, locals := 82 } : Room).slots (Q4_1_1 Z a1 p2 b2 d3 kB kD w0 h0 n0) _
  refine OutW.back (fun t k => castTop (ef_4_1_1 m a1 p2) k) ?_
  show OutW _ _ _ _ _ _ _ (s₁.setTop (mkF m 0 #[.val (.ref a1), .val (.int p2)] []))
  refine OutW.back (fun t k => XS.aloadN X0.here hx rfl (hb hby d4_0) rfl rfl  k) ?_
  show OutW _ _ _ _ _ _ _ (s₁.setTop (mkF m 1 #[.val (.ref a1), .val (.int p2)] [(.ref a1)]))
  obtain ⟨T1, X1, e1, st1⟩ := getF X0 hx hZ hown (host := "") (Or.inl (hw _ (List.mem_of_getElem? (i := 29) rfl))) Via.refl e0 F_size_a1 (g := (mkF m 1 #[.val (.ref a1), .val (.int p2)] [(.ref a1)])) rfl rfl (hb hby d4_1)
  refine OutW.back st1 ?_
  show OutW _ _ _ _ _ _ _ (T1.setTop (mkF m 4 #[.val (.ref a1), .val (.int p2)] [(.int (1 : Int32))]))
  refine OutW.back (fun t k => XS.aloadN X1.here hx rfl (hb hby d4_4) rfl rfl  k) ?_
  show OutW _ _ _ _ _ _ _ (T1.setTop (mkF m 5 #[.val (.ref a1), .val (.int p2)] [(.ref a1), (.int (1 : Int32))]))
  obtain ⟨cq2, kq2, qa2, qb2, qc2⟩ := isOf hZ e1 E_a1
  obtain ⟨_, _, ⟨T2, L2, k2, n2⟩, -, X2, ⟨Lc2, hQ2, l2, y2, z2⟩, st2⟩ := X1.virtualBackUp hx (x := (⟨"com/example/xml_document_query/xmldocumentquery/tree/IntColumn", "capacity", "()I"⟩ : MethodName)) (y := (⟨"com/example/xml_document_query/xmldocumentquery/tree/BlockedArray", "capacity", "()I"⟩ : MethodName)) (owner := "com/example/xml_document_query/xmldocumentquery/tree/BlockedArray") hown (mvT hZ (hw _ (List.mem_of_getElem? (i := 31) rfl))) (mvT hZ (hw _ (List.mem_of_getElem? (i := 32) rfl))) (mvT hZ (hw _ (List.mem_of_getElem? (i := 33) rfl))) (by decide) (mvT hZ (hw _ (List.mem_of_getElem? (i := 35) rfl))) (mvT hZ (hw _ (List.mem_of_getElem? (i := 34) rfl))) (backOf (W := 1) (rm5 l Z a0 hw [] a1 (1 : Int32) h0 n0 Z0 F_capacity_a1) hZ (hw _ (List.mem_of_getElem? (i := 36) rfl)) (hw _ (List.mem_of_getElem? (i := 9) rfl)) (by decide) (by decide)) qa2 qc2 (g := (mkF m 5 #[.val (.ref a1), .val (.int p2)] [(.ref a1), (.int (1 : Int32))])) rfl (by rw [hml]; rfl) (Steps.refl _) (argsL := []) (rest := [(.int (1 : Int32))]) (lenOf pd_4 rfl) rfl (by show 2 * 0 + _ ≤ _; exact Nat.le_of_eq rfl) (hb hby d4_5) (fun _ _ => ⟨rfl, e1, (by decide : 0 + 0 ≤ _), (by decide : 0 + 0 ≤ _)⟩)
  dsimp only [Pt.U, Pt.locs, Pt.cells, Pt.slots] at X2 l2 y2 z2 st2 hQ2
  subst l2 y2 z2
  obtain ⟨rfl, Nq2, e2⟩ := hQ2
  have N2 := Fr.app N0 Nq2
  obtain ⟨lc2, X2, N2⟩ : ∃ lc, Stand p l e ({ frames := 4, cells := 1, slots := 2, locals := 82 } : Room) s m #[(.ref a1), (.int p2)] below meth c T2 lc 0 0 ∧ Fr n0 lc := ⟨_, X2, N2⟩
  refine OutW.via st2 ?_
  show OutW _ _ _ _ _ _ _ (T2.setTop (mkF m 8 #[.val (.ref a1), .val (.int p2)] [(.int (1 : Int32)), (.int (1 : Int32))]))
  refine OutW.back (fun t k => XS.icmpNo X2.here hx rfl (hb hby d4_8) rfl (teq (by decide : (1 : Int32) = (1 : Int32))).2 k) ?_
  show OutW _ _ _ _ _ _ _ (T2.setTop (mkF m 11 #[.val (.ref a1), .val (.int p2)] []))
  refine OutW.back (fun t k => XS.aloadN X2.here hx rfl (hb hby d4_11) rfl rfl  k) ?_
  show OutW _ _ _ _ _ _ _ (T2.setTop (mkF m 12 #[.val (.ref a1), .val (.int p2)] [(.ref a1)]))
  obtain ⟨cq3, kq3, qa3, qb3, qc3⟩ := isOf hZ e2 E_a1
  obtain ⟨_, _, ⟨T3, L3, k3, n3⟩, -, X3, ⟨Lc3, hQ3, l3, y3, z3⟩, st3⟩ := X2.virtualBackUp hx (x := (⟨"com/example/xml_document_query/xmldocumentquery/tree/IntColumn", "grow", "()V"⟩ : MethodName)) (y := (⟨"com/example/xml_document_query/xmldocumentquery/tree/BlockedArray", "grow", "()V"⟩ : MethodName)) (owner := "com/example/xml_document_query/xmldocumentquery/tree/BlockedArray") hown (mvT hZ (hw _ (List.mem_of_getElem? (i := 38) rfl))) (mvT hZ (hw _ (List.mem_of_getElem? (i := 39) rfl))) (mvT hZ (hw _ (List.mem_of_getElem? (i := 40) rfl))) (by decide) (mvT hZ (hw _ (List.mem_of_getElem? (i := 42) rfl))) (mvT hZ (hw _ (List.mem_of_getElem? (i := 41) rfl))) (backOf (W := 0) (rm6 l Z a0 hw [] a1 b2 d3 kB kD w0 h0 n0 Z0 E_a1 g_a1 F_blockBits_a1 F_capacity_a1 F_size_a1 F_blocks_a1 F_before_a1 V_b2 O_b2 V_d3 g_b2 ne_a1_b2 ne_d3_b2 ne_d3_a1) hZ (hw _ (List.mem_of_getElem? (i := 43) rfl)) (hw _ (List.mem_of_getElem? (i := 9) rfl)) (by decide) (by decide)) qa3 qc3 (g := (mkF m 12 #[.val (.ref a1), .val (.int p2)] [(.ref a1)])) rfl (by rw [hml]; rfl) (Steps.refl _) (argsL := []) (rest := []) (lenOf pd_5 rfl) rfl (by show 2 * 0 + _ ≤ _; exact Nat.le_of_eq rfl) (hb hby d4_12) (fun _ _ => ⟨rfl, e2, (by decide : 0 + 1 ≤ _), (by decide : 0 + 2 ≤ _)⟩)
  dsimp only [Pt.U, Pt.locs, Pt.cells, Pt.slots] at X3 l3 y3 z3 st3 hQ3
  subst l3 y3 z3
  obtain ⟨h3, eh3⟩ : ∃ z, z = T3.heap := ⟨_, rfl⟩
  rw [← eh3] at hQ3
  have e3 : T3.heap = h3 := eh3.symm
  obtain ⟨dN_3, kN_3, rfl, Nq3, Kq3, F_blockBits_a1, F_capacity_a1, F_size_a1, F_blocks_a1, F_before_a1, szq_dN_3, g_dN_3, V_dN_3, V_b2_3⟩ := hQ3
  have lt3_a1 := E_a1.lt
  have lt3_b2 := V_b2.lt
  have lt3_d3 := V_d3.lt
  have ne_a1_dN_3 : a1 ≠ dN_3 := Nat.ne_of_lt (Nat.lt_of_lt_of_le lt3_a1 szq_dN_3)
  have ne_b2_dN_3 : b2 ≠ dN_3 := Nat.ne_of_lt (Nat.lt_of_lt_of_le lt3_b2 szq_dN_3)
  have ne_d3_dN_3 : d3 ≠ dN_3 := Nat.ne_of_lt (Nat.lt_of_lt_of_le lt3_d3 szq_dN_3)
  have sz_dN_3 : h0.size ≤ dN_3 := Nat.le_trans K0.1 szq_dN_3
  have E_a1 := E_a1.keep Kq3
  have V_d3 := V_d3.keep Kq3 (ninS ne_d3_a1 (ninS ne_d3_b2 nin0))
  have Z3 : n0 ≤ h3.size := Nat.le_trans Z0 Kq3.1
  have K3 := K0.trans Kq3 (allS (Or.inl (List.mem_of_getElem? (i := 0) rfl)) (allS (Or.inl (List.mem_of_getElem? (i := 1) rfl)) all0))
  have N3 := Fr.app N2 Nq3
  obtain ⟨lc3, X3, N3⟩ : ∃ lc, Stand p l e ({ frames := 4, cells := 1, slots := 2, locals := 82 } : Room) s m #[(.ref a1), (.int p2)] below meth c T3 lc 1 2 ∧ Fr n0 lc := ⟨_, X3, N3⟩
  refine OutW.via st3 ?_
  show OutW _ _ _ _ _ _ _ (T3.setTop (mkF m 15 #[.val (.ref a1), .val (.int p2)] []))
  refine OutW.back (fun t k => XS.aloadN X3.here hx rfl (hb hby d4_15) rfl rfl  k) ?_
  show OutW _ _ _ _ _ _ _ (T3.setTop (mkF m 16 #[.val (.ref a1), .val (.int p2)] [(.ref a1)]))
  obtain ⟨T4, X4, e4, st4⟩ := getF X3 hx hZ hown (host := "") (Or.inl (hw _ (List.mem_of_getElem? (i := 22) rfl))) Via.refl e3 F_blocks_a1 (g := (mkF m 16 #[.val (.ref a1), .val (.int p2)] [(.ref a1)])) rfl rfl (hb hby d4_16)
  refine OutW.back st4 ?_
  show OutW _ _ _ _ _ _ _ (T4.setTop (mkF m 19 #[.val (.ref a1), .val (.int p2)] [(.ref b2)]))
  refine OutW.back (fun t k => XS.aloadN X4.here hx rfl (hb hby d4_19) rfl rfl  k) ?_
  show OutW _ _ _ _ _ _ _ (T4.setTop (mkF m 20 #[.val (.ref a1), .val (.int p2)] [(.ref a1), (.ref b2)]))
  obtain ⟨T5, X5, e5, st5⟩ := getF X4 hx hZ hown (host := "") (Or.inl (hw _ (List.mem_of_getElem? (i := 29) rfl))) Via.refl e4 F_size_a1 (g := (mkF m 20 #[.val (.ref a1), .val (.int p2)] [(.ref a1), (.ref b2)])) rfl rfl (hb hby d4_20)
  refine OutW.back st5 ?_
  show OutW _ _ _ _ _ _ _ (T5.setTop (mkF m 23 #[.val (.ref a1), .val (.int p2)] [(.int (1 : Int32)), (.ref b2)]))
  refine OutW.back (fun t k => XS.bipush X5.here hx rfl (hb hby d4_23) k) ?_
  show OutW _ _ _ _ _ _ _ (T5.setTop (mkF m 25 #[.val (.ref a1), .val (.int p2)] [(.int (16 : Int32)), (.int (1 : Int32)), (.ref b2)]))
  refine OutW.back (fun t k => XS.iushr X5.here hx rfl (hb hby d4_25) rfl k) ?_
  show OutW _ _ _ _ _ _ _ (T5.setTop (mkF m 26 #[.val (.ref a1), .val (.int p2)] [(.int (((1 : Int32).toUInt32 >>> ((16 : Int32) &&& 31).toUInt32).toInt32)), (.ref b2)]))
  rw [show (((1 : Int32).toUInt32 >>> ((16 : Int32) &&& 31).toUInt32).toInt32) = (0 : Int32) from by decide]
  obtain ⟨cl6, Ar6, Qk6, Sz6, Nn6, Hh6, Gg6⟩ := id V_b2_3
  have hin6 : ¬ ((0 : Int32) < 0 ∨ cl6.slots.size ≤ ((0 : Int32)).toNatClampNeg) := inb_of Sz6 ⟨by decide, by decide⟩
  refine OutW.back (X5.aaload hx (j := (0 : Int32)) (v := (.ref dN_3)) (by rw [e5]; exact Ar6.1) (State.isArrayOf_alike hZ.alike Ar6.2.1) rfl Ar6.2.2 hin6 (Hh6.at hin6 (by rfl)) (g := (mkF m 26 #[.val (.ref a1), .val (.int p2)] [(.int (0 : Int32)), (.ref b2)])) rfl rfl (hb hby d4_26)) ?_
  show OutW _ _ _ _ _ _ _ (T5.setTop (mkF m 27 #[.val (.ref a1), .val (.int p2)] [(.ref dN_3)]))
  refine OutW.back (fun t k => XS.aloadN X5.here hx rfl (hb hby d4_27) rfl rfl  k) ?_
  show OutW _ _ _ _ _ _ _ (T5.setTop (mkF m 28 #[.val (.ref a1), .val (.int p2)] [(.ref a1), (.ref dN_3)]))
  obtain ⟨T7, X7, e7, st7⟩ := getF X5 hx hZ hown (host := "") (Or.inl (hw _ (List.mem_of_getElem? (i := 29) rfl))) Via.refl e5 F_size_a1 (g := (mkF m 28 #[.val (.ref a1), .val (.int p2)] [(.ref a1), (.ref dN_3)])) rfl rfl (hb hby d4_28)
  refine OutW.back st7 ?_
  show OutW _ _ _ _ _ _ _ (T7.setTop (mkF m 31 #[.val (.ref a1), .val (.int p2)] [(.int (1 : Int32)), (.ref dN_3)]))
  refine OutW.back (X7.ldcInt hx hown (mvT hZ (hw _ (List.mem_of_getElem? (i := 37) rfl))) (g := (mkF m 31 #[.val (.ref a1), .val (.int p2)] [(.int (1 : Int32)), (.ref dN_3)])) rfl (hb hby d4_31)) ?_
  show OutW _ _ _ _ _ _ _ (T7.setTop (mkF m 33 #[.val (.ref a1), .val (.int p2)] [(.int (65535 : Int32)), (.int (1 : Int32)), (.ref dN_3)]))
  refine OutW.back (fun t k => XS.iand X7.here hx rfl (hb hby d4_33) rfl k) ?_
  show OutW _ _ _ _ _ _ _ (T7.setTop (mkF m 34 #[.val (.ref a1), .val (.int p2)] [(.int ((1 : Int32) &&& (65535 : Int32))), (.ref dN_3)]))
  rw [show ((1 : Int32) &&& (65535 : Int32)) = (1 : Int32) from by decide]
  refine OutW.back (fun t k => XS.iloadN X7.here hx rfl (hb hby d4_34) rfl  k) ?_
  show OutW _ _ _ _ _ _ _ (T7.setTop (mkF m 35 #[.val (.ref a1), .val (.int p2)] [(.int p2), (.int (1 : Int32)), (.ref dN_3)]))
  obtain ⟨cl8, Ar8, Qk8, Sz8, Nn8, Hh8, Gg8⟩ := id V_dN_3
  have hin8 : ¬ ((1 : Int32) < 0 ∨ cl8.slots.size ≤ ((1 : Int32)).toNatClampNeg) := inb_of Sz8 ⟨by decide, by decide⟩
  obtain ⟨T8, h8, X8, e8, W8, st8⟩ := stI X7 hx hZ e7 Ar8 (j := (1 : Int32)) hin8 (g := (mkF m 35 #[.val (.ref a1), .val (.int p2)] [(.int p2), (.int (1 : Int32)), (.ref dN_3)])) rfl rfl (hb hby d4_35)
  have V_dN_3_8 : Arv Z h8 dN_3 kN_3 .int (2 : Int32) [(.int w0), (.int p2)] (.int (0 : Int32)) := Arv.set Ar8 Qk8 Sz8 Nn8 Hh8 Gg8 rfl W8 1 rfl (Nat.le_of_ble_eq_true rfl)
  have E_a1 := E_a1.wr W8
  have V_d3 := V_d3.other W8 ne_d3_dN_3
  have F_blockBits_a1 := F_blockBits_a1.other W8 (Or.inl ne_a1_dN_3)
  have F_capacity_a1 := F_capacity_a1.other W8 (Or.inl ne_a1_dN_3)
  have F_size_a1 := F_size_a1.other W8 (Or.inl ne_a1_dN_3)
  have F_blocks_a1 := F_blocks_a1.other W8 (Or.inl ne_a1_dN_3)
  have F_before_a1 := F_before_a1.other W8 (Or.inl ne_a1_dN_3)
  have V_b2_3 := V_b2_3.other W8 ne_b2_dN_3
  have N8 := Fr.snoc X8 N3 g_dN_3
  have Z8 : n0 ≤ h8.size := Nat.le_trans Z3 (Keep.of_wr W8).1
  have K8 := K3.wr W8 (Or.inr sz_dN_3)
  obtain ⟨lc8, X8, N8⟩ : ∃ lc, Stand p l e ({ frames := 4, cells := 1, slots := 2, locals := 82 } : Room) s m #[(.ref a1), (.int p2)] below meth c T8 lc 1 2 ∧ Fr n0 lc := ⟨_, X8, N8⟩
  refine OutW.back st8 ?_
  show OutW _ _ _ _ _ _ _ (T8.setTop (mkF m 36 #[.val (.ref a1), .val (.int p2)] []))
  refine OutW.back (fun t k => XS.aloadN X8.here hx rfl (hb hby d4_36) rfl rfl  k) ?_
  show OutW _ _ _ _ _ _ _ (T8.setTop (mkF m 37 #[.val (.ref a1), .val (.int p2)] [(.ref a1)]))
  refine OutW.back (fun t k => XS.dup X8.here hx rfl (hb hby d4_37) rfl rfl k) ?_
  show OutW _ _ _ _ _ _ _ (T8.setTop (mkF m 38 #[.val (.ref a1), .val (.int p2)] [(.ref a1), (.ref a1)]))
  obtain ⟨T9, X9, e9, st9⟩ := getF X8 hx hZ hown (host := "") (Or.inl (hw _ (List.mem_of_getElem? (i := 29) rfl))) Via.refl e8 F_size_a1 (g := (mkF m 38 #[.val (.ref a1), .val (.int p2)] [(.ref a1), (.ref a1)])) rfl rfl (hb hby d4_38)
  refine OutW.back st9 ?_
  show OutW _ _ _ _ _ _ _ (T9.setTop (mkF m 41 #[.val (.ref a1), .val (.int p2)] [(.int (1 : Int32)), (.ref a1)]))
  refine OutW.back (fun t k => XS.iconst X9.here hx rfl (hb hby d4_41) k) ?_
  show OutW _ _ _ _ _ _ _ (T9.setTop (mkF m 42 #[.val (.ref a1), .val (.int p2)] [(.int (1 : Int32)), (.int (1 : Int32)), (.ref a1)]))
  refine OutW.back (fun t k => XS.iadd X9.here hx rfl (hb hby d4_42) rfl k) ?_
  show OutW _ _ _ _ _ _ _ (T9.setTop (mkF m 43 #[.val (.ref a1), .val (.int p2)] [(.int ((1 : Int32) + (1 : Int32))), (.ref a1)]))
  rw [show ((1 : Int32) + (1 : Int32)) = (2 : Int32) from by decide]
  obtain ⟨T10, h10, X10, e10, W10, st10⟩ := putF X9 hx hZ hown (host := "") (Or.inl (hw _ (List.mem_of_getElem? (i := 29) rfl))) Via.refl e9 F_size_a1 E_a1 (Or.inl (hw _ (List.mem_of_getElem? (i := 30) rfl))) (hw _ (List.mem_of_getElem? (i := 1) rfl)) (ty := .int) (by decide) rfl rfl (g := (mkF m 43 #[.val (.ref a1), .val (.int p2)] [(.int (2 : Int32)), (.ref a1)])) rfl rfl (hb hby d4_43)
  have E_a1 := E_a1.wr W10
  have V_d3 := V_d3.other W10 ne_d3_a1
  have F_blockBits_a1 := F_blockBits_a1.other W10 (Or.inr (slot_ne (Or.inr (hw _ (List.mem_of_getElem? (i := 15) rfl))) (Or.inl (hw _ (List.mem_of_getElem? (i := 30) rfl))) (by decide) (t := .int) (t' := .int) (by decide) (by decide)))
  have F_capacity_a1 := F_capacity_a1.other W10 (Or.inr (slot_ne (Or.inl (hw _ (List.mem_of_getElem? (i := 17) rfl))) (Or.inl (hw _ (List.mem_of_getElem? (i := 30) rfl))) (by decide) (t := .int) (t' := .int) (by decide) (by decide)))
  have F_size_a1 := F_size_a1.same W10
  have F_blocks_a1 := F_blocks_a1.other W10 (Or.inr (slot_ne (Or.inl (hw _ (List.mem_of_getElem? (i := 23) rfl))) (Or.inl (hw _ (List.mem_of_getElem? (i := 30) rfl))) (by decide) (t := (.array (.array .int))) (t' := .int) (by decide) (by decide)))
  have F_before_a1 := F_before_a1.other W10 (Or.inr (slot_ne (Or.inl (hw _ (List.mem_of_getElem? (i := 68) rfl))) (Or.inl (hw _ (List.mem_of_getElem? (i := 30) rfl))) (by decide) (t := (.object "com/example/xml_document_query/xmldocumentquery/tree/IntColumn")) (t' := .int) (by decide) (by decide)))
  have V_b2_3 := V_b2_3.other W10 (Ne.symm ne_a1_b2)
  have V_dN_3_8 := V_dN_3_8.other W10 (Ne.symm ne_a1_dN_3)
  have N10 := Fr.snoc X10 N8 g_a1
  have Z10 : n0 ≤ h10.size := Nat.le_trans Z8 (Keep.of_wr W10).1
  have K10 := K8.wr W10 (Or.inl (List.mem_of_getElem? (i := 0) rfl))
  obtain ⟨lc10, X10, N10⟩ : ∃ lc, Stand p l e ({ frames := 4, cells := 1, slots := 2, locals := 82 } : Room) s m #[(.ref a1), (.int p2)] below meth c T10 lc 1 2 ∧ Fr n0 lc := ⟨_, X10, N10⟩
  refine OutW.back st10 ?_
  show OutW _ _ _ _ _ _ _ (T10.setTop (mkF m 46 #[.val (.ref a1), .val (.int p2)] []))
  refine OutW.retV X10 hx Bd.returns hlk (hb hby d4_46) (by decide) (by decide) ?_
  show Q4_1_1 Z a1 p2 b2 d3 kB kD w0 h0 n0 _ T10.heap _
  rw [e10]
  exact ⟨dN_3, kN_3, rfl, N10, K10, F_blockBits_a1, F_capacity_a1, F_size_a1, F_blocks_a1, F_before_a1, sz_dN_3, g_dN_3, V_dN_3_8, V_b2_3⟩
theorem ef_4_0_1 (m : MethodId) (x0 : Addr) (x1 : Int32) : entryFrame m #[(.ref x0), (.int x1)] 2 = mkF m 0 #[.val (.ref x0), .val (.int x1)] [] := by first | (simp [entryFrame, mkF, argsToLocals, Value.category]; done) | rfl
def Q4_0_1 (Z : State) (a1 : Addr) (p2 : Int32) (b2 : Addr) (d3 : Addr) (kB : ClassId) (kD : ClassId) (w0 : Int32) (w_before : Value) (h0 : Heap) (n0 : Nat) (v : Option Value) (h : Heap) (L : List Loc) : Prop := v = none ∧ Fr n0 L ∧ Keep h0 h [a1, d3] ∧ Fld Z h a1 "com/example/xml_document_query/xmldocumentquery/tree/BlockedArray" "blockBits" "I" (.int (16 : Int32)) ∧ Fld Z h a1 "com/example/xml_document_query/xmldocumentquery/tree/BlockedArray" "capacity" "I" (.int (1 : Int32)) ∧ Fld Z h a1 "com/example/xml_document_query/xmldocumentquery/tree/IntColumn" "size" "I" (.int (1 : Int32)) ∧ Fld Z h a1 "com/example/xml_document_query/xmldocumentquery/tree/IntColumn" "blocks" "[[I" (.ref b2) ∧ Fld Z h a1 "com/example/xml_document_query/xmldocumentquery/tree/IntColumn" "before" "Lcom/example/xml_document_query/xmldocumentquery/tree/IntColumn;" w_before ∧ Arv Z h d3 kD .int (1 : Int32) [(.int p2)] (.int (0 : Int32))
set_option maxRecDepth 65536 in
set_option maxHeartbeats 40000000 in
theorem rm4_0_1 (l : Launch) (Z : State) (a0 : Array Value) (hw : ∀ d ∈ tables_1, d.before a0 Z = true) (ws : List Jvm.Cond) (a1 : Addr) (p2 : Int32) (b2 : Addr) (d3 : Addr) (kB : ClassId) (kD : ClassId) (w0 : Int32) (w_before : Value) (h0 : Heap) (n0 : Nat) (Z0 : n0 ≤ h0.size) (E_a1 : Exa Z h0 a1 "com/example/xml_document_query/xmldocumentquery/tree/IntColumn") (g_a1 : n0 ≤ a1) (F_blockBits_a1 : Fld Z h0 a1 "com/example/xml_document_query/xmldocumentquery/tree/BlockedArray" "blockBits" "I" (.int (16 : Int32))) (F_capacity_a1 : Fld Z h0 a1 "com/example/xml_document_query/xmldocumentquery/tree/BlockedArray" "capacity" "I" (.int (1 : Int32))) (F_size_a1 : Fld Z h0 a1 "com/example/xml_document_query/xmldocumentquery/tree/IntColumn" "size" "I" (.int (0 : Int32))) (F_blocks_a1 : Fld Z h0 a1 "com/example/xml_document_query/xmldocumentquery/tree/IntColumn" "blocks" "[[I" (.ref b2)) (F_before_a1 : Fld Z h0 a1 "com/example/xml_document_query/xmldocumentquery/tree/IntColumn" "before" "Lcom/example/xml_document_query/xmldocumentquery/tree/IntColumn;" w_before) (V_b2 : Arv Z h0 b2 kB (.array .int) (1 : Int32) [(.ref d3)] .null) (O_b2 : OvrA Z kB .int "[I") (V_d3 : Arv Z h0 d3 kD .int (1 : Int32) [(.int w0)] (.int (0 : Int32))) (ne_a1_b2 : a1 ≠ b2) (ne_d3_b2 : d3 ≠ b2) (ne_d3_a1 : d3 ≠ a1) (g_b2 : n0 ≤ b2) (g_d3 : n0 ≤ d3) :
    MetFree l (⟨"com/example/xml_document_query/xmldocumentquery/tree/IntColumn", "add", "(I)V"⟩ : MethodName) (head1 (Jvm.Cond.code (⟨"com/example/xml_document_query/xmldocumentquery/tree/IntColumn", "add", "(I)V"⟩ : MethodName) prog_168_method_2_code 2 none :: ws) ({ frames := 1, cells := 0, slots := 0, locals := 13 } : Room)) (fun a U => a = #[(.ref a1), (.int p2)] ∧ Z.Warmed39 U.vm ∧ U.heap = h0) (fun _ _ _ _ _ => True) (fun _ U o U' => ∃ v L, o = .returned v ∧ Q4_0_1 Z a1 p2 b2 d3 kB kD w0 w_before h0 n0 v U'.heap L ∧ FrameEnd U o U' L ({ frames := 1, cells := 0, slots := 0, locals := 13 } : Room).cells ({ frames := 1, cells := 0, slots := 0, locals := 13 } : Room).slots) := by
  refine MetFree.of_bodySF (plainFor_of_name pn_4) hisR ?_
  intro p e s m args below meth c s₁ Bd hml0 hP hK
  obtain ⟨rfl, hZ, hh⟩ := hP
  have hx := Bd.exec
  have hby := Bd.bytes
  have hlk := Bd.notSynchronized
  have hml : c.maxLocals = 2 := hml0
  have hown : s.vm.findClass "com/example/xml_document_query/xmldocumentquery/tree/IntColumn" = some m.cls := findClass_of_methodNamed Bd.named
  have hnm := (name_of_methodNamed Bd.named Bd.method).1
  have X0 : Stand p l e ({ frames := 1, cells := 0, slots := 0, locals := 13 } : Room) s m #[(.ref a1), (.int p2)] below meth c s₁ [] 0 0 := Stand.of_body Bd
  have e0 : s₁.heap = h0 := by rw [← hh, Bd.state]; rfl
  have N0 := Fr.nil n0
  have K0 : Keep h0 h0 [a1, d3] := Keep.refl h0 _
  show OutW p e below s ({ frames := 1, cells := 0, slots := 0, locals := 13 } : Room).cells ({ frames := 1, cells := 0, slots := 0, locals := 13 } : Room).slots (Q4_0_1 Z a1 p2 b2 d3 kB kD w0 w_before h0 n0) _
  refine OutW.back (fun t k => castTop (ef_4_0_1 m a1 p2) k) ?_
  show OutW _ _ _ _ _ _ _ (s₁.setTop (mkF m 0 #[.val (.ref a1), .val (.int p2)] []))
  refine OutW.back (fun t k => XS.aloadN X0.here hx rfl (hb hby d4_0) rfl rfl  k) ?_
  show OutW _ _ _ _ _ _ _ (s₁.setTop (mkF m 1 #[.val (.ref a1), .val (.int p2)] [(.ref a1)]))
  obtain ⟨T1, X1, e1, st1⟩ := getF X0 hx hZ hown (host := "") (Or.inl (hw _ (List.mem_of_getElem? (i := 29) rfl))) Via.refl e0 F_size_a1 (g := (mkF m 1 #[.val (.ref a1), .val (.int p2)] [(.ref a1)])) rfl rfl (hb hby d4_1)
  refine OutW.back st1 ?_
  show OutW _ _ _ _ _ _ _ (T1.setTop (mkF m 4 #[.val (.ref a1), .val (.int p2)] [(.int (0 : Int32))]))
  refine OutW.back (fun t k => XS.aloadN X1.here hx rfl (hb hby d4_4) rfl rfl  k) ?_
  show OutW _ _ _ _ _ _ _ (T1.setTop (mkF m 5 #[.val (.ref a1), .val (.int p2)] [(.ref a1), (.int (0 : Int32))]))
  obtain ⟨cq2, kq2, qa2, qb2, qc2⟩ := isOf hZ e1 E_a1
  obtain ⟨_, _, ⟨T2, L2, k2, n2⟩, -, X2, ⟨Lc2, hQ2, l2, y2, z2⟩, st2⟩ := X1.virtualBackUp hx (x := (⟨"com/example/xml_document_query/xmldocumentquery/tree/IntColumn", "capacity", "()I"⟩ : MethodName)) (y := (⟨"com/example/xml_document_query/xmldocumentquery/tree/BlockedArray", "capacity", "()I"⟩ : MethodName)) (owner := "com/example/xml_document_query/xmldocumentquery/tree/BlockedArray") hown (mvT hZ (hw _ (List.mem_of_getElem? (i := 31) rfl))) (mvT hZ (hw _ (List.mem_of_getElem? (i := 32) rfl))) (mvT hZ (hw _ (List.mem_of_getElem? (i := 33) rfl))) (by decide) (mvT hZ (hw _ (List.mem_of_getElem? (i := 35) rfl))) (mvT hZ (hw _ (List.mem_of_getElem? (i := 34) rfl))) (backOf (W := 1) (rm5 l Z a0 hw [] a1 (1 : Int32) h0 n0 Z0 F_capacity_a1) hZ (hw _ (List.mem_of_getElem? (i := 36) rfl)) (hw _ (List.mem_of_getElem? (i := 9) rfl)) (by decide) (by decide)) qa2 qc2 (g := (mkF m 5 #[.val (.ref a1), .val (.int p2)] [(.ref a1), (.int (0 : Int32))])) rfl (by rw [hml]; rfl) (Steps.refl _) (argsL := []) (rest := [(.int (0 : Int32))]) (lenOf pd_4 rfl) rfl (by show 2 * 0 + _ ≤ _; exact Nat.le_of_eq rfl) (hb hby d4_5) (fun _ _ => ⟨rfl, e1, (by decide : 0 + 0 ≤ _), (by decide : 0 + 0 ≤ _)⟩)
  dsimp only [Pt.U, Pt.locs, Pt.cells, Pt.slots] at X2 l2 y2 z2 st2 hQ2
  subst l2 y2 z2
  obtain ⟨rfl, Nq2, e2⟩ := hQ2
  have N2 := Fr.app N0 Nq2
  obtain ⟨lc2, X2, N2⟩ : ∃ lc, Stand p l e ({ frames := 1, cells := 0, slots := 0, locals := 13 } : Room) s m #[(.ref a1), (.int p2)] below meth c T2 lc 0 0 ∧ Fr n0 lc := ⟨_, X2, N2⟩
  refine OutW.via st2 ?_
  show OutW _ _ _ _ _ _ _ (T2.setTop (mkF m 8 #[.val (.ref a1), .val (.int p2)] [(.int (1 : Int32)), (.int (0 : Int32))]))
  refine OutW.back (fun t k => XS.icmpYes X2.here hx rfl (pc0 := 8) (pc' := 15) rfl (hb hby d4_8) rfl (feq (by decide : ¬ ((0 : Int32) = (1 : Int32)))).2 (by decide) (by decide) k) ?_
  show OutW _ _ _ _ _ _ _ (T2.setTop (mkF m 15 #[.val (.ref a1), .val (.int p2)] []))
  refine OutW.back (fun t k => XS.aloadN X2.here hx rfl (hb hby d4_15) rfl rfl  k) ?_
  show OutW _ _ _ _ _ _ _ (T2.setTop (mkF m 16 #[.val (.ref a1), .val (.int p2)] [(.ref a1)]))
  obtain ⟨T3, X3, e3, st3⟩ := getF X2 hx hZ hown (host := "") (Or.inl (hw _ (List.mem_of_getElem? (i := 22) rfl))) Via.refl e2 F_blocks_a1 (g := (mkF m 16 #[.val (.ref a1), .val (.int p2)] [(.ref a1)])) rfl rfl (hb hby d4_16)
  refine OutW.back st3 ?_
  show OutW _ _ _ _ _ _ _ (T3.setTop (mkF m 19 #[.val (.ref a1), .val (.int p2)] [(.ref b2)]))
  refine OutW.back (fun t k => XS.aloadN X3.here hx rfl (hb hby d4_19) rfl rfl  k) ?_
  show OutW _ _ _ _ _ _ _ (T3.setTop (mkF m 20 #[.val (.ref a1), .val (.int p2)] [(.ref a1), (.ref b2)]))
  obtain ⟨T4, X4, e4, st4⟩ := getF X3 hx hZ hown (host := "") (Or.inl (hw _ (List.mem_of_getElem? (i := 29) rfl))) Via.refl e3 F_size_a1 (g := (mkF m 20 #[.val (.ref a1), .val (.int p2)] [(.ref a1), (.ref b2)])) rfl rfl (hb hby d4_20)
  refine OutW.back st4 ?_
  show OutW _ _ _ _ _ _ _ (T4.setTop (mkF m 23 #[.val (.ref a1), .val (.int p2)] [(.int (0 : Int32)), (.ref b2)]))
  refine OutW.back (fun t k => XS.bipush X4.here hx rfl (hb hby d4_23) k) ?_
  show OutW _ _ _ _ _ _ _ (T4.setTop (mkF m 25 #[.val (.ref a1), .val (.int p2)] [(.int (16 : Int32)), (.int (0 : Int32)), (.ref b2)]))
  refine OutW.back (fun t k => XS.iushr X4.here hx rfl (hb hby d4_25) rfl k) ?_
  show OutW _ _ _ _ _ _ _ (T4.setTop (mkF m 26 #[.val (.ref a1), .val (.int p2)] [(.int (((0 : Int32).toUInt32 >>> ((16 : Int32) &&& 31).toUInt32).toInt32)), (.ref b2)]))
  rw [show (((0 : Int32).toUInt32 >>> ((16 : Int32) &&& 31).toUInt32).toInt32) = (0 : Int32) from by decide]
  obtain ⟨cl5, Ar5, Qk5, Sz5, Nn5, Hh5, Gg5⟩ := id V_b2
  have hin5 : ¬ ((0 : Int32) < 0 ∨ cl5.slots.size ≤ ((0 : Int32)).toNatClampNeg) := inb_of Sz5 ⟨by decide, by decide⟩
  refine OutW.back (X4.aaload hx (j := (0 : Int32)) (v := (.ref d3)) (by rw [e4]; exact Ar5.1) (State.isArrayOf_alike hZ.alike Ar5.2.1) rfl Ar5.2.2 hin5 (Hh5.at hin5 (by rfl)) (g := (mkF m 26 #[.val (.ref a1), .val (.int p2)] [(.int (0 : Int32)), (.ref b2)])) rfl rfl (hb hby d4_26)) ?_
  show OutW _ _ _ _ _ _ _ (T4.setTop (mkF m 27 #[.val (.ref a1), .val (.int p2)] [(.ref d3)]))
  refine OutW.back (fun t k => XS.aloadN X4.here hx rfl (hb hby d4_27) rfl rfl  k) ?_
  show OutW _ _ _ _ _ _ _ (T4.setTop (mkF m 28 #[.val (.ref a1), .val (.int p2)] [(.ref a1), (.ref d3)]))
  obtain ⟨T6, X6, e6, st6⟩ := getF X4 hx hZ hown (host := "") (Or.inl (hw _ (List.mem_of_getElem? (i := 29) rfl))) Via.refl e4 F_size_a1 (g := (mkF m 28 #[.val (.ref a1), .val (.int p2)] [(.ref a1), (.ref d3)])) rfl rfl (hb hby d4_28)
  refine OutW.back st6 ?_
  show OutW _ _ _ _ _ _ _ (T6.setTop (mkF m 31 #[.val (.ref a1), .val (.int p2)] [(.int (0 : Int32)), (.ref d3)]))
  refine OutW.back (X6.ldcInt hx hown (mvT hZ (hw _ (List.mem_of_getElem? (i := 37) rfl))) (g := (mkF m 31 #[.val (.ref a1), .val (.int p2)] [(.int (0 : Int32)), (.ref d3)])) rfl (hb hby d4_31)) ?_
  show OutW _ _ _ _ _ _ _ (T6.setTop (mkF m 33 #[.val (.ref a1), .val (.int p2)] [(.int (65535 : Int32)), (.int (0 : Int32)), (.ref d3)]))
  refine OutW.back (fun t k => XS.iand X6.here hx rfl (hb hby d4_33) rfl k) ?_
  show OutW _ _ _ _ _ _ _ (T6.setTop (mkF m 34 #[.val (.ref a1), .val (.int p2)] [(.int ((0 : Int32) &&& (65535 : Int32))), (.ref d3)]))
  rw [show ((0 : Int32) &&& (65535 : Int32)) = (0 : Int32) from by decide]
  refine OutW.back (fun t k => XS.iloadN X6.here hx rfl (hb hby d4_34) rfl  k) ?_
  show OutW _ _ _ _ _ _ _ (T6.setTop (mkF m 35 #[.val (.ref a1), .val (.int p2)] [(.int p2), (.int (0 : Int32)), (.ref d3)]))
  obtain ⟨cl7, Ar7, Qk7, Sz7, Nn7, Hh7, Gg7⟩ := id V_d3
  have hin7 : ¬ ((0 : Int32) < 0 ∨ cl7.slots.size ≤ ((0 : Int32)).toNatClampNeg) := inb_of Sz7 ⟨by decide, by decide⟩
  obtain ⟨T7, h7, X7, e7, W7, st7⟩ := stI X6 hx hZ e6 Ar7 (j := (0 : Int32)) hin7 (g := (mkF m 35 #[.val (.ref a1), .val (.int p2)] [(.int p2), (.int (0 : Int32)), (.ref d3)])) rfl rfl (hb hby d4_35)
  have V_d3_7 : Arv Z h7 d3 kD .int (1 : Int32) [(.int p2)] (.int (0 : Int32)) := Arv.set Ar7 Qk7 Sz7 Nn7 Hh7 Gg7 rfl W7 0 rfl (Nat.le_of_ble_eq_true rfl)
  have E_a1 := E_a1.wr W7
  have F_blockBits_a1 := F_blockBits_a1.other W7 (Or.inl (Ne.symm ne_d3_a1))
  have F_capacity_a1 := F_capacity_a1.other W7 (Or.inl (Ne.symm ne_d3_a1))
  have F_size_a1 := F_size_a1.other W7 (Or.inl (Ne.symm ne_d3_a1))
  have F_blocks_a1 := F_blocks_a1.other W7 (Or.inl (Ne.symm ne_d3_a1))
  have F_before_a1 := F_before_a1.other W7 (Or.inl (Ne.symm ne_d3_a1))
  have V_b2 := V_b2.other W7 (Ne.symm ne_d3_b2)
  have N7 := Fr.snoc X7 N2 g_d3
  have Z7 : n0 ≤ h7.size := Nat.le_trans Z0 (Keep.of_wr W7).1
  have K7 := K0.wr W7 (Or.inl (List.mem_of_getElem? (i := 1) rfl))
  obtain ⟨lc7, X7, N7⟩ : ∃ lc, Stand p l e ({ frames := 1, cells := 0, slots := 0, locals := 13 } : Room) s m #[(.ref a1), (.int p2)] below meth c T7 lc 0 0 ∧ Fr n0 lc := ⟨_, X7, N7⟩
  refine OutW.back st7 ?_
  show OutW _ _ _ _ _ _ _ (T7.setTop (mkF m 36 #[.val (.ref a1), .val (.int p2)] []))
  refine OutW.back (fun t k => XS.aloadN X7.here hx rfl (hb hby d4_36) rfl rfl  k) ?_
  show OutW _ _ _ _ _ _ _ (T7.setTop (mkF m 37 #[.val (.ref a1), .val (.int p2)] [(.ref a1)]))
  refine OutW.back (fun t k => XS.dup X7.here hx rfl (hb hby d4_37) rfl rfl k) ?_
  show OutW _ _ _ _ _ _ _ (T7.setTop (mkF m 38 #[.val (.ref a1), .val (.int p2)] [(.ref a1), (.ref a1)]))
  obtain ⟨T8, X8, e8, st8⟩ := getF X7 hx hZ hown (host := "") (Or.inl (hw _ (List.mem_of_getElem? (i := 29) rfl))) Via.refl e7 F_size_a1 (g := (mkF m 38 #[.val (.ref a1), .val (.int p2)] [(.ref a1), (.ref a1)])) rfl rfl (hb hby d4_38)
  refine OutW.back st8 ?_
  show OutW _ _ _ _ _ _ _ (T8.setTop (mkF m 41 #[.val (.ref a1), .val (.int p2)] [(.int (0 : Int32)), (.ref a1)]))
  refine OutW.back (fun t k => XS.iconst X8.here hx rfl (hb hby d4_41) k) ?_
  show OutW _ _ _ _ _ _ _ (T8.setTop (mkF m 42 #[.val (.ref a1), .val (.int p2)] [(.int (1 : Int32)), (.int (0 : Int32)), (.ref a1)]))
  refine OutW.back (fun t k => XS.iadd X8.here hx rfl (hb hby d4_42) rfl k) ?_
  show OutW _ _ _ _ _ _ _ (T8.setTop (mkF m 43 #[.val (.ref a1), .val (.int p2)] [(.int ((0 : Int32) + (1 : Int32))), (.ref a1)]))
  rw [show ((0 : Int32) + (1 : Int32)) = (1 : Int32) from by decide]
  obtain ⟨T9, h9, X9, e9, W9, st9⟩ := putF X8 hx hZ hown (host := "") (Or.inl (hw _ (List.mem_of_getElem? (i := 29) rfl))) Via.refl e8 F_size_a1 E_a1 (Or.inl (hw _ (List.mem_of_getElem? (i := 30) rfl))) (hw _ (List.mem_of_getElem? (i := 1) rfl)) (ty := .int) (by decide) rfl rfl (g := (mkF m 43 #[.val (.ref a1), .val (.int p2)] [(.int (1 : Int32)), (.ref a1)])) rfl rfl (hb hby d4_43)
  have E_a1 := E_a1.wr W9
  have F_blockBits_a1 := F_blockBits_a1.other W9 (Or.inr (slot_ne (Or.inr (hw _ (List.mem_of_getElem? (i := 15) rfl))) (Or.inl (hw _ (List.mem_of_getElem? (i := 30) rfl))) (by decide) (t := .int) (t' := .int) (by decide) (by decide)))
  have F_capacity_a1 := F_capacity_a1.other W9 (Or.inr (slot_ne (Or.inl (hw _ (List.mem_of_getElem? (i := 17) rfl))) (Or.inl (hw _ (List.mem_of_getElem? (i := 30) rfl))) (by decide) (t := .int) (t' := .int) (by decide) (by decide)))
  have F_size_a1 := F_size_a1.same W9
  have F_blocks_a1 := F_blocks_a1.other W9 (Or.inr (slot_ne (Or.inl (hw _ (List.mem_of_getElem? (i := 23) rfl))) (Or.inl (hw _ (List.mem_of_getElem? (i := 30) rfl))) (by decide) (t := (.array (.array .int))) (t' := .int) (by decide) (by decide)))
  have F_before_a1 := F_before_a1.other W9 (Or.inr (slot_ne (Or.inl (hw _ (List.mem_of_getElem? (i := 68) rfl))) (Or.inl (hw _ (List.mem_of_getElem? (i := 30) rfl))) (by decide) (t := (.object "com/example/xml_document_query/xmldocumentquery/tree/IntColumn")) (t' := .int) (by decide) (by decide)))
  have V_b2 := V_b2.other W9 (Ne.symm ne_a1_b2)
  have V_d3_7 := V_d3_7.other W9 ne_d3_a1
  have N9 := Fr.snoc X9 N7 g_a1
  have Z9 : n0 ≤ h9.size := Nat.le_trans Z7 (Keep.of_wr W9).1
  have K9 := K7.wr W9 (Or.inl (List.mem_of_getElem? (i := 0) rfl))
  obtain ⟨lc9, X9, N9⟩ : ∃ lc, Stand p l e ({ frames := 1, cells := 0, slots := 0, locals := 13 } : Room) s m #[(.ref a1), (.int p2)] below meth c T9 lc 0 0 ∧ Fr n0 lc := ⟨_, X9, N9⟩
  refine OutW.back st9 ?_
  show OutW _ _ _ _ _ _ _ (T9.setTop (mkF m 46 #[.val (.ref a1), .val (.int p2)] []))
  refine OutW.retV X9 hx Bd.returns hlk (hb hby d4_46) (by decide) (by decide) ?_
  show Q4_0_1 Z a1 p2 b2 d3 kB kD w0 w_before h0 n0 _ T9.heap _
  rw [e9]
  exact ⟨rfl, N9, K9, F_blockBits_a1, F_capacity_a1, F_size_a1, F_blocks_a1, F_before_a1, V_d3_7⟩
theorem ef_4_0_2 (m : MethodId) (x0 : Addr) (x1 : Int32) : entryFrame m #[(.ref x0), (.int x1)] 2 = mkF m 0 #[.val (.ref x0), .val (.int x1)] [] := by first | (simp [entryFrame, mkF, argsToLocals, Value.category]; done) | rfl
def Q4_0_2 (Z : State) (a1 : Addr) (p2 : Int32) (b2 : Addr) (d3 : Addr) (kB : ClassId) (kD : ClassId) (w0 : Int32) (w1 : Int32) (w_before : Value) (h0 : Heap) (n0 : Nat) (v : Option Value) (h : Heap) (L : List Loc) : Prop := v = none ∧ Fr n0 L ∧ Keep h0 h [a1, d3] ∧ Fld Z h a1 "com/example/xml_document_query/xmldocumentquery/tree/BlockedArray" "blockBits" "I" (.int (16 : Int32)) ∧ Fld Z h a1 "com/example/xml_document_query/xmldocumentquery/tree/BlockedArray" "capacity" "I" (.int (2 : Int32)) ∧ Fld Z h a1 "com/example/xml_document_query/xmldocumentquery/tree/IntColumn" "size" "I" (.int (1 : Int32)) ∧ Fld Z h a1 "com/example/xml_document_query/xmldocumentquery/tree/IntColumn" "blocks" "[[I" (.ref b2) ∧ Fld Z h a1 "com/example/xml_document_query/xmldocumentquery/tree/IntColumn" "before" "Lcom/example/xml_document_query/xmldocumentquery/tree/IntColumn;" w_before ∧ Arv Z h d3 kD .int (2 : Int32) [(.int p2), (.int w1)] (.int (0 : Int32))
set_option maxRecDepth 65536 in
set_option maxHeartbeats 40000000 in
theorem rm4_0_2 (l : Launch) (Z : State) (a0 : Array Value) (hw : ∀ d ∈ tables_1, d.before a0 Z = true) (ws : List Jvm.Cond) (a1 : Addr) (p2 : Int32) (b2 : Addr) (d3 : Addr) (kB : ClassId) (kD : ClassId) (w0 : Int32) (w1 : Int32) (w_before : Value) (h0 : Heap) (n0 : Nat) (Z0 : n0 ≤ h0.size) (E_a1 : Exa Z h0 a1 "com/example/xml_document_query/xmldocumentquery/tree/IntColumn") (g_a1 : n0 ≤ a1) (F_blockBits_a1 : Fld Z h0 a1 "com/example/xml_document_query/xmldocumentquery/tree/BlockedArray" "blockBits" "I" (.int (16 : Int32))) (F_capacity_a1 : Fld Z h0 a1 "com/example/xml_document_query/xmldocumentquery/tree/BlockedArray" "capacity" "I" (.int (2 : Int32))) (F_size_a1 : Fld Z h0 a1 "com/example/xml_document_query/xmldocumentquery/tree/IntColumn" "size" "I" (.int (0 : Int32))) (F_blocks_a1 : Fld Z h0 a1 "com/example/xml_document_query/xmldocumentquery/tree/IntColumn" "blocks" "[[I" (.ref b2)) (F_before_a1 : Fld Z h0 a1 "com/example/xml_document_query/xmldocumentquery/tree/IntColumn" "before" "Lcom/example/xml_document_query/xmldocumentquery/tree/IntColumn;" w_before) (V_b2 : Arv Z h0 b2 kB (.array .int) (1 : Int32) [(.ref d3)] .null) (O_b2 : OvrA Z kB .int "[I") (V_d3 : Arv Z h0 d3 kD .int (2 : Int32) [(.int w0), (.int w1)] (.int (0 : Int32))) (ne_a1_b2 : a1 ≠ b2) (ne_d3_b2 : d3 ≠ b2) (ne_d3_a1 : d3 ≠ a1) (g_b2 : n0 ≤ b2) (g_d3 : n0 ≤ d3) :
    MetFree l (⟨"com/example/xml_document_query/xmldocumentquery/tree/IntColumn", "add", "(I)V"⟩ : MethodName) (head1 (Jvm.Cond.code (⟨"com/example/xml_document_query/xmldocumentquery/tree/IntColumn", "add", "(I)V"⟩ : MethodName) prog_168_method_2_code 2 none :: ws) ({ frames := 1, cells := 0, slots := 0, locals := 13 } : Room)) (fun a U => a = #[(.ref a1), (.int p2)] ∧ Z.Warmed39 U.vm ∧ U.heap = h0) (fun _ _ _ _ _ => True) (fun _ U o U' => ∃ v L, o = .returned v ∧ Q4_0_2 Z a1 p2 b2 d3 kB kD w0 w1 w_before h0 n0 v U'.heap L ∧ FrameEnd U o U' L ({ frames := 1, cells := 0, slots := 0, locals := 13 } : Room).cells ({ frames := 1, cells := 0, slots := 0, locals := 13 } : Room).slots) := by
  refine MetFree.of_bodySF (plainFor_of_name pn_4) hisR ?_
  intro p e s m args below meth c s₁ Bd hml0 hP hK
  obtain ⟨rfl, hZ, hh⟩ := hP
  have hx := Bd.exec
  have hby := Bd.bytes
  have hlk := Bd.notSynchronized
  have hml : c.maxLocals = 2 := hml0
  have hown : s.vm.findClass "com/example/xml_document_query/xmldocumentquery/tree/IntColumn" = some m.cls := findClass_of_methodNamed Bd.named
  have hnm := (name_of_methodNamed Bd.named Bd.method).1
  have X0 : Stand p l e ({ frames := 1, cells := 0, slots := 0, locals := 13 } : Room) s m #[(.ref a1), (.int p2)] below meth c s₁ [] 0 0 := Stand.of_body Bd
  have e0 : s₁.heap = h0 := by rw [← hh, Bd.state]; rfl
  have N0 := Fr.nil n0
  have K0 : Keep h0 h0 [a1, d3] := Keep.refl h0 _
  show OutW p e below s ({ frames := 1, cells := 0, slots := 0, locals := 13 } : Room).cells ({ frames := 1, cells := 0, slots := 0, locals := 13 } : Room).slots (Q4_0_2 Z a1 p2 b2 d3 kB kD w0 w1 w_before h0 n0) _
  refine OutW.back (fun t k => castTop (ef_4_0_2 m a1 p2) k) ?_
  show OutW _ _ _ _ _ _ _ (s₁.setTop (mkF m 0 #[.val (.ref a1), .val (.int p2)] []))
  refine OutW.back (fun t k => XS.aloadN X0.here hx rfl (hb hby d4_0) rfl rfl  k) ?_
  show OutW _ _ _ _ _ _ _ (s₁.setTop (mkF m 1 #[.val (.ref a1), .val (.int p2)] [(.ref a1)]))
  obtain ⟨T1, X1, e1, st1⟩ := getF X0 hx hZ hown (host := "") (Or.inl (hw _ (List.mem_of_getElem? (i := 29) rfl))) Via.refl e0 F_size_a1 (g := (mkF m 1 #[.val (.ref a1), .val (.int p2)] [(.ref a1)])) rfl rfl (hb hby d4_1)
  refine OutW.back st1 ?_
  show OutW _ _ _ _ _ _ _ (T1.setTop (mkF m 4 #[.val (.ref a1), .val (.int p2)] [(.int (0 : Int32))]))
  refine OutW.back (fun t k => XS.aloadN X1.here hx rfl (hb hby d4_4) rfl rfl  k) ?_
  show OutW _ _ _ _ _ _ _ (T1.setTop (mkF m 5 #[.val (.ref a1), .val (.int p2)] [(.ref a1), (.int (0 : Int32))]))
  obtain ⟨cq2, kq2, qa2, qb2, qc2⟩ := isOf hZ e1 E_a1
  obtain ⟨_, _, ⟨T2, L2, k2, n2⟩, -, X2, ⟨Lc2, hQ2, l2, y2, z2⟩, st2⟩ := X1.virtualBackUp hx (x := (⟨"com/example/xml_document_query/xmldocumentquery/tree/IntColumn", "capacity", "()I"⟩ : MethodName)) (y := (⟨"com/example/xml_document_query/xmldocumentquery/tree/BlockedArray", "capacity", "()I"⟩ : MethodName)) (owner := "com/example/xml_document_query/xmldocumentquery/tree/BlockedArray") hown (mvT hZ (hw _ (List.mem_of_getElem? (i := 31) rfl))) (mvT hZ (hw _ (List.mem_of_getElem? (i := 32) rfl))) (mvT hZ (hw _ (List.mem_of_getElem? (i := 33) rfl))) (by decide) (mvT hZ (hw _ (List.mem_of_getElem? (i := 35) rfl))) (mvT hZ (hw _ (List.mem_of_getElem? (i := 34) rfl))) (backOf (W := 1) (rm5 l Z a0 hw [] a1 (2 : Int32) h0 n0 Z0 F_capacity_a1) hZ (hw _ (List.mem_of_getElem? (i := 36) rfl)) (hw _ (List.mem_of_getElem? (i := 9) rfl)) (by decide) (by decide)) qa2 qc2 (g := (mkF m 5 #[.val (.ref a1), .val (.int p2)] [(.ref a1), (.int (0 : Int32))])) rfl (by rw [hml]; rfl) (Steps.refl _) (argsL := []) (rest := [(.int (0 : Int32))]) (lenOf pd_4 rfl) rfl (by show 2 * 0 + _ ≤ _; exact Nat.le_of_eq rfl) (hb hby d4_5) (fun _ _ => ⟨rfl, e1, (by decide : 0 + 0 ≤ _), (by decide : 0 + 0 ≤ _)⟩)
  dsimp only [Pt.U, Pt.locs, Pt.cells, Pt.slots] at X2 l2 y2 z2 st2 hQ2
  subst l2 y2 z2
  obtain ⟨rfl, Nq2, e2⟩ := hQ2
  have N2 := Fr.app N0 Nq2
  obtain ⟨lc2, X2, N2⟩ : ∃ lc, Stand p l e ({ frames := 1, cells := 0, slots := 0, locals := 13 } : Room) s m #[(.ref a1), (.int p2)] below meth c T2 lc 0 0 ∧ Fr n0 lc := ⟨_, X2, N2⟩
  refine OutW.via st2 ?_
  show OutW _ _ _ _ _ _ _ (T2.setTop (mkF m 8 #[.val (.ref a1), .val (.int p2)] [(.int (2 : Int32)), (.int (0 : Int32))]))
  refine OutW.back (fun t k => XS.icmpYes X2.here hx rfl (pc0 := 8) (pc' := 15) rfl (hb hby d4_8) rfl (feq (by decide : ¬ ((0 : Int32) = (2 : Int32)))).2 (by decide) (by decide) k) ?_
  show OutW _ _ _ _ _ _ _ (T2.setTop (mkF m 15 #[.val (.ref a1), .val (.int p2)] []))
  refine OutW.back (fun t k => XS.aloadN X2.here hx rfl (hb hby d4_15) rfl rfl  k) ?_
  show OutW _ _ _ _ _ _ _ (T2.setTop (mkF m 16 #[.val (.ref a1), .val (.int p2)] [(.ref a1)]))
  obtain ⟨T3, X3, e3, st3⟩ := getF X2 hx hZ hown (host := "") (Or.inl (hw _ (List.mem_of_getElem? (i := 22) rfl))) Via.refl e2 F_blocks_a1 (g := (mkF m 16 #[.val (.ref a1), .val (.int p2)] [(.ref a1)])) rfl rfl (hb hby d4_16)
  refine OutW.back st3 ?_
  show OutW _ _ _ _ _ _ _ (T3.setTop (mkF m 19 #[.val (.ref a1), .val (.int p2)] [(.ref b2)]))
  refine OutW.back (fun t k => XS.aloadN X3.here hx rfl (hb hby d4_19) rfl rfl  k) ?_
  show OutW _ _ _ _ _ _ _ (T3.setTop (mkF m 20 #[.val (.ref a1), .val (.int p2)] [(.ref a1), (.ref b2)]))
  obtain ⟨T4, X4, e4, st4⟩ := getF X3 hx hZ hown (host := "") (Or.inl (hw _ (List.mem_of_getElem? (i := 29) rfl))) Via.refl e3 F_size_a1 (g := (mkF m 20 #[.val (.ref a1), .val (.int p2)] [(.ref a1), (.ref b2)])) rfl rfl (hb hby d4_20)
  refine OutW.back st4 ?_
  show OutW _ _ _ _ _ _ _ (T4.setTop (mkF m 23 #[.val (.ref a1), .val (.int p2)] [(.int (0 : Int32)), (.ref b2)]))
  refine OutW.back (fun t k => XS.bipush X4.here hx rfl (hb hby d4_23) k) ?_
  show OutW _ _ _ _ _ _ _ (T4.setTop (mkF m 25 #[.val (.ref a1), .val (.int p2)] [(.int (16 : Int32)), (.int (0 : Int32)), (.ref b2)]))
  refine OutW.back (fun t k => XS.iushr X4.here hx rfl (hb hby d4_25) rfl k) ?_
  show OutW _ _ _ _ _ _ _ (T4.setTop (mkF m 26 #[.val (.ref a1), .val (.int p2)] [(.int (((0 : Int32).toUInt32 >>> ((16 : Int32) &&& 31).toUInt32).toInt32)), (.ref b2)]))
  rw [show (((0 : Int32).toUInt32 >>> ((16 : Int32) &&& 31).toUInt32).toInt32) = (0 : Int32) from by decide]
  obtain ⟨cl5, Ar5, Qk5, Sz5, Nn5, Hh5, Gg5⟩ := id V_b2
  have hin5 : ¬ ((0 : Int32) < 0 ∨ cl5.slots.size ≤ ((0 : Int32)).toNatClampNeg) := inb_of Sz5 ⟨by decide, by decide⟩
  refine OutW.back (X4.aaload hx (j := (0 : Int32)) (v := (.ref d3)) (by rw [e4]; exact Ar5.1) (State.isArrayOf_alike hZ.alike Ar5.2.1) rfl Ar5.2.2 hin5 (Hh5.at hin5 (by rfl)) (g := (mkF m 26 #[.val (.ref a1), .val (.int p2)] [(.int (0 : Int32)), (.ref b2)])) rfl rfl (hb hby d4_26)) ?_
  show OutW _ _ _ _ _ _ _ (T4.setTop (mkF m 27 #[.val (.ref a1), .val (.int p2)] [(.ref d3)]))
  refine OutW.back (fun t k => XS.aloadN X4.here hx rfl (hb hby d4_27) rfl rfl  k) ?_
  show OutW _ _ _ _ _ _ _ (T4.setTop (mkF m 28 #[.val (.ref a1), .val (.int p2)] [(.ref a1), (.ref d3)]))
  obtain ⟨T6, X6, e6, st6⟩ := getF X4 hx hZ hown (host := "") (Or.inl (hw _ (List.mem_of_getElem? (i := 29) rfl))) Via.refl e4 F_size_a1 (g := (mkF m 28 #[.val (.ref a1), .val (.int p2)] [(.ref a1), (.ref d3)])) rfl rfl (hb hby d4_28)
  refine OutW.back st6 ?_
  show OutW _ _ _ _ _ _ _ (T6.setTop (mkF m 31 #[.val (.ref a1), .val (.int p2)] [(.int (0 : Int32)), (.ref d3)]))
  refine OutW.back (X6.ldcInt hx hown (mvT hZ (hw _ (List.mem_of_getElem? (i := 37) rfl))) (g := (mkF m 31 #[.val (.ref a1), .val (.int p2)] [(.int (0 : Int32)), (.ref d3)])) rfl (hb hby d4_31)) ?_
  show OutW _ _ _ _ _ _ _ (T6.setTop (mkF m 33 #[.val (.ref a1), .val (.int p2)] [(.int (65535 : Int32)), (.int (0 : Int32)), (.ref d3)]))
  refine OutW.back (fun t k => XS.iand X6.here hx rfl (hb hby d4_33) rfl k) ?_
  show OutW _ _ _ _ _ _ _ (T6.setTop (mkF m 34 #[.val (.ref a1), .val (.int p2)] [(.int ((0 : Int32) &&& (65535 : Int32))), (.ref d3)]))
  rw [show ((0 : Int32) &&& (65535 : Int32)) = (0 : Int32) from by decide]
  refine OutW.back (fun t k => XS.iloadN X6.here hx rfl (hb hby d4_34) rfl  k) ?_
  show OutW _ _ _ _ _ _ _ (T6.setTop (mkF m 35 #[.val (.ref a1), .val (.int p2)] [(.int p2), (.int (0 : Int32)), (.ref d3)]))
  obtain ⟨cl7, Ar7, Qk7, Sz7, Nn7, Hh7, Gg7⟩ := id V_d3
  have hin7 : ¬ ((0 : Int32) < 0 ∨ cl7.slots.size ≤ ((0 : Int32)).toNatClampNeg) := inb_of Sz7 ⟨by decide, by decide⟩
  obtain ⟨T7, h7, X7, e7, W7, st7⟩ := stI X6 hx hZ e6 Ar7 (j := (0 : Int32)) hin7 (g := (mkF m 35 #[.val (.ref a1), .val (.int p2)] [(.int p2), (.int (0 : Int32)), (.ref d3)])) rfl rfl (hb hby d4_35)
  have V_d3_7 : Arv Z h7 d3 kD .int (2 : Int32) [(.int p2), (.int w1)] (.int (0 : Int32)) := Arv.set Ar7 Qk7 Sz7 Nn7 Hh7 Gg7 rfl W7 0 rfl (Nat.le_of_ble_eq_true rfl)
  have E_a1 := E_a1.wr W7
  have F_blockBits_a1 := F_blockBits_a1.other W7 (Or.inl (Ne.symm ne_d3_a1))
  have F_capacity_a1 := F_capacity_a1.other W7 (Or.inl (Ne.symm ne_d3_a1))
  have F_size_a1 := F_size_a1.other W7 (Or.inl (Ne.symm ne_d3_a1))
  have F_blocks_a1 := F_blocks_a1.other W7 (Or.inl (Ne.symm ne_d3_a1))
  have F_before_a1 := F_before_a1.other W7 (Or.inl (Ne.symm ne_d3_a1))
  have V_b2 := V_b2.other W7 (Ne.symm ne_d3_b2)
  have N7 := Fr.snoc X7 N2 g_d3
  have Z7 : n0 ≤ h7.size := Nat.le_trans Z0 (Keep.of_wr W7).1
  have K7 := K0.wr W7 (Or.inl (List.mem_of_getElem? (i := 1) rfl))
  obtain ⟨lc7, X7, N7⟩ : ∃ lc, Stand p l e ({ frames := 1, cells := 0, slots := 0, locals := 13 } : Room) s m #[(.ref a1), (.int p2)] below meth c T7 lc 0 0 ∧ Fr n0 lc := ⟨_, X7, N7⟩
  refine OutW.back st7 ?_
  show OutW _ _ _ _ _ _ _ (T7.setTop (mkF m 36 #[.val (.ref a1), .val (.int p2)] []))
  refine OutW.back (fun t k => XS.aloadN X7.here hx rfl (hb hby d4_36) rfl rfl  k) ?_
  show OutW _ _ _ _ _ _ _ (T7.setTop (mkF m 37 #[.val (.ref a1), .val (.int p2)] [(.ref a1)]))
  refine OutW.back (fun t k => XS.dup X7.here hx rfl (hb hby d4_37) rfl rfl k) ?_
  show OutW _ _ _ _ _ _ _ (T7.setTop (mkF m 38 #[.val (.ref a1), .val (.int p2)] [(.ref a1), (.ref a1)]))
  obtain ⟨T8, X8, e8, st8⟩ := getF X7 hx hZ hown (host := "") (Or.inl (hw _ (List.mem_of_getElem? (i := 29) rfl))) Via.refl e7 F_size_a1 (g := (mkF m 38 #[.val (.ref a1), .val (.int p2)] [(.ref a1), (.ref a1)])) rfl rfl (hb hby d4_38)
  refine OutW.back st8 ?_
  show OutW _ _ _ _ _ _ _ (T8.setTop (mkF m 41 #[.val (.ref a1), .val (.int p2)] [(.int (0 : Int32)), (.ref a1)]))
  refine OutW.back (fun t k => XS.iconst X8.here hx rfl (hb hby d4_41) k) ?_
  show OutW _ _ _ _ _ _ _ (T8.setTop (mkF m 42 #[.val (.ref a1), .val (.int p2)] [(.int (1 : Int32)), (.int (0 : Int32)), (.ref a1)]))
  refine OutW.back (fun t k => XS.iadd X8.here hx rfl (hb hby d4_42) rfl k) ?_
  show OutW _ _ _ _ _ _ _ (T8.setTop (mkF m 43 #[.val (.ref a1), .val (.int p2)] [(.int ((0 : Int32) + (1 : Int32))), (.ref a1)]))
  rw [show ((0 : Int32) + (1 : Int32)) = (1 : Int32) from by decide]
  obtain ⟨T9, h9, X9, e9, W9, st9⟩ := putF X8 hx hZ hown (host := "") (Or.inl (hw _ (List.mem_of_getElem? (i := 29) rfl))) Via.refl e8 F_size_a1 E_a1 (Or.inl (hw _ (List.mem_of_getElem? (i := 30) rfl))) (hw _ (List.mem_of_getElem? (i := 1) rfl)) (ty := .int) (by decide) rfl rfl (g := (mkF m 43 #[.val (.ref a1), .val (.int p2)] [(.int (1 : Int32)), (.ref a1)])) rfl rfl (hb hby d4_43)
  have E_a1 := E_a1.wr W9
  have F_blockBits_a1 := F_blockBits_a1.other W9 (Or.inr (slot_ne (Or.inr (hw _ (List.mem_of_getElem? (i := 15) rfl))) (Or.inl (hw _ (List.mem_of_getElem? (i := 30) rfl))) (by decide) (t := .int) (t' := .int) (by decide) (by decide)))
  have F_capacity_a1 := F_capacity_a1.other W9 (Or.inr (slot_ne (Or.inl (hw _ (List.mem_of_getElem? (i := 17) rfl))) (Or.inl (hw _ (List.mem_of_getElem? (i := 30) rfl))) (by decide) (t := .int) (t' := .int) (by decide) (by decide)))
  have F_size_a1 := F_size_a1.same W9
  have F_blocks_a1 := F_blocks_a1.other W9 (Or.inr (slot_ne (Or.inl (hw _ (List.mem_of_getElem? (i := 23) rfl))) (Or.inl (hw _ (List.mem_of_getElem? (i := 30) rfl))) (by decide) (t := (.array (.array .int))) (t' := .int) (by decide) (by decide)))
  have F_before_a1 := F_before_a1.other W9 (Or.inr (slot_ne (Or.inl (hw _ (List.mem_of_getElem? (i := 68) rfl))) (Or.inl (hw _ (List.mem_of_getElem? (i := 30) rfl))) (by decide) (t := (.object "com/example/xml_document_query/xmldocumentquery/tree/IntColumn")) (t' := .int) (by decide) (by decide)))
  have V_b2 := V_b2.other W9 (Ne.symm ne_a1_b2)
  have V_d3_7 := V_d3_7.other W9 ne_d3_a1
  have N9 := Fr.snoc X9 N7 g_a1
  have Z9 : n0 ≤ h9.size := Nat.le_trans Z7 (Keep.of_wr W9).1
  have K9 := K7.wr W9 (Or.inl (List.mem_of_getElem? (i := 0) rfl))
  obtain ⟨lc9, X9, N9⟩ : ∃ lc, Stand p l e ({ frames := 1, cells := 0, slots := 0, locals := 13 } : Room) s m #[(.ref a1), (.int p2)] below meth c T9 lc 0 0 ∧ Fr n0 lc := ⟨_, X9, N9⟩
  refine OutW.back st9 ?_
  show OutW _ _ _ _ _ _ _ (T9.setTop (mkF m 46 #[.val (.ref a1), .val (.int p2)] []))
  refine OutW.retV X9 hx Bd.returns hlk (hb hby d4_46) (by decide) (by decide) ?_
  show Q4_0_2 Z a1 p2 b2 d3 kB kD w0 w1 w_before h0 n0 _ T9.heap _
  rw [e9]
  exact ⟨rfl, N9, K9, F_blockBits_a1, F_capacity_a1, F_size_a1, F_blocks_a1, F_before_a1, V_d3_7⟩
theorem ef_4_1_2 (m : MethodId) (x0 : Addr) (x1 : Int32) : entryFrame m #[(.ref x0), (.int x1)] 2 = mkF m 0 #[.val (.ref x0), .val (.int x1)] [] := by first | (simp [entryFrame, mkF, argsToLocals, Value.category]; done) | rfl
def Q4_1_2 (Z : State) (a1 : Addr) (p2 : Int32) (b2 : Addr) (d3 : Addr) (kB : ClassId) (kD : ClassId) (w0 : Int32) (w1 : Int32) (w_before : Value) (h0 : Heap) (n0 : Nat) (v : Option Value) (h : Heap) (L : List Loc) : Prop := v = none ∧ Fr n0 L ∧ Keep h0 h [a1, d3] ∧ Fld Z h a1 "com/example/xml_document_query/xmldocumentquery/tree/BlockedArray" "blockBits" "I" (.int (16 : Int32)) ∧ Fld Z h a1 "com/example/xml_document_query/xmldocumentquery/tree/BlockedArray" "capacity" "I" (.int (2 : Int32)) ∧ Fld Z h a1 "com/example/xml_document_query/xmldocumentquery/tree/IntColumn" "size" "I" (.int (2 : Int32)) ∧ Fld Z h a1 "com/example/xml_document_query/xmldocumentquery/tree/IntColumn" "blocks" "[[I" (.ref b2) ∧ Fld Z h a1 "com/example/xml_document_query/xmldocumentquery/tree/IntColumn" "before" "Lcom/example/xml_document_query/xmldocumentquery/tree/IntColumn;" w_before ∧ Arv Z h d3 kD .int (2 : Int32) [(.int w0), (.int p2)] (.int (0 : Int32))
set_option maxRecDepth 65536 in
set_option maxHeartbeats 40000000 in
theorem rm4_1_2 (l : Launch) (Z : State) (a0 : Array Value) (hw : ∀ d ∈ tables_1, d.before a0 Z = true) (ws : List Jvm.Cond) (a1 : Addr) (p2 : Int32) (b2 : Addr) (d3 : Addr) (kB : ClassId) (kD : ClassId) (w0 : Int32) (w1 : Int32) (w_before : Value) (h0 : Heap) (n0 : Nat) (Z0 : n0 ≤ h0.size) (E_a1 : Exa Z h0 a1 "com/example/xml_document_query/xmldocumentquery/tree/IntColumn") (g_a1 : n0 ≤ a1) (F_blockBits_a1 : Fld Z h0 a1 "com/example/xml_document_query/xmldocumentquery/tree/BlockedArray" "blockBits" "I" (.int (16 : Int32))) (F_capacity_a1 : Fld Z h0 a1 "com/example/xml_document_query/xmldocumentquery/tree/BlockedArray" "capacity" "I" (.int (2 : Int32))) (F_size_a1 : Fld Z h0 a1 "com/example/xml_document_query/xmldocumentquery/tree/IntColumn" "size" "I" (.int (1 : Int32))) (F_blocks_a1 : Fld Z h0 a1 "com/example/xml_document_query/xmldocumentquery/tree/IntColumn" "blocks" "[[I" (.ref b2)) (F_before_a1 : Fld Z h0 a1 "com/example/xml_document_query/xmldocumentquery/tree/IntColumn" "before" "Lcom/example/xml_document_query/xmldocumentquery/tree/IntColumn;" w_before) (V_b2 : Arv Z h0 b2 kB (.array .int) (1 : Int32) [(.ref d3)] .null) (O_b2 : OvrA Z kB .int "[I") (V_d3 : Arv Z h0 d3 kD .int (2 : Int32) [(.int w0), (.int w1)] (.int (0 : Int32))) (ne_a1_b2 : a1 ≠ b2) (ne_d3_b2 : d3 ≠ b2) (ne_d3_a1 : d3 ≠ a1) (g_b2 : n0 ≤ b2) (g_d3 : n0 ≤ d3) :
    MetFree l (⟨"com/example/xml_document_query/xmldocumentquery/tree/IntColumn", "add", "(I)V"⟩ : MethodName) (head1 (Jvm.Cond.code (⟨"com/example/xml_document_query/xmldocumentquery/tree/IntColumn", "add", "(I)V"⟩ : MethodName) prog_168_method_2_code 2 none :: ws) ({ frames := 1, cells := 0, slots := 0, locals := 13 } : Room)) (fun a U => a = #[(.ref a1), (.int p2)] ∧ Z.Warmed39 U.vm ∧ U.heap = h0) (fun _ _ _ _ _ => True) (fun _ U o U' => ∃ v L, o = .returned v ∧ Q4_1_2 Z a1 p2 b2 d3 kB kD w0 w1 w_before h0 n0 v U'.heap L ∧ FrameEnd U o U' L ({ frames := 1, cells := 0, slots := 0, locals := 13 } : Room).cells ({ frames := 1, cells := 0, slots := 0, locals := 13 } : Room).slots) := by
  refine MetFree.of_bodySF (plainFor_of_name pn_4) hisR ?_
  intro p e s m args below meth c s₁ Bd hml0 hP hK
  obtain ⟨rfl, hZ, hh⟩ := hP
  have hx := Bd.exec
  have hby := Bd.bytes
  have hlk := Bd.notSynchronized
  have hml : c.maxLocals = 2 := hml0
  have hown : s.vm.findClass "com/example/xml_document_query/xmldocumentquery/tree/IntColumn" = some m.cls := findClass_of_methodNamed Bd.named
  have hnm := (name_of_methodNamed Bd.named Bd.method).1
  have X0 : Stand p l e ({ frames := 1, cells := 0, slots := 0, locals := 13 } : Room) s m #[(.ref a1), (.int p2)] below meth c s₁ [] 0 0 := Stand.of_body Bd
  have e0 : s₁.heap = h0 := by rw [← hh, Bd.state]; rfl
  have N0 := Fr.nil n0
  have K0 : Keep h0 h0 [a1, d3] := Keep.refl h0 _
  show OutW p e below s ({ frames := 1, cells := 0, slots := 0, locals := 13 } : Room).cells ({ frames := 1, cells := 0, slots := 0, locals := 13 } : Room).slots (Q4_1_2 Z a1 p2 b2 d3 kB kD w0 w1 w_before h0 n0) _
  refine OutW.back (fun t k => castTop (ef_4_1_2 m a1 p2) k) ?_
  show OutW _ _ _ _ _ _ _ (s₁.setTop (mkF m 0 #[.val (.ref a1), .val (.int p2)] []))
  refine OutW.back (fun t k => XS.aloadN X0.here hx rfl (hb hby d4_0) rfl rfl  k) ?_
  show OutW _ _ _ _ _ _ _ (s₁.setTop (mkF m 1 #[.val (.ref a1), .val (.int p2)] [(.ref a1)]))
  obtain ⟨T1, X1, e1, st1⟩ := getF X0 hx hZ hown (host := "") (Or.inl (hw _ (List.mem_of_getElem? (i := 29) rfl))) Via.refl e0 F_size_a1 (g := (mkF m 1 #[.val (.ref a1), .val (.int p2)] [(.ref a1)])) rfl rfl (hb hby d4_1)
  refine OutW.back st1 ?_
  show OutW _ _ _ _ _ _ _ (T1.setTop (mkF m 4 #[.val (.ref a1), .val (.int p2)] [(.int (1 : Int32))]))
  refine OutW.back (fun t k => XS.aloadN X1.here hx rfl (hb hby d4_4) rfl rfl  k) ?_
  show OutW _ _ _ _ _ _ _ (T1.setTop (mkF m 5 #[.val (.ref a1), .val (.int p2)] [(.ref a1), (.int (1 : Int32))]))
  obtain ⟨cq2, kq2, qa2, qb2, qc2⟩ := isOf hZ e1 E_a1
  obtain ⟨_, _, ⟨T2, L2, k2, n2⟩, -, X2, ⟨Lc2, hQ2, l2, y2, z2⟩, st2⟩ := X1.virtualBackUp hx (x := (⟨"com/example/xml_document_query/xmldocumentquery/tree/IntColumn", "capacity", "()I"⟩ : MethodName)) (y := (⟨"com/example/xml_document_query/xmldocumentquery/tree/BlockedArray", "capacity", "()I"⟩ : MethodName)) (owner := "com/example/xml_document_query/xmldocumentquery/tree/BlockedArray") hown (mvT hZ (hw _ (List.mem_of_getElem? (i := 31) rfl))) (mvT hZ (hw _ (List.mem_of_getElem? (i := 32) rfl))) (mvT hZ (hw _ (List.mem_of_getElem? (i := 33) rfl))) (by decide) (mvT hZ (hw _ (List.mem_of_getElem? (i := 35) rfl))) (mvT hZ (hw _ (List.mem_of_getElem? (i := 34) rfl))) (backOf (W := 1) (rm5 l Z a0 hw [] a1 (2 : Int32) h0 n0 Z0 F_capacity_a1) hZ (hw _ (List.mem_of_getElem? (i := 36) rfl)) (hw _ (List.mem_of_getElem? (i := 9) rfl)) (by decide) (by decide)) qa2 qc2 (g := (mkF m 5 #[.val (.ref a1), .val (.int p2)] [(.ref a1), (.int (1 : Int32))])) rfl (by rw [hml]; rfl) (Steps.refl _) (argsL := []) (rest := [(.int (1 : Int32))]) (lenOf pd_4 rfl) rfl (by show 2 * 0 + _ ≤ _; exact Nat.le_of_eq rfl) (hb hby d4_5) (fun _ _ => ⟨rfl, e1, (by decide : 0 + 0 ≤ _), (by decide : 0 + 0 ≤ _)⟩)
  dsimp only [Pt.U, Pt.locs, Pt.cells, Pt.slots] at X2 l2 y2 z2 st2 hQ2
  subst l2 y2 z2
  obtain ⟨rfl, Nq2, e2⟩ := hQ2
  have N2 := Fr.app N0 Nq2
  obtain ⟨lc2, X2, N2⟩ : ∃ lc, Stand p l e ({ frames := 1, cells := 0, slots := 0, locals := 13 } : Room) s m #[(.ref a1), (.int p2)] below meth c T2 lc 0 0 ∧ Fr n0 lc := ⟨_, X2, N2⟩
  refine OutW.via st2 ?_
  show OutW _ _ _ _ _ _ _ (T2.setTop (mkF m 8 #[.val (.ref a1), .val (.int p2)] [(.int (2 : Int32)), (.int (1 : Int32))]))
  refine OutW.back (fun t k => XS.icmpYes X2.here hx rfl (pc0 := 8) (pc' := 15) rfl (hb hby d4_8) rfl (feq (by decide : ¬ ((1 : Int32) = (2 : Int32)))).2 (by decide) (by decide) k) ?_
  show OutW _ _ _ _ _ _ _ (T2.setTop (mkF m 15 #[.val (.ref a1), .val (.int p2)] []))
  refine OutW.back (fun t k => XS.aloadN X2.here hx rfl (hb hby d4_15) rfl rfl  k) ?_
  show OutW _ _ _ _ _ _ _ (T2.setTop (mkF m 16 #[.val (.ref a1), .val (.int p2)] [(.ref a1)]))
  obtain ⟨T3, X3, e3, st3⟩ := getF X2 hx hZ hown (host := "") (Or.inl (hw _ (List.mem_of_getElem? (i := 22) rfl))) Via.refl e2 F_blocks_a1 (g := (mkF m 16 #[.val (.ref a1), .val (.int p2)] [(.ref a1)])) rfl rfl (hb hby d4_16)
  refine OutW.back st3 ?_
  show OutW _ _ _ _ _ _ _ (T3.setTop (mkF m 19 #[.val (.ref a1), .val (.int p2)] [(.ref b2)]))
  refine OutW.back (fun t k => XS.aloadN X3.here hx rfl (hb hby d4_19) rfl rfl  k) ?_
  show OutW _ _ _ _ _ _ _ (T3.setTop (mkF m 20 #[.val (.ref a1), .val (.int p2)] [(.ref a1), (.ref b2)]))
  obtain ⟨T4, X4, e4, st4⟩ := getF X3 hx hZ hown (host := "") (Or.inl (hw _ (List.mem_of_getElem? (i := 29) rfl))) Via.refl e3 F_size_a1 (g := (mkF m 20 #[.val (.ref a1), .val (.int p2)] [(.ref a1), (.ref b2)])) rfl rfl (hb hby d4_20)
  refine OutW.back st4 ?_
  show OutW _ _ _ _ _ _ _ (T4.setTop (mkF m 23 #[.val (.ref a1), .val (.int p2)] [(.int (1 : Int32)), (.ref b2)]))
  refine OutW.back (fun t k => XS.bipush X4.here hx rfl (hb hby d4_23) k) ?_
  show OutW _ _ _ _ _ _ _ (T4.setTop (mkF m 25 #[.val (.ref a1), .val (.int p2)] [(.int (16 : Int32)), (.int (1 : Int32)), (.ref b2)]))
  refine OutW.back (fun t k => XS.iushr X4.here hx rfl (hb hby d4_25) rfl k) ?_
  show OutW _ _ _ _ _ _ _ (T4.setTop (mkF m 26 #[.val (.ref a1), .val (.int p2)] [(.int (((1 : Int32).toUInt32 >>> ((16 : Int32) &&& 31).toUInt32).toInt32)), (.ref b2)]))
  rw [show (((1 : Int32).toUInt32 >>> ((16 : Int32) &&& 31).toUInt32).toInt32) = (0 : Int32) from by decide]
  obtain ⟨cl5, Ar5, Qk5, Sz5, Nn5, Hh5, Gg5⟩ := id V_b2
  have hin5 : ¬ ((0 : Int32) < 0 ∨ cl5.slots.size ≤ ((0 : Int32)).toNatClampNeg) := inb_of Sz5 ⟨by decide, by decide⟩
  refine OutW.back (X4.aaload hx (j := (0 : Int32)) (v := (.ref d3)) (by rw [e4]; exact Ar5.1) (State.isArrayOf_alike hZ.alike Ar5.2.1) rfl Ar5.2.2 hin5 (Hh5.at hin5 (by rfl)) (g := (mkF m 26 #[.val (.ref a1), .val (.int p2)] [(.int (0 : Int32)), (.ref b2)])) rfl rfl (hb hby d4_26)) ?_
  show OutW _ _ _ _ _ _ _ (T4.setTop (mkF m 27 #[.val (.ref a1), .val (.int p2)] [(.ref d3)]))
  refine OutW.back (fun t k => XS.aloadN X4.here hx rfl (hb hby d4_27) rfl rfl  k) ?_
  show OutW _ _ _ _ _ _ _ (T4.setTop (mkF m 28 #[.val (.ref a1), .val (.int p2)] [(.ref a1), (.ref d3)]))
  obtain ⟨T6, X6, e6, st6⟩ := getF X4 hx hZ hown (host := "") (Or.inl (hw _ (List.mem_of_getElem? (i := 29) rfl))) Via.refl e4 F_size_a1 (g := (mkF m 28 #[.val (.ref a1), .val (.int p2)] [(.ref a1), (.ref d3)])) rfl rfl (hb hby d4_28)
  refine OutW.back st6 ?_
  show OutW _ _ _ _ _ _ _ (T6.setTop (mkF m 31 #[.val (.ref a1), .val (.int p2)] [(.int (1 : Int32)), (.ref d3)]))
  refine OutW.back (X6.ldcInt hx hown (mvT hZ (hw _ (List.mem_of_getElem? (i := 37) rfl))) (g := (mkF m 31 #[.val (.ref a1), .val (.int p2)] [(.int (1 : Int32)), (.ref d3)])) rfl (hb hby d4_31)) ?_
  show OutW _ _ _ _ _ _ _ (T6.setTop (mkF m 33 #[.val (.ref a1), .val (.int p2)] [(.int (65535 : Int32)), (.int (1 : Int32)), (.ref d3)]))
  refine OutW.back (fun t k => XS.iand X6.here hx rfl (hb hby d4_33) rfl k) ?_
  show OutW _ _ _ _ _ _ _ (T6.setTop (mkF m 34 #[.val (.ref a1), .val (.int p2)] [(.int ((1 : Int32) &&& (65535 : Int32))), (.ref d3)]))
  rw [show ((1 : Int32) &&& (65535 : Int32)) = (1 : Int32) from by decide]
  refine OutW.back (fun t k => XS.iloadN X6.here hx rfl (hb hby d4_34) rfl  k) ?_
  show OutW _ _ _ _ _ _ _ (T6.setTop (mkF m 35 #[.val (.ref a1), .val (.int p2)] [(.int p2), (.int (1 : Int32)), (.ref d3)]))
  obtain ⟨cl7, Ar7, Qk7, Sz7, Nn7, Hh7, Gg7⟩ := id V_d3
  have hin7 : ¬ ((1 : Int32) < 0 ∨ cl7.slots.size ≤ ((1 : Int32)).toNatClampNeg) := inb_of Sz7 ⟨by decide, by decide⟩
  obtain ⟨T7, h7, X7, e7, W7, st7⟩ := stI X6 hx hZ e6 Ar7 (j := (1 : Int32)) hin7 (g := (mkF m 35 #[.val (.ref a1), .val (.int p2)] [(.int p2), (.int (1 : Int32)), (.ref d3)])) rfl rfl (hb hby d4_35)
  have V_d3_7 : Arv Z h7 d3 kD .int (2 : Int32) [(.int w0), (.int p2)] (.int (0 : Int32)) := Arv.set Ar7 Qk7 Sz7 Nn7 Hh7 Gg7 rfl W7 1 rfl (Nat.le_of_ble_eq_true rfl)
  have E_a1 := E_a1.wr W7
  have F_blockBits_a1 := F_blockBits_a1.other W7 (Or.inl (Ne.symm ne_d3_a1))
  have F_capacity_a1 := F_capacity_a1.other W7 (Or.inl (Ne.symm ne_d3_a1))
  have F_size_a1 := F_size_a1.other W7 (Or.inl (Ne.symm ne_d3_a1))
  have F_blocks_a1 := F_blocks_a1.other W7 (Or.inl (Ne.symm ne_d3_a1))
  have F_before_a1 := F_before_a1.other W7 (Or.inl (Ne.symm ne_d3_a1))
  have V_b2 := V_b2.other W7 (Ne.symm ne_d3_b2)
  have N7 := Fr.snoc X7 N2 g_d3
  have Z7 : n0 ≤ h7.size := Nat.le_trans Z0 (Keep.of_wr W7).1
  have K7 := K0.wr W7 (Or.inl (List.mem_of_getElem? (i := 1) rfl))
  obtain ⟨lc7, X7, N7⟩ : ∃ lc, Stand p l e ({ frames := 1, cells := 0, slots := 0, locals := 13 } : Room) s m #[(.ref a1), (.int p2)] below meth c T7 lc 0 0 ∧ Fr n0 lc := ⟨_, X7, N7⟩
  refine OutW.back st7 ?_
  show OutW _ _ _ _ _ _ _ (T7.setTop (mkF m 36 #[.val (.ref a1), .val (.int p2)] []))
  refine OutW.back (fun t k => XS.aloadN X7.here hx rfl (hb hby d4_36) rfl rfl  k) ?_
  show OutW _ _ _ _ _ _ _ (T7.setTop (mkF m 37 #[.val (.ref a1), .val (.int p2)] [(.ref a1)]))
  refine OutW.back (fun t k => XS.dup X7.here hx rfl (hb hby d4_37) rfl rfl k) ?_
  show OutW _ _ _ _ _ _ _ (T7.setTop (mkF m 38 #[.val (.ref a1), .val (.int p2)] [(.ref a1), (.ref a1)]))
  obtain ⟨T8, X8, e8, st8⟩ := getF X7 hx hZ hown (host := "") (Or.inl (hw _ (List.mem_of_getElem? (i := 29) rfl))) Via.refl e7 F_size_a1 (g := (mkF m 38 #[.val (.ref a1), .val (.int p2)] [(.ref a1), (.ref a1)])) rfl rfl (hb hby d4_38)
  refine OutW.back st8 ?_
  show OutW _ _ _ _ _ _ _ (T8.setTop (mkF m 41 #[.val (.ref a1), .val (.int p2)] [(.int (1 : Int32)), (.ref a1)]))
  refine OutW.back (fun t k => XS.iconst X8.here hx rfl (hb hby d4_41) k) ?_
  show OutW _ _ _ _ _ _ _ (T8.setTop (mkF m 42 #[.val (.ref a1), .val (.int p2)] [(.int (1 : Int32)), (.int (1 : Int32)), (.ref a1)]))
  refine OutW.back (fun t k => XS.iadd X8.here hx rfl (hb hby d4_42) rfl k) ?_
  show OutW _ _ _ _ _ _ _ (T8.setTop (mkF m 43 #[.val (.ref a1), .val (.int p2)] [(.int ((1 : Int32) + (1 : Int32))), (.ref a1)]))
  rw [show ((1 : Int32) + (1 : Int32)) = (2 : Int32) from by decide]
  obtain ⟨T9, h9, X9, e9, W9, st9⟩ := putF X8 hx hZ hown (host := "") (Or.inl (hw _ (List.mem_of_getElem? (i := 29) rfl))) Via.refl e8 F_size_a1 E_a1 (Or.inl (hw _ (List.mem_of_getElem? (i := 30) rfl))) (hw _ (List.mem_of_getElem? (i := 1) rfl)) (ty := .int) (by decide) rfl rfl (g := (mkF m 43 #[.val (.ref a1), .val (.int p2)] [(.int (2 : Int32)), (.ref a1)])) rfl rfl (hb hby d4_43)
  have E_a1 := E_a1.wr W9
  have F_blockBits_a1 := F_blockBits_a1.other W9 (Or.inr (slot_ne (Or.inr (hw _ (List.mem_of_getElem? (i := 15) rfl))) (Or.inl (hw _ (List.mem_of_getElem? (i := 30) rfl))) (by decide) (t := .int) (t' := .int) (by decide) (by decide)))
  have F_capacity_a1 := F_capacity_a1.other W9 (Or.inr (slot_ne (Or.inl (hw _ (List.mem_of_getElem? (i := 17) rfl))) (Or.inl (hw _ (List.mem_of_getElem? (i := 30) rfl))) (by decide) (t := .int) (t' := .int) (by decide) (by decide)))
  have F_size_a1 := F_size_a1.same W9
  have F_blocks_a1 := F_blocks_a1.other W9 (Or.inr (slot_ne (Or.inl (hw _ (List.mem_of_getElem? (i := 23) rfl))) (Or.inl (hw _ (List.mem_of_getElem? (i := 30) rfl))) (by decide) (t := (.array (.array .int))) (t' := .int) (by decide) (by decide)))
  have F_before_a1 := F_before_a1.other W9 (Or.inr (slot_ne (Or.inl (hw _ (List.mem_of_getElem? (i := 68) rfl))) (Or.inl (hw _ (List.mem_of_getElem? (i := 30) rfl))) (by decide) (t := (.object "com/example/xml_document_query/xmldocumentquery/tree/IntColumn")) (t' := .int) (by decide) (by decide)))
  have V_b2 := V_b2.other W9 (Ne.symm ne_a1_b2)
  have V_d3_7 := V_d3_7.other W9 ne_d3_a1
  have N9 := Fr.snoc X9 N7 g_a1
  have Z9 : n0 ≤ h9.size := Nat.le_trans Z7 (Keep.of_wr W9).1
  have K9 := K7.wr W9 (Or.inl (List.mem_of_getElem? (i := 0) rfl))
  obtain ⟨lc9, X9, N9⟩ : ∃ lc, Stand p l e ({ frames := 1, cells := 0, slots := 0, locals := 13 } : Room) s m #[(.ref a1), (.int p2)] below meth c T9 lc 0 0 ∧ Fr n0 lc := ⟨_, X9, N9⟩
  refine OutW.back st9 ?_
  show OutW _ _ _ _ _ _ _ (T9.setTop (mkF m 46 #[.val (.ref a1), .val (.int p2)] []))
  refine OutW.retV X9 hx Bd.returns hlk (hb hby d4_46) (by decide) (by decide) ?_
  show Q4_1_2 Z a1 p2 b2 d3 kB kD w0 w1 w_before h0 n0 _ T9.heap _
  rw [e9]
  exact ⟨rfl, N9, K9, F_blockBits_a1, F_capacity_a1, F_size_a1, F_blocks_a1, F_before_a1, V_d3_7⟩
theorem ef_4_0_4 (m : MethodId) (x0 : Addr) (x1 : Int32) : entryFrame m #[(.ref x0), (.int x1)] 2 = mkF m 0 #[.val (.ref x0), .val (.int x1)] [] := by first | (simp [entryFrame, mkF, argsToLocals, Value.category]; done) | rfl
def Q4_0_4 (Z : State) (a1 : Addr) (p2 : Int32) (b2 : Addr) (d3 : Addr) (kB : ClassId) (kD : ClassId) (w0 : Int32) (w1 : Int32) (w2 : Int32) (w3 : Int32) (w_before : Value) (h0 : Heap) (n0 : Nat) (v : Option Value) (h : Heap) (L : List Loc) : Prop := v = none ∧ Fr n0 L ∧ Keep h0 h [a1, d3] ∧ Fld Z h a1 "com/example/xml_document_query/xmldocumentquery/tree/BlockedArray" "blockBits" "I" (.int (16 : Int32)) ∧ Fld Z h a1 "com/example/xml_document_query/xmldocumentquery/tree/BlockedArray" "capacity" "I" (.int (4 : Int32)) ∧ Fld Z h a1 "com/example/xml_document_query/xmldocumentquery/tree/IntColumn" "size" "I" (.int (1 : Int32)) ∧ Fld Z h a1 "com/example/xml_document_query/xmldocumentquery/tree/IntColumn" "blocks" "[[I" (.ref b2) ∧ Fld Z h a1 "com/example/xml_document_query/xmldocumentquery/tree/IntColumn" "before" "Lcom/example/xml_document_query/xmldocumentquery/tree/IntColumn;" w_before ∧ Arv Z h d3 kD .int (4 : Int32) [(.int p2), (.int w1), (.int w2), (.int w3)] (.int (0 : Int32))
set_option maxRecDepth 65536 in
set_option maxHeartbeats 40000000 in
theorem rm4_0_4 (l : Launch) (Z : State) (a0 : Array Value) (hw : ∀ d ∈ tables_1, d.before a0 Z = true) (ws : List Jvm.Cond) (a1 : Addr) (p2 : Int32) (b2 : Addr) (d3 : Addr) (kB : ClassId) (kD : ClassId) (w0 : Int32) (w1 : Int32) (w2 : Int32) (w3 : Int32) (w_before : Value) (h0 : Heap) (n0 : Nat) (Z0 : n0 ≤ h0.size) (E_a1 : Exa Z h0 a1 "com/example/xml_document_query/xmldocumentquery/tree/IntColumn") (g_a1 : n0 ≤ a1) (F_blockBits_a1 : Fld Z h0 a1 "com/example/xml_document_query/xmldocumentquery/tree/BlockedArray" "blockBits" "I" (.int (16 : Int32))) (F_capacity_a1 : Fld Z h0 a1 "com/example/xml_document_query/xmldocumentquery/tree/BlockedArray" "capacity" "I" (.int (4 : Int32))) (F_size_a1 : Fld Z h0 a1 "com/example/xml_document_query/xmldocumentquery/tree/IntColumn" "size" "I" (.int (0 : Int32))) (F_blocks_a1 : Fld Z h0 a1 "com/example/xml_document_query/xmldocumentquery/tree/IntColumn" "blocks" "[[I" (.ref b2)) (F_before_a1 : Fld Z h0 a1 "com/example/xml_document_query/xmldocumentquery/tree/IntColumn" "before" "Lcom/example/xml_document_query/xmldocumentquery/tree/IntColumn;" w_before) (V_b2 : Arv Z h0 b2 kB (.array .int) (1 : Int32) [(.ref d3)] .null) (O_b2 : OvrA Z kB .int "[I") (V_d3 : Arv Z h0 d3 kD .int (4 : Int32) [(.int w0), (.int w1), (.int w2), (.int w3)] (.int (0 : Int32))) (ne_a1_b2 : a1 ≠ b2) (ne_d3_b2 : d3 ≠ b2) (ne_d3_a1 : d3 ≠ a1) (g_b2 : n0 ≤ b2) (g_d3 : n0 ≤ d3) :
    MetFree l (⟨"com/example/xml_document_query/xmldocumentquery/tree/IntColumn", "add", "(I)V"⟩ : MethodName) (head1 (Jvm.Cond.code (⟨"com/example/xml_document_query/xmldocumentquery/tree/IntColumn", "add", "(I)V"⟩ : MethodName) prog_168_method_2_code 2 none :: ws) ({ frames := 1, cells := 0, slots := 0, locals := 13 } : Room)) (fun a U => a = #[(.ref a1), (.int p2)] ∧ Z.Warmed39 U.vm ∧ U.heap = h0) (fun _ _ _ _ _ => True) (fun _ U o U' => ∃ v L, o = .returned v ∧ Q4_0_4 Z a1 p2 b2 d3 kB kD w0 w1 w2 w3 w_before h0 n0 v U'.heap L ∧ FrameEnd U o U' L ({ frames := 1, cells := 0, slots := 0, locals := 13 } : Room).cells ({ frames := 1, cells := 0, slots := 0, locals := 13 } : Room).slots) := by
  refine MetFree.of_bodySF (plainFor_of_name pn_4) hisR ?_
  intro p e s m args below meth c s₁ Bd hml0 hP hK
  obtain ⟨rfl, hZ, hh⟩ := hP
  have hx := Bd.exec
  have hby := Bd.bytes
  have hlk := Bd.notSynchronized
  have hml : c.maxLocals = 2 := hml0
  have hown : s.vm.findClass "com/example/xml_document_query/xmldocumentquery/tree/IntColumn" = some m.cls := findClass_of_methodNamed Bd.named
  have hnm := (name_of_methodNamed Bd.named Bd.method).1
  have X0 : Stand p l e ({ frames := 1, cells := 0, slots := 0, locals := 13 } : Room) s m #[(.ref a1), (.int p2)] below meth c s₁ [] 0 0 := Stand.of_body Bd
  have e0 : s₁.heap = h0 := by rw [← hh, Bd.state]; rfl
  have N0 := Fr.nil n0
  have K0 : Keep h0 h0 [a1, d3] := Keep.refl h0 _
  show OutW p e below s ({ frames := 1, cells := 0, slots := 0, locals := 13 } : Room).cells ({ frames := 1, cells := 0, slots := 0, locals := 13 } : Room).slots (Q4_0_4 Z a1 p2 b2 d3 kB kD w0 w1 w2 w3 w_before h0 n0) _
  refine OutW.back (fun t k => castTop (ef_4_0_4 m a1 p2) k) ?_
  show OutW _ _ _ _ _ _ _ (s₁.setTop (mkF m 0 #[.val (.ref a1), .val (.int p2)] []))
  refine OutW.back (fun t k => XS.aloadN X0.here hx rfl (hb hby d4_0) rfl rfl  k) ?_
  show OutW _ _ _ _ _ _ _ (s₁.setTop (mkF m 1 #[.val (.ref a1), .val (.int p2)] [(.ref a1)]))
  obtain ⟨T1, X1, e1, st1⟩ := getF X0 hx hZ hown (host := "") (Or.inl (hw _ (List.mem_of_getElem? (i := 29) rfl))) Via.refl e0 F_size_a1 (g := (mkF m 1 #[.val (.ref a1), .val (.int p2)] [(.ref a1)])) rfl rfl (hb hby d4_1)
  refine OutW.back st1 ?_
  show OutW _ _ _ _ _ _ _ (T1.setTop (mkF m 4 #[.val (.ref a1), .val (.int p2)] [(.int (0 : Int32))]))
  refine OutW.back (fun t k => XS.aloadN X1.here hx rfl (hb hby d4_4) rfl rfl  k) ?_
  show OutW _ _ _ _ _ _ _ (T1.setTop (mkF m 5 #[.val (.ref a1), .val (.int p2)] [(.ref a1), (.int (0 : Int32))]))
  obtain ⟨cq2, kq2, qa2, qb2, qc2⟩ := isOf hZ e1 E_a1
  obtain ⟨_, _, ⟨T2, L2, k2, n2⟩, -, X2, ⟨Lc2, hQ2, l2, y2, z2⟩, st2⟩ := X1.virtualBackUp hx (x := (⟨"com/example/xml_document_query/xmldocumentquery/tree/IntColumn", "capacity", "()I"⟩ : MethodName)) (y := (⟨"com/example/xml_document_query/xmldocumentquery/tree/BlockedArray", "capacity", "()I"⟩ : MethodName)) (owner := "com/example/xml_document_query/xmldocumentquery/tree/BlockedArray") hown (mvT hZ (hw _ (List.mem_of_getElem? (i := 31) rfl))) (mvT hZ (hw _ (List.mem_of_getElem? (i := 32) rfl))) (mvT hZ (hw _ (List.mem_of_getElem? (i := 33) rfl))) (by decide) (mvT hZ (hw _ (List.mem_of_getElem? (i := 35) rfl))) (mvT hZ (hw _ (List.mem_of_getElem? (i := 34) rfl))) (backOf (W := 1) (rm5 l Z a0 hw [] a1 (4 : Int32) h0 n0 Z0 F_capacity_a1) hZ (hw _ (List.mem_of_getElem? (i := 36) rfl)) (hw _ (List.mem_of_getElem? (i := 9) rfl)) (by decide) (by decide)) qa2 qc2 (g := (mkF m 5 #[.val (.ref a1), .val (.int p2)] [(.ref a1), (.int (0 : Int32))])) rfl (by rw [hml]; rfl) (Steps.refl _) (argsL := []) (rest := [(.int (0 : Int32))]) (lenOf pd_4 rfl) rfl (by show 2 * 0 + _ ≤ _; exact Nat.le_of_eq rfl) (hb hby d4_5) (fun _ _ => ⟨rfl, e1, (by decide : 0 + 0 ≤ _), (by decide : 0 + 0 ≤ _)⟩)
  dsimp only [Pt.U, Pt.locs, Pt.cells, Pt.slots] at X2 l2 y2 z2 st2 hQ2
  subst l2 y2 z2
  obtain ⟨rfl, Nq2, e2⟩ := hQ2
  have N2 := Fr.app N0 Nq2
  obtain ⟨lc2, X2, N2⟩ : ∃ lc, Stand p l e ({ frames := 1, cells := 0, slots := 0, locals := 13 } : Room) s m #[(.ref a1), (.int p2)] below meth c T2 lc 0 0 ∧ Fr n0 lc := ⟨_, X2, N2⟩
  refine OutW.via st2 ?_
  show OutW _ _ _ _ _ _ _ (T2.setTop (mkF m 8 #[.val (.ref a1), .val (.int p2)] [(.int (4 : Int32)), (.int (0 : Int32))]))
  refine OutW.back (fun t k => XS.icmpYes X2.here hx rfl (pc0 := 8) (pc' := 15) rfl (hb hby d4_8) rfl (feq (by decide : ¬ ((0 : Int32) = (4 : Int32)))).2 (by decide) (by decide) k) ?_
  show OutW _ _ _ _ _ _ _ (T2.setTop (mkF m 15 #[.val (.ref a1), .val (.int p2)] []))
  refine OutW.back (fun t k => XS.aloadN X2.here hx rfl (hb hby d4_15) rfl rfl  k) ?_
  show OutW _ _ _ _ _ _ _ (T2.setTop (mkF m 16 #[.val (.ref a1), .val (.int p2)] [(.ref a1)]))
  obtain ⟨T3, X3, e3, st3⟩ := getF X2 hx hZ hown (host := "") (Or.inl (hw _ (List.mem_of_getElem? (i := 22) rfl))) Via.refl e2 F_blocks_a1 (g := (mkF m 16 #[.val (.ref a1), .val (.int p2)] [(.ref a1)])) rfl rfl (hb hby d4_16)
  refine OutW.back st3 ?_
  show OutW _ _ _ _ _ _ _ (T3.setTop (mkF m 19 #[.val (.ref a1), .val (.int p2)] [(.ref b2)]))
  refine OutW.back (fun t k => XS.aloadN X3.here hx rfl (hb hby d4_19) rfl rfl  k) ?_
  show OutW _ _ _ _ _ _ _ (T3.setTop (mkF m 20 #[.val (.ref a1), .val (.int p2)] [(.ref a1), (.ref b2)]))
  obtain ⟨T4, X4, e4, st4⟩ := getF X3 hx hZ hown (host := "") (Or.inl (hw _ (List.mem_of_getElem? (i := 29) rfl))) Via.refl e3 F_size_a1 (g := (mkF m 20 #[.val (.ref a1), .val (.int p2)] [(.ref a1), (.ref b2)])) rfl rfl (hb hby d4_20)
  refine OutW.back st4 ?_
  show OutW _ _ _ _ _ _ _ (T4.setTop (mkF m 23 #[.val (.ref a1), .val (.int p2)] [(.int (0 : Int32)), (.ref b2)]))
  refine OutW.back (fun t k => XS.bipush X4.here hx rfl (hb hby d4_23) k) ?_
  show OutW _ _ _ _ _ _ _ (T4.setTop (mkF m 25 #[.val (.ref a1), .val (.int p2)] [(.int (16 : Int32)), (.int (0 : Int32)), (.ref b2)]))
  refine OutW.back (fun t k => XS.iushr X4.here hx rfl (hb hby d4_25) rfl k) ?_
  show OutW _ _ _ _ _ _ _ (T4.setTop (mkF m 26 #[.val (.ref a1), .val (.int p2)] [(.int (((0 : Int32).toUInt32 >>> ((16 : Int32) &&& 31).toUInt32).toInt32)), (.ref b2)]))
  rw [show (((0 : Int32).toUInt32 >>> ((16 : Int32) &&& 31).toUInt32).toInt32) = (0 : Int32) from by decide]
  obtain ⟨cl5, Ar5, Qk5, Sz5, Nn5, Hh5, Gg5⟩ := id V_b2
  have hin5 : ¬ ((0 : Int32) < 0 ∨ cl5.slots.size ≤ ((0 : Int32)).toNatClampNeg) := inb_of Sz5 ⟨by decide, by decide⟩
  refine OutW.back (X4.aaload hx (j := (0 : Int32)) (v := (.ref d3)) (by rw [e4]; exact Ar5.1) (State.isArrayOf_alike hZ.alike Ar5.2.1) rfl Ar5.2.2 hin5 (Hh5.at hin5 (by rfl)) (g := (mkF m 26 #[.val (.ref a1), .val (.int p2)] [(.int (0 : Int32)), (.ref b2)])) rfl rfl (hb hby d4_26)) ?_
  show OutW _ _ _ _ _ _ _ (T4.setTop (mkF m 27 #[.val (.ref a1), .val (.int p2)] [(.ref d3)]))
  refine OutW.back (fun t k => XS.aloadN X4.here hx rfl (hb hby d4_27) rfl rfl  k) ?_
  show OutW _ _ _ _ _ _ _ (T4.setTop (mkF m 28 #[.val (.ref a1), .val (.int p2)] [(.ref a1), (.ref d3)]))
  obtain ⟨T6, X6, e6, st6⟩ := getF X4 hx hZ hown (host := "") (Or.inl (hw _ (List.mem_of_getElem? (i := 29) rfl))) Via.refl e4 F_size_a1 (g := (mkF m 28 #[.val (.ref a1), .val (.int p2)] [(.ref a1), (.ref d3)])) rfl rfl (hb hby d4_28)
  refine OutW.back st6 ?_
  show OutW _ _ _ _ _ _ _ (T6.setTop (mkF m 31 #[.val (.ref a1), .val (.int p2)] [(.int (0 : Int32)), (.ref d3)]))
  refine OutW.back (X6.ldcInt hx hown (mvT hZ (hw _ (List.mem_of_getElem? (i := 37) rfl))) (g := (mkF m 31 #[.val (.ref a1), .val (.int p2)] [(.int (0 : Int32)), (.ref d3)])) rfl (hb hby d4_31)) ?_
  show OutW _ _ _ _ _ _ _ (T6.setTop (mkF m 33 #[.val (.ref a1), .val (.int p2)] [(.int (65535 : Int32)), (.int (0 : Int32)), (.ref d3)]))
  refine OutW.back (fun t k => XS.iand X6.here hx rfl (hb hby d4_33) rfl k) ?_
  show OutW _ _ _ _ _ _ _ (T6.setTop (mkF m 34 #[.val (.ref a1), .val (.int p2)] [(.int ((0 : Int32) &&& (65535 : Int32))), (.ref d3)]))
  rw [show ((0 : Int32) &&& (65535 : Int32)) = (0 : Int32) from by decide]
  refine OutW.back (fun t k => XS.iloadN X6.here hx rfl (hb hby d4_34) rfl  k) ?_
  show OutW _ _ _ _ _ _ _ (T6.setTop (mkF m 35 #[.val (.ref a1), .val (.int p2)] [(.int p2), (.int (0 : Int32)), (.ref d3)]))
  obtain ⟨cl7, Ar7, Qk7, Sz7, Nn7, Hh7, Gg7⟩ := id V_d3
  have hin7 : ¬ ((0 : Int32) < 0 ∨ cl7.slots.size ≤ ((0 : Int32)).toNatClampNeg) := inb_of Sz7 ⟨by decide, by decide⟩
  obtain ⟨T7, h7, X7, e7, W7, st7⟩ := stI X6 hx hZ e6 Ar7 (j := (0 : Int32)) hin7 (g := (mkF m 35 #[.val (.ref a1), .val (.int p2)] [(.int p2), (.int (0 : Int32)), (.ref d3)])) rfl rfl (hb hby d4_35)
  have V_d3_7 : Arv Z h7 d3 kD .int (4 : Int32) [(.int p2), (.int w1), (.int w2), (.int w3)] (.int (0 : Int32)) := Arv.set Ar7 Qk7 Sz7 Nn7 Hh7 Gg7 rfl W7 0 rfl (Nat.le_of_ble_eq_true rfl)
  have E_a1 := E_a1.wr W7
  have F_blockBits_a1 := F_blockBits_a1.other W7 (Or.inl (Ne.symm ne_d3_a1))
  have F_capacity_a1 := F_capacity_a1.other W7 (Or.inl (Ne.symm ne_d3_a1))
  have F_size_a1 := F_size_a1.other W7 (Or.inl (Ne.symm ne_d3_a1))
  have F_blocks_a1 := F_blocks_a1.other W7 (Or.inl (Ne.symm ne_d3_a1))
  have F_before_a1 := F_before_a1.other W7 (Or.inl (Ne.symm ne_d3_a1))
  have V_b2 := V_b2.other W7 (Ne.symm ne_d3_b2)
  have N7 := Fr.snoc X7 N2 g_d3
  have Z7 : n0 ≤ h7.size := Nat.le_trans Z0 (Keep.of_wr W7).1
  have K7 := K0.wr W7 (Or.inl (List.mem_of_getElem? (i := 1) rfl))
  obtain ⟨lc7, X7, N7⟩ : ∃ lc, Stand p l e ({ frames := 1, cells := 0, slots := 0, locals := 13 } : Room) s m #[(.ref a1), (.int p2)] below meth c T7 lc 0 0 ∧ Fr n0 lc := ⟨_, X7, N7⟩
  refine OutW.back st7 ?_
  show OutW _ _ _ _ _ _ _ (T7.setTop (mkF m 36 #[.val (.ref a1), .val (.int p2)] []))
  refine OutW.back (fun t k => XS.aloadN X7.here hx rfl (hb hby d4_36) rfl rfl  k) ?_
  show OutW _ _ _ _ _ _ _ (T7.setTop (mkF m 37 #[.val (.ref a1), .val (.int p2)] [(.ref a1)]))
  refine OutW.back (fun t k => XS.dup X7.here hx rfl (hb hby d4_37) rfl rfl k) ?_
  show OutW _ _ _ _ _ _ _ (T7.setTop (mkF m 38 #[.val (.ref a1), .val (.int p2)] [(.ref a1), (.ref a1)]))
  obtain ⟨T8, X8, e8, st8⟩ := getF X7 hx hZ hown (host := "") (Or.inl (hw _ (List.mem_of_getElem? (i := 29) rfl))) Via.refl e7 F_size_a1 (g := (mkF m 38 #[.val (.ref a1), .val (.int p2)] [(.ref a1), (.ref a1)])) rfl rfl (hb hby d4_38)
  refine OutW.back st8 ?_
  show OutW _ _ _ _ _ _ _ (T8.setTop (mkF m 41 #[.val (.ref a1), .val (.int p2)] [(.int (0 : Int32)), (.ref a1)]))
  refine OutW.back (fun t k => XS.iconst X8.here hx rfl (hb hby d4_41) k) ?_
  show OutW _ _ _ _ _ _ _ (T8.setTop (mkF m 42 #[.val (.ref a1), .val (.int p2)] [(.int (1 : Int32)), (.int (0 : Int32)), (.ref a1)]))
  refine OutW.back (fun t k => XS.iadd X8.here hx rfl (hb hby d4_42) rfl k) ?_
  show OutW _ _ _ _ _ _ _ (T8.setTop (mkF m 43 #[.val (.ref a1), .val (.int p2)] [(.int ((0 : Int32) + (1 : Int32))), (.ref a1)]))
  rw [show ((0 : Int32) + (1 : Int32)) = (1 : Int32) from by decide]
  obtain ⟨T9, h9, X9, e9, W9, st9⟩ := putF X8 hx hZ hown (host := "") (Or.inl (hw _ (List.mem_of_getElem? (i := 29) rfl))) Via.refl e8 F_size_a1 E_a1 (Or.inl (hw _ (List.mem_of_getElem? (i := 30) rfl))) (hw _ (List.mem_of_getElem? (i := 1) rfl)) (ty := .int) (by decide) rfl rfl (g := (mkF m 43 #[.val (.ref a1), .val (.int p2)] [(.int (1 : Int32)), (.ref a1)])) rfl rfl (hb hby d4_43)
  have E_a1 := E_a1.wr W9
  have F_blockBits_a1 := F_blockBits_a1.other W9 (Or.inr (slot_ne (Or.inr (hw _ (List.mem_of_getElem? (i := 15) rfl))) (Or.inl (hw _ (List.mem_of_getElem? (i := 30) rfl))) (by decide) (t := .int) (t' := .int) (by decide) (by decide)))
  have F_capacity_a1 := F_capacity_a1.other W9 (Or.inr (slot_ne (Or.inl (hw _ (List.mem_of_getElem? (i := 17) rfl))) (Or.inl (hw _ (List.mem_of_getElem? (i := 30) rfl))) (by decide) (t := .int) (t' := .int) (by decide) (by decide)))
  have F_size_a1 := F_size_a1.same W9
  have F_blocks_a1 := F_blocks_a1.other W9 (Or.inr (slot_ne (Or.inl (hw _ (List.mem_of_getElem? (i := 23) rfl))) (Or.inl (hw _ (List.mem_of_getElem? (i := 30) rfl))) (by decide) (t := (.array (.array .int))) (t' := .int) (by decide) (by decide)))
  have F_before_a1 := F_before_a1.other W9 (Or.inr (slot_ne (Or.inl (hw _ (List.mem_of_getElem? (i := 68) rfl))) (Or.inl (hw _ (List.mem_of_getElem? (i := 30) rfl))) (by decide) (t := (.object "com/example/xml_document_query/xmldocumentquery/tree/IntColumn")) (t' := .int) (by decide) (by decide)))
  have V_b2 := V_b2.other W9 (Ne.symm ne_a1_b2)
  have V_d3_7 := V_d3_7.other W9 ne_d3_a1
  have N9 := Fr.snoc X9 N7 g_a1
  have Z9 : n0 ≤ h9.size := Nat.le_trans Z7 (Keep.of_wr W9).1
  have K9 := K7.wr W9 (Or.inl (List.mem_of_getElem? (i := 0) rfl))
  obtain ⟨lc9, X9, N9⟩ : ∃ lc, Stand p l e ({ frames := 1, cells := 0, slots := 0, locals := 13 } : Room) s m #[(.ref a1), (.int p2)] below meth c T9 lc 0 0 ∧ Fr n0 lc := ⟨_, X9, N9⟩
  refine OutW.back st9 ?_
  show OutW _ _ _ _ _ _ _ (T9.setTop (mkF m 46 #[.val (.ref a1), .val (.int p2)] []))
  refine OutW.retV X9 hx Bd.returns hlk (hb hby d4_46) (by decide) (by decide) ?_
  show Q4_0_4 Z a1 p2 b2 d3 kB kD w0 w1 w2 w3 w_before h0 n0 _ T9.heap _
  rw [e9]
  exact ⟨rfl, N9, K9, F_blockBits_a1, F_capacity_a1, F_size_a1, F_blocks_a1, F_before_a1, V_d3_7⟩
theorem ef_4_1_4 (m : MethodId) (x0 : Addr) (x1 : Int32) : entryFrame m #[(.ref x0), (.int x1)] 2 = mkF m 0 #[.val (.ref x0), .val (.int x1)] [] := by first | (simp [entryFrame, mkF, argsToLocals, Value.category]; done) | rfl
def Q4_1_4 (Z : State) (a1 : Addr) (p2 : Int32) (b2 : Addr) (d3 : Addr) (kB : ClassId) (kD : ClassId) (w0 : Int32) (w1 : Int32) (w2 : Int32) (w3 : Int32) (w_before : Value) (h0 : Heap) (n0 : Nat) (v : Option Value) (h : Heap) (L : List Loc) : Prop := v = none ∧ Fr n0 L ∧ Keep h0 h [a1, d3] ∧ Fld Z h a1 "com/example/xml_document_query/xmldocumentquery/tree/BlockedArray" "blockBits" "I" (.int (16 : Int32)) ∧ Fld Z h a1 "com/example/xml_document_query/xmldocumentquery/tree/BlockedArray" "capacity" "I" (.int (4 : Int32)) ∧ Fld Z h a1 "com/example/xml_document_query/xmldocumentquery/tree/IntColumn" "size" "I" (.int (2 : Int32)) ∧ Fld Z h a1 "com/example/xml_document_query/xmldocumentquery/tree/IntColumn" "blocks" "[[I" (.ref b2) ∧ Fld Z h a1 "com/example/xml_document_query/xmldocumentquery/tree/IntColumn" "before" "Lcom/example/xml_document_query/xmldocumentquery/tree/IntColumn;" w_before ∧ Arv Z h d3 kD .int (4 : Int32) [(.int w0), (.int p2), (.int w2), (.int w3)] (.int (0 : Int32))
set_option maxRecDepth 65536 in
set_option maxHeartbeats 40000000 in
theorem rm4_1_4 (l : Launch) (Z : State) (a0 : Array Value) (hw : ∀ d ∈ tables_1, d.before a0 Z = true) (ws : List Jvm.Cond) (a1 : Addr) (p2 : Int32) (b2 : Addr) (d3 : Addr) (kB : ClassId) (kD : ClassId) (w0 : Int32) (w1 : Int32) (w2 : Int32) (w3 : Int32) (w_before : Value) (h0 : Heap) (n0 : Nat) (Z0 : n0 ≤ h0.size) (E_a1 : Exa Z h0 a1 "com/example/xml_document_query/xmldocumentquery/tree/IntColumn") (g_a1 : n0 ≤ a1) (F_blockBits_a1 : Fld Z h0 a1 "com/example/xml_document_query/xmldocumentquery/tree/BlockedArray" "blockBits" "I" (.int (16 : Int32))) (F_capacity_a1 : Fld Z h0 a1 "com/example/xml_document_query/xmldocumentquery/tree/BlockedArray" "capacity" "I" (.int (4 : Int32))) (F_size_a1 : Fld Z h0 a1 "com/example/xml_document_query/xmldocumentquery/tree/IntColumn" "size" "I" (.int (1 : Int32))) (F_blocks_a1 : Fld Z h0 a1 "com/example/xml_document_query/xmldocumentquery/tree/IntColumn" "blocks" "[[I" (.ref b2)) (F_before_a1 : Fld Z h0 a1 "com/example/xml_document_query/xmldocumentquery/tree/IntColumn" "before" "Lcom/example/xml_document_query/xmldocumentquery/tree/IntColumn;" w_before) (V_b2 : Arv Z h0 b2 kB (.array .int) (1 : Int32) [(.ref d3)] .null) (O_b2 : OvrA Z kB .int "[I") (V_d3 : Arv Z h0 d3 kD .int (4 : Int32) [(.int w0), (.int w1), (.int w2), (.int w3)] (.int (0 : Int32))) (ne_a1_b2 : a1 ≠ b2) (ne_d3_b2 : d3 ≠ b2) (ne_d3_a1 : d3 ≠ a1) (g_b2 : n0 ≤ b2) (g_d3 : n0 ≤ d3) :
    MetFree l (⟨"com/example/xml_document_query/xmldocumentquery/tree/IntColumn", "add", "(I)V"⟩ : MethodName) (head1 (Jvm.Cond.code (⟨"com/example/xml_document_query/xmldocumentquery/tree/IntColumn", "add", "(I)V"⟩ : MethodName) prog_168_method_2_code 2 none :: ws) ({ frames := 1, cells := 0, slots := 0, locals := 13 } : Room)) (fun a U => a = #[(.ref a1), (.int p2)] ∧ Z.Warmed39 U.vm ∧ U.heap = h0) (fun _ _ _ _ _ => True) (fun _ U o U' => ∃ v L, o = .returned v ∧ Q4_1_4 Z a1 p2 b2 d3 kB kD w0 w1 w2 w3 w_before h0 n0 v U'.heap L ∧ FrameEnd U o U' L ({ frames := 1, cells := 0, slots := 0, locals := 13 } : Room).cells ({ frames := 1, cells := 0, slots := 0, locals := 13 } : Room).slots) := by
  refine MetFree.of_bodySF (plainFor_of_name pn_4) hisR ?_
  intro p e s m args below meth c s₁ Bd hml0 hP hK
  obtain ⟨rfl, hZ, hh⟩ := hP
  have hx := Bd.exec
  have hby := Bd.bytes
  have hlk := Bd.notSynchronized
  have hml : c.maxLocals = 2 := hml0
  have hown : s.vm.findClass "com/example/xml_document_query/xmldocumentquery/tree/IntColumn" = some m.cls := findClass_of_methodNamed Bd.named
  have hnm := (name_of_methodNamed Bd.named Bd.method).1
  have X0 : Stand p l e ({ frames := 1, cells := 0, slots := 0, locals := 13 } : Room) s m #[(.ref a1), (.int p2)] below meth c s₁ [] 0 0 := Stand.of_body Bd
  have e0 : s₁.heap = h0 := by rw [← hh, Bd.state]; rfl
  have N0 := Fr.nil n0
  have K0 : Keep h0 h0 [a1, d3] := Keep.refl h0 _
  show OutW p e below s ({ frames := 1, cells := 0, slots := 0, locals := 13 } : Room).cells ({ frames := 1, cells := 0, slots := 0, locals := 13 } : Room).slots (Q4_1_4 Z a1 p2 b2 d3 kB kD w0 w1 w2 w3 w_before h0 n0) _
  refine OutW.back (fun t k => castTop (ef_4_1_4 m a1 p2) k) ?_
  show OutW _ _ _ _ _ _ _ (s₁.setTop (mkF m 0 #[.val (.ref a1), .val (.int p2)] []))
  refine OutW.back (fun t k => XS.aloadN X0.here hx rfl (hb hby d4_0) rfl rfl  k) ?_
  show OutW _ _ _ _ _ _ _ (s₁.setTop (mkF m 1 #[.val (.ref a1), .val (.int p2)] [(.ref a1)]))
  obtain ⟨T1, X1, e1, st1⟩ := getF X0 hx hZ hown (host := "") (Or.inl (hw _ (List.mem_of_getElem? (i := 29) rfl))) Via.refl e0 F_size_a1 (g := (mkF m 1 #[.val (.ref a1), .val (.int p2)] [(.ref a1)])) rfl rfl (hb hby d4_1)
  refine OutW.back st1 ?_
  show OutW _ _ _ _ _ _ _ (T1.setTop (mkF m 4 #[.val (.ref a1), .val (.int p2)] [(.int (1 : Int32))]))
  refine OutW.back (fun t k => XS.aloadN X1.here hx rfl (hb hby d4_4) rfl rfl  k) ?_
  show OutW _ _ _ _ _ _ _ (T1.setTop (mkF m 5 #[.val (.ref a1), .val (.int p2)] [(.ref a1), (.int (1 : Int32))]))
  obtain ⟨cq2, kq2, qa2, qb2, qc2⟩ := isOf hZ e1 E_a1
  obtain ⟨_, _, ⟨T2, L2, k2, n2⟩, -, X2, ⟨Lc2, hQ2, l2, y2, z2⟩, st2⟩ := X1.virtualBackUp hx (x := (⟨"com/example/xml_document_query/xmldocumentquery/tree/IntColumn", "capacity", "()I"⟩ : MethodName)) (y := (⟨"com/example/xml_document_query/xmldocumentquery/tree/BlockedArray", "capacity", "()I"⟩ : MethodName)) (owner := "com/example/xml_document_query/xmldocumentquery/tree/BlockedArray") hown (mvT hZ (hw _ (List.mem_of_getElem? (i := 31) rfl))) (mvT hZ (hw _ (List.mem_of_getElem? (i := 32) rfl))) (mvT hZ (hw _ (List.mem_of_getElem? (i := 33) rfl))) (by decide) (mvT hZ (hw _ (List.mem_of_getElem? (i := 35) rfl))) (mvT hZ (hw _ (List.mem_of_getElem? (i := 34) rfl))) (backOf (W := 1) (rm5 l Z a0 hw [] a1 (4 : Int32) h0 n0 Z0 F_capacity_a1) hZ (hw _ (List.mem_of_getElem? (i := 36) rfl)) (hw _ (List.mem_of_getElem? (i := 9) rfl)) (by decide) (by decide)) qa2 qc2 (g := (mkF m 5 #[.val (.ref a1), .val (.int p2)] [(.ref a1), (.int (1 : Int32))])) rfl (by rw [hml]; rfl) (Steps.refl _) (argsL := []) (rest := [(.int (1 : Int32))]) (lenOf pd_4 rfl) rfl (by show 2 * 0 + _ ≤ _; exact Nat.le_of_eq rfl) (hb hby d4_5) (fun _ _ => ⟨rfl, e1, (by decide : 0 + 0 ≤ _), (by decide : 0 + 0 ≤ _)⟩)
  dsimp only [Pt.U, Pt.locs, Pt.cells, Pt.slots] at X2 l2 y2 z2 st2 hQ2
  subst l2 y2 z2
  obtain ⟨rfl, Nq2, e2⟩ := hQ2
  have N2 := Fr.app N0 Nq2
  obtain ⟨lc2, X2, N2⟩ : ∃ lc, Stand p l e ({ frames := 1, cells := 0, slots := 0, locals := 13 } : Room) s m #[(.ref a1), (.int p2)] below meth c T2 lc 0 0 ∧ Fr n0 lc := ⟨_, X2, N2⟩
  refine OutW.via st2 ?_
  show OutW _ _ _ _ _ _ _ (T2.setTop (mkF m 8 #[.val (.ref a1), .val (.int p2)] [(.int (4 : Int32)), (.int (1 : Int32))]))
  refine OutW.back (fun t k => XS.icmpYes X2.here hx rfl (pc0 := 8) (pc' := 15) rfl (hb hby d4_8) rfl (feq (by decide : ¬ ((1 : Int32) = (4 : Int32)))).2 (by decide) (by decide) k) ?_
  show OutW _ _ _ _ _ _ _ (T2.setTop (mkF m 15 #[.val (.ref a1), .val (.int p2)] []))
  refine OutW.back (fun t k => XS.aloadN X2.here hx rfl (hb hby d4_15) rfl rfl  k) ?_
  show OutW _ _ _ _ _ _ _ (T2.setTop (mkF m 16 #[.val (.ref a1), .val (.int p2)] [(.ref a1)]))
  obtain ⟨T3, X3, e3, st3⟩ := getF X2 hx hZ hown (host := "") (Or.inl (hw _ (List.mem_of_getElem? (i := 22) rfl))) Via.refl e2 F_blocks_a1 (g := (mkF m 16 #[.val (.ref a1), .val (.int p2)] [(.ref a1)])) rfl rfl (hb hby d4_16)
  refine OutW.back st3 ?_
  show OutW _ _ _ _ _ _ _ (T3.setTop (mkF m 19 #[.val (.ref a1), .val (.int p2)] [(.ref b2)]))
  refine OutW.back (fun t k => XS.aloadN X3.here hx rfl (hb hby d4_19) rfl rfl  k) ?_
  show OutW _ _ _ _ _ _ _ (T3.setTop (mkF m 20 #[.val (.ref a1), .val (.int p2)] [(.ref a1), (.ref b2)]))
  obtain ⟨T4, X4, e4, st4⟩ := getF X3 hx hZ hown (host := "") (Or.inl (hw _ (List.mem_of_getElem? (i := 29) rfl))) Via.refl e3 F_size_a1 (g := (mkF m 20 #[.val (.ref a1), .val (.int p2)] [(.ref a1), (.ref b2)])) rfl rfl (hb hby d4_20)
  refine OutW.back st4 ?_
  show OutW _ _ _ _ _ _ _ (T4.setTop (mkF m 23 #[.val (.ref a1), .val (.int p2)] [(.int (1 : Int32)), (.ref b2)]))
  refine OutW.back (fun t k => XS.bipush X4.here hx rfl (hb hby d4_23) k) ?_
  show OutW _ _ _ _ _ _ _ (T4.setTop (mkF m 25 #[.val (.ref a1), .val (.int p2)] [(.int (16 : Int32)), (.int (1 : Int32)), (.ref b2)]))
  refine OutW.back (fun t k => XS.iushr X4.here hx rfl (hb hby d4_25) rfl k) ?_
  show OutW _ _ _ _ _ _ _ (T4.setTop (mkF m 26 #[.val (.ref a1), .val (.int p2)] [(.int (((1 : Int32).toUInt32 >>> ((16 : Int32) &&& 31).toUInt32).toInt32)), (.ref b2)]))
  rw [show (((1 : Int32).toUInt32 >>> ((16 : Int32) &&& 31).toUInt32).toInt32) = (0 : Int32) from by decide]
  obtain ⟨cl5, Ar5, Qk5, Sz5, Nn5, Hh5, Gg5⟩ := id V_b2
  have hin5 : ¬ ((0 : Int32) < 0 ∨ cl5.slots.size ≤ ((0 : Int32)).toNatClampNeg) := inb_of Sz5 ⟨by decide, by decide⟩
  refine OutW.back (X4.aaload hx (j := (0 : Int32)) (v := (.ref d3)) (by rw [e4]; exact Ar5.1) (State.isArrayOf_alike hZ.alike Ar5.2.1) rfl Ar5.2.2 hin5 (Hh5.at hin5 (by rfl)) (g := (mkF m 26 #[.val (.ref a1), .val (.int p2)] [(.int (0 : Int32)), (.ref b2)])) rfl rfl (hb hby d4_26)) ?_
  show OutW _ _ _ _ _ _ _ (T4.setTop (mkF m 27 #[.val (.ref a1), .val (.int p2)] [(.ref d3)]))
  refine OutW.back (fun t k => XS.aloadN X4.here hx rfl (hb hby d4_27) rfl rfl  k) ?_
  show OutW _ _ _ _ _ _ _ (T4.setTop (mkF m 28 #[.val (.ref a1), .val (.int p2)] [(.ref a1), (.ref d3)]))
  obtain ⟨T6, X6, e6, st6⟩ := getF X4 hx hZ hown (host := "") (Or.inl (hw _ (List.mem_of_getElem? (i := 29) rfl))) Via.refl e4 F_size_a1 (g := (mkF m 28 #[.val (.ref a1), .val (.int p2)] [(.ref a1), (.ref d3)])) rfl rfl (hb hby d4_28)
  refine OutW.back st6 ?_
  show OutW _ _ _ _ _ _ _ (T6.setTop (mkF m 31 #[.val (.ref a1), .val (.int p2)] [(.int (1 : Int32)), (.ref d3)]))
  refine OutW.back (X6.ldcInt hx hown (mvT hZ (hw _ (List.mem_of_getElem? (i := 37) rfl))) (g := (mkF m 31 #[.val (.ref a1), .val (.int p2)] [(.int (1 : Int32)), (.ref d3)])) rfl (hb hby d4_31)) ?_
  show OutW _ _ _ _ _ _ _ (T6.setTop (mkF m 33 #[.val (.ref a1), .val (.int p2)] [(.int (65535 : Int32)), (.int (1 : Int32)), (.ref d3)]))
  refine OutW.back (fun t k => XS.iand X6.here hx rfl (hb hby d4_33) rfl k) ?_
  show OutW _ _ _ _ _ _ _ (T6.setTop (mkF m 34 #[.val (.ref a1), .val (.int p2)] [(.int ((1 : Int32) &&& (65535 : Int32))), (.ref d3)]))
  rw [show ((1 : Int32) &&& (65535 : Int32)) = (1 : Int32) from by decide]
  refine OutW.back (fun t k => XS.iloadN X6.here hx rfl (hb hby d4_34) rfl  k) ?_
  show OutW _ _ _ _ _ _ _ (T6.setTop (mkF m 35 #[.val (.ref a1), .val (.int p2)] [(.int p2), (.int (1 : Int32)), (.ref d3)]))
  obtain ⟨cl7, Ar7, Qk7, Sz7, Nn7, Hh7, Gg7⟩ := id V_d3
  have hin7 : ¬ ((1 : Int32) < 0 ∨ cl7.slots.size ≤ ((1 : Int32)).toNatClampNeg) := inb_of Sz7 ⟨by decide, by decide⟩
  obtain ⟨T7, h7, X7, e7, W7, st7⟩ := stI X6 hx hZ e6 Ar7 (j := (1 : Int32)) hin7 (g := (mkF m 35 #[.val (.ref a1), .val (.int p2)] [(.int p2), (.int (1 : Int32)), (.ref d3)])) rfl rfl (hb hby d4_35)
  have V_d3_7 : Arv Z h7 d3 kD .int (4 : Int32) [(.int w0), (.int p2), (.int w2), (.int w3)] (.int (0 : Int32)) := Arv.set Ar7 Qk7 Sz7 Nn7 Hh7 Gg7 rfl W7 1 rfl (Nat.le_of_ble_eq_true rfl)
  have E_a1 := E_a1.wr W7
  have F_blockBits_a1 := F_blockBits_a1.other W7 (Or.inl (Ne.symm ne_d3_a1))
  have F_capacity_a1 := F_capacity_a1.other W7 (Or.inl (Ne.symm ne_d3_a1))
  have F_size_a1 := F_size_a1.other W7 (Or.inl (Ne.symm ne_d3_a1))
  have F_blocks_a1 := F_blocks_a1.other W7 (Or.inl (Ne.symm ne_d3_a1))
  have F_before_a1 := F_before_a1.other W7 (Or.inl (Ne.symm ne_d3_a1))
  have V_b2 := V_b2.other W7 (Ne.symm ne_d3_b2)
  have N7 := Fr.snoc X7 N2 g_d3
  have Z7 : n0 ≤ h7.size := Nat.le_trans Z0 (Keep.of_wr W7).1
  have K7 := K0.wr W7 (Or.inl (List.mem_of_getElem? (i := 1) rfl))
  obtain ⟨lc7, X7, N7⟩ : ∃ lc, Stand p l e ({ frames := 1, cells := 0, slots := 0, locals := 13 } : Room) s m #[(.ref a1), (.int p2)] below meth c T7 lc 0 0 ∧ Fr n0 lc := ⟨_, X7, N7⟩
  refine OutW.back st7 ?_
  show OutW _ _ _ _ _ _ _ (T7.setTop (mkF m 36 #[.val (.ref a1), .val (.int p2)] []))
  refine OutW.back (fun t k => XS.aloadN X7.here hx rfl (hb hby d4_36) rfl rfl  k) ?_
  show OutW _ _ _ _ _ _ _ (T7.setTop (mkF m 37 #[.val (.ref a1), .val (.int p2)] [(.ref a1)]))
  refine OutW.back (fun t k => XS.dup X7.here hx rfl (hb hby d4_37) rfl rfl k) ?_
  show OutW _ _ _ _ _ _ _ (T7.setTop (mkF m 38 #[.val (.ref a1), .val (.int p2)] [(.ref a1), (.ref a1)]))
  obtain ⟨T8, X8, e8, st8⟩ := getF X7 hx hZ hown (host := "") (Or.inl (hw _ (List.mem_of_getElem? (i := 29) rfl))) Via.refl e7 F_size_a1 (g := (mkF m 38 #[.val (.ref a1), .val (.int p2)] [(.ref a1), (.ref a1)])) rfl rfl (hb hby d4_38)
  refine OutW.back st8 ?_
  show OutW _ _ _ _ _ _ _ (T8.setTop (mkF m 41 #[.val (.ref a1), .val (.int p2)] [(.int (1 : Int32)), (.ref a1)]))
  refine OutW.back (fun t k => XS.iconst X8.here hx rfl (hb hby d4_41) k) ?_
  show OutW _ _ _ _ _ _ _ (T8.setTop (mkF m 42 #[.val (.ref a1), .val (.int p2)] [(.int (1 : Int32)), (.int (1 : Int32)), (.ref a1)]))
  refine OutW.back (fun t k => XS.iadd X8.here hx rfl (hb hby d4_42) rfl k) ?_
  show OutW _ _ _ _ _ _ _ (T8.setTop (mkF m 43 #[.val (.ref a1), .val (.int p2)] [(.int ((1 : Int32) + (1 : Int32))), (.ref a1)]))
  rw [show ((1 : Int32) + (1 : Int32)) = (2 : Int32) from by decide]
  obtain ⟨T9, h9, X9, e9, W9, st9⟩ := putF X8 hx hZ hown (host := "") (Or.inl (hw _ (List.mem_of_getElem? (i := 29) rfl))) Via.refl e8 F_size_a1 E_a1 (Or.inl (hw _ (List.mem_of_getElem? (i := 30) rfl))) (hw _ (List.mem_of_getElem? (i := 1) rfl)) (ty := .int) (by decide) rfl rfl (g := (mkF m 43 #[.val (.ref a1), .val (.int p2)] [(.int (2 : Int32)), (.ref a1)])) rfl rfl (hb hby d4_43)
  have E_a1 := E_a1.wr W9
  have F_blockBits_a1 := F_blockBits_a1.other W9 (Or.inr (slot_ne (Or.inr (hw _ (List.mem_of_getElem? (i := 15) rfl))) (Or.inl (hw _ (List.mem_of_getElem? (i := 30) rfl))) (by decide) (t := .int) (t' := .int) (by decide) (by decide)))
  have F_capacity_a1 := F_capacity_a1.other W9 (Or.inr (slot_ne (Or.inl (hw _ (List.mem_of_getElem? (i := 17) rfl))) (Or.inl (hw _ (List.mem_of_getElem? (i := 30) rfl))) (by decide) (t := .int) (t' := .int) (by decide) (by decide)))
  have F_size_a1 := F_size_a1.same W9
  have F_blocks_a1 := F_blocks_a1.other W9 (Or.inr (slot_ne (Or.inl (hw _ (List.mem_of_getElem? (i := 23) rfl))) (Or.inl (hw _ (List.mem_of_getElem? (i := 30) rfl))) (by decide) (t := (.array (.array .int))) (t' := .int) (by decide) (by decide)))
  have F_before_a1 := F_before_a1.other W9 (Or.inr (slot_ne (Or.inl (hw _ (List.mem_of_getElem? (i := 68) rfl))) (Or.inl (hw _ (List.mem_of_getElem? (i := 30) rfl))) (by decide) (t := (.object "com/example/xml_document_query/xmldocumentquery/tree/IntColumn")) (t' := .int) (by decide) (by decide)))
  have V_b2 := V_b2.other W9 (Ne.symm ne_a1_b2)
  have V_d3_7 := V_d3_7.other W9 ne_d3_a1
  have N9 := Fr.snoc X9 N7 g_a1
  have Z9 : n0 ≤ h9.size := Nat.le_trans Z7 (Keep.of_wr W9).1
  have K9 := K7.wr W9 (Or.inl (List.mem_of_getElem? (i := 0) rfl))
  obtain ⟨lc9, X9, N9⟩ : ∃ lc, Stand p l e ({ frames := 1, cells := 0, slots := 0, locals := 13 } : Room) s m #[(.ref a1), (.int p2)] below meth c T9 lc 0 0 ∧ Fr n0 lc := ⟨_, X9, N9⟩
  refine OutW.back st9 ?_
  show OutW _ _ _ _ _ _ _ (T9.setTop (mkF m 46 #[.val (.ref a1), .val (.int p2)] []))
  refine OutW.retV X9 hx Bd.returns hlk (hb hby d4_46) (by decide) (by decide) ?_
  show Q4_1_4 Z a1 p2 b2 d3 kB kD w0 w1 w2 w3 w_before h0 n0 _ T9.heap _
  rw [e9]
  exact ⟨rfl, N9, K9, F_blockBits_a1, F_capacity_a1, F_size_a1, F_blocks_a1, F_before_a1, V_d3_7⟩
theorem ef_4_0_8 (m : MethodId) (x0 : Addr) (x1 : Int32) : entryFrame m #[(.ref x0), (.int x1)] 2 = mkF m 0 #[.val (.ref x0), .val (.int x1)] [] := by first | (simp [entryFrame, mkF, argsToLocals, Value.category]; done) | rfl
def Q4_0_8 (Z : State) (a1 : Addr) (p2 : Int32) (b2 : Addr) (d3 : Addr) (kB : ClassId) (kD : ClassId) (w0 : Int32) (w1 : Int32) (w2 : Int32) (w3 : Int32) (w4 : Int32) (w5 : Int32) (w6 : Int32) (w7 : Int32) (w_before : Value) (h0 : Heap) (n0 : Nat) (v : Option Value) (h : Heap) (L : List Loc) : Prop := v = none ∧ Fr n0 L ∧ Keep h0 h [a1, d3] ∧ Fld Z h a1 "com/example/xml_document_query/xmldocumentquery/tree/BlockedArray" "blockBits" "I" (.int (16 : Int32)) ∧ Fld Z h a1 "com/example/xml_document_query/xmldocumentquery/tree/BlockedArray" "capacity" "I" (.int (8 : Int32)) ∧ Fld Z h a1 "com/example/xml_document_query/xmldocumentquery/tree/IntColumn" "size" "I" (.int (1 : Int32)) ∧ Fld Z h a1 "com/example/xml_document_query/xmldocumentquery/tree/IntColumn" "blocks" "[[I" (.ref b2) ∧ Fld Z h a1 "com/example/xml_document_query/xmldocumentquery/tree/IntColumn" "before" "Lcom/example/xml_document_query/xmldocumentquery/tree/IntColumn;" w_before ∧ Arv Z h d3 kD .int (8 : Int32) [(.int p2), (.int w1), (.int w2), (.int w3), (.int w4), (.int w5), (.int w6), (.int w7)] (.int (0 : Int32))
set_option maxRecDepth 65536 in
set_option maxHeartbeats 40000000 in
theorem rm4_0_8 (l : Launch) (Z : State) (a0 : Array Value) (hw : ∀ d ∈ tables_1, d.before a0 Z = true) (ws : List Jvm.Cond) (a1 : Addr) (p2 : Int32) (b2 : Addr) (d3 : Addr) (kB : ClassId) (kD : ClassId) (w0 : Int32) (w1 : Int32) (w2 : Int32) (w3 : Int32) (w4 : Int32) (w5 : Int32) (w6 : Int32) (w7 : Int32) (w_before : Value) (h0 : Heap) (n0 : Nat) (Z0 : n0 ≤ h0.size) (E_a1 : Exa Z h0 a1 "com/example/xml_document_query/xmldocumentquery/tree/IntColumn") (g_a1 : n0 ≤ a1) (F_blockBits_a1 : Fld Z h0 a1 "com/example/xml_document_query/xmldocumentquery/tree/BlockedArray" "blockBits" "I" (.int (16 : Int32))) (F_capacity_a1 : Fld Z h0 a1 "com/example/xml_document_query/xmldocumentquery/tree/BlockedArray" "capacity" "I" (.int (8 : Int32))) (F_size_a1 : Fld Z h0 a1 "com/example/xml_document_query/xmldocumentquery/tree/IntColumn" "size" "I" (.int (0 : Int32))) (F_blocks_a1 : Fld Z h0 a1 "com/example/xml_document_query/xmldocumentquery/tree/IntColumn" "blocks" "[[I" (.ref b2)) (F_before_a1 : Fld Z h0 a1 "com/example/xml_document_query/xmldocumentquery/tree/IntColumn" "before" "Lcom/example/xml_document_query/xmldocumentquery/tree/IntColumn;" w_before) (V_b2 : Arv Z h0 b2 kB (.array .int) (1 : Int32) [(.ref d3)] .null) (O_b2 : OvrA Z kB .int "[I") (V_d3 : Arv Z h0 d3 kD .int (8 : Int32) [(.int w0), (.int w1), (.int w2), (.int w3), (.int w4), (.int w5), (.int w6), (.int w7)] (.int (0 : Int32))) (ne_a1_b2 : a1 ≠ b2) (ne_d3_b2 : d3 ≠ b2) (ne_d3_a1 : d3 ≠ a1) (g_b2 : n0 ≤ b2) (g_d3 : n0 ≤ d3) :
    MetFree l (⟨"com/example/xml_document_query/xmldocumentquery/tree/IntColumn", "add", "(I)V"⟩ : MethodName) (head1 (Jvm.Cond.code (⟨"com/example/xml_document_query/xmldocumentquery/tree/IntColumn", "add", "(I)V"⟩ : MethodName) prog_168_method_2_code 2 none :: ws) ({ frames := 1, cells := 0, slots := 0, locals := 13 } : Room)) (fun a U => a = #[(.ref a1), (.int p2)] ∧ Z.Warmed39 U.vm ∧ U.heap = h0) (fun _ _ _ _ _ => True) (fun _ U o U' => ∃ v L, o = .returned v ∧ Q4_0_8 Z a1 p2 b2 d3 kB kD w0 w1 w2 w3 w4 w5 w6 w7 w_before h0 n0 v U'.heap L ∧ FrameEnd U o U' L ({ frames := 1, cells := 0, slots := 0, locals := 13 } : Room).cells ({ frames := 1, cells := 0, slots := 0, locals := 13 } : Room).slots) := by
  refine MetFree.of_bodySF (plainFor_of_name pn_4) hisR ?_
  intro p e s m args below meth c s₁ Bd hml0 hP hK
  obtain ⟨rfl, hZ, hh⟩ := hP
  have hx := Bd.exec
  have hby := Bd.bytes
  have hlk := Bd.notSynchronized
  have hml : c.maxLocals = 2 := hml0
  have hown : s.vm.findClass "com/example/xml_document_query/xmldocumentquery/tree/IntColumn" = some m.cls := findClass_of_methodNamed Bd.named
  have hnm := (name_of_methodNamed Bd.named Bd.method).1
  have X0 : Stand p l e ({ frames := 1, cells := 0, slots := 0, locals := 13 } : Room) s m #[(.ref a1), (.int p2)] below meth c s₁ [] 0 0 := Stand.of_body Bd
  have e0 : s₁.heap = h0 := by rw [← hh, Bd.state]; rfl
  have N0 := Fr.nil n0
  have K0 : Keep h0 h0 [a1, d3] := Keep.refl h0 _
  show OutW p e below s ({ frames := 1, cells := 0, slots := 0, locals := 13 } : Room).cells ({ frames := 1, cells := 0, slots := 0, locals := 13 } : Room).slots (Q4_0_8 Z a1 p2 b2 d3 kB kD w0 w1 w2 w3 w4 w5 w6 w7 w_before h0 n0) _
  refine OutW.back (fun t k => castTop (ef_4_0_8 m a1 p2) k) ?_
  show OutW _ _ _ _ _ _ _ (s₁.setTop (mkF m 0 #[.val (.ref a1), .val (.int p2)] []))
  refine OutW.back (fun t k => XS.aloadN X0.here hx rfl (hb hby d4_0) rfl rfl  k) ?_
  show OutW _ _ _ _ _ _ _ (s₁.setTop (mkF m 1 #[.val (.ref a1), .val (.int p2)] [(.ref a1)]))
  obtain ⟨T1, X1, e1, st1⟩ := getF X0 hx hZ hown (host := "") (Or.inl (hw _ (List.mem_of_getElem? (i := 29) rfl))) Via.refl e0 F_size_a1 (g := (mkF m 1 #[.val (.ref a1), .val (.int p2)] [(.ref a1)])) rfl rfl (hb hby d4_1)
  refine OutW.back st1 ?_
  show OutW _ _ _ _ _ _ _ (T1.setTop (mkF m 4 #[.val (.ref a1), .val (.int p2)] [(.int (0 : Int32))]))
  refine OutW.back (fun t k => XS.aloadN X1.here hx rfl (hb hby d4_4) rfl rfl  k) ?_
  show OutW _ _ _ _ _ _ _ (T1.setTop (mkF m 5 #[.val (.ref a1), .val (.int p2)] [(.ref a1), (.int (0 : Int32))]))
  obtain ⟨cq2, kq2, qa2, qb2, qc2⟩ := isOf hZ e1 E_a1
  obtain ⟨_, _, ⟨T2, L2, k2, n2⟩, -, X2, ⟨Lc2, hQ2, l2, y2, z2⟩, st2⟩ := X1.virtualBackUp hx (x := (⟨"com/example/xml_document_query/xmldocumentquery/tree/IntColumn", "capacity", "()I"⟩ : MethodName)) (y := (⟨"com/example/xml_document_query/xmldocumentquery/tree/BlockedArray", "capacity", "()I"⟩ : MethodName)) (owner := "com/example/xml_document_query/xmldocumentquery/tree/BlockedArray") hown (mvT hZ (hw _ (List.mem_of_getElem? (i := 31) rfl))) (mvT hZ (hw _ (List.mem_of_getElem? (i := 32) rfl))) (mvT hZ (hw _ (List.mem_of_getElem? (i := 33) rfl))) (by decide) (mvT hZ (hw _ (List.mem_of_getElem? (i := 35) rfl))) (mvT hZ (hw _ (List.mem_of_getElem? (i := 34) rfl))) (backOf (W := 1) (rm5 l Z a0 hw [] a1 (8 : Int32) h0 n0 Z0 F_capacity_a1) hZ (hw _ (List.mem_of_getElem? (i := 36) rfl)) (hw _ (List.mem_of_getElem? (i := 9) rfl)) (by decide) (by decide)) qa2 qc2 (g := (mkF m 5 #[.val (.ref a1), .val (.int p2)] [(.ref a1), (.int (0 : Int32))])) rfl (by rw [hml]; rfl) (Steps.refl _) (argsL := []) (rest := [(.int (0 : Int32))]) (lenOf pd_4 rfl) rfl (by show 2 * 0 + _ ≤ _; exact Nat.le_of_eq rfl) (hb hby d4_5) (fun _ _ => ⟨rfl, e1, (by decide : 0 + 0 ≤ _), (by decide : 0 + 0 ≤ _)⟩)
  dsimp only [Pt.U, Pt.locs, Pt.cells, Pt.slots] at X2 l2 y2 z2 st2 hQ2
  subst l2 y2 z2
  obtain ⟨rfl, Nq2, e2⟩ := hQ2
  have N2 := Fr.app N0 Nq2
  obtain ⟨lc2, X2, N2⟩ : ∃ lc, Stand p l e ({ frames := 1, cells := 0, slots := 0, locals := 13 } : Room) s m #[(.ref a1), (.int p2)] below meth c T2 lc 0 0 ∧ Fr n0 lc := ⟨_, X2, N2⟩
  refine OutW.via st2 ?_
  show OutW _ _ _ _ _ _ _ (T2.setTop (mkF m 8 #[.val (.ref a1), .val (.int p2)] [(.int (8 : Int32)), (.int (0 : Int32))]))
  refine OutW.back (fun t k => XS.icmpYes X2.here hx rfl (pc0 := 8) (pc' := 15) rfl (hb hby d4_8) rfl (feq (by decide : ¬ ((0 : Int32) = (8 : Int32)))).2 (by decide) (by decide) k) ?_
  show OutW _ _ _ _ _ _ _ (T2.setTop (mkF m 15 #[.val (.ref a1), .val (.int p2)] []))
  refine OutW.back (fun t k => XS.aloadN X2.here hx rfl (hb hby d4_15) rfl rfl  k) ?_
  show OutW _ _ _ _ _ _ _ (T2.setTop (mkF m 16 #[.val (.ref a1), .val (.int p2)] [(.ref a1)]))
  obtain ⟨T3, X3, e3, st3⟩ := getF X2 hx hZ hown (host := "") (Or.inl (hw _ (List.mem_of_getElem? (i := 22) rfl))) Via.refl e2 F_blocks_a1 (g := (mkF m 16 #[.val (.ref a1), .val (.int p2)] [(.ref a1)])) rfl rfl (hb hby d4_16)
  refine OutW.back st3 ?_
  show OutW _ _ _ _ _ _ _ (T3.setTop (mkF m 19 #[.val (.ref a1), .val (.int p2)] [(.ref b2)]))
  refine OutW.back (fun t k => XS.aloadN X3.here hx rfl (hb hby d4_19) rfl rfl  k) ?_
  show OutW _ _ _ _ _ _ _ (T3.setTop (mkF m 20 #[.val (.ref a1), .val (.int p2)] [(.ref a1), (.ref b2)]))
  obtain ⟨T4, X4, e4, st4⟩ := getF X3 hx hZ hown (host := "") (Or.inl (hw _ (List.mem_of_getElem? (i := 29) rfl))) Via.refl e3 F_size_a1 (g := (mkF m 20 #[.val (.ref a1), .val (.int p2)] [(.ref a1), (.ref b2)])) rfl rfl (hb hby d4_20)
  refine OutW.back st4 ?_
  show OutW _ _ _ _ _ _ _ (T4.setTop (mkF m 23 #[.val (.ref a1), .val (.int p2)] [(.int (0 : Int32)), (.ref b2)]))
  refine OutW.back (fun t k => XS.bipush X4.here hx rfl (hb hby d4_23) k) ?_
  show OutW _ _ _ _ _ _ _ (T4.setTop (mkF m 25 #[.val (.ref a1), .val (.int p2)] [(.int (16 : Int32)), (.int (0 : Int32)), (.ref b2)]))
  refine OutW.back (fun t k => XS.iushr X4.here hx rfl (hb hby d4_25) rfl k) ?_
  show OutW _ _ _ _ _ _ _ (T4.setTop (mkF m 26 #[.val (.ref a1), .val (.int p2)] [(.int (((0 : Int32).toUInt32 >>> ((16 : Int32) &&& 31).toUInt32).toInt32)), (.ref b2)]))
  rw [show (((0 : Int32).toUInt32 >>> ((16 : Int32) &&& 31).toUInt32).toInt32) = (0 : Int32) from by decide]
  obtain ⟨cl5, Ar5, Qk5, Sz5, Nn5, Hh5, Gg5⟩ := id V_b2
  have hin5 : ¬ ((0 : Int32) < 0 ∨ cl5.slots.size ≤ ((0 : Int32)).toNatClampNeg) := inb_of Sz5 ⟨by decide, by decide⟩
  refine OutW.back (X4.aaload hx (j := (0 : Int32)) (v := (.ref d3)) (by rw [e4]; exact Ar5.1) (State.isArrayOf_alike hZ.alike Ar5.2.1) rfl Ar5.2.2 hin5 (Hh5.at hin5 (by rfl)) (g := (mkF m 26 #[.val (.ref a1), .val (.int p2)] [(.int (0 : Int32)), (.ref b2)])) rfl rfl (hb hby d4_26)) ?_
  show OutW _ _ _ _ _ _ _ (T4.setTop (mkF m 27 #[.val (.ref a1), .val (.int p2)] [(.ref d3)]))
  refine OutW.back (fun t k => XS.aloadN X4.here hx rfl (hb hby d4_27) rfl rfl  k) ?_
  show OutW _ _ _ _ _ _ _ (T4.setTop (mkF m 28 #[.val (.ref a1), .val (.int p2)] [(.ref a1), (.ref d3)]))
  obtain ⟨T6, X6, e6, st6⟩ := getF X4 hx hZ hown (host := "") (Or.inl (hw _ (List.mem_of_getElem? (i := 29) rfl))) Via.refl e4 F_size_a1 (g := (mkF m 28 #[.val (.ref a1), .val (.int p2)] [(.ref a1), (.ref d3)])) rfl rfl (hb hby d4_28)
  refine OutW.back st6 ?_
  show OutW _ _ _ _ _ _ _ (T6.setTop (mkF m 31 #[.val (.ref a1), .val (.int p2)] [(.int (0 : Int32)), (.ref d3)]))
  refine OutW.back (X6.ldcInt hx hown (mvT hZ (hw _ (List.mem_of_getElem? (i := 37) rfl))) (g := (mkF m 31 #[.val (.ref a1), .val (.int p2)] [(.int (0 : Int32)), (.ref d3)])) rfl (hb hby d4_31)) ?_
  show OutW _ _ _ _ _ _ _ (T6.setTop (mkF m 33 #[.val (.ref a1), .val (.int p2)] [(.int (65535 : Int32)), (.int (0 : Int32)), (.ref d3)]))
  refine OutW.back (fun t k => XS.iand X6.here hx rfl (hb hby d4_33) rfl k) ?_
  show OutW _ _ _ _ _ _ _ (T6.setTop (mkF m 34 #[.val (.ref a1), .val (.int p2)] [(.int ((0 : Int32) &&& (65535 : Int32))), (.ref d3)]))
  rw [show ((0 : Int32) &&& (65535 : Int32)) = (0 : Int32) from by decide]
  refine OutW.back (fun t k => XS.iloadN X6.here hx rfl (hb hby d4_34) rfl  k) ?_
  show OutW _ _ _ _ _ _ _ (T6.setTop (mkF m 35 #[.val (.ref a1), .val (.int p2)] [(.int p2), (.int (0 : Int32)), (.ref d3)]))
  obtain ⟨cl7, Ar7, Qk7, Sz7, Nn7, Hh7, Gg7⟩ := id V_d3
  have hin7 : ¬ ((0 : Int32) < 0 ∨ cl7.slots.size ≤ ((0 : Int32)).toNatClampNeg) := inb_of Sz7 ⟨by decide, by decide⟩
  obtain ⟨T7, h7, X7, e7, W7, st7⟩ := stI X6 hx hZ e6 Ar7 (j := (0 : Int32)) hin7 (g := (mkF m 35 #[.val (.ref a1), .val (.int p2)] [(.int p2), (.int (0 : Int32)), (.ref d3)])) rfl rfl (hb hby d4_35)
  have V_d3_7 : Arv Z h7 d3 kD .int (8 : Int32) [(.int p2), (.int w1), (.int w2), (.int w3), (.int w4), (.int w5), (.int w6), (.int w7)] (.int (0 : Int32)) := Arv.set Ar7 Qk7 Sz7 Nn7 Hh7 Gg7 rfl W7 0 rfl (Nat.le_of_ble_eq_true rfl)
  have E_a1 := E_a1.wr W7
  have F_blockBits_a1 := F_blockBits_a1.other W7 (Or.inl (Ne.symm ne_d3_a1))
  have F_capacity_a1 := F_capacity_a1.other W7 (Or.inl (Ne.symm ne_d3_a1))
  have F_size_a1 := F_size_a1.other W7 (Or.inl (Ne.symm ne_d3_a1))
  have F_blocks_a1 := F_blocks_a1.other W7 (Or.inl (Ne.symm ne_d3_a1))
  have F_before_a1 := F_before_a1.other W7 (Or.inl (Ne.symm ne_d3_a1))
  have V_b2 := V_b2.other W7 (Ne.symm ne_d3_b2)
  have N7 := Fr.snoc X7 N2 g_d3
  have Z7 : n0 ≤ h7.size := Nat.le_trans Z0 (Keep.of_wr W7).1
  have K7 := K0.wr W7 (Or.inl (List.mem_of_getElem? (i := 1) rfl))
  obtain ⟨lc7, X7, N7⟩ : ∃ lc, Stand p l e ({ frames := 1, cells := 0, slots := 0, locals := 13 } : Room) s m #[(.ref a1), (.int p2)] below meth c T7 lc 0 0 ∧ Fr n0 lc := ⟨_, X7, N7⟩
  refine OutW.back st7 ?_
  show OutW _ _ _ _ _ _ _ (T7.setTop (mkF m 36 #[.val (.ref a1), .val (.int p2)] []))
  refine OutW.back (fun t k => XS.aloadN X7.here hx rfl (hb hby d4_36) rfl rfl  k) ?_
  show OutW _ _ _ _ _ _ _ (T7.setTop (mkF m 37 #[.val (.ref a1), .val (.int p2)] [(.ref a1)]))
  refine OutW.back (fun t k => XS.dup X7.here hx rfl (hb hby d4_37) rfl rfl k) ?_
  show OutW _ _ _ _ _ _ _ (T7.setTop (mkF m 38 #[.val (.ref a1), .val (.int p2)] [(.ref a1), (.ref a1)]))
  obtain ⟨T8, X8, e8, st8⟩ := getF X7 hx hZ hown (host := "") (Or.inl (hw _ (List.mem_of_getElem? (i := 29) rfl))) Via.refl e7 F_size_a1 (g := (mkF m 38 #[.val (.ref a1), .val (.int p2)] [(.ref a1), (.ref a1)])) rfl rfl (hb hby d4_38)
  refine OutW.back st8 ?_
  show OutW _ _ _ _ _ _ _ (T8.setTop (mkF m 41 #[.val (.ref a1), .val (.int p2)] [(.int (0 : Int32)), (.ref a1)]))
  refine OutW.back (fun t k => XS.iconst X8.here hx rfl (hb hby d4_41) k) ?_
  show OutW _ _ _ _ _ _ _ (T8.setTop (mkF m 42 #[.val (.ref a1), .val (.int p2)] [(.int (1 : Int32)), (.int (0 : Int32)), (.ref a1)]))
  refine OutW.back (fun t k => XS.iadd X8.here hx rfl (hb hby d4_42) rfl k) ?_
  show OutW _ _ _ _ _ _ _ (T8.setTop (mkF m 43 #[.val (.ref a1), .val (.int p2)] [(.int ((0 : Int32) + (1 : Int32))), (.ref a1)]))
  rw [show ((0 : Int32) + (1 : Int32)) = (1 : Int32) from by decide]
  obtain ⟨T9, h9, X9, e9, W9, st9⟩ := putF X8 hx hZ hown (host := "") (Or.inl (hw _ (List.mem_of_getElem? (i := 29) rfl))) Via.refl e8 F_size_a1 E_a1 (Or.inl (hw _ (List.mem_of_getElem? (i := 30) rfl))) (hw _ (List.mem_of_getElem? (i := 1) rfl)) (ty := .int) (by decide) rfl rfl (g := (mkF m 43 #[.val (.ref a1), .val (.int p2)] [(.int (1 : Int32)), (.ref a1)])) rfl rfl (hb hby d4_43)
  have E_a1 := E_a1.wr W9
  have F_blockBits_a1 := F_blockBits_a1.other W9 (Or.inr (slot_ne (Or.inr (hw _ (List.mem_of_getElem? (i := 15) rfl))) (Or.inl (hw _ (List.mem_of_getElem? (i := 30) rfl))) (by decide) (t := .int) (t' := .int) (by decide) (by decide)))
  have F_capacity_a1 := F_capacity_a1.other W9 (Or.inr (slot_ne (Or.inl (hw _ (List.mem_of_getElem? (i := 17) rfl))) (Or.inl (hw _ (List.mem_of_getElem? (i := 30) rfl))) (by decide) (t := .int) (t' := .int) (by decide) (by decide)))
  have F_size_a1 := F_size_a1.same W9
  have F_blocks_a1 := F_blocks_a1.other W9 (Or.inr (slot_ne (Or.inl (hw _ (List.mem_of_getElem? (i := 23) rfl))) (Or.inl (hw _ (List.mem_of_getElem? (i := 30) rfl))) (by decide) (t := (.array (.array .int))) (t' := .int) (by decide) (by decide)))
  have F_before_a1 := F_before_a1.other W9 (Or.inr (slot_ne (Or.inl (hw _ (List.mem_of_getElem? (i := 68) rfl))) (Or.inl (hw _ (List.mem_of_getElem? (i := 30) rfl))) (by decide) (t := (.object "com/example/xml_document_query/xmldocumentquery/tree/IntColumn")) (t' := .int) (by decide) (by decide)))
  have V_b2 := V_b2.other W9 (Ne.symm ne_a1_b2)
  have V_d3_7 := V_d3_7.other W9 ne_d3_a1
  have N9 := Fr.snoc X9 N7 g_a1
  have Z9 : n0 ≤ h9.size := Nat.le_trans Z7 (Keep.of_wr W9).1
  have K9 := K7.wr W9 (Or.inl (List.mem_of_getElem? (i := 0) rfl))
  obtain ⟨lc9, X9, N9⟩ : ∃ lc, Stand p l e ({ frames := 1, cells := 0, slots := 0, locals := 13 } : Room) s m #[(.ref a1), (.int p2)] below meth c T9 lc 0 0 ∧ Fr n0 lc := ⟨_, X9, N9⟩
  refine OutW.back st9 ?_
  show OutW _ _ _ _ _ _ _ (T9.setTop (mkF m 46 #[.val (.ref a1), .val (.int p2)] []))
  refine OutW.retV X9 hx Bd.returns hlk (hb hby d4_46) (by decide) (by decide) ?_
  show Q4_0_8 Z a1 p2 b2 d3 kB kD w0 w1 w2 w3 w4 w5 w6 w7 w_before h0 n0 _ T9.heap _
  rw [e9]
  exact ⟨rfl, N9, K9, F_blockBits_a1, F_capacity_a1, F_size_a1, F_blocks_a1, F_before_a1, V_d3_7⟩
theorem ef_4_1_8 (m : MethodId) (x0 : Addr) (x1 : Int32) : entryFrame m #[(.ref x0), (.int x1)] 2 = mkF m 0 #[.val (.ref x0), .val (.int x1)] [] := by first | (simp [entryFrame, mkF, argsToLocals, Value.category]; done) | rfl
def Q4_1_8 (Z : State) (a1 : Addr) (p2 : Int32) (b2 : Addr) (d3 : Addr) (kB : ClassId) (kD : ClassId) (w0 : Int32) (w1 : Int32) (w2 : Int32) (w3 : Int32) (w4 : Int32) (w5 : Int32) (w6 : Int32) (w7 : Int32) (w_before : Value) (h0 : Heap) (n0 : Nat) (v : Option Value) (h : Heap) (L : List Loc) : Prop := v = none ∧ Fr n0 L ∧ Keep h0 h [a1, d3] ∧ Fld Z h a1 "com/example/xml_document_query/xmldocumentquery/tree/BlockedArray" "blockBits" "I" (.int (16 : Int32)) ∧ Fld Z h a1 "com/example/xml_document_query/xmldocumentquery/tree/BlockedArray" "capacity" "I" (.int (8 : Int32)) ∧ Fld Z h a1 "com/example/xml_document_query/xmldocumentquery/tree/IntColumn" "size" "I" (.int (2 : Int32)) ∧ Fld Z h a1 "com/example/xml_document_query/xmldocumentquery/tree/IntColumn" "blocks" "[[I" (.ref b2) ∧ Fld Z h a1 "com/example/xml_document_query/xmldocumentquery/tree/IntColumn" "before" "Lcom/example/xml_document_query/xmldocumentquery/tree/IntColumn;" w_before ∧ Arv Z h d3 kD .int (8 : Int32) [(.int w0), (.int p2), (.int w2), (.int w3), (.int w4), (.int w5), (.int w6), (.int w7)] (.int (0 : Int32))
set_option maxRecDepth 65536 in
set_option maxHeartbeats 40000000 in
theorem rm4_1_8 (l : Launch) (Z : State) (a0 : Array Value) (hw : ∀ d ∈ tables_1, d.before a0 Z = true) (ws : List Jvm.Cond) (a1 : Addr) (p2 : Int32) (b2 : Addr) (d3 : Addr) (kB : ClassId) (kD : ClassId) (w0 : Int32) (w1 : Int32) (w2 : Int32) (w3 : Int32) (w4 : Int32) (w5 : Int32) (w6 : Int32) (w7 : Int32) (w_before : Value) (h0 : Heap) (n0 : Nat) (Z0 : n0 ≤ h0.size) (E_a1 : Exa Z h0 a1 "com/example/xml_document_query/xmldocumentquery/tree/IntColumn") (g_a1 : n0 ≤ a1) (F_blockBits_a1 : Fld Z h0 a1 "com/example/xml_document_query/xmldocumentquery/tree/BlockedArray" "blockBits" "I" (.int (16 : Int32))) (F_capacity_a1 : Fld Z h0 a1 "com/example/xml_document_query/xmldocumentquery/tree/BlockedArray" "capacity" "I" (.int (8 : Int32))) (F_size_a1 : Fld Z h0 a1 "com/example/xml_document_query/xmldocumentquery/tree/IntColumn" "size" "I" (.int (1 : Int32))) (F_blocks_a1 : Fld Z h0 a1 "com/example/xml_document_query/xmldocumentquery/tree/IntColumn" "blocks" "[[I" (.ref b2)) (F_before_a1 : Fld Z h0 a1 "com/example/xml_document_query/xmldocumentquery/tree/IntColumn" "before" "Lcom/example/xml_document_query/xmldocumentquery/tree/IntColumn;" w_before) (V_b2 : Arv Z h0 b2 kB (.array .int) (1 : Int32) [(.ref d3)] .null) (O_b2 : OvrA Z kB .int "[I") (V_d3 : Arv Z h0 d3 kD .int (8 : Int32) [(.int w0), (.int w1), (.int w2), (.int w3), (.int w4), (.int w5), (.int w6), (.int w7)] (.int (0 : Int32))) (ne_a1_b2 : a1 ≠ b2) (ne_d3_b2 : d3 ≠ b2) (ne_d3_a1 : d3 ≠ a1) (g_b2 : n0 ≤ b2) (g_d3 : n0 ≤ d3) :
    MetFree l (⟨"com/example/xml_document_query/xmldocumentquery/tree/IntColumn", "add", "(I)V"⟩ : MethodName) (head1 (Jvm.Cond.code (⟨"com/example/xml_document_query/xmldocumentquery/tree/IntColumn", "add", "(I)V"⟩ : MethodName) prog_168_method_2_code 2 none :: ws) ({ frames := 1, cells := 0, slots := 0, locals := 13 } : Room)) (fun a U => a = #[(.ref a1), (.int p2)] ∧ Z.Warmed39 U.vm ∧ U.heap = h0) (fun _ _ _ _ _ => True) (fun _ U o U' => ∃ v L, o = .returned v ∧ Q4_1_8 Z a1 p2 b2 d3 kB kD w0 w1 w2 w3 w4 w5 w6 w7 w_before h0 n0 v U'.heap L ∧ FrameEnd U o U' L ({ frames := 1, cells := 0, slots := 0, locals := 13 } : Room).cells ({ frames := 1, cells := 0, slots := 0, locals := 13 } : Room).slots) := by
  refine MetFree.of_bodySF (plainFor_of_name pn_4) hisR ?_
  intro p e s m args below meth c s₁ Bd hml0 hP hK
  obtain ⟨rfl, hZ, hh⟩ := hP
  have hx := Bd.exec
  have hby := Bd.bytes
  have hlk := Bd.notSynchronized
  have hml : c.maxLocals = 2 := hml0
  have hown : s.vm.findClass "com/example/xml_document_query/xmldocumentquery/tree/IntColumn" = some m.cls := findClass_of_methodNamed Bd.named
  have hnm := (name_of_methodNamed Bd.named Bd.method).1
  have X0 : Stand p l e ({ frames := 1, cells := 0, slots := 0, locals := 13 } : Room) s m #[(.ref a1), (.int p2)] below meth c s₁ [] 0 0 := Stand.of_body Bd
  have e0 : s₁.heap = h0 := by rw [← hh, Bd.state]; rfl
  have N0 := Fr.nil n0
  have K0 : Keep h0 h0 [a1, d3] := Keep.refl h0 _
  show OutW p e below s ({ frames := 1, cells := 0, slots := 0, locals := 13 } : Room).cells ({ frames := 1, cells := 0, slots := 0, locals := 13 } : Room).slots (Q4_1_8 Z a1 p2 b2 d3 kB kD w0 w1 w2 w3 w4 w5 w6 w7 w_before h0 n0) _
  refine OutW.back (fun t k => castTop (ef_4_1_8 m a1 p2) k) ?_
  show OutW _ _ _ _ _ _ _ (s₁.setTop (mkF m 0 #[.val (.ref a1), .val (.int p2)] []))
  refine OutW.back (fun t k => XS.aloadN X0.here hx rfl (hb hby d4_0) rfl rfl  k) ?_
  show OutW _ _ _ _ _ _ _ (s₁.setTop (mkF m 1 #[.val (.ref a1), .val (.int p2)] [(.ref a1)]))
  obtain ⟨T1, X1, e1, st1⟩ := getF X0 hx hZ hown (host := "") (Or.inl (hw _ (List.mem_of_getElem? (i := 29) rfl))) Via.refl e0 F_size_a1 (g := (mkF m 1 #[.val (.ref a1), .val (.int p2)] [(.ref a1)])) rfl rfl (hb hby d4_1)
  refine OutW.back st1 ?_
  show OutW _ _ _ _ _ _ _ (T1.setTop (mkF m 4 #[.val (.ref a1), .val (.int p2)] [(.int (1 : Int32))]))
  refine OutW.back (fun t k => XS.aloadN X1.here hx rfl (hb hby d4_4) rfl rfl  k) ?_
  show OutW _ _ _ _ _ _ _ (T1.setTop (mkF m 5 #[.val (.ref a1), .val (.int p2)] [(.ref a1), (.int (1 : Int32))]))
  obtain ⟨cq2, kq2, qa2, qb2, qc2⟩ := isOf hZ e1 E_a1
  obtain ⟨_, _, ⟨T2, L2, k2, n2⟩, -, X2, ⟨Lc2, hQ2, l2, y2, z2⟩, st2⟩ := X1.virtualBackUp hx (x := (⟨"com/example/xml_document_query/xmldocumentquery/tree/IntColumn", "capacity", "()I"⟩ : MethodName)) (y := (⟨"com/example/xml_document_query/xmldocumentquery/tree/BlockedArray", "capacity", "()I"⟩ : MethodName)) (owner := "com/example/xml_document_query/xmldocumentquery/tree/BlockedArray") hown (mvT hZ (hw _ (List.mem_of_getElem? (i := 31) rfl))) (mvT hZ (hw _ (List.mem_of_getElem? (i := 32) rfl))) (mvT hZ (hw _ (List.mem_of_getElem? (i := 33) rfl))) (by decide) (mvT hZ (hw _ (List.mem_of_getElem? (i := 35) rfl))) (mvT hZ (hw _ (List.mem_of_getElem? (i := 34) rfl))) (backOf (W := 1) (rm5 l Z a0 hw [] a1 (8 : Int32) h0 n0 Z0 F_capacity_a1) hZ (hw _ (List.mem_of_getElem? (i := 36) rfl)) (hw _ (List.mem_of_getElem? (i := 9) rfl)) (by decide) (by decide)) qa2 qc2 (g := (mkF m 5 #[.val (.ref a1), .val (.int p2)] [(.ref a1), (.int (1 : Int32))])) rfl (by rw [hml]; rfl) (Steps.refl _) (argsL := []) (rest := [(.int (1 : Int32))]) (lenOf pd_4 rfl) rfl (by show 2 * 0 + _ ≤ _; exact Nat.le_of_eq rfl) (hb hby d4_5) (fun _ _ => ⟨rfl, e1, (by decide : 0 + 0 ≤ _), (by decide : 0 + 0 ≤ _)⟩)
  dsimp only [Pt.U, Pt.locs, Pt.cells, Pt.slots] at X2 l2 y2 z2 st2 hQ2
  subst l2 y2 z2
  obtain ⟨rfl, Nq2, e2⟩ := hQ2
  have N2 := Fr.app N0 Nq2
  obtain ⟨lc2, X2, N2⟩ : ∃ lc, Stand p l e ({ frames := 1, cells := 0, slots := 0, locals := 13 } : Room) s m #[(.ref a1), (.int p2)] below meth c T2 lc 0 0 ∧ Fr n0 lc := ⟨_, X2, N2⟩
  refine OutW.via st2 ?_
  show OutW _ _ _ _ _ _ _ (T2.setTop (mkF m 8 #[.val (.ref a1), .val (.int p2)] [(.int (8 : Int32)), (.int (1 : Int32))]))
  refine OutW.back (fun t k => XS.icmpYes X2.here hx rfl (pc0 := 8) (pc' := 15) rfl (hb hby d4_8) rfl (feq (by decide : ¬ ((1 : Int32) = (8 : Int32)))).2 (by decide) (by decide) k) ?_
  show OutW _ _ _ _ _ _ _ (T2.setTop (mkF m 15 #[.val (.ref a1), .val (.int p2)] []))
  refine OutW.back (fun t k => XS.aloadN X2.here hx rfl (hb hby d4_15) rfl rfl  k) ?_
  show OutW _ _ _ _ _ _ _ (T2.setTop (mkF m 16 #[.val (.ref a1), .val (.int p2)] [(.ref a1)]))
  obtain ⟨T3, X3, e3, st3⟩ := getF X2 hx hZ hown (host := "") (Or.inl (hw _ (List.mem_of_getElem? (i := 22) rfl))) Via.refl e2 F_blocks_a1 (g := (mkF m 16 #[.val (.ref a1), .val (.int p2)] [(.ref a1)])) rfl rfl (hb hby d4_16)
  refine OutW.back st3 ?_
  show OutW _ _ _ _ _ _ _ (T3.setTop (mkF m 19 #[.val (.ref a1), .val (.int p2)] [(.ref b2)]))
  refine OutW.back (fun t k => XS.aloadN X3.here hx rfl (hb hby d4_19) rfl rfl  k) ?_
  show OutW _ _ _ _ _ _ _ (T3.setTop (mkF m 20 #[.val (.ref a1), .val (.int p2)] [(.ref a1), (.ref b2)]))
  obtain ⟨T4, X4, e4, st4⟩ := getF X3 hx hZ hown (host := "") (Or.inl (hw _ (List.mem_of_getElem? (i := 29) rfl))) Via.refl e3 F_size_a1 (g := (mkF m 20 #[.val (.ref a1), .val (.int p2)] [(.ref a1), (.ref b2)])) rfl rfl (hb hby d4_20)
  refine OutW.back st4 ?_
  show OutW _ _ _ _ _ _ _ (T4.setTop (mkF m 23 #[.val (.ref a1), .val (.int p2)] [(.int (1 : Int32)), (.ref b2)]))
  refine OutW.back (fun t k => XS.bipush X4.here hx rfl (hb hby d4_23) k) ?_
  show OutW _ _ _ _ _ _ _ (T4.setTop (mkF m 25 #[.val (.ref a1), .val (.int p2)] [(.int (16 : Int32)), (.int (1 : Int32)), (.ref b2)]))
  refine OutW.back (fun t k => XS.iushr X4.here hx rfl (hb hby d4_25) rfl k) ?_
  show OutW _ _ _ _ _ _ _ (T4.setTop (mkF m 26 #[.val (.ref a1), .val (.int p2)] [(.int (((1 : Int32).toUInt32 >>> ((16 : Int32) &&& 31).toUInt32).toInt32)), (.ref b2)]))
  rw [show (((1 : Int32).toUInt32 >>> ((16 : Int32) &&& 31).toUInt32).toInt32) = (0 : Int32) from by decide]
  obtain ⟨cl5, Ar5, Qk5, Sz5, Nn5, Hh5, Gg5⟩ := id V_b2
  have hin5 : ¬ ((0 : Int32) < 0 ∨ cl5.slots.size ≤ ((0 : Int32)).toNatClampNeg) := inb_of Sz5 ⟨by decide, by decide⟩
  refine OutW.back (X4.aaload hx (j := (0 : Int32)) (v := (.ref d3)) (by rw [e4]; exact Ar5.1) (State.isArrayOf_alike hZ.alike Ar5.2.1) rfl Ar5.2.2 hin5 (Hh5.at hin5 (by rfl)) (g := (mkF m 26 #[.val (.ref a1), .val (.int p2)] [(.int (0 : Int32)), (.ref b2)])) rfl rfl (hb hby d4_26)) ?_
  show OutW _ _ _ _ _ _ _ (T4.setTop (mkF m 27 #[.val (.ref a1), .val (.int p2)] [(.ref d3)]))
  refine OutW.back (fun t k => XS.aloadN X4.here hx rfl (hb hby d4_27) rfl rfl  k) ?_
  show OutW _ _ _ _ _ _ _ (T4.setTop (mkF m 28 #[.val (.ref a1), .val (.int p2)] [(.ref a1), (.ref d3)]))
  obtain ⟨T6, X6, e6, st6⟩ := getF X4 hx hZ hown (host := "") (Or.inl (hw _ (List.mem_of_getElem? (i := 29) rfl))) Via.refl e4 F_size_a1 (g := (mkF m 28 #[.val (.ref a1), .val (.int p2)] [(.ref a1), (.ref d3)])) rfl rfl (hb hby d4_28)
  refine OutW.back st6 ?_
  show OutW _ _ _ _ _ _ _ (T6.setTop (mkF m 31 #[.val (.ref a1), .val (.int p2)] [(.int (1 : Int32)), (.ref d3)]))
  refine OutW.back (X6.ldcInt hx hown (mvT hZ (hw _ (List.mem_of_getElem? (i := 37) rfl))) (g := (mkF m 31 #[.val (.ref a1), .val (.int p2)] [(.int (1 : Int32)), (.ref d3)])) rfl (hb hby d4_31)) ?_
  show OutW _ _ _ _ _ _ _ (T6.setTop (mkF m 33 #[.val (.ref a1), .val (.int p2)] [(.int (65535 : Int32)), (.int (1 : Int32)), (.ref d3)]))
  refine OutW.back (fun t k => XS.iand X6.here hx rfl (hb hby d4_33) rfl k) ?_
  show OutW _ _ _ _ _ _ _ (T6.setTop (mkF m 34 #[.val (.ref a1), .val (.int p2)] [(.int ((1 : Int32) &&& (65535 : Int32))), (.ref d3)]))
  rw [show ((1 : Int32) &&& (65535 : Int32)) = (1 : Int32) from by decide]
  refine OutW.back (fun t k => XS.iloadN X6.here hx rfl (hb hby d4_34) rfl  k) ?_
  show OutW _ _ _ _ _ _ _ (T6.setTop (mkF m 35 #[.val (.ref a1), .val (.int p2)] [(.int p2), (.int (1 : Int32)), (.ref d3)]))
  obtain ⟨cl7, Ar7, Qk7, Sz7, Nn7, Hh7, Gg7⟩ := id V_d3
  have hin7 : ¬ ((1 : Int32) < 0 ∨ cl7.slots.size ≤ ((1 : Int32)).toNatClampNeg) := inb_of Sz7 ⟨by decide, by decide⟩
  obtain ⟨T7, h7, X7, e7, W7, st7⟩ := stI X6 hx hZ e6 Ar7 (j := (1 : Int32)) hin7 (g := (mkF m 35 #[.val (.ref a1), .val (.int p2)] [(.int p2), (.int (1 : Int32)), (.ref d3)])) rfl rfl (hb hby d4_35)
  have V_d3_7 : Arv Z h7 d3 kD .int (8 : Int32) [(.int w0), (.int p2), (.int w2), (.int w3), (.int w4), (.int w5), (.int w6), (.int w7)] (.int (0 : Int32)) := Arv.set Ar7 Qk7 Sz7 Nn7 Hh7 Gg7 rfl W7 1 rfl (Nat.le_of_ble_eq_true rfl)
  have E_a1 := E_a1.wr W7
  have F_blockBits_a1 := F_blockBits_a1.other W7 (Or.inl (Ne.symm ne_d3_a1))
  have F_capacity_a1 := F_capacity_a1.other W7 (Or.inl (Ne.symm ne_d3_a1))
  have F_size_a1 := F_size_a1.other W7 (Or.inl (Ne.symm ne_d3_a1))
  have F_blocks_a1 := F_blocks_a1.other W7 (Or.inl (Ne.symm ne_d3_a1))
  have F_before_a1 := F_before_a1.other W7 (Or.inl (Ne.symm ne_d3_a1))
  have V_b2 := V_b2.other W7 (Ne.symm ne_d3_b2)
  have N7 := Fr.snoc X7 N2 g_d3
  have Z7 : n0 ≤ h7.size := Nat.le_trans Z0 (Keep.of_wr W7).1
  have K7 := K0.wr W7 (Or.inl (List.mem_of_getElem? (i := 1) rfl))
  obtain ⟨lc7, X7, N7⟩ : ∃ lc, Stand p l e ({ frames := 1, cells := 0, slots := 0, locals := 13 } : Room) s m #[(.ref a1), (.int p2)] below meth c T7 lc 0 0 ∧ Fr n0 lc := ⟨_, X7, N7⟩
  refine OutW.back st7 ?_
  show OutW _ _ _ _ _ _ _ (T7.setTop (mkF m 36 #[.val (.ref a1), .val (.int p2)] []))
  refine OutW.back (fun t k => XS.aloadN X7.here hx rfl (hb hby d4_36) rfl rfl  k) ?_
  show OutW _ _ _ _ _ _ _ (T7.setTop (mkF m 37 #[.val (.ref a1), .val (.int p2)] [(.ref a1)]))
  refine OutW.back (fun t k => XS.dup X7.here hx rfl (hb hby d4_37) rfl rfl k) ?_
  show OutW _ _ _ _ _ _ _ (T7.setTop (mkF m 38 #[.val (.ref a1), .val (.int p2)] [(.ref a1), (.ref a1)]))
  obtain ⟨T8, X8, e8, st8⟩ := getF X7 hx hZ hown (host := "") (Or.inl (hw _ (List.mem_of_getElem? (i := 29) rfl))) Via.refl e7 F_size_a1 (g := (mkF m 38 #[.val (.ref a1), .val (.int p2)] [(.ref a1), (.ref a1)])) rfl rfl (hb hby d4_38)
  refine OutW.back st8 ?_
  show OutW _ _ _ _ _ _ _ (T8.setTop (mkF m 41 #[.val (.ref a1), .val (.int p2)] [(.int (1 : Int32)), (.ref a1)]))
  refine OutW.back (fun t k => XS.iconst X8.here hx rfl (hb hby d4_41) k) ?_
  show OutW _ _ _ _ _ _ _ (T8.setTop (mkF m 42 #[.val (.ref a1), .val (.int p2)] [(.int (1 : Int32)), (.int (1 : Int32)), (.ref a1)]))
  refine OutW.back (fun t k => XS.iadd X8.here hx rfl (hb hby d4_42) rfl k) ?_
  show OutW _ _ _ _ _ _ _ (T8.setTop (mkF m 43 #[.val (.ref a1), .val (.int p2)] [(.int ((1 : Int32) + (1 : Int32))), (.ref a1)]))
  rw [show ((1 : Int32) + (1 : Int32)) = (2 : Int32) from by decide]
  obtain ⟨T9, h9, X9, e9, W9, st9⟩ := putF X8 hx hZ hown (host := "") (Or.inl (hw _ (List.mem_of_getElem? (i := 29) rfl))) Via.refl e8 F_size_a1 E_a1 (Or.inl (hw _ (List.mem_of_getElem? (i := 30) rfl))) (hw _ (List.mem_of_getElem? (i := 1) rfl)) (ty := .int) (by decide) rfl rfl (g := (mkF m 43 #[.val (.ref a1), .val (.int p2)] [(.int (2 : Int32)), (.ref a1)])) rfl rfl (hb hby d4_43)
  have E_a1 := E_a1.wr W9
  have F_blockBits_a1 := F_blockBits_a1.other W9 (Or.inr (slot_ne (Or.inr (hw _ (List.mem_of_getElem? (i := 15) rfl))) (Or.inl (hw _ (List.mem_of_getElem? (i := 30) rfl))) (by decide) (t := .int) (t' := .int) (by decide) (by decide)))
  have F_capacity_a1 := F_capacity_a1.other W9 (Or.inr (slot_ne (Or.inl (hw _ (List.mem_of_getElem? (i := 17) rfl))) (Or.inl (hw _ (List.mem_of_getElem? (i := 30) rfl))) (by decide) (t := .int) (t' := .int) (by decide) (by decide)))
  have F_size_a1 := F_size_a1.same W9
  have F_blocks_a1 := F_blocks_a1.other W9 (Or.inr (slot_ne (Or.inl (hw _ (List.mem_of_getElem? (i := 23) rfl))) (Or.inl (hw _ (List.mem_of_getElem? (i := 30) rfl))) (by decide) (t := (.array (.array .int))) (t' := .int) (by decide) (by decide)))
  have F_before_a1 := F_before_a1.other W9 (Or.inr (slot_ne (Or.inl (hw _ (List.mem_of_getElem? (i := 68) rfl))) (Or.inl (hw _ (List.mem_of_getElem? (i := 30) rfl))) (by decide) (t := (.object "com/example/xml_document_query/xmldocumentquery/tree/IntColumn")) (t' := .int) (by decide) (by decide)))
  have V_b2 := V_b2.other W9 (Ne.symm ne_a1_b2)
  have V_d3_7 := V_d3_7.other W9 ne_d3_a1
  have N9 := Fr.snoc X9 N7 g_a1
  have Z9 : n0 ≤ h9.size := Nat.le_trans Z7 (Keep.of_wr W9).1
  have K9 := K7.wr W9 (Or.inl (List.mem_of_getElem? (i := 0) rfl))
  obtain ⟨lc9, X9, N9⟩ : ∃ lc, Stand p l e ({ frames := 1, cells := 0, slots := 0, locals := 13 } : Room) s m #[(.ref a1), (.int p2)] below meth c T9 lc 0 0 ∧ Fr n0 lc := ⟨_, X9, N9⟩
  refine OutW.back st9 ?_
  show OutW _ _ _ _ _ _ _ (T9.setTop (mkF m 46 #[.val (.ref a1), .val (.int p2)] []))
  refine OutW.retV X9 hx Bd.returns hlk (hb hby d4_46) (by decide) (by decide) ?_
  show Q4_1_8 Z a1 p2 b2 d3 kB kD w0 w1 w2 w3 w4 w5 w6 w7 w_before h0 n0 _ T9.heap _
  rw [e9]
  exact ⟨rfl, N9, K9, F_blockBits_a1, F_capacity_a1, F_size_a1, F_blocks_a1, F_before_a1, V_d3_7⟩
theorem d10_0 : decode prog_168_method_3_code 0 = .ok (.aload_n 0, 1) := by decide +kernel
theorem d10_1 : decode prog_168_method_3_code 1 = .ok (.getfield 28, 3) := by decide +kernel
theorem d10_4 : decode prog_168_method_3_code 4 = .ok (.ifnonnull 15, 3) := by decide +kernel
theorem d10_7 : decode prog_168_method_3_code 7 = .ok (.aload_n 0, 1) := by decide +kernel
theorem d10_8 : decode prog_168_method_3_code 8 = .ok (.new 1, 3) := by decide +kernel
theorem d10_11 : decode prog_168_method_3_code 11 = .ok (.dup, 1) := by decide +kernel
theorem d10_12 : decode prog_168_method_3_code 12 = .ok (.iconst 4, 1) := by decide +kernel
theorem d10_13 : decode prog_168_method_3_code 13 = .ok (.invokespecial 32, 3) := by decide +kernel
theorem d10_16 : decode prog_168_method_3_code 16 = .ok (.putfield 28, 3) := by decide +kernel
theorem d10_19 : decode prog_168_method_3_code 19 = .ok (.aload_n 0, 1) := by decide +kernel
theorem d10_20 : decode prog_168_method_3_code 20 = .ok (.getfield 28, 3) := by decide +kernel
theorem d10_23 : decode prog_168_method_3_code 23 = .ok (.iload_n 1, 1) := by decide +kernel
theorem d10_24 : decode prog_168_method_3_code 24 = .ok (.invokevirtual 35, 3) := by decide +kernel
theorem d10_27 : decode prog_168_method_3_code 27 = .ok (.return_, 1) := by decide +kernel
theorem pn_10 : plainName "com/example/xml_document_query/xmldocumentquery/tree/IntColumn" = true := by first | (simp [plainName, overriddenIn]; done) | decide +kernel
theorem ef_10_0 (m : MethodId) (x0 : Addr) (x1 : Int32) : entryFrame m #[(.ref x0), (.int x1)] 2 = mkF m 0 #[.val (.ref x0), .val (.int x1)] [] := by first | (simp [entryFrame, mkF, argsToLocals, Value.category]; done) | rfl
def Q10_0 (Z : State) (a1 : Addr) (p2 : Int32) (w_cap : Int32) (w_blocks : Addr) (h0 : Heap) (n0 : Nat) (v : Option Value) (h : Heap) (L : List Loc) : Prop := ∃ cN : Addr, ∃ bN : Addr, ∃ dN : Addr, ∃ kB : ClassId, ∃ kD : ClassId, v = none ∧ Fr n0 L ∧ Keep h0 h [a1] ∧ Fld Z h a1 "com/example/xml_document_query/xmldocumentquery/tree/BlockedArray" "blockBits" "I" (.int (16 : Int32)) ∧ Fld Z h a1 "com/example/xml_document_query/xmldocumentquery/tree/BlockedArray" "capacity" "I" (.int w_cap) ∧ Fld Z h a1 "com/example/xml_document_query/xmldocumentquery/tree/IntColumn" "size" "I" (.int (2 : Int32)) ∧ Fld Z h a1 "com/example/xml_document_query/xmldocumentquery/tree/IntColumn" "blocks" "[[I" (.ref w_blocks) ∧ Fld Z h a1 "com/example/xml_document_query/xmldocumentquery/tree/IntColumn" "before" "Lcom/example/xml_document_query/xmldocumentquery/tree/IntColumn;" (.ref cN) ∧ h0.size ≤ cN ∧ h0.size ≤ bN ∧ h0.size ≤ dN ∧ n0 ≤ cN ∧ n0 ≤ bN ∧ n0 ≤ dN ∧ cN ≠ bN ∧ cN ≠ dN ∧ bN ≠ dN ∧ Exa Z h cN "com/example/xml_document_query/xmldocumentquery/tree/IntColumn" ∧ Fld Z h cN "com/example/xml_document_query/xmldocumentquery/tree/BlockedArray" "blockBits" "I" (.int (16 : Int32)) ∧ Fld Z h cN "com/example/xml_document_query/xmldocumentquery/tree/BlockedArray" "capacity" "I" (.int (4 : Int32)) ∧ Fld Z h cN "com/example/xml_document_query/xmldocumentquery/tree/IntColumn" "size" "I" (.int (1 : Int32)) ∧ Fld Z h cN "com/example/xml_document_query/xmldocumentquery/tree/IntColumn" "blocks" "[[I" (.ref bN) ∧ Fld Z h cN "com/example/xml_document_query/xmldocumentquery/tree/IntColumn" "before" "Lcom/example/xml_document_query/xmldocumentquery/tree/IntColumn;" .null ∧ Arv Z h bN kB (.array .int) (1 : Int32) [(.ref dN)] .null ∧ Arv Z h dN kD .int (4 : Int32) [(.int p2), (.int (0 : Int32)), (.int (0 : Int32)), (.int (0 : Int32))] (.int (0 : Int32)) ∧ OvrA Z kB .int "[I"
set_option maxRecDepth 65536 in
set_option maxHeartbeats 40000000 in
theorem rm10_0 (l : Launch) (Z : State) (a0 : Array Value) (hw : ∀ d ∈ tables_1, d.before a0 Z = true) (ws : List Jvm.Cond) (a1 : Addr) (p2 : Int32) (w_cap : Int32) (w_blocks : Addr) (h0 : Heap) (n0 : Nat) (Z0 : n0 ≤ h0.size) (E_a1 : Exa Z h0 a1 "com/example/xml_document_query/xmldocumentquery/tree/IntColumn") (g_a1 : n0 ≤ a1) (F_blockBits_a1 : Fld Z h0 a1 "com/example/xml_document_query/xmldocumentquery/tree/BlockedArray" "blockBits" "I" (.int (16 : Int32))) (F_capacity_a1 : Fld Z h0 a1 "com/example/xml_document_query/xmldocumentquery/tree/BlockedArray" "capacity" "I" (.int w_cap)) (F_size_a1 : Fld Z h0 a1 "com/example/xml_document_query/xmldocumentquery/tree/IntColumn" "size" "I" (.int (2 : Int32))) (F_blocks_a1 : Fld Z h0 a1 "com/example/xml_document_query/xmldocumentquery/tree/IntColumn" "blocks" "[[I" (.ref w_blocks)) (F_before_a1 : Fld Z h0 a1 "com/example/xml_document_query/xmldocumentquery/tree/IntColumn" "before" "Lcom/example/xml_document_query/xmldocumentquery/tree/IntColumn;" .null) :
    MetFree l (⟨"com/example/xml_document_query/xmldocumentquery/tree/IntColumn", "addFirst", "(I)V"⟩ : MethodName) (head1 (Jvm.Cond.code (⟨"com/example/xml_document_query/xmldocumentquery/tree/IntColumn", "addFirst", "(I)V"⟩ : MethodName) prog_168_method_3_code 2 none :: ws) ({ frames := 3, cells := 3, slots := 10, locals := 41 } : Room)) (fun a U => a = #[(.ref a1), (.int p2)] ∧ Z.Warmed39 U.vm ∧ U.heap = h0) (fun _ _ _ _ _ => True) (fun _ U o U' => ∃ v L, o = .returned v ∧ Q10_0 Z a1 p2 w_cap w_blocks h0 n0 v U'.heap L ∧ FrameEnd U o U' L ({ frames := 3, cells := 3, slots := 10, locals := 41 } : Room).cells ({ frames := 3, cells := 3, slots := 10, locals := 41 } : Room).slots) := by
  refine MetFree.of_bodySF (plainFor_of_name pn_10) hisR ?_
  intro p e s m args below meth c s₁ Bd hml0 hP hK
  obtain ⟨rfl, hZ, hh⟩ := hP
  have hx := Bd.exec
  have hby := Bd.bytes
  have hlk := Bd.notSynchronized
  have hml : c.maxLocals = 2 := hml0
  have hown : s.vm.findClass "com/example/xml_document_query/xmldocumentquery/tree/IntColumn" = some m.cls := findClass_of_methodNamed Bd.named
  have hnm := (name_of_methodNamed Bd.named Bd.method).1
  have X0 : Stand p l e ({ frames := 3, cells := 3, slots := 10, locals := 41 } : Room) s m #[(.ref a1), (.int p2)] below meth c s₁ [] 0 0 := Stand.of_body Bd
  have e0 : s₁.heap = h0 := by rw [← hh, Bd.state]; rfl
  have N0 := Fr.nil n0
  have K0 : Keep h0 h0 [a1] := Keep.refl h0 _
  show OutW p e below s ({ frames := 3, cells := 3, slots := 10, locals := 41 } : Room).cells ({ frames := 3, cells := 3, slots := 10, locals := 41 } : Room).slots (Q10_0 Z a1 p2 w_cap w_blocks h0 n0) _
  refine OutW.back (fun t k => castTop (ef_10_0 m a1 p2) k) ?_
  show OutW _ _ _ _ _ _ _ (s₁.setTop (mkF m 0 #[.val (.ref a1), .val (.int p2)] []))
  refine OutW.back (fun t k => XS.aloadN X0.here hx rfl (hb hby d10_0) rfl rfl  k) ?_
  show OutW _ _ _ _ _ _ _ (s₁.setTop (mkF m 1 #[.val (.ref a1), .val (.int p2)] [(.ref a1)]))
  obtain ⟨T1, X1, e1, st1⟩ := getF X0 hx hZ hown (host := "") (Or.inl (hw _ (List.mem_of_getElem? (i := 67) rfl))) Via.refl e0 F_before_a1 (g := (mkF m 1 #[.val (.ref a1), .val (.int p2)] [(.ref a1)])) rfl rfl (hb hby d10_1)
  refine OutW.back st1 ?_
  show OutW _ _ _ _ _ _ _ (T1.setTop (mkF m 4 #[.val (.ref a1), .val (.int p2)] [.null]))
  refine OutW.back (fun t k => XS.ifnonnullNo X1.here hx rfl (hb hby d10_4) rfl k) ?_
  show OutW _ _ _ _ _ _ _ (T1.setTop (mkF m 7 #[.val (.ref a1), .val (.int p2)] []))
  refine OutW.back (fun t k => XS.aloadN X1.here hx rfl (hb hby d10_7) rfl rfl  k) ?_
  show OutW _ _ _ _ _ _ _ (T1.setTop (mkF m 8 #[.val (.ref a1), .val (.int p2)] [(.ref a1)]))
  obtain ⟨T2, h2, X2, e2, E2, A2, D2, -, st2⟩ := newO X1 hx hZ hown (hw _ (List.mem_of_getElem? (i := 69) rfl)) (hw _ (List.mem_of_getElem? (i := 1) rfl)) (hw _ (List.mem_of_getElem? (i := 2) rfl)) e1 (g := (mkF m 8 #[.val (.ref a1), .val (.int p2)] [(.ref a1)])) rfl (hb hby d10_8) (by decide) (by decide)
  obtain ⟨b2, g2⟩ : ∃ z, z = h0.size := ⟨_, rfl⟩
  rw [← g2] at A2 D2 st2
  have ne_a1_b2 : a1 ≠ b2 := Nat.ne_of_lt (Nat.lt_of_lt_of_le E_a1.lt (Nat.le_of_eq g2.symm))
  have g_b2 : n0 ≤ b2 := Nat.le_trans Z0 (Nat.le_of_eq g2.symm)
  have sz_b2 : h0.size ≤ b2 := Nat.le_trans K0.1 (Nat.le_of_eq g2.symm)
  have E_a1 := E_a1.ext E2
  have F_blockBits_a1 := F_blockBits_a1.ext E2
  have F_capacity_a1 := F_capacity_a1.ext E2
  have F_size_a1 := F_size_a1.ext E2
  have F_blocks_a1 := F_blocks_a1.ext E2
  have F_before_a1 := F_before_a1.ext E2
  have Z2 : n0 ≤ h2.size := Nat.le_trans Z0 E2.1
  have K2 := K0.ext E2
  have E_b2 := A2
  have F_blockBits_b2 : Fld Z h2 b2 "com/example/xml_document_query/xmldocumentquery/tree/BlockedArray" "blockBits" "I" (.int (0 : Int32)) := D2 (Or.inr (hw _ (List.mem_of_getElem? (i := 15) rfl))) (ty := .int) (by decide)
  have F_capacity_b2 : Fld Z h2 b2 "com/example/xml_document_query/xmldocumentquery/tree/BlockedArray" "capacity" "I" (.int (0 : Int32)) := D2 (Or.inl (hw _ (List.mem_of_getElem? (i := 17) rfl))) (ty := .int) (by decide)
  have F_blocks_b2 : Fld Z h2 b2 "com/example/xml_document_query/xmldocumentquery/tree/IntColumn" "blocks" "[[I" .null := D2 (Or.inl (hw _ (List.mem_of_getElem? (i := 23) rfl))) (ty := (.array (.array .int))) (by decide)
  have F_size_b2 : Fld Z h2 b2 "com/example/xml_document_query/xmldocumentquery/tree/IntColumn" "size" "I" (.int (0 : Int32)) := D2 (Or.inl (hw _ (List.mem_of_getElem? (i := 30) rfl))) (ty := .int) (by decide)
  have F_before_b2 : Fld Z h2 b2 "com/example/xml_document_query/xmldocumentquery/tree/IntColumn" "before" "Lcom/example/xml_document_query/xmldocumentquery/tree/IntColumn;" .null := D2 (Or.inl (hw _ (List.mem_of_getElem? (i := 68) rfl))) (ty := (.object "com/example/xml_document_query/xmldocumentquery/tree/IntColumn")) (by decide)
  refine OutW.back st2 ?_
  show OutW _ _ _ _ _ _ _ (T2.setTop (mkF m 11 #[.val (.ref a1), .val (.int p2)] [(.ref b2), (.ref a1)]))
  refine OutW.back (fun t k => XS.dup X2.here hx rfl (hb hby d10_11) rfl rfl k) ?_
  show OutW _ _ _ _ _ _ _ (T2.setTop (mkF m 12 #[.val (.ref a1), .val (.int p2)] [(.ref b2), (.ref b2), (.ref a1)]))
  refine OutW.back (fun t k => XS.iconst X2.here hx rfl (hb hby d10_12) k) ?_
  show OutW _ _ _ _ _ _ _ (T2.setTop (mkF m 13 #[.val (.ref a1), .val (.int p2)] [(.int (4 : Int32)), (.ref b2), (.ref b2), (.ref a1)]))
  obtain ⟨_, _, ⟨T3, L3, k3, n3⟩, -, X3, ⟨Lc3, hQ3, l3, y3, z3⟩, st3⟩ := X2.specialBack hx (y := (⟨"com/example/xml_document_query/xmldocumentquery/tree/IntColumn", "<init>", "(I)V"⟩ : MethodName)) rfl hown (mvT hZ (hw _ (List.mem_of_getElem? (i := 70) rfl))) (mvT hZ (hw _ (List.mem_of_getElem? (i := 4) rfl))) (mvT hZ (hw _ (List.mem_of_getElem? (i := 5) rfl))) (by decide) (backOf (W := 2) (rm1_4 l Z a0 hw [] b2 h2 n0 Z2 E_b2 g_b2 F_blockBits_b2 F_capacity_b2 F_size_b2 F_blocks_b2 F_before_b2) hZ (hw _ (List.mem_of_getElem? (i := 5) rfl)) (hw _ (List.mem_of_getElem? (i := 2) rfl)) (by decide) (by decide)) (g := (mkF m 13 #[.val (.ref a1), .val (.int p2)] [(.int (4 : Int32)), (.ref b2), (.ref b2), (.ref a1)])) rfl (by rw [hml]; rfl) (Steps.refl _) (a := b2) (argsL := [(.int (4 : Int32))]) (rest := [(.ref b2), (.ref a1)]) (lenOf pd_3 rfl) rfl (by show 2 * 0 + _ ≤ _; exact Nat.le_of_eq rfl) (hb hby d10_13) (fun _ _ => ⟨rfl, e2, (by decide : 1 + 2 ≤ _), (by decide : 5 + 5 ≤ _)⟩)
  dsimp only [Pt.U, Pt.locs, Pt.cells, Pt.slots] at X3 l3 y3 z3 st3 hQ3
  subst l3 y3 z3
  obtain ⟨h3, eh3⟩ : ∃ z, z = T3.heap := ⟨_, rfl⟩
  rw [← eh3] at hQ3
  have e3 : T3.heap = h3 := eh3.symm
  obtain ⟨bN_3, dN_3, kB_3, kD_3, rfl, Nq3, Kq3, F_blockBits_b2, F_capacity_b2, F_size_b2, F_blocks_b2, F_before_b2, szq_bN_3, szq_dN_3, g_bN_3, g_dN_3, ne_bN_3_dN_3, V_bN_3, V_dN_3, O_bN_3⟩ := hQ3
  have lt3_a1 := E_a1.lt
  have lt3_b2 := E_b2.lt
  have ne_a1_bN_3 : a1 ≠ bN_3 := Nat.ne_of_lt (Nat.lt_of_lt_of_le lt3_a1 szq_bN_3)
  have ne_b2_bN_3 : b2 ≠ bN_3 := Nat.ne_of_lt (Nat.lt_of_lt_of_le lt3_b2 szq_bN_3)
  have sz_bN_3 : h0.size ≤ bN_3 := Nat.le_trans K2.1 szq_bN_3
  have ne_a1_dN_3 : a1 ≠ dN_3 := Nat.ne_of_lt (Nat.lt_of_lt_of_le lt3_a1 szq_dN_3)
  have ne_b2_dN_3 : b2 ≠ dN_3 := Nat.ne_of_lt (Nat.lt_of_lt_of_le lt3_b2 szq_dN_3)
  have sz_dN_3 : h0.size ≤ dN_3 := Nat.le_trans K2.1 szq_dN_3
  have E_a1 := E_a1.keep Kq3
  have F_blockBits_a1 := F_blockBits_a1.keep Kq3 (ninS ne_a1_b2 nin0)
  have F_capacity_a1 := F_capacity_a1.keep Kq3 (ninS ne_a1_b2 nin0)
  have F_size_a1 := F_size_a1.keep Kq3 (ninS ne_a1_b2 nin0)
  have F_blocks_a1 := F_blocks_a1.keep Kq3 (ninS ne_a1_b2 nin0)
  have F_before_a1 := F_before_a1.keep Kq3 (ninS ne_a1_b2 nin0)
  have E_b2 := E_b2.keep Kq3
  have Z3 : n0 ≤ h3.size := Nat.le_trans Z2 Kq3.1
  have K3 := K2.trans Kq3 (allS (Or.inr sz_b2) all0)
  have N3 := Fr.app N0 Nq3
  obtain ⟨lc3, X3, N3⟩ : ∃ lc, Stand p l e ({ frames := 3, cells := 3, slots := 10, locals := 41 } : Room) s m #[(.ref a1), (.int p2)] below meth c T3 lc 3 10 ∧ Fr n0 lc := ⟨_, X3, N3⟩
  refine OutW.via st3 ?_
  show OutW _ _ _ _ _ _ _ (T3.setTop (mkF m 16 #[.val (.ref a1), .val (.int p2)] [(.ref b2), (.ref a1)]))
  obtain ⟨T4, h4, X4, e4, W4, st4⟩ := putF X3 hx hZ hown (host := "") (Or.inl (hw _ (List.mem_of_getElem? (i := 67) rfl))) Via.refl e3 F_before_a1 E_a1 (Or.inl (hw _ (List.mem_of_getElem? (i := 68) rfl))) (hw _ (List.mem_of_getElem? (i := 1) rfl)) (ty := (.object "com/example/xml_document_query/xmldocumentquery/tree/IntColumn")) (by decide) rfl rfl (g := (mkF m 16 #[.val (.ref a1), .val (.int p2)] [(.ref b2), (.ref a1)])) rfl rfl (hb hby d10_16)
  have E_a1 := E_a1.wr W4
  have F_blockBits_a1 := F_blockBits_a1.other W4 (Or.inr (slot_ne (Or.inr (hw _ (List.mem_of_getElem? (i := 15) rfl))) (Or.inl (hw _ (List.mem_of_getElem? (i := 68) rfl))) (by decide) (t := .int) (t' := (.object "com/example/xml_document_query/xmldocumentquery/tree/IntColumn")) (by decide) (by decide)))
  have F_capacity_a1 := F_capacity_a1.other W4 (Or.inr (slot_ne (Or.inl (hw _ (List.mem_of_getElem? (i := 17) rfl))) (Or.inl (hw _ (List.mem_of_getElem? (i := 68) rfl))) (by decide) (t := .int) (t' := (.object "com/example/xml_document_query/xmldocumentquery/tree/IntColumn")) (by decide) (by decide)))
  have F_size_a1 := F_size_a1.other W4 (Or.inr (slot_ne (Or.inl (hw _ (List.mem_of_getElem? (i := 30) rfl))) (Or.inl (hw _ (List.mem_of_getElem? (i := 68) rfl))) (by decide) (t := .int) (t' := (.object "com/example/xml_document_query/xmldocumentquery/tree/IntColumn")) (by decide) (by decide)))
  have F_blocks_a1 := F_blocks_a1.other W4 (Or.inr (slot_ne (Or.inl (hw _ (List.mem_of_getElem? (i := 23) rfl))) (Or.inl (hw _ (List.mem_of_getElem? (i := 68) rfl))) (by decide) (t := (.array (.array .int))) (t' := (.object "com/example/xml_document_query/xmldocumentquery/tree/IntColumn")) (by decide) (by decide)))
  have F_before_a1 := F_before_a1.same W4
  have E_b2 := E_b2.wr W4
  have F_blockBits_b2 := F_blockBits_b2.other W4 (Or.inl (Ne.symm ne_a1_b2))
  have F_capacity_b2 := F_capacity_b2.other W4 (Or.inl (Ne.symm ne_a1_b2))
  have F_size_b2 := F_size_b2.other W4 (Or.inl (Ne.symm ne_a1_b2))
  have F_blocks_b2 := F_blocks_b2.other W4 (Or.inl (Ne.symm ne_a1_b2))
  have F_before_b2 := F_before_b2.other W4 (Or.inl (Ne.symm ne_a1_b2))
  have V_bN_3 := V_bN_3.other W4 (Ne.symm ne_a1_bN_3)
  have V_dN_3 := V_dN_3.other W4 (Ne.symm ne_a1_dN_3)
  have N4 := Fr.snoc X4 N3 g_a1
  have Z4 : n0 ≤ h4.size := Nat.le_trans Z3 (Keep.of_wr W4).1
  have K4 := K3.wr W4 (Or.inl (List.mem_of_getElem? (i := 0) rfl))
  obtain ⟨lc4, X4, N4⟩ : ∃ lc, Stand p l e ({ frames := 3, cells := 3, slots := 10, locals := 41 } : Room) s m #[(.ref a1), (.int p2)] below meth c T4 lc 3 10 ∧ Fr n0 lc := ⟨_, X4, N4⟩
  refine OutW.back st4 ?_
  show OutW _ _ _ _ _ _ _ (T4.setTop (mkF m 19 #[.val (.ref a1), .val (.int p2)] []))
  refine OutW.back (fun t k => XS.aloadN X4.here hx rfl (hb hby d10_19) rfl rfl  k) ?_
  show OutW _ _ _ _ _ _ _ (T4.setTop (mkF m 20 #[.val (.ref a1), .val (.int p2)] [(.ref a1)]))
  obtain ⟨T5, X5, e5, st5⟩ := getF X4 hx hZ hown (host := "") (Or.inl (hw _ (List.mem_of_getElem? (i := 67) rfl))) Via.refl e4 F_before_a1 (g := (mkF m 20 #[.val (.ref a1), .val (.int p2)] [(.ref a1)])) rfl rfl (hb hby d10_20)
  refine OutW.back st5 ?_
  show OutW _ _ _ _ _ _ _ (T5.setTop (mkF m 23 #[.val (.ref a1), .val (.int p2)] [(.ref b2)]))
  refine OutW.back (fun t k => XS.iloadN X5.here hx rfl (hb hby d10_23) rfl  k) ?_
  show OutW _ _ _ _ _ _ _ (T5.setTop (mkF m 24 #[.val (.ref a1), .val (.int p2)] [(.int p2), (.ref b2)]))
  obtain ⟨cq6, kq6, qa6, qb6, qc6⟩ := isOf hZ e5 E_b2
  obtain ⟨_, _, ⟨T6, L6, k6, n6⟩, -, X6, ⟨Lc6, hQ6, l6, y6, z6⟩, st6⟩ := X5.virtualBack hx (y := (⟨"com/example/xml_document_query/xmldocumentquery/tree/IntColumn", "add", "(I)V"⟩ : MethodName)) (z := (⟨"com/example/xml_document_query/xmldocumentquery/tree/IntColumn", "add", "(I)V"⟩ : MethodName)) hown (mvT hZ (hw _ (List.mem_of_getElem? (i := 71) rfl))) (mvT hZ (hw _ (List.mem_of_getElem? (i := 25) rfl))) (notFace_of_selects (args := #[]) (mvT hZ (hw _ (List.mem_of_getElem? (i := 27) rfl)))) (mvT hZ (hw _ (List.mem_of_getElem? (i := 27) rfl))) (mvT hZ (hw _ (List.mem_of_getElem? (i := 26) rfl))) (by decide) (backOf (W := 0) (rm4_0_4 l Z a0 hw [] b2 p2 bN_3 dN_3 kB_3 kD_3 (0 : Int32) (0 : Int32) (0 : Int32) (0 : Int32) .null h4 n0 Z4 E_b2 g_b2 F_blockBits_b2 F_capacity_b2 F_size_b2 F_blocks_b2 F_before_b2 V_bN_3 O_bN_3 V_dN_3 ne_b2_bN_3 (Ne.symm ne_bN_3_dN_3) (Ne.symm ne_b2_dN_3) g_bN_3 g_dN_3) hZ (hw _ (List.mem_of_getElem? (i := 28) rfl)) (hw _ (List.mem_of_getElem? (i := 2) rfl)) (by decide) (by decide)) qa6 qc6 (g := (mkF m 24 #[.val (.ref a1), .val (.int p2)] [(.int p2), (.ref b2)])) rfl (by rw [hml]; rfl) (Steps.refl _) (argsL := [(.int p2)]) (rest := []) (lenOf pd_3 rfl) rfl (by show 2 * 0 + _ ≤ _; exact Nat.le_of_eq rfl) (hb hby d10_24) (fun _ _ => ⟨rfl, e5, (by decide : 3 + 0 ≤ _), (by decide : 10 + 0 ≤ _)⟩)
  dsimp only [Pt.U, Pt.locs, Pt.cells, Pt.slots] at X6 l6 y6 z6 st6 hQ6
  subst l6 y6 z6
  obtain ⟨h6, eh6⟩ : ∃ z, z = T6.heap := ⟨_, rfl⟩
  rw [← eh6] at hQ6
  have e6 : T6.heap = h6 := eh6.symm
  obtain ⟨rfl, Nq6, Kq6, F_blockBits_b2, F_capacity_b2, F_size_b2, F_blocks_b2, F_before_b2, V_dN_3_6⟩ := hQ6
  have E_a1 := E_a1.keep Kq6
  have F_blockBits_a1 := F_blockBits_a1.keep Kq6 (ninS ne_a1_b2 (ninS ne_a1_dN_3 nin0))
  have F_capacity_a1 := F_capacity_a1.keep Kq6 (ninS ne_a1_b2 (ninS ne_a1_dN_3 nin0))
  have F_size_a1 := F_size_a1.keep Kq6 (ninS ne_a1_b2 (ninS ne_a1_dN_3 nin0))
  have F_blocks_a1 := F_blocks_a1.keep Kq6 (ninS ne_a1_b2 (ninS ne_a1_dN_3 nin0))
  have F_before_a1 := F_before_a1.keep Kq6 (ninS ne_a1_b2 (ninS ne_a1_dN_3 nin0))
  have E_b2 := E_b2.keep Kq6
  have V_bN_3 := V_bN_3.keep Kq6 (ninS (Ne.symm ne_b2_bN_3) (ninS ne_bN_3_dN_3 nin0))
  have Z6 : n0 ≤ h6.size := Nat.le_trans Z4 Kq6.1
  have K6 := K4.trans Kq6 (allS (Or.inr sz_b2) (allS (Or.inr sz_dN_3) all0))
  have N6 := Fr.app N4 Nq6
  obtain ⟨lc6, X6, N6⟩ : ∃ lc, Stand p l e ({ frames := 3, cells := 3, slots := 10, locals := 41 } : Room) s m #[(.ref a1), (.int p2)] below meth c T6 lc 3 10 ∧ Fr n0 lc := ⟨_, X6, N6⟩
  refine OutW.via st6 ?_
  show OutW _ _ _ _ _ _ _ (T6.setTop (mkF m 27 #[.val (.ref a1), .val (.int p2)] []))
  refine OutW.retV X6 hx Bd.returns hlk (hb hby d10_27) (by decide) (by decide) ?_
  show Q10_0 Z a1 p2 w_cap w_blocks h0 n0 _ T6.heap _
  rw [e6]
  exact ⟨b2, bN_3, dN_3, kB_3, kD_3, rfl, N6, K6, F_blockBits_a1, F_capacity_a1, F_size_a1, F_blocks_a1, (by have q := F_before_a1; exact q), sz_b2, sz_bN_3, sz_dN_3, g_b2, g_bN_3, g_dN_3, ne_b2_bN_3, ne_b2_dN_3, ne_bN_3_dN_3, E_b2, F_blockBits_b2, F_capacity_b2, F_size_b2, F_blocks_b2, F_before_b2, V_bN_3, V_dN_3_6, O_bN_3⟩
theorem ef_10_1 (m : MethodId) (x0 : Addr) (x1 : Int32) : entryFrame m #[(.ref x0), (.int x1)] 2 = mkF m 0 #[.val (.ref x0), .val (.int x1)] [] := by first | (simp [entryFrame, mkF, argsToLocals, Value.category]; done) | rfl
def Q10_1 (Z : State) (a1 : Addr) (p2 : Int32) (c2 : Addr) (b3 : Addr) (d4 : Addr) (kB : ClassId) (kD : ClassId) (w0 : Int32) (h0 : Heap) (n0 : Nat) (v : Option Value) (h : Heap) (L : List Loc) : Prop := v = none ∧ Fr n0 L ∧ Keep h0 h [c2, d4] ∧ Fld Z h c2 "com/example/xml_document_query/xmldocumentquery/tree/BlockedArray" "blockBits" "I" (.int (16 : Int32)) ∧ Fld Z h c2 "com/example/xml_document_query/xmldocumentquery/tree/BlockedArray" "capacity" "I" (.int (4 : Int32)) ∧ Fld Z h c2 "com/example/xml_document_query/xmldocumentquery/tree/IntColumn" "size" "I" (.int (2 : Int32)) ∧ Fld Z h c2 "com/example/xml_document_query/xmldocumentquery/tree/IntColumn" "blocks" "[[I" (.ref b3) ∧ Fld Z h c2 "com/example/xml_document_query/xmldocumentquery/tree/IntColumn" "before" "Lcom/example/xml_document_query/xmldocumentquery/tree/IntColumn;" .null ∧ Arv Z h d4 kD .int (4 : Int32) [(.int w0), (.int p2), (.int (0 : Int32)), (.int (0 : Int32))] (.int (0 : Int32))
set_option maxRecDepth 65536 in
set_option maxHeartbeats 40000000 in
theorem rm10_1 (l : Launch) (Z : State) (a0 : Array Value) (hw : ∀ d ∈ tables_1, d.before a0 Z = true) (ws : List Jvm.Cond) (a1 : Addr) (p2 : Int32) (c2 : Addr) (b3 : Addr) (d4 : Addr) (kB : ClassId) (kD : ClassId) (w0 : Int32) (h0 : Heap) (n0 : Nat) (Z0 : n0 ≤ h0.size) (F_before_a1 : Fld Z h0 a1 "com/example/xml_document_query/xmldocumentquery/tree/IntColumn" "before" "Lcom/example/xml_document_query/xmldocumentquery/tree/IntColumn;" (.ref c2)) (E_c2 : Exa Z h0 c2 "com/example/xml_document_query/xmldocumentquery/tree/IntColumn") (g_c2 : n0 ≤ c2) (F_blockBits_c2 : Fld Z h0 c2 "com/example/xml_document_query/xmldocumentquery/tree/BlockedArray" "blockBits" "I" (.int (16 : Int32))) (F_capacity_c2 : Fld Z h0 c2 "com/example/xml_document_query/xmldocumentquery/tree/BlockedArray" "capacity" "I" (.int (4 : Int32))) (F_size_c2 : Fld Z h0 c2 "com/example/xml_document_query/xmldocumentquery/tree/IntColumn" "size" "I" (.int (1 : Int32))) (F_blocks_c2 : Fld Z h0 c2 "com/example/xml_document_query/xmldocumentquery/tree/IntColumn" "blocks" "[[I" (.ref b3)) (F_before_c2 : Fld Z h0 c2 "com/example/xml_document_query/xmldocumentquery/tree/IntColumn" "before" "Lcom/example/xml_document_query/xmldocumentquery/tree/IntColumn;" .null) (V_b3 : Arv Z h0 b3 kB (.array .int) (1 : Int32) [(.ref d4)] .null) (O_b3 : OvrA Z kB .int "[I") (V_d4 : Arv Z h0 d4 kD .int (4 : Int32) [(.int w0), (.int (0 : Int32)), (.int (0 : Int32)), (.int (0 : Int32))] (.int (0 : Int32))) (g_b3 : n0 ≤ b3) (g_d4 : n0 ≤ d4) (ne_c2_b3 : c2 ≠ b3) (ne_d4_b3 : d4 ≠ b3) (ne_d4_c2 : d4 ≠ c2) (ne_a1_c2 : a1 ≠ c2) (ne_a1_d4 : a1 ≠ d4) :
    MetFree l (⟨"com/example/xml_document_query/xmldocumentquery/tree/IntColumn", "addFirst", "(I)V"⟩ : MethodName) (head1 (Jvm.Cond.code (⟨"com/example/xml_document_query/xmldocumentquery/tree/IntColumn", "addFirst", "(I)V"⟩ : MethodName) prog_168_method_3_code 2 none :: ws) ({ frames := 2, cells := 0, slots := 0, locals := 26 } : Room)) (fun a U => a = #[(.ref a1), (.int p2)] ∧ Z.Warmed39 U.vm ∧ U.heap = h0) (fun _ _ _ _ _ => True) (fun _ U o U' => ∃ v L, o = .returned v ∧ Q10_1 Z a1 p2 c2 b3 d4 kB kD w0 h0 n0 v U'.heap L ∧ FrameEnd U o U' L ({ frames := 2, cells := 0, slots := 0, locals := 26 } : Room).cells ({ frames := 2, cells := 0, slots := 0, locals := 26 } : Room).slots) := by
  refine MetFree.of_bodySF (plainFor_of_name pn_10) hisR ?_
  intro p e s m args below meth c s₁ Bd hml0 hP hK
  obtain ⟨rfl, hZ, hh⟩ := hP
  have hx := Bd.exec
  have hby := Bd.bytes
  have hlk := Bd.notSynchronized
  have hml : c.maxLocals = 2 := hml0
  have hown : s.vm.findClass "com/example/xml_document_query/xmldocumentquery/tree/IntColumn" = some m.cls := findClass_of_methodNamed Bd.named
  have hnm := (name_of_methodNamed Bd.named Bd.method).1
  have X0 : Stand p l e ({ frames := 2, cells := 0, slots := 0, locals := 26 } : Room) s m #[(.ref a1), (.int p2)] below meth c s₁ [] 0 0 := Stand.of_body Bd
  have e0 : s₁.heap = h0 := by rw [← hh, Bd.state]; rfl
  have N0 := Fr.nil n0
  have K0 : Keep h0 h0 [c2, d4] := Keep.refl h0 _
  show OutW p e below s ({ frames := 2, cells := 0, slots := 0, locals := 26 } : Room).cells ({ frames := 2, cells := 0, slots := 0, locals := 26 } : Room).slots (Q10_1 Z a1 p2 c2 b3 d4 kB kD w0 h0 n0) _
  refine OutW.back (fun t k => castTop (ef_10_1 m a1 p2) k) ?_
  show OutW _ _ _ _ _ _ _ (s₁.setTop (mkF m 0 #[.val (.ref a1), .val (.int p2)] []))
  refine OutW.back (fun t k => XS.aloadN X0.here hx rfl (hb hby d10_0) rfl rfl  k) ?_
  show OutW _ _ _ _ _ _ _ (s₁.setTop (mkF m 1 #[.val (.ref a1), .val (.int p2)] [(.ref a1)]))
  obtain ⟨T1, X1, e1, st1⟩ := getF X0 hx hZ hown (host := "") (Or.inl (hw _ (List.mem_of_getElem? (i := 67) rfl))) Via.refl e0 F_before_a1 (g := (mkF m 1 #[.val (.ref a1), .val (.int p2)] [(.ref a1)])) rfl rfl (hb hby d10_1)
  refine OutW.back st1 ?_
  show OutW _ _ _ _ _ _ _ (T1.setTop (mkF m 4 #[.val (.ref a1), .val (.int p2)] [(.ref c2)]))
  refine OutW.back (fun t k => XS.ifnonnullYes X1.here hx rfl (pc0 := 4) (pc' := 19) rfl (hb hby d10_4) rfl (by decide) (by decide) k) ?_
  show OutW _ _ _ _ _ _ _ (T1.setTop (mkF m 19 #[.val (.ref a1), .val (.int p2)] []))
  refine OutW.back (fun t k => XS.aloadN X1.here hx rfl (hb hby d10_19) rfl rfl  k) ?_
  show OutW _ _ _ _ _ _ _ (T1.setTop (mkF m 20 #[.val (.ref a1), .val (.int p2)] [(.ref a1)]))
  obtain ⟨T2, X2, e2, st2⟩ := getF X1 hx hZ hown (host := "") (Or.inl (hw _ (List.mem_of_getElem? (i := 67) rfl))) Via.refl e1 F_before_a1 (g := (mkF m 20 #[.val (.ref a1), .val (.int p2)] [(.ref a1)])) rfl rfl (hb hby d10_20)
  refine OutW.back st2 ?_
  show OutW _ _ _ _ _ _ _ (T2.setTop (mkF m 23 #[.val (.ref a1), .val (.int p2)] [(.ref c2)]))
  refine OutW.back (fun t k => XS.iloadN X2.here hx rfl (hb hby d10_23) rfl  k) ?_
  show OutW _ _ _ _ _ _ _ (T2.setTop (mkF m 24 #[.val (.ref a1), .val (.int p2)] [(.int p2), (.ref c2)]))
  obtain ⟨cq3, kq3, qa3, qb3, qc3⟩ := isOf hZ e2 E_c2
  obtain ⟨_, _, ⟨T3, L3, k3, n3⟩, -, X3, ⟨Lc3, hQ3, l3, y3, z3⟩, st3⟩ := X2.virtualBack hx (y := (⟨"com/example/xml_document_query/xmldocumentquery/tree/IntColumn", "add", "(I)V"⟩ : MethodName)) (z := (⟨"com/example/xml_document_query/xmldocumentquery/tree/IntColumn", "add", "(I)V"⟩ : MethodName)) hown (mvT hZ (hw _ (List.mem_of_getElem? (i := 71) rfl))) (mvT hZ (hw _ (List.mem_of_getElem? (i := 25) rfl))) (notFace_of_selects (args := #[]) (mvT hZ (hw _ (List.mem_of_getElem? (i := 27) rfl)))) (mvT hZ (hw _ (List.mem_of_getElem? (i := 27) rfl))) (mvT hZ (hw _ (List.mem_of_getElem? (i := 26) rfl))) (by decide) (backOf (W := 0) (rm4_1_4 l Z a0 hw [] c2 p2 b3 d4 kB kD w0 (0 : Int32) (0 : Int32) (0 : Int32) .null h0 n0 Z0 E_c2 g_c2 F_blockBits_c2 F_capacity_c2 F_size_c2 F_blocks_c2 F_before_c2 V_b3 O_b3 V_d4 ne_c2_b3 ne_d4_b3 ne_d4_c2 g_b3 g_d4) hZ (hw _ (List.mem_of_getElem? (i := 28) rfl)) (hw _ (List.mem_of_getElem? (i := 2) rfl)) (by decide) (by decide)) qa3 qc3 (g := (mkF m 24 #[.val (.ref a1), .val (.int p2)] [(.int p2), (.ref c2)])) rfl (by rw [hml]; rfl) (Steps.refl _) (argsL := [(.int p2)]) (rest := []) (lenOf pd_3 rfl) rfl (by show 2 * 0 + _ ≤ _; exact Nat.le_of_eq rfl) (hb hby d10_24) (fun _ _ => ⟨rfl, e2, (by decide : 0 + 0 ≤ _), (by decide : 0 + 0 ≤ _)⟩)
  dsimp only [Pt.U, Pt.locs, Pt.cells, Pt.slots] at X3 l3 y3 z3 st3 hQ3
  subst l3 y3 z3
  obtain ⟨h3, eh3⟩ : ∃ z, z = T3.heap := ⟨_, rfl⟩
  rw [← eh3] at hQ3
  have e3 : T3.heap = h3 := eh3.symm
  obtain ⟨rfl, Nq3, Kq3, F_blockBits_c2, F_capacity_c2, F_size_c2, F_blocks_c2, F_before_c2, V_d4_3⟩ := hQ3
  have F_before_a1 := F_before_a1.keep Kq3 (ninS ne_a1_c2 (ninS ne_a1_d4 nin0))
  have E_c2 := E_c2.keep Kq3
  have V_b3 := V_b3.keep Kq3 (ninS (Ne.symm ne_c2_b3) (ninS (Ne.symm ne_d4_b3) nin0))
  have Z3 : n0 ≤ h3.size := Nat.le_trans Z0 Kq3.1
  have K3 := K0.trans Kq3 (allS (Or.inl (List.mem_of_getElem? (i := 0) rfl)) (allS (Or.inl (List.mem_of_getElem? (i := 1) rfl)) all0))
  have N3 := Fr.app N0 Nq3
  obtain ⟨lc3, X3, N3⟩ : ∃ lc, Stand p l e ({ frames := 2, cells := 0, slots := 0, locals := 26 } : Room) s m #[(.ref a1), (.int p2)] below meth c T3 lc 0 0 ∧ Fr n0 lc := ⟨_, X3, N3⟩
  refine OutW.via st3 ?_
  show OutW _ _ _ _ _ _ _ (T3.setTop (mkF m 27 #[.val (.ref a1), .val (.int p2)] []))
  refine OutW.retV X3 hx Bd.returns hlk (hb hby d10_27) (by decide) (by decide) ?_
  show Q10_1 Z a1 p2 c2 b3 d4 kB kD w0 h0 n0 _ T3.heap _
  rw [e3]
  exact ⟨rfl, N3, K3, F_blockBits_c2, F_capacity_c2, F_size_c2, F_blocks_c2, F_before_c2, V_d4_3⟩
theorem d11_0 : decode prog_168_method_5_code 0 = .ok (.iload_n 1, 1) := by decide +kernel
theorem d11_1 : decode prog_168_method_5_code 1 = .ok (.ifCond .lt 21, 3) := by decide +kernel
theorem d11_4 : decode prog_168_method_5_code 4 = .ok (.aload_n 0, 1) := by decide +kernel
theorem d11_5 : decode prog_168_method_5_code 5 = .ok (.getfield 11, 3) := by decide +kernel
theorem d11_8 : decode prog_168_method_5_code 8 = .ok (.iload_n 1, 1) := by decide +kernel
theorem d11_9 : decode prog_168_method_5_code 9 = .ok (.bipush 16, 2) := by decide +kernel
theorem d11_11 : decode prog_168_method_5_code 11 = .ok (.iushr, 1) := by decide +kernel
theorem d11_12 : decode prog_168_method_5_code 12 = .ok (.aaload, 1) := by decide +kernel
theorem d11_13 : decode prog_168_method_5_code 13 = .ok (.iload_n 1, 1) := by decide +kernel
theorem d11_14 : decode prog_168_method_5_code 14 = .ok (.ldc 27, 2) := by decide +kernel
theorem d11_16 : decode prog_168_method_5_code 16 = .ok (.iand, 1) := by decide +kernel
theorem d11_17 : decode prog_168_method_5_code 17 = .ok (.iload_n 2, 1) := by decide +kernel
theorem d11_18 : decode prog_168_method_5_code 18 = .ok (.iastore, 1) := by decide +kernel
theorem d11_19 : decode prog_168_method_5_code 19 = .ok (.goto 14, 3) := by decide +kernel
theorem d11_33 : decode prog_168_method_5_code 33 = .ok (.return_, 1) := by decide +kernel
theorem pn_11 : plainName "com/example/xml_document_query/xmldocumentquery/tree/IntColumn" = true := by first | (simp [plainName, overriddenIn]; done) | decide +kernel
theorem ef_11_k0 (m : MethodId) (x0 : Addr) (x2 : Int32) : entryFrame m #[(.ref x0), (.int (0 : Int32)), (.int x2)] 3 = mkF m 0 #[.val (.ref x0), .val (.int (0 : Int32)), .val (.int x2)] [] := by first | (simp [entryFrame, mkF, argsToLocals, Value.category]; done) | rfl
def Q11_k0 (Z : State) (a1 : Addr) (p3 : Int32) (b2 : Addr) (d3 : Addr) (kB : ClassId) (kD : ClassId) (w0 : Int32) (w1 : Int32) (w2 : Int32) (w3 : Int32) (h0 : Heap) (n0 : Nat) (v : Option Value) (h : Heap) (L : List Loc) : Prop := v = none ∧ Fr n0 L ∧ Keep h0 h [d3] ∧ Arv Z h d3 kD .int (4 : Int32) [(.int p3), (.int w1), (.int w2), (.int w3)] (.int (0 : Int32))
set_option maxRecDepth 65536 in
set_option maxHeartbeats 40000000 in
theorem rm11_k0 (l : Launch) (Z : State) (a0 : Array Value) (hw : ∀ d ∈ tables_1, d.before a0 Z = true) (ws : List Jvm.Cond) (a1 : Addr) (p3 : Int32) (b2 : Addr) (d3 : Addr) (kB : ClassId) (kD : ClassId) (w0 : Int32) (w1 : Int32) (w2 : Int32) (w3 : Int32) (h0 : Heap) (n0 : Nat) (Z0 : n0 ≤ h0.size) (F_blocks_a1 : Fld Z h0 a1 "com/example/xml_document_query/xmldocumentquery/tree/IntColumn" "blocks" "[[I" (.ref b2)) (V_b2 : Arv Z h0 b2 kB (.array .int) (1 : Int32) [(.ref d3)] .null) (V_d3 : Arv Z h0 d3 kD .int (4 : Int32) [(.int w0), (.int w1), (.int w2), (.int w3)] (.int (0 : Int32))) (g_d3 : n0 ≤ d3) (ne_d3_b2 : d3 ≠ b2) (ne_a1_d3 : a1 ≠ d3) :
    MetFree l (⟨"com/example/xml_document_query/xmldocumentquery/tree/IntColumn", "set", "(II)V"⟩ : MethodName) (head1 (Jvm.Cond.code (⟨"com/example/xml_document_query/xmldocumentquery/tree/IntColumn", "set", "(II)V"⟩ : MethodName) prog_168_method_5_code 3 none :: ws) ({ frames := 0, cells := 0, slots := 0, locals := 0 } : Room)) (fun a U => a = #[(.ref a1), (.int (0 : Int32)), (.int p3)] ∧ Z.Warmed39 U.vm ∧ U.heap = h0) (fun _ _ _ _ _ => True) (fun _ U o U' => ∃ v L, o = .returned v ∧ Q11_k0 Z a1 p3 b2 d3 kB kD w0 w1 w2 w3 h0 n0 v U'.heap L ∧ FrameEnd U o U' L ({ frames := 0, cells := 0, slots := 0, locals := 0 } : Room).cells ({ frames := 0, cells := 0, slots := 0, locals := 0 } : Room).slots) := by
  refine MetFree.of_bodySF (plainFor_of_name pn_11) hisR ?_
  intro p e s m args below meth c s₁ Bd hml0 hP hK
  obtain ⟨rfl, hZ, hh⟩ := hP
  have hx := Bd.exec
  have hby := Bd.bytes
  have hlk := Bd.notSynchronized
  have hml : c.maxLocals = 3 := hml0
  have hown : s.vm.findClass "com/example/xml_document_query/xmldocumentquery/tree/IntColumn" = some m.cls := findClass_of_methodNamed Bd.named
  have hnm := (name_of_methodNamed Bd.named Bd.method).1
  have X0 : Stand p l e ({ frames := 0, cells := 0, slots := 0, locals := 0 } : Room) s m #[(.ref a1), (.int (0 : Int32)), (.int p3)] below meth c s₁ [] 0 0 := Stand.of_body Bd
  have e0 : s₁.heap = h0 := by rw [← hh, Bd.state]; rfl
  have N0 := Fr.nil n0
  have K0 : Keep h0 h0 [d3] := Keep.refl h0 _
  show OutW p e below s ({ frames := 0, cells := 0, slots := 0, locals := 0 } : Room).cells ({ frames := 0, cells := 0, slots := 0, locals := 0 } : Room).slots (Q11_k0 Z a1 p3 b2 d3 kB kD w0 w1 w2 w3 h0 n0) _
  refine OutW.back (fun t k => castTop (ef_11_k0 m a1 p3) k) ?_
  show OutW _ _ _ _ _ _ _ (s₁.setTop (mkF m 0 #[.val (.ref a1), .val (.int (0 : Int32)), .val (.int p3)] []))
  refine OutW.back (fun t k => XS.iloadN X0.here hx rfl (hb hby d11_0) rfl  k) ?_
  show OutW _ _ _ _ _ _ _ (s₁.setTop (mkF m 1 #[.val (.ref a1), .val (.int (0 : Int32)), .val (.int p3)] [(.int (0 : Int32))]))
  refine OutW.back (fun t k => XS.ifNo X0.here hx rfl (hb hby d11_1) rfl ((if0 _ _).trans (flt (by decide : ¬ ((0 : Int32) < (0 : Int32)))).1) k) ?_
  show OutW _ _ _ _ _ _ _ (s₁.setTop (mkF m 4 #[.val (.ref a1), .val (.int (0 : Int32)), .val (.int p3)] []))
  refine OutW.back (fun t k => XS.aloadN X0.here hx rfl (hb hby d11_4) rfl rfl  k) ?_
  show OutW _ _ _ _ _ _ _ (s₁.setTop (mkF m 5 #[.val (.ref a1), .val (.int (0 : Int32)), .val (.int p3)] [(.ref a1)]))
  obtain ⟨T1, X1, e1, st1⟩ := getF X0 hx hZ hown (host := "") (Or.inl (hw _ (List.mem_of_getElem? (i := 22) rfl))) Via.refl e0 F_blocks_a1 (g := (mkF m 5 #[.val (.ref a1), .val (.int (0 : Int32)), .val (.int p3)] [(.ref a1)])) rfl rfl (hb hby d11_5)
  refine OutW.back st1 ?_
  show OutW _ _ _ _ _ _ _ (T1.setTop (mkF m 8 #[.val (.ref a1), .val (.int (0 : Int32)), .val (.int p3)] [(.ref b2)]))
  refine OutW.back (fun t k => XS.iloadN X1.here hx rfl (hb hby d11_8) rfl  k) ?_
  show OutW _ _ _ _ _ _ _ (T1.setTop (mkF m 9 #[.val (.ref a1), .val (.int (0 : Int32)), .val (.int p3)] [(.int (0 : Int32)), (.ref b2)]))
  refine OutW.back (fun t k => XS.bipush X1.here hx rfl (hb hby d11_9) k) ?_
  show OutW _ _ _ _ _ _ _ (T1.setTop (mkF m 11 #[.val (.ref a1), .val (.int (0 : Int32)), .val (.int p3)] [(.int (16 : Int32)), (.int (0 : Int32)), (.ref b2)]))
  refine OutW.back (fun t k => XS.iushr X1.here hx rfl (hb hby d11_11) rfl k) ?_
  show OutW _ _ _ _ _ _ _ (T1.setTop (mkF m 12 #[.val (.ref a1), .val (.int (0 : Int32)), .val (.int p3)] [(.int (((0 : Int32).toUInt32 >>> ((16 : Int32) &&& 31).toUInt32).toInt32)), (.ref b2)]))
  rw [show (((0 : Int32).toUInt32 >>> ((16 : Int32) &&& 31).toUInt32).toInt32) = (0 : Int32) from by decide]
  obtain ⟨cl2, Ar2, Qk2, Sz2, Nn2, Hh2, Gg2⟩ := id V_b2
  have hin2 : ¬ ((0 : Int32) < 0 ∨ cl2.slots.size ≤ ((0 : Int32)).toNatClampNeg) := inb_of Sz2 ⟨by decide, by decide⟩
  refine OutW.back (X1.aaload hx (j := (0 : Int32)) (v := (.ref d3)) (by rw [e1]; exact Ar2.1) (State.isArrayOf_alike hZ.alike Ar2.2.1) rfl Ar2.2.2 hin2 (Hh2.at hin2 (by rfl)) (g := (mkF m 12 #[.val (.ref a1), .val (.int (0 : Int32)), .val (.int p3)] [(.int (0 : Int32)), (.ref b2)])) rfl rfl (hb hby d11_12)) ?_
  show OutW _ _ _ _ _ _ _ (T1.setTop (mkF m 13 #[.val (.ref a1), .val (.int (0 : Int32)), .val (.int p3)] [(.ref d3)]))
  refine OutW.back (fun t k => XS.iloadN X1.here hx rfl (hb hby d11_13) rfl  k) ?_
  show OutW _ _ _ _ _ _ _ (T1.setTop (mkF m 14 #[.val (.ref a1), .val (.int (0 : Int32)), .val (.int p3)] [(.int (0 : Int32)), (.ref d3)]))
  refine OutW.back (X1.ldcInt hx hown (mvT hZ (hw _ (List.mem_of_getElem? (i := 37) rfl))) (g := (mkF m 14 #[.val (.ref a1), .val (.int (0 : Int32)), .val (.int p3)] [(.int (0 : Int32)), (.ref d3)])) rfl (hb hby d11_14)) ?_
  show OutW _ _ _ _ _ _ _ (T1.setTop (mkF m 16 #[.val (.ref a1), .val (.int (0 : Int32)), .val (.int p3)] [(.int (65535 : Int32)), (.int (0 : Int32)), (.ref d3)]))
  refine OutW.back (fun t k => XS.iand X1.here hx rfl (hb hby d11_16) rfl k) ?_
  show OutW _ _ _ _ _ _ _ (T1.setTop (mkF m 17 #[.val (.ref a1), .val (.int (0 : Int32)), .val (.int p3)] [(.int ((0 : Int32) &&& (65535 : Int32))), (.ref d3)]))
  rw [show ((0 : Int32) &&& (65535 : Int32)) = (0 : Int32) from by decide]
  refine OutW.back (fun t k => XS.iloadN X1.here hx rfl (hb hby d11_17) rfl  k) ?_
  show OutW _ _ _ _ _ _ _ (T1.setTop (mkF m 18 #[.val (.ref a1), .val (.int (0 : Int32)), .val (.int p3)] [(.int p3), (.int (0 : Int32)), (.ref d3)]))
  obtain ⟨cl3, Ar3, Qk3, Sz3, Nn3, Hh3, Gg3⟩ := id V_d3
  have hin3 : ¬ ((0 : Int32) < 0 ∨ cl3.slots.size ≤ ((0 : Int32)).toNatClampNeg) := inb_of Sz3 ⟨by decide, by decide⟩
  obtain ⟨T3, h3, X3, e3, W3, st3⟩ := stI X1 hx hZ e1 Ar3 (j := (0 : Int32)) hin3 (g := (mkF m 18 #[.val (.ref a1), .val (.int (0 : Int32)), .val (.int p3)] [(.int p3), (.int (0 : Int32)), (.ref d3)])) rfl rfl (hb hby d11_18)
  have V_d3_3 : Arv Z h3 d3 kD .int (4 : Int32) [(.int p3), (.int w1), (.int w2), (.int w3)] (.int (0 : Int32)) := Arv.set Ar3 Qk3 Sz3 Nn3 Hh3 Gg3 rfl W3 0 rfl (Nat.le_of_ble_eq_true rfl)
  have F_blocks_a1 := F_blocks_a1.other W3 (Or.inl ne_a1_d3)
  have V_b2 := V_b2.other W3 (Ne.symm ne_d3_b2)
  have N3 := Fr.snoc X3 N0 g_d3
  have Z3 : n0 ≤ h3.size := Nat.le_trans Z0 (Keep.of_wr W3).1
  have K3 := K0.wr W3 (Or.inl (List.mem_of_getElem? (i := 0) rfl))
  obtain ⟨lc3, X3, N3⟩ : ∃ lc, Stand p l e ({ frames := 0, cells := 0, slots := 0, locals := 0 } : Room) s m #[(.ref a1), (.int (0 : Int32)), (.int p3)] below meth c T3 lc 0 0 ∧ Fr n0 lc := ⟨_, X3, N3⟩
  refine OutW.back st3 ?_
  show OutW _ _ _ _ _ _ _ (T3.setTop (mkF m 19 #[.val (.ref a1), .val (.int (0 : Int32)), .val (.int p3)] []))
  refine OutW.back (fun t k => XS.goto X3.here hx rfl (pc0 := 19) (pc' := 33) rfl (hb hby d11_19) (by decide) (by decide) k) ?_
  show OutW _ _ _ _ _ _ _ (T3.setTop (mkF m 33 #[.val (.ref a1), .val (.int (0 : Int32)), .val (.int p3)] []))
  refine OutW.retV X3 hx Bd.returns hlk (hb hby d11_33) (by decide) (by decide) ?_
  show Q11_k0 Z a1 p3 b2 d3 kB kD w0 w1 w2 w3 h0 n0 _ T3.heap _
  rw [e3]
  exact ⟨rfl, N3, K3, V_d3_3⟩
theorem ef_11_k1 (m : MethodId) (x0 : Addr) (x2 : Int32) : entryFrame m #[(.ref x0), (.int (1 : Int32)), (.int x2)] 3 = mkF m 0 #[.val (.ref x0), .val (.int (1 : Int32)), .val (.int x2)] [] := by first | (simp [entryFrame, mkF, argsToLocals, Value.category]; done) | rfl
def Q11_k1 (Z : State) (a1 : Addr) (p3 : Int32) (b2 : Addr) (d3 : Addr) (kB : ClassId) (kD : ClassId) (w0 : Int32) (w1 : Int32) (w2 : Int32) (w3 : Int32) (h0 : Heap) (n0 : Nat) (v : Option Value) (h : Heap) (L : List Loc) : Prop := v = none ∧ Fr n0 L ∧ Keep h0 h [d3] ∧ Arv Z h d3 kD .int (4 : Int32) [(.int w0), (.int p3), (.int w2), (.int w3)] (.int (0 : Int32))
set_option maxRecDepth 65536 in
set_option maxHeartbeats 40000000 in
theorem rm11_k1 (l : Launch) (Z : State) (a0 : Array Value) (hw : ∀ d ∈ tables_1, d.before a0 Z = true) (ws : List Jvm.Cond) (a1 : Addr) (p3 : Int32) (b2 : Addr) (d3 : Addr) (kB : ClassId) (kD : ClassId) (w0 : Int32) (w1 : Int32) (w2 : Int32) (w3 : Int32) (h0 : Heap) (n0 : Nat) (Z0 : n0 ≤ h0.size) (F_blocks_a1 : Fld Z h0 a1 "com/example/xml_document_query/xmldocumentquery/tree/IntColumn" "blocks" "[[I" (.ref b2)) (V_b2 : Arv Z h0 b2 kB (.array .int) (1 : Int32) [(.ref d3)] .null) (V_d3 : Arv Z h0 d3 kD .int (4 : Int32) [(.int w0), (.int w1), (.int w2), (.int w3)] (.int (0 : Int32))) (g_d3 : n0 ≤ d3) (ne_d3_b2 : d3 ≠ b2) (ne_a1_d3 : a1 ≠ d3) :
    MetFree l (⟨"com/example/xml_document_query/xmldocumentquery/tree/IntColumn", "set", "(II)V"⟩ : MethodName) (head1 (Jvm.Cond.code (⟨"com/example/xml_document_query/xmldocumentquery/tree/IntColumn", "set", "(II)V"⟩ : MethodName) prog_168_method_5_code 3 none :: ws) ({ frames := 0, cells := 0, slots := 0, locals := 0 } : Room)) (fun a U => a = #[(.ref a1), (.int (1 : Int32)), (.int p3)] ∧ Z.Warmed39 U.vm ∧ U.heap = h0) (fun _ _ _ _ _ => True) (fun _ U o U' => ∃ v L, o = .returned v ∧ Q11_k1 Z a1 p3 b2 d3 kB kD w0 w1 w2 w3 h0 n0 v U'.heap L ∧ FrameEnd U o U' L ({ frames := 0, cells := 0, slots := 0, locals := 0 } : Room).cells ({ frames := 0, cells := 0, slots := 0, locals := 0 } : Room).slots) := by
  refine MetFree.of_bodySF (plainFor_of_name pn_11) hisR ?_
  intro p e s m args below meth c s₁ Bd hml0 hP hK
  obtain ⟨rfl, hZ, hh⟩ := hP
  have hx := Bd.exec
  have hby := Bd.bytes
  have hlk := Bd.notSynchronized
  have hml : c.maxLocals = 3 := hml0
  have hown : s.vm.findClass "com/example/xml_document_query/xmldocumentquery/tree/IntColumn" = some m.cls := findClass_of_methodNamed Bd.named
  have hnm := (name_of_methodNamed Bd.named Bd.method).1
  have X0 : Stand p l e ({ frames := 0, cells := 0, slots := 0, locals := 0 } : Room) s m #[(.ref a1), (.int (1 : Int32)), (.int p3)] below meth c s₁ [] 0 0 := Stand.of_body Bd
  have e0 : s₁.heap = h0 := by rw [← hh, Bd.state]; rfl
  have N0 := Fr.nil n0
  have K0 : Keep h0 h0 [d3] := Keep.refl h0 _
  show OutW p e below s ({ frames := 0, cells := 0, slots := 0, locals := 0 } : Room).cells ({ frames := 0, cells := 0, slots := 0, locals := 0 } : Room).slots (Q11_k1 Z a1 p3 b2 d3 kB kD w0 w1 w2 w3 h0 n0) _
  refine OutW.back (fun t k => castTop (ef_11_k1 m a1 p3) k) ?_
  show OutW _ _ _ _ _ _ _ (s₁.setTop (mkF m 0 #[.val (.ref a1), .val (.int (1 : Int32)), .val (.int p3)] []))
  refine OutW.back (fun t k => XS.iloadN X0.here hx rfl (hb hby d11_0) rfl  k) ?_
  show OutW _ _ _ _ _ _ _ (s₁.setTop (mkF m 1 #[.val (.ref a1), .val (.int (1 : Int32)), .val (.int p3)] [(.int (1 : Int32))]))
  refine OutW.back (fun t k => XS.ifNo X0.here hx rfl (hb hby d11_1) rfl ((if0 _ _).trans (flt (by decide : ¬ ((1 : Int32) < (0 : Int32)))).1) k) ?_
  show OutW _ _ _ _ _ _ _ (s₁.setTop (mkF m 4 #[.val (.ref a1), .val (.int (1 : Int32)), .val (.int p3)] []))
  refine OutW.back (fun t k => XS.aloadN X0.here hx rfl (hb hby d11_4) rfl rfl  k) ?_
  show OutW _ _ _ _ _ _ _ (s₁.setTop (mkF m 5 #[.val (.ref a1), .val (.int (1 : Int32)), .val (.int p3)] [(.ref a1)]))
  obtain ⟨T1, X1, e1, st1⟩ := getF X0 hx hZ hown (host := "") (Or.inl (hw _ (List.mem_of_getElem? (i := 22) rfl))) Via.refl e0 F_blocks_a1 (g := (mkF m 5 #[.val (.ref a1), .val (.int (1 : Int32)), .val (.int p3)] [(.ref a1)])) rfl rfl (hb hby d11_5)
  refine OutW.back st1 ?_
  show OutW _ _ _ _ _ _ _ (T1.setTop (mkF m 8 #[.val (.ref a1), .val (.int (1 : Int32)), .val (.int p3)] [(.ref b2)]))
  refine OutW.back (fun t k => XS.iloadN X1.here hx rfl (hb hby d11_8) rfl  k) ?_
  show OutW _ _ _ _ _ _ _ (T1.setTop (mkF m 9 #[.val (.ref a1), .val (.int (1 : Int32)), .val (.int p3)] [(.int (1 : Int32)), (.ref b2)]))
  refine OutW.back (fun t k => XS.bipush X1.here hx rfl (hb hby d11_9) k) ?_
  show OutW _ _ _ _ _ _ _ (T1.setTop (mkF m 11 #[.val (.ref a1), .val (.int (1 : Int32)), .val (.int p3)] [(.int (16 : Int32)), (.int (1 : Int32)), (.ref b2)]))
  refine OutW.back (fun t k => XS.iushr X1.here hx rfl (hb hby d11_11) rfl k) ?_
  show OutW _ _ _ _ _ _ _ (T1.setTop (mkF m 12 #[.val (.ref a1), .val (.int (1 : Int32)), .val (.int p3)] [(.int (((1 : Int32).toUInt32 >>> ((16 : Int32) &&& 31).toUInt32).toInt32)), (.ref b2)]))
  rw [show (((1 : Int32).toUInt32 >>> ((16 : Int32) &&& 31).toUInt32).toInt32) = (0 : Int32) from by decide]
  obtain ⟨cl2, Ar2, Qk2, Sz2, Nn2, Hh2, Gg2⟩ := id V_b2
  have hin2 : ¬ ((0 : Int32) < 0 ∨ cl2.slots.size ≤ ((0 : Int32)).toNatClampNeg) := inb_of Sz2 ⟨by decide, by decide⟩
  refine OutW.back (X1.aaload hx (j := (0 : Int32)) (v := (.ref d3)) (by rw [e1]; exact Ar2.1) (State.isArrayOf_alike hZ.alike Ar2.2.1) rfl Ar2.2.2 hin2 (Hh2.at hin2 (by rfl)) (g := (mkF m 12 #[.val (.ref a1), .val (.int (1 : Int32)), .val (.int p3)] [(.int (0 : Int32)), (.ref b2)])) rfl rfl (hb hby d11_12)) ?_
  show OutW _ _ _ _ _ _ _ (T1.setTop (mkF m 13 #[.val (.ref a1), .val (.int (1 : Int32)), .val (.int p3)] [(.ref d3)]))
  refine OutW.back (fun t k => XS.iloadN X1.here hx rfl (hb hby d11_13) rfl  k) ?_
  show OutW _ _ _ _ _ _ _ (T1.setTop (mkF m 14 #[.val (.ref a1), .val (.int (1 : Int32)), .val (.int p3)] [(.int (1 : Int32)), (.ref d3)]))
  refine OutW.back (X1.ldcInt hx hown (mvT hZ (hw _ (List.mem_of_getElem? (i := 37) rfl))) (g := (mkF m 14 #[.val (.ref a1), .val (.int (1 : Int32)), .val (.int p3)] [(.int (1 : Int32)), (.ref d3)])) rfl (hb hby d11_14)) ?_
  show OutW _ _ _ _ _ _ _ (T1.setTop (mkF m 16 #[.val (.ref a1), .val (.int (1 : Int32)), .val (.int p3)] [(.int (65535 : Int32)), (.int (1 : Int32)), (.ref d3)]))
  refine OutW.back (fun t k => XS.iand X1.here hx rfl (hb hby d11_16) rfl k) ?_
  show OutW _ _ _ _ _ _ _ (T1.setTop (mkF m 17 #[.val (.ref a1), .val (.int (1 : Int32)), .val (.int p3)] [(.int ((1 : Int32) &&& (65535 : Int32))), (.ref d3)]))
  rw [show ((1 : Int32) &&& (65535 : Int32)) = (1 : Int32) from by decide]
  refine OutW.back (fun t k => XS.iloadN X1.here hx rfl (hb hby d11_17) rfl  k) ?_
  show OutW _ _ _ _ _ _ _ (T1.setTop (mkF m 18 #[.val (.ref a1), .val (.int (1 : Int32)), .val (.int p3)] [(.int p3), (.int (1 : Int32)), (.ref d3)]))
  obtain ⟨cl3, Ar3, Qk3, Sz3, Nn3, Hh3, Gg3⟩ := id V_d3
  have hin3 : ¬ ((1 : Int32) < 0 ∨ cl3.slots.size ≤ ((1 : Int32)).toNatClampNeg) := inb_of Sz3 ⟨by decide, by decide⟩
  obtain ⟨T3, h3, X3, e3, W3, st3⟩ := stI X1 hx hZ e1 Ar3 (j := (1 : Int32)) hin3 (g := (mkF m 18 #[.val (.ref a1), .val (.int (1 : Int32)), .val (.int p3)] [(.int p3), (.int (1 : Int32)), (.ref d3)])) rfl rfl (hb hby d11_18)
  have V_d3_3 : Arv Z h3 d3 kD .int (4 : Int32) [(.int w0), (.int p3), (.int w2), (.int w3)] (.int (0 : Int32)) := Arv.set Ar3 Qk3 Sz3 Nn3 Hh3 Gg3 rfl W3 1 rfl (Nat.le_of_ble_eq_true rfl)
  have F_blocks_a1 := F_blocks_a1.other W3 (Or.inl ne_a1_d3)
  have V_b2 := V_b2.other W3 (Ne.symm ne_d3_b2)
  have N3 := Fr.snoc X3 N0 g_d3
  have Z3 : n0 ≤ h3.size := Nat.le_trans Z0 (Keep.of_wr W3).1
  have K3 := K0.wr W3 (Or.inl (List.mem_of_getElem? (i := 0) rfl))
  obtain ⟨lc3, X3, N3⟩ : ∃ lc, Stand p l e ({ frames := 0, cells := 0, slots := 0, locals := 0 } : Room) s m #[(.ref a1), (.int (1 : Int32)), (.int p3)] below meth c T3 lc 0 0 ∧ Fr n0 lc := ⟨_, X3, N3⟩
  refine OutW.back st3 ?_
  show OutW _ _ _ _ _ _ _ (T3.setTop (mkF m 19 #[.val (.ref a1), .val (.int (1 : Int32)), .val (.int p3)] []))
  refine OutW.back (fun t k => XS.goto X3.here hx rfl (pc0 := 19) (pc' := 33) rfl (hb hby d11_19) (by decide) (by decide) k) ?_
  show OutW _ _ _ _ _ _ _ (T3.setTop (mkF m 33 #[.val (.ref a1), .val (.int (1 : Int32)), .val (.int p3)] []))
  refine OutW.retV X3 hx Bd.returns hlk (hb hby d11_33) (by decide) (by decide) ?_
  show Q11_k1 Z a1 p3 b2 d3 kB kD w0 w1 w2 w3 h0 n0 _ T3.heap _
  rw [e3]
  exact ⟨rfl, N3, K3, V_d3_3⟩
theorem ef_11_c2 (m : MethodId) (x0 : Addr) (x1 : Int32) (x2 : Int32) : entryFrame m #[(.ref x0), (.int x1), (.int x2)] 3 = mkF m 0 #[.val (.ref x0), .val (.int x1), .val (.int x2)] [] := by first | (simp [entryFrame, mkF, argsToLocals, Value.category]; done) | rfl
def Q11_c2 (Z : State) (a1 : Addr) (p2 : Int32) (p3 : Int32) (b2 : Addr) (d3 : Addr) (c4 : Addr) (b5 : Addr) (d6 : Addr) (kB : ClassId) (kD : ClassId) (kE : ClassId) (kF : ClassId) (w0 : Int32) (w1 : Int32) (u0 : Int32) (u1 : Int32) (h0 : Heap) (n0 : Nat) (v : Option Value) (h : Heap) (L : List Loc) : Prop := v = none ∧ Fr n0 L ∧ Keep h0 h [d3, d6] ∧ Arv Z h d3 kD .int (2 : Int32) [(.int (if p2 = (0 : Int32) then p3 else w0)), (.int (if p2 = (1 : Int32) then p3 else w1))] (.int (0 : Int32)) ∧ Arv Z h d6 kF .int (4 : Int32) [(.int (if p2 = (-1 : Int32) then p3 else u0)), (.int (if p2 = (-2 : Int32) then p3 else u1)), (.int (0 : Int32)), (.int (0 : Int32))] (.int (0 : Int32))
set_option maxRecDepth 65536 in
set_option maxHeartbeats 40000000 in
theorem rm11_c2 (l : Launch) (Z : State) (a0 : Array Value) (hw : ∀ d ∈ tables_1, d.before a0 Z = true) (ws : List Jvm.Cond) (a1 : Addr) (p2 : Int32) (p3 : Int32) (b2 : Addr) (d3 : Addr) (c4 : Addr) (b5 : Addr) (d6 : Addr) (kB : ClassId) (kD : ClassId) (kE : ClassId) (kF : ClassId) (w0 : Int32) (w1 : Int32) (u0 : Int32) (u1 : Int32) (h0 : Heap) (n0 : Nat) (Z0 : n0 ≤ h0.size) (F_blocks_a1 : Fld Z h0 a1 "com/example/xml_document_query/xmldocumentquery/tree/IntColumn" "blocks" "[[I" (.ref b2)) (F_before_a1 : Fld Z h0 a1 "com/example/xml_document_query/xmldocumentquery/tree/IntColumn" "before" "Lcom/example/xml_document_query/xmldocumentquery/tree/IntColumn;" (.ref c4)) (V_b2 : Arv Z h0 b2 kB (.array .int) (1 : Int32) [(.ref d3)] .null) (V_d3 : Arv Z h0 d3 kD .int (2 : Int32) [(.int w0), (.int w1)] (.int (0 : Int32))) (E_c4 : Exa Z h0 c4 "com/example/xml_document_query/xmldocumentquery/tree/IntColumn") (F_blocks_c4 : Fld Z h0 c4 "com/example/xml_document_query/xmldocumentquery/tree/IntColumn" "blocks" "[[I" (.ref b5)) (V_b5 : Arv Z h0 b5 kE (.array .int) (1 : Int32) [(.ref d6)] .null) (V_d6 : Arv Z h0 d6 kF .int (4 : Int32) [(.int u0), (.int u1), (.int (0 : Int32)), (.int (0 : Int32))] (.int (0 : Int32))) (g_d3 : n0 ≤ d3) (g_d6 : n0 ≤ d6) (ne_d3_b2 : d3 ≠ b2) (ne_a1_d3 : a1 ≠ d3) (ne_d6_d3 : d6 ≠ d3) (ne_b5_d3 : b5 ≠ d3) (ne_c4_d3 : c4 ≠ d3) (ne_d6_b5 : d6 ≠ b5) (ne_c4_d6 : c4 ≠ d6) (ne_a1_d6 : a1 ≠ d6) (ne_b2_d6 : b2 ≠ d6) (hi : p2 = (-2 : Int32) ∨ p2 = (-1 : Int32) ∨ p2 = (0 : Int32) ∨ p2 = (1 : Int32)) :
    MetFree l (⟨"com/example/xml_document_query/xmldocumentquery/tree/IntColumn", "set", "(II)V"⟩ : MethodName) (head1 (Jvm.Cond.code (⟨"com/example/xml_document_query/xmldocumentquery/tree/IntColumn", "set", "(II)V"⟩ : MethodName) prog_168_method_5_code 3 none :: ws) ({ frames := 1, cells := 0, slots := 0, locals := 14 } : Room)) (fun a U => a = #[(.ref a1), (.int p2), (.int p3)] ∧ Z.Warmed39 U.vm ∧ U.heap = h0) (fun _ _ _ _ _ => True) (fun _ U o U' => ∃ v L, o = .returned v ∧ Q11_c2 Z a1 p2 p3 b2 d3 c4 b5 d6 kB kD kE kF w0 w1 u0 u1 h0 n0 v U'.heap L ∧ FrameEnd U o U' L ({ frames := 1, cells := 0, slots := 0, locals := 14 } : Room).cells ({ frames := 1, cells := 0, slots := 0, locals := 14 } : Room).slots) := by
  refine MetFree.of_bodySF (plainFor_of_name pn_11) hisR ?_
  intro p e s m args below meth c s₁ Bd hml0 hP hK
  obtain ⟨rfl, hZ, hh⟩ := hP
  have hx := Bd.exec
  have hby := Bd.bytes
  have hlk := Bd.notSynchronized
  have hml : c.maxLocals = 3 := hml0
  have hown : s.vm.findClass "com/example/xml_document_query/xmldocumentquery/tree/IntColumn" = some m.cls := findClass_of_methodNamed Bd.named
  have hnm := (name_of_methodNamed Bd.named Bd.method).1
  have X0 : Stand p l e ({ frames := 1, cells := 0, slots := 0, locals := 14 } : Room) s m #[(.ref a1), (.int p2), (.int p3)] below meth c s₁ [] 0 0 := Stand.of_body Bd
  have e0 : s₁.heap = h0 := by rw [← hh, Bd.state]; rfl
  have N0 := Fr.nil n0
  have K0 : Keep h0 h0 [d3, d6] := Keep.refl h0 _
  show OutW p e below s ({ frames := 1, cells := 0, slots := 0, locals := 14 } : Room).cells ({ frames := 1, cells := 0, slots := 0, locals := 14 } : Room).slots (Q11_c2 Z a1 p2 p3 b2 d3 c4 b5 d6 kB kD kE kF w0 w1 u0 u1 h0 n0) _
  refine OutW.back (fun t k => castTop (ef_11_c2 m a1 p2 p3) k) ?_
  show OutW _ _ _ _ _ _ _ (s₁.setTop (mkF m 0 #[.val (.ref a1), .val (.int p2), .val (.int p3)] []))
  have sp1 : p2 = (-2 : Int32) ∨ p2 = (-1 : Int32) ∨ p2 = (0 : Int32) ∨ p2 = (1 : Int32) := hi
  rcases sp1 with rfl | rfl | rfl | rfl
  · skip
    show OutW _ _ _ _ _ _ _ (s₁.setTop (mkF m 0 #[.val (.ref a1), .val (.int (-2 : Int32)), .val (.int p3)] []))
    refine OutW.back (fun t k => XS.iloadN X0.here hx rfl (hb hby d11_0) rfl  k) ?_
    show OutW _ _ _ _ _ _ _ (s₁.setTop (mkF m 1 #[.val (.ref a1), .val (.int (-2 : Int32)), .val (.int p3)] [(.int (-2 : Int32))]))
    refine OutW.back (fun t k => XS.ifYes X0.here hx rfl (pc0 := 1) (pc' := 22) rfl (hb hby d11_1) rfl ((if0 _ _).trans (tlt (by decide : (-2 : Int32) < (0 : Int32))).1) (by decide) (by decide) k) ?_
    show OutW _ _ _ _ _ _ _ (s₁.setTop (mkF m 22 #[.val (.ref a1), .val (.int (-2 : Int32)), .val (.int p3)] []))
    refine OutW.back (fun t k => XS.aloadN X0.here hx rfl (hb hby d11_22) rfl rfl  k) ?_
    show OutW _ _ _ _ _ _ _ (s₁.setTop (mkF m 23 #[.val (.ref a1), .val (.int (-2 : Int32)), .val (.int p3)] [(.ref a1)]))
    obtain ⟨T2, X2, e2, st2⟩ := getF X0 hx hZ hown (host := "") (Or.inl (hw _ (List.mem_of_getElem? (i := 67) rfl))) Via.refl e0 F_before_a1 (g := (mkF m 23 #[.val (.ref a1), .val (.int (-2 : Int32)), .val (.int p3)] [(.ref a1)])) rfl rfl (hb hby d11_23)
    refine OutW.back st2 ?_
    show OutW _ _ _ _ _ _ _ (T2.setTop (mkF m 26 #[.val (.ref a1), .val (.int (-2 : Int32)), .val (.int p3)] [(.ref c4)]))
    refine OutW.back (fun t k => XS.iconst X2.here hx rfl (hb hby d11_26) k) ?_
    show OutW _ _ _ _ _ _ _ (T2.setTop (mkF m 27 #[.val (.ref a1), .val (.int (-2 : Int32)), .val (.int p3)] [(.int (-1 : Int32)), (.ref c4)]))
    refine OutW.back (fun t k => XS.iloadN X2.here hx rfl (hb hby d11_27) rfl  k) ?_
    show OutW _ _ _ _ _ _ _ (T2.setTop (mkF m 28 #[.val (.ref a1), .val (.int (-2 : Int32)), .val (.int p3)] [(.int (-2 : Int32)), (.int (-1 : Int32)), (.ref c4)]))
    refine OutW.back (fun t k => XS.isub X2.here hx rfl (hb hby d11_28) rfl k) ?_
    show OutW _ _ _ _ _ _ _ (T2.setTop (mkF m 29 #[.val (.ref a1), .val (.int (-2 : Int32)), .val (.int p3)] [(.int ((-1 : Int32) - (-2 : Int32))), (.ref c4)]))
    rw [show ((-1 : Int32) - (-2 : Int32)) = (1 : Int32) from by decide]
    refine OutW.back (fun t k => XS.iloadN X2.here hx rfl (hb hby d11_29) rfl  k) ?_
    show OutW _ _ _ _ _ _ _ (T2.setTop (mkF m 30 #[.val (.ref a1), .val (.int (-2 : Int32)), .val (.int p3)] [(.int p3), (.int (1 : Int32)), (.ref c4)]))
    obtain ⟨cq3, kq3, qa3, qb3, qc3⟩ := isOf hZ e2 E_c4
    obtain ⟨_, _, ⟨T3, L3, k3, n3⟩, -, X3, ⟨Lc3, hQ3, l3, y3, z3⟩, st3⟩ := X2.virtualBack hx (y := (⟨"com/example/xml_document_query/xmldocumentquery/tree/IntColumn", "set", "(II)V"⟩ : MethodName)) (z := (⟨"com/example/xml_document_query/xmldocumentquery/tree/IntColumn", "set", "(II)V"⟩ : MethodName)) hown (mvT hZ (hw _ (List.mem_of_getElem? (i := 77) rfl))) (mvT hZ (hw _ (List.mem_of_getElem? (i := 73) rfl))) (notFace_of_selects (args := #[]) (mvT hZ (hw _ (List.mem_of_getElem? (i := 75) rfl)))) (mvT hZ (hw _ (List.mem_of_getElem? (i := 75) rfl))) (mvT hZ (hw _ (List.mem_of_getElem? (i := 74) rfl))) (by decide) (backOf (W := 0) (rm11_k1 l Z a0 hw [] c4 p3 b5 d6 kE kF u0 u1 (0 : Int32) (0 : Int32) h0 n0 Z0 F_blocks_c4 V_b5 V_d6 g_d6 ne_d6_b5 ne_c4_d6) hZ (hw _ (List.mem_of_getElem? (i := 76) rfl)) (hw _ (List.mem_of_getElem? (i := 2) rfl)) (by decide) (by decide)) qa3 qc3 (g := (mkF m 30 #[.val (.ref a1), .val (.int (-2 : Int32)), .val (.int p3)] [(.int p3), (.int (1 : Int32)), (.ref c4)])) rfl (by rw [hml]; rfl) (Steps.refl _) (argsL := [(.int (1 : Int32)), (.int p3)]) (rest := []) (lenOf pd_0 rfl) rfl (by show 2 * 0 + _ ≤ _; exact Nat.le_of_eq rfl) (hb hby d11_30) (fun _ _ => ⟨rfl, e2, (by decide : 0 + 0 ≤ _), (by decide : 0 + 0 ≤ _)⟩)
    dsimp only [Pt.U, Pt.locs, Pt.cells, Pt.slots] at X3 l3 y3 z3 st3 hQ3
    subst l3 y3 z3
    obtain ⟨h3, eh3⟩ : ∃ z, z = T3.heap := ⟨_, rfl⟩
    rw [← eh3] at hQ3
    have e3 : T3.heap = h3 := eh3.symm
    obtain ⟨rfl, Nq3, Kq3, V_d6_3⟩ := hQ3
    have F_blocks_a1 := F_blocks_a1.keep Kq3 (ninS ne_a1_d6 nin0)
    have F_before_a1 := F_before_a1.keep Kq3 (ninS ne_a1_d6 nin0)
    have V_b2 := V_b2.keep Kq3 (ninS ne_b2_d6 nin0)
    have V_d3 := V_d3.keep Kq3 (ninS (Ne.symm ne_d6_d3) nin0)
    have E_c4 := E_c4.keep Kq3
    have F_blocks_c4 := F_blocks_c4.keep Kq3 (ninS ne_c4_d6 nin0)
    have V_b5 := V_b5.keep Kq3 (ninS (Ne.symm ne_d6_b5) nin0)
    have Z3 : n0 ≤ h3.size := Nat.le_trans Z0 Kq3.1
    have K3 := K0.trans Kq3 (allS (Or.inl (List.mem_of_getElem? (i := 1) rfl)) all0)
    have N3 := Fr.app N0 Nq3
    obtain ⟨lc3, X3, N3⟩ : ∃ lc, Stand p l e ({ frames := 1, cells := 0, slots := 0, locals := 14 } : Room) s m #[(.ref a1), (.int (-2 : Int32)), (.int p3)] below meth c T3 lc 0 0 ∧ Fr n0 lc := ⟨_, X3, N3⟩
    refine OutW.via st3 ?_
    show OutW _ _ _ _ _ _ _ (T3.setTop (mkF m 33 #[.val (.ref a1), .val (.int (-2 : Int32)), .val (.int p3)] []))
    refine OutW.retV X3 hx Bd.returns hlk (hb hby d11_33) (by decide) (by decide) ?_
    show Q11_c2 Z a1 (-2 : Int32) p3 b2 d3 c4 b5 d6 kB kD kE kF w0 w1 u0 u1 h0 n0 _ T3.heap _
    rw [e3]
    exact ⟨rfl, N3, K3, V_d3, V_d6_3⟩
  · skip
    show OutW _ _ _ _ _ _ _ (s₁.setTop (mkF m 0 #[.val (.ref a1), .val (.int (-1 : Int32)), .val (.int p3)] []))
    refine OutW.back (fun t k => XS.iloadN X0.here hx rfl (hb hby d11_0) rfl  k) ?_
    show OutW _ _ _ _ _ _ _ (s₁.setTop (mkF m 1 #[.val (.ref a1), .val (.int (-1 : Int32)), .val (.int p3)] [(.int (-1 : Int32))]))
    refine OutW.back (fun t k => XS.ifYes X0.here hx rfl (pc0 := 1) (pc' := 22) rfl (hb hby d11_1) rfl ((if0 _ _).trans (tlt (by decide : (-1 : Int32) < (0 : Int32))).1) (by decide) (by decide) k) ?_
    show OutW _ _ _ _ _ _ _ (s₁.setTop (mkF m 22 #[.val (.ref a1), .val (.int (-1 : Int32)), .val (.int p3)] []))
    refine OutW.back (fun t k => XS.aloadN X0.here hx rfl (hb hby d11_22) rfl rfl  k) ?_
    show OutW _ _ _ _ _ _ _ (s₁.setTop (mkF m 23 #[.val (.ref a1), .val (.int (-1 : Int32)), .val (.int p3)] [(.ref a1)]))
    obtain ⟨T4, X4, e4, st4⟩ := getF X0 hx hZ hown (host := "") (Or.inl (hw _ (List.mem_of_getElem? (i := 67) rfl))) Via.refl e0 F_before_a1 (g := (mkF m 23 #[.val (.ref a1), .val (.int (-1 : Int32)), .val (.int p3)] [(.ref a1)])) rfl rfl (hb hby d11_23)
    refine OutW.back st4 ?_
    show OutW _ _ _ _ _ _ _ (T4.setTop (mkF m 26 #[.val (.ref a1), .val (.int (-1 : Int32)), .val (.int p3)] [(.ref c4)]))
    refine OutW.back (fun t k => XS.iconst X4.here hx rfl (hb hby d11_26) k) ?_
    show OutW _ _ _ _ _ _ _ (T4.setTop (mkF m 27 #[.val (.ref a1), .val (.int (-1 : Int32)), .val (.int p3)] [(.int (-1 : Int32)), (.ref c4)]))
    refine OutW.back (fun t k => XS.iloadN X4.here hx rfl (hb hby d11_27) rfl  k) ?_
    show OutW _ _ _ _ _ _ _ (T4.setTop (mkF m 28 #[.val (.ref a1), .val (.int (-1 : Int32)), .val (.int p3)] [(.int (-1 : Int32)), (.int (-1 : Int32)), (.ref c4)]))
    refine OutW.back (fun t k => XS.isub X4.here hx rfl (hb hby d11_28) rfl k) ?_
    show OutW _ _ _ _ _ _ _ (T4.setTop (mkF m 29 #[.val (.ref a1), .val (.int (-1 : Int32)), .val (.int p3)] [(.int ((-1 : Int32) - (-1 : Int32))), (.ref c4)]))
    rw [show ((-1 : Int32) - (-1 : Int32)) = (0 : Int32) from by decide]
    refine OutW.back (fun t k => XS.iloadN X4.here hx rfl (hb hby d11_29) rfl  k) ?_
    show OutW _ _ _ _ _ _ _ (T4.setTop (mkF m 30 #[.val (.ref a1), .val (.int (-1 : Int32)), .val (.int p3)] [(.int p3), (.int (0 : Int32)), (.ref c4)]))
    obtain ⟨cq5, kq5, qa5, qb5, qc5⟩ := isOf hZ e4 E_c4
    obtain ⟨_, _, ⟨T5, L5, k5, n5⟩, -, X5, ⟨Lc5, hQ5, l5, y5, z5⟩, st5⟩ := X4.virtualBack hx (y := (⟨"com/example/xml_document_query/xmldocumentquery/tree/IntColumn", "set", "(II)V"⟩ : MethodName)) (z := (⟨"com/example/xml_document_query/xmldocumentquery/tree/IntColumn", "set", "(II)V"⟩ : MethodName)) hown (mvT hZ (hw _ (List.mem_of_getElem? (i := 77) rfl))) (mvT hZ (hw _ (List.mem_of_getElem? (i := 73) rfl))) (notFace_of_selects (args := #[]) (mvT hZ (hw _ (List.mem_of_getElem? (i := 75) rfl)))) (mvT hZ (hw _ (List.mem_of_getElem? (i := 75) rfl))) (mvT hZ (hw _ (List.mem_of_getElem? (i := 74) rfl))) (by decide) (backOf (W := 0) (rm11_k0 l Z a0 hw [] c4 p3 b5 d6 kE kF u0 u1 (0 : Int32) (0 : Int32) h0 n0 Z0 F_blocks_c4 V_b5 V_d6 g_d6 ne_d6_b5 ne_c4_d6) hZ (hw _ (List.mem_of_getElem? (i := 76) rfl)) (hw _ (List.mem_of_getElem? (i := 2) rfl)) (by decide) (by decide)) qa5 qc5 (g := (mkF m 30 #[.val (.ref a1), .val (.int (-1 : Int32)), .val (.int p3)] [(.int p3), (.int (0 : Int32)), (.ref c4)])) rfl (by rw [hml]; rfl) (Steps.refl _) (argsL := [(.int (0 : Int32)), (.int p3)]) (rest := []) (lenOf pd_0 rfl) rfl (by show 2 * 0 + _ ≤ _; exact Nat.le_of_eq rfl) (hb hby d11_30) (fun _ _ => ⟨rfl, e4, (by decide : 0 + 0 ≤ _), (by decide : 0 + 0 ≤ _)⟩)
    dsimp only [Pt.U, Pt.locs, Pt.cells, Pt.slots] at X5 l5 y5 z5 st5 hQ5
    subst l5 y5 z5
    obtain ⟨h5, eh5⟩ : ∃ z, z = T5.heap := ⟨_, rfl⟩
    rw [← eh5] at hQ5
    have e5 : T5.heap = h5 := eh5.symm
    obtain ⟨rfl, Nq5, Kq5, V_d6_5⟩ := hQ5
    have F_blocks_a1 := F_blocks_a1.keep Kq5 (ninS ne_a1_d6 nin0)
    have F_before_a1 := F_before_a1.keep Kq5 (ninS ne_a1_d6 nin0)
    have V_b2 := V_b2.keep Kq5 (ninS ne_b2_d6 nin0)
    have V_d3 := V_d3.keep Kq5 (ninS (Ne.symm ne_d6_d3) nin0)
    have E_c4 := E_c4.keep Kq5
    have F_blocks_c4 := F_blocks_c4.keep Kq5 (ninS ne_c4_d6 nin0)
    have V_b5 := V_b5.keep Kq5 (ninS (Ne.symm ne_d6_b5) nin0)
    have Z5 : n0 ≤ h5.size := Nat.le_trans Z0 Kq5.1
    have K5 := K0.trans Kq5 (allS (Or.inl (List.mem_of_getElem? (i := 1) rfl)) all0)
    have N5 := Fr.app N0 Nq5
    obtain ⟨lc5, X5, N5⟩ : ∃ lc, Stand p l e ({ frames := 1, cells := 0, slots := 0, locals := 14 } : Room) s m #[(.ref a1), (.int (-1 : Int32)), (.int p3)] below meth c T5 lc 0 0 ∧ Fr n0 lc := ⟨_, X5, N5⟩
    refine OutW.via st5 ?_
    show OutW _ _ _ _ _ _ _ (T5.setTop (mkF m 33 #[.val (.ref a1), .val (.int (-1 : Int32)), .val (.int p3)] []))
    refine OutW.retV X5 hx Bd.returns hlk (hb hby d11_33) (by decide) (by decide) ?_
    show Q11_c2 Z a1 (-1 : Int32) p3 b2 d3 c4 b5 d6 kB kD kE kF w0 w1 u0 u1 h0 n0 _ T5.heap _
    rw [e5]
    exact ⟨rfl, N5, K5, V_d3, V_d6_5⟩
  · skip
    show OutW _ _ _ _ _ _ _ (s₁.setTop (mkF m 0 #[.val (.ref a1), .val (.int (0 : Int32)), .val (.int p3)] []))
    refine OutW.back (fun t k => XS.iloadN X0.here hx rfl (hb hby d11_0) rfl  k) ?_
    show OutW _ _ _ _ _ _ _ (s₁.setTop (mkF m 1 #[.val (.ref a1), .val (.int (0 : Int32)), .val (.int p3)] [(.int (0 : Int32))]))
    refine OutW.back (fun t k => XS.ifNo X0.here hx rfl (hb hby d11_1) rfl ((if0 _ _).trans (flt (by decide : ¬ ((0 : Int32) < (0 : Int32)))).1) k) ?_
    show OutW _ _ _ _ _ _ _ (s₁.setTop (mkF m 4 #[.val (.ref a1), .val (.int (0 : Int32)), .val (.int p3)] []))
    refine OutW.back (fun t k => XS.aloadN X0.here hx rfl (hb hby d11_4) rfl rfl  k) ?_
    show OutW _ _ _ _ _ _ _ (s₁.setTop (mkF m 5 #[.val (.ref a1), .val (.int (0 : Int32)), .val (.int p3)] [(.ref a1)]))
    obtain ⟨T6, X6, e6, st6⟩ := getF X0 hx hZ hown (host := "") (Or.inl (hw _ (List.mem_of_getElem? (i := 22) rfl))) Via.refl e0 F_blocks_a1 (g := (mkF m 5 #[.val (.ref a1), .val (.int (0 : Int32)), .val (.int p3)] [(.ref a1)])) rfl rfl (hb hby d11_5)
    refine OutW.back st6 ?_
    show OutW _ _ _ _ _ _ _ (T6.setTop (mkF m 8 #[.val (.ref a1), .val (.int (0 : Int32)), .val (.int p3)] [(.ref b2)]))
    refine OutW.back (fun t k => XS.iloadN X6.here hx rfl (hb hby d11_8) rfl  k) ?_
    show OutW _ _ _ _ _ _ _ (T6.setTop (mkF m 9 #[.val (.ref a1), .val (.int (0 : Int32)), .val (.int p3)] [(.int (0 : Int32)), (.ref b2)]))
    refine OutW.back (fun t k => XS.bipush X6.here hx rfl (hb hby d11_9) k) ?_
    show OutW _ _ _ _ _ _ _ (T6.setTop (mkF m 11 #[.val (.ref a1), .val (.int (0 : Int32)), .val (.int p3)] [(.int (16 : Int32)), (.int (0 : Int32)), (.ref b2)]))
    refine OutW.back (fun t k => XS.iushr X6.here hx rfl (hb hby d11_11) rfl k) ?_
    show OutW _ _ _ _ _ _ _ (T6.setTop (mkF m 12 #[.val (.ref a1), .val (.int (0 : Int32)), .val (.int p3)] [(.int (((0 : Int32).toUInt32 >>> ((16 : Int32) &&& 31).toUInt32).toInt32)), (.ref b2)]))
    rw [show (((0 : Int32).toUInt32 >>> ((16 : Int32) &&& 31).toUInt32).toInt32) = (0 : Int32) from by decide]
    obtain ⟨cl7, Ar7, Qk7, Sz7, Nn7, Hh7, Gg7⟩ := id V_b2
    have hin7 : ¬ ((0 : Int32) < 0 ∨ cl7.slots.size ≤ ((0 : Int32)).toNatClampNeg) := inb_of Sz7 ⟨by decide, by decide⟩
    refine OutW.back (X6.aaload hx (j := (0 : Int32)) (v := (.ref d3)) (by rw [e6]; exact Ar7.1) (State.isArrayOf_alike hZ.alike Ar7.2.1) rfl Ar7.2.2 hin7 (Hh7.at hin7 (by rfl)) (g := (mkF m 12 #[.val (.ref a1), .val (.int (0 : Int32)), .val (.int p3)] [(.int (0 : Int32)), (.ref b2)])) rfl rfl (hb hby d11_12)) ?_
    show OutW _ _ _ _ _ _ _ (T6.setTop (mkF m 13 #[.val (.ref a1), .val (.int (0 : Int32)), .val (.int p3)] [(.ref d3)]))
    refine OutW.back (fun t k => XS.iloadN X6.here hx rfl (hb hby d11_13) rfl  k) ?_
    show OutW _ _ _ _ _ _ _ (T6.setTop (mkF m 14 #[.val (.ref a1), .val (.int (0 : Int32)), .val (.int p3)] [(.int (0 : Int32)), (.ref d3)]))
    refine OutW.back (X6.ldcInt hx hown (mvT hZ (hw _ (List.mem_of_getElem? (i := 37) rfl))) (g := (mkF m 14 #[.val (.ref a1), .val (.int (0 : Int32)), .val (.int p3)] [(.int (0 : Int32)), (.ref d3)])) rfl (hb hby d11_14)) ?_
    show OutW _ _ _ _ _ _ _ (T6.setTop (mkF m 16 #[.val (.ref a1), .val (.int (0 : Int32)), .val (.int p3)] [(.int (65535 : Int32)), (.int (0 : Int32)), (.ref d3)]))
    refine OutW.back (fun t k => XS.iand X6.here hx rfl (hb hby d11_16) rfl k) ?_
    show OutW _ _ _ _ _ _ _ (T6.setTop (mkF m 17 #[.val (.ref a1), .val (.int (0 : Int32)), .val (.int p3)] [(.int ((0 : Int32) &&& (65535 : Int32))), (.ref d3)]))
    rw [show ((0 : Int32) &&& (65535 : Int32)) = (0 : Int32) from by decide]
    refine OutW.back (fun t k => XS.iloadN X6.here hx rfl (hb hby d11_17) rfl  k) ?_
    show OutW _ _ _ _ _ _ _ (T6.setTop (mkF m 18 #[.val (.ref a1), .val (.int (0 : Int32)), .val (.int p3)] [(.int p3), (.int (0 : Int32)), (.ref d3)]))
    obtain ⟨cl8, Ar8, Qk8, Sz8, Nn8, Hh8, Gg8⟩ := id V_d3
    have hin8 : ¬ ((0 : Int32) < 0 ∨ cl8.slots.size ≤ ((0 : Int32)).toNatClampNeg) := inb_of Sz8 ⟨by decide, by decide⟩
    obtain ⟨T8, h8, X8, e8, W8, st8⟩ := stI X6 hx hZ e6 Ar8 (j := (0 : Int32)) hin8 (g := (mkF m 18 #[.val (.ref a1), .val (.int (0 : Int32)), .val (.int p3)] [(.int p3), (.int (0 : Int32)), (.ref d3)])) rfl rfl (hb hby d11_18)
    have V_d3_8 : Arv Z h8 d3 kD .int (2 : Int32) [(.int p3), (.int w1)] (.int (0 : Int32)) := Arv.set Ar8 Qk8 Sz8 Nn8 Hh8 Gg8 rfl W8 0 rfl (Nat.le_of_ble_eq_true rfl)
    have F_blocks_a1 := F_blocks_a1.other W8 (Or.inl ne_a1_d3)
    have F_before_a1 := F_before_a1.other W8 (Or.inl ne_a1_d3)
    have V_b2 := V_b2.other W8 (Ne.symm ne_d3_b2)
    have E_c4 := E_c4.wr W8
    have F_blocks_c4 := F_blocks_c4.other W8 (Or.inl ne_c4_d3)
    have V_b5 := V_b5.other W8 ne_b5_d3
    have V_d6 := V_d6.other W8 ne_d6_d3
    have N8 := Fr.snoc X8 N0 g_d3
    have Z8 : n0 ≤ h8.size := Nat.le_trans Z0 (Keep.of_wr W8).1
    have K8 := K0.wr W8 (Or.inl (List.mem_of_getElem? (i := 0) rfl))
    obtain ⟨lc8, X8, N8⟩ : ∃ lc, Stand p l e ({ frames := 1, cells := 0, slots := 0, locals := 14 } : Room) s m #[(.ref a1), (.int (0 : Int32)), (.int p3)] below meth c T8 lc 0 0 ∧ Fr n0 lc := ⟨_, X8, N8⟩
    refine OutW.back st8 ?_
    show OutW _ _ _ _ _ _ _ (T8.setTop (mkF m 19 #[.val (.ref a1), .val (.int (0 : Int32)), .val (.int p3)] []))
    refine OutW.back (fun t k => XS.goto X8.here hx rfl (pc0 := 19) (pc' := 33) rfl (hb hby d11_19) (by decide) (by decide) k) ?_
    show OutW _ _ _ _ _ _ _ (T8.setTop (mkF m 33 #[.val (.ref a1), .val (.int (0 : Int32)), .val (.int p3)] []))
    refine OutW.retV X8 hx Bd.returns hlk (hb hby d11_33) (by decide) (by decide) ?_
    show Q11_c2 Z a1 (0 : Int32) p3 b2 d3 c4 b5 d6 kB kD kE kF w0 w1 u0 u1 h0 n0 _ T8.heap _
    rw [e8]
    exact ⟨rfl, N8, K8, V_d3_8, V_d6⟩
  · skip
    show OutW _ _ _ _ _ _ _ (s₁.setTop (mkF m 0 #[.val (.ref a1), .val (.int (1 : Int32)), .val (.int p3)] []))
    refine OutW.back (fun t k => XS.iloadN X0.here hx rfl (hb hby d11_0) rfl  k) ?_
    show OutW _ _ _ _ _ _ _ (s₁.setTop (mkF m 1 #[.val (.ref a1), .val (.int (1 : Int32)), .val (.int p3)] [(.int (1 : Int32))]))
    refine OutW.back (fun t k => XS.ifNo X0.here hx rfl (hb hby d11_1) rfl ((if0 _ _).trans (flt (by decide : ¬ ((1 : Int32) < (0 : Int32)))).1) k) ?_
    show OutW _ _ _ _ _ _ _ (s₁.setTop (mkF m 4 #[.val (.ref a1), .val (.int (1 : Int32)), .val (.int p3)] []))
    refine OutW.back (fun t k => XS.aloadN X0.here hx rfl (hb hby d11_4) rfl rfl  k) ?_
    show OutW _ _ _ _ _ _ _ (s₁.setTop (mkF m 5 #[.val (.ref a1), .val (.int (1 : Int32)), .val (.int p3)] [(.ref a1)]))
    obtain ⟨T9, X9, e9, st9⟩ := getF X0 hx hZ hown (host := "") (Or.inl (hw _ (List.mem_of_getElem? (i := 22) rfl))) Via.refl e0 F_blocks_a1 (g := (mkF m 5 #[.val (.ref a1), .val (.int (1 : Int32)), .val (.int p3)] [(.ref a1)])) rfl rfl (hb hby d11_5)
    refine OutW.back st9 ?_
    show OutW _ _ _ _ _ _ _ (T9.setTop (mkF m 8 #[.val (.ref a1), .val (.int (1 : Int32)), .val (.int p3)] [(.ref b2)]))
    refine OutW.back (fun t k => XS.iloadN X9.here hx rfl (hb hby d11_8) rfl  k) ?_
    show OutW _ _ _ _ _ _ _ (T9.setTop (mkF m 9 #[.val (.ref a1), .val (.int (1 : Int32)), .val (.int p3)] [(.int (1 : Int32)), (.ref b2)]))
    refine OutW.back (fun t k => XS.bipush X9.here hx rfl (hb hby d11_9) k) ?_
    show OutW _ _ _ _ _ _ _ (T9.setTop (mkF m 11 #[.val (.ref a1), .val (.int (1 : Int32)), .val (.int p3)] [(.int (16 : Int32)), (.int (1 : Int32)), (.ref b2)]))
    refine OutW.back (fun t k => XS.iushr X9.here hx rfl (hb hby d11_11) rfl k) ?_
    show OutW _ _ _ _ _ _ _ (T9.setTop (mkF m 12 #[.val (.ref a1), .val (.int (1 : Int32)), .val (.int p3)] [(.int (((1 : Int32).toUInt32 >>> ((16 : Int32) &&& 31).toUInt32).toInt32)), (.ref b2)]))
    rw [show (((1 : Int32).toUInt32 >>> ((16 : Int32) &&& 31).toUInt32).toInt32) = (0 : Int32) from by decide]
    obtain ⟨cl10, Ar10, Qk10, Sz10, Nn10, Hh10, Gg10⟩ := id V_b2
    have hin10 : ¬ ((0 : Int32) < 0 ∨ cl10.slots.size ≤ ((0 : Int32)).toNatClampNeg) := inb_of Sz10 ⟨by decide, by decide⟩
    refine OutW.back (X9.aaload hx (j := (0 : Int32)) (v := (.ref d3)) (by rw [e9]; exact Ar10.1) (State.isArrayOf_alike hZ.alike Ar10.2.1) rfl Ar10.2.2 hin10 (Hh10.at hin10 (by rfl)) (g := (mkF m 12 #[.val (.ref a1), .val (.int (1 : Int32)), .val (.int p3)] [(.int (0 : Int32)), (.ref b2)])) rfl rfl (hb hby d11_12)) ?_
    show OutW _ _ _ _ _ _ _ (T9.setTop (mkF m 13 #[.val (.ref a1), .val (.int (1 : Int32)), .val (.int p3)] [(.ref d3)]))
    refine OutW.back (fun t k => XS.iloadN X9.here hx rfl (hb hby d11_13) rfl  k) ?_
    show OutW _ _ _ _ _ _ _ (T9.setTop (mkF m 14 #[.val (.ref a1), .val (.int (1 : Int32)), .val (.int p3)] [(.int (1 : Int32)), (.ref d3)]))
    refine OutW.back (X9.ldcInt hx hown (mvT hZ (hw _ (List.mem_of_getElem? (i := 37) rfl))) (g := (mkF m 14 #[.val (.ref a1), .val (.int (1 : Int32)), .val (.int p3)] [(.int (1 : Int32)), (.ref d3)])) rfl (hb hby d11_14)) ?_
    show OutW _ _ _ _ _ _ _ (T9.setTop (mkF m 16 #[.val (.ref a1), .val (.int (1 : Int32)), .val (.int p3)] [(.int (65535 : Int32)), (.int (1 : Int32)), (.ref d3)]))
    refine OutW.back (fun t k => XS.iand X9.here hx rfl (hb hby d11_16) rfl k) ?_
    show OutW _ _ _ _ _ _ _ (T9.setTop (mkF m 17 #[.val (.ref a1), .val (.int (1 : Int32)), .val (.int p3)] [(.int ((1 : Int32) &&& (65535 : Int32))), (.ref d3)]))
    rw [show ((1 : Int32) &&& (65535 : Int32)) = (1 : Int32) from by decide]
    refine OutW.back (fun t k => XS.iloadN X9.here hx rfl (hb hby d11_17) rfl  k) ?_
    show OutW _ _ _ _ _ _ _ (T9.setTop (mkF m 18 #[.val (.ref a1), .val (.int (1 : Int32)), .val (.int p3)] [(.int p3), (.int (1 : Int32)), (.ref d3)]))
    obtain ⟨cl11, Ar11, Qk11, Sz11, Nn11, Hh11, Gg11⟩ := id V_d3
    have hin11 : ¬ ((1 : Int32) < 0 ∨ cl11.slots.size ≤ ((1 : Int32)).toNatClampNeg) := inb_of Sz11 ⟨by decide, by decide⟩
    obtain ⟨T11, h11, X11, e11, W11, st11⟩ := stI X9 hx hZ e9 Ar11 (j := (1 : Int32)) hin11 (g := (mkF m 18 #[.val (.ref a1), .val (.int (1 : Int32)), .val (.int p3)] [(.int p3), (.int (1 : Int32)), (.ref d3)])) rfl rfl (hb hby d11_18)
    have V_d3_11 : Arv Z h11 d3 kD .int (2 : Int32) [(.int w0), (.int p3)] (.int (0 : Int32)) := Arv.set Ar11 Qk11 Sz11 Nn11 Hh11 Gg11 rfl W11 1 rfl (Nat.le_of_ble_eq_true rfl)
    have F_blocks_a1 := F_blocks_a1.other W11 (Or.inl ne_a1_d3)
    have F_before_a1 := F_before_a1.other W11 (Or.inl ne_a1_d3)
    have V_b2 := V_b2.other W11 (Ne.symm ne_d3_b2)
    have E_c4 := E_c4.wr W11
    have F_blocks_c4 := F_blocks_c4.other W11 (Or.inl ne_c4_d3)
    have V_b5 := V_b5.other W11 ne_b5_d3
    have V_d6 := V_d6.other W11 ne_d6_d3
    have N11 := Fr.snoc X11 N0 g_d3
    have Z11 : n0 ≤ h11.size := Nat.le_trans Z0 (Keep.of_wr W11).1
    have K11 := K0.wr W11 (Or.inl (List.mem_of_getElem? (i := 0) rfl))
    obtain ⟨lc11, X11, N11⟩ : ∃ lc, Stand p l e ({ frames := 1, cells := 0, slots := 0, locals := 14 } : Room) s m #[(.ref a1), (.int (1 : Int32)), (.int p3)] below meth c T11 lc 0 0 ∧ Fr n0 lc := ⟨_, X11, N11⟩
    refine OutW.back st11 ?_
    show OutW _ _ _ _ _ _ _ (T11.setTop (mkF m 19 #[.val (.ref a1), .val (.int (1 : Int32)), .val (.int p3)] []))
    refine OutW.back (fun t k => XS.goto X11.here hx rfl (pc0 := 19) (pc' := 33) rfl (hb hby d11_19) (by decide) (by decide) k) ?_
    show OutW _ _ _ _ _ _ _ (T11.setTop (mkF m 33 #[.val (.ref a1), .val (.int (1 : Int32)), .val (.int p3)] []))
    refine OutW.retV X11 hx Bd.returns hlk (hb hby d11_33) (by decide) (by decide) ?_
    show Q11_c2 Z a1 (1 : Int32) p3 b2 d3 c4 b5 d6 kB kD kE kF w0 w1 u0 u1 h0 n0 _ T11.heap _
    rw [e11]
    exact ⟨rfl, N11, K11, V_d3_11, V_d6⟩
theorem ef_11_c4 (m : MethodId) (x0 : Addr) (x1 : Int32) (x2 : Int32) : entryFrame m #[(.ref x0), (.int x1), (.int x2)] 3 = mkF m 0 #[.val (.ref x0), .val (.int x1), .val (.int x2)] [] := by first | (simp [entryFrame, mkF, argsToLocals, Value.category]; done) | rfl
def Q11_c4 (Z : State) (a1 : Addr) (p2 : Int32) (p3 : Int32) (b2 : Addr) (d3 : Addr) (c4 : Addr) (b5 : Addr) (d6 : Addr) (kB : ClassId) (kD : ClassId) (kE : ClassId) (kF : ClassId) (w0 : Int32) (w1 : Int32) (u0 : Int32) (u1 : Int32) (h0 : Heap) (n0 : Nat) (v : Option Value) (h : Heap) (L : List Loc) : Prop := v = none ∧ Fr n0 L ∧ Keep h0 h [d3, d6] ∧ Arv Z h d3 kD .int (4 : Int32) [(.int (if p2 = (0 : Int32) then p3 else w0)), (.int (if p2 = (1 : Int32) then p3 else w1)), (.int (0 : Int32)), (.int (0 : Int32))] (.int (0 : Int32)) ∧ Arv Z h d6 kF .int (4 : Int32) [(.int (if p2 = (-1 : Int32) then p3 else u0)), (.int (if p2 = (-2 : Int32) then p3 else u1)), (.int (0 : Int32)), (.int (0 : Int32))] (.int (0 : Int32))
set_option maxRecDepth 65536 in
set_option maxHeartbeats 40000000 in
theorem rm11_c4 (l : Launch) (Z : State) (a0 : Array Value) (hw : ∀ d ∈ tables_1, d.before a0 Z = true) (ws : List Jvm.Cond) (a1 : Addr) (p2 : Int32) (p3 : Int32) (b2 : Addr) (d3 : Addr) (c4 : Addr) (b5 : Addr) (d6 : Addr) (kB : ClassId) (kD : ClassId) (kE : ClassId) (kF : ClassId) (w0 : Int32) (w1 : Int32) (u0 : Int32) (u1 : Int32) (h0 : Heap) (n0 : Nat) (Z0 : n0 ≤ h0.size) (F_blocks_a1 : Fld Z h0 a1 "com/example/xml_document_query/xmldocumentquery/tree/IntColumn" "blocks" "[[I" (.ref b2)) (F_before_a1 : Fld Z h0 a1 "com/example/xml_document_query/xmldocumentquery/tree/IntColumn" "before" "Lcom/example/xml_document_query/xmldocumentquery/tree/IntColumn;" (.ref c4)) (V_b2 : Arv Z h0 b2 kB (.array .int) (1 : Int32) [(.ref d3)] .null) (V_d3 : Arv Z h0 d3 kD .int (4 : Int32) [(.int w0), (.int w1), (.int (0 : Int32)), (.int (0 : Int32))] (.int (0 : Int32))) (E_c4 : Exa Z h0 c4 "com/example/xml_document_query/xmldocumentquery/tree/IntColumn") (F_blocks_c4 : Fld Z h0 c4 "com/example/xml_document_query/xmldocumentquery/tree/IntColumn" "blocks" "[[I" (.ref b5)) (V_b5 : Arv Z h0 b5 kE (.array .int) (1 : Int32) [(.ref d6)] .null) (V_d6 : Arv Z h0 d6 kF .int (4 : Int32) [(.int u0), (.int u1), (.int (0 : Int32)), (.int (0 : Int32))] (.int (0 : Int32))) (g_d3 : n0 ≤ d3) (g_d6 : n0 ≤ d6) (ne_d3_b2 : d3 ≠ b2) (ne_a1_d3 : a1 ≠ d3) (ne_d6_d3 : d6 ≠ d3) (ne_b5_d3 : b5 ≠ d3) (ne_c4_d3 : c4 ≠ d3) (ne_d6_b5 : d6 ≠ b5) (ne_c4_d6 : c4 ≠ d6) (ne_a1_d6 : a1 ≠ d6) (ne_b2_d6 : b2 ≠ d6) (hi : p2 = (-2 : Int32) ∨ p2 = (-1 : Int32) ∨ p2 = (0 : Int32) ∨ p2 = (1 : Int32)) :
    MetFree l (⟨"com/example/xml_document_query/xmldocumentquery/tree/IntColumn", "set", "(II)V"⟩ : MethodName) (head1 (Jvm.Cond.code (⟨"com/example/xml_document_query/xmldocumentquery/tree/IntColumn", "set", "(II)V"⟩ : MethodName) prog_168_method_5_code 3 none :: ws) ({ frames := 1, cells := 0, slots := 0, locals := 14 } : Room)) (fun a U => a = #[(.ref a1), (.int p2), (.int p3)] ∧ Z.Warmed39 U.vm ∧ U.heap = h0) (fun _ _ _ _ _ => True) (fun _ U o U' => ∃ v L, o = .returned v ∧ Q11_c4 Z a1 p2 p3 b2 d3 c4 b5 d6 kB kD kE kF w0 w1 u0 u1 h0 n0 v U'.heap L ∧ FrameEnd U o U' L ({ frames := 1, cells := 0, slots := 0, locals := 14 } : Room).cells ({ frames := 1, cells := 0, slots := 0, locals := 14 } : Room).slots) := by
  refine MetFree.of_bodySF (plainFor_of_name pn_11) hisR ?_
  intro p e s m args below meth c s₁ Bd hml0 hP hK
  obtain ⟨rfl, hZ, hh⟩ := hP
  have hx := Bd.exec
  have hby := Bd.bytes
  have hlk := Bd.notSynchronized
  have hml : c.maxLocals = 3 := hml0
  have hown : s.vm.findClass "com/example/xml_document_query/xmldocumentquery/tree/IntColumn" = some m.cls := findClass_of_methodNamed Bd.named
  have hnm := (name_of_methodNamed Bd.named Bd.method).1
  have X0 : Stand p l e ({ frames := 1, cells := 0, slots := 0, locals := 14 } : Room) s m #[(.ref a1), (.int p2), (.int p3)] below meth c s₁ [] 0 0 := Stand.of_body Bd
  have e0 : s₁.heap = h0 := by rw [← hh, Bd.state]; rfl
  have N0 := Fr.nil n0
  have K0 : Keep h0 h0 [d3, d6] := Keep.refl h0 _
  show OutW p e below s ({ frames := 1, cells := 0, slots := 0, locals := 14 } : Room).cells ({ frames := 1, cells := 0, slots := 0, locals := 14 } : Room).slots (Q11_c4 Z a1 p2 p3 b2 d3 c4 b5 d6 kB kD kE kF w0 w1 u0 u1 h0 n0) _
  refine OutW.back (fun t k => castTop (ef_11_c4 m a1 p2 p3) k) ?_
  show OutW _ _ _ _ _ _ _ (s₁.setTop (mkF m 0 #[.val (.ref a1), .val (.int p2), .val (.int p3)] []))
  have sp1 : p2 = (-2 : Int32) ∨ p2 = (-1 : Int32) ∨ p2 = (0 : Int32) ∨ p2 = (1 : Int32) := hi
  rcases sp1 with rfl | rfl | rfl | rfl
  · skip
    show OutW _ _ _ _ _ _ _ (s₁.setTop (mkF m 0 #[.val (.ref a1), .val (.int (-2 : Int32)), .val (.int p3)] []))
    refine OutW.back (fun t k => XS.iloadN X0.here hx rfl (hb hby d11_0) rfl  k) ?_
    show OutW _ _ _ _ _ _ _ (s₁.setTop (mkF m 1 #[.val (.ref a1), .val (.int (-2 : Int32)), .val (.int p3)] [(.int (-2 : Int32))]))
    refine OutW.back (fun t k => XS.ifYes X0.here hx rfl (pc0 := 1) (pc' := 22) rfl (hb hby d11_1) rfl ((if0 _ _).trans (tlt (by decide : (-2 : Int32) < (0 : Int32))).1) (by decide) (by decide) k) ?_
    show OutW _ _ _ _ _ _ _ (s₁.setTop (mkF m 22 #[.val (.ref a1), .val (.int (-2 : Int32)), .val (.int p3)] []))
    refine OutW.back (fun t k => XS.aloadN X0.here hx rfl (hb hby d11_22) rfl rfl  k) ?_
    show OutW _ _ _ _ _ _ _ (s₁.setTop (mkF m 23 #[.val (.ref a1), .val (.int (-2 : Int32)), .val (.int p3)] [(.ref a1)]))
    obtain ⟨T2, X2, e2, st2⟩ := getF X0 hx hZ hown (host := "") (Or.inl (hw _ (List.mem_of_getElem? (i := 67) rfl))) Via.refl e0 F_before_a1 (g := (mkF m 23 #[.val (.ref a1), .val (.int (-2 : Int32)), .val (.int p3)] [(.ref a1)])) rfl rfl (hb hby d11_23)
    refine OutW.back st2 ?_
    show OutW _ _ _ _ _ _ _ (T2.setTop (mkF m 26 #[.val (.ref a1), .val (.int (-2 : Int32)), .val (.int p3)] [(.ref c4)]))
    refine OutW.back (fun t k => XS.iconst X2.here hx rfl (hb hby d11_26) k) ?_
    show OutW _ _ _ _ _ _ _ (T2.setTop (mkF m 27 #[.val (.ref a1), .val (.int (-2 : Int32)), .val (.int p3)] [(.int (-1 : Int32)), (.ref c4)]))
    refine OutW.back (fun t k => XS.iloadN X2.here hx rfl (hb hby d11_27) rfl  k) ?_
    show OutW _ _ _ _ _ _ _ (T2.setTop (mkF m 28 #[.val (.ref a1), .val (.int (-2 : Int32)), .val (.int p3)] [(.int (-2 : Int32)), (.int (-1 : Int32)), (.ref c4)]))
    refine OutW.back (fun t k => XS.isub X2.here hx rfl (hb hby d11_28) rfl k) ?_
    show OutW _ _ _ _ _ _ _ (T2.setTop (mkF m 29 #[.val (.ref a1), .val (.int (-2 : Int32)), .val (.int p3)] [(.int ((-1 : Int32) - (-2 : Int32))), (.ref c4)]))
    rw [show ((-1 : Int32) - (-2 : Int32)) = (1 : Int32) from by decide]
    refine OutW.back (fun t k => XS.iloadN X2.here hx rfl (hb hby d11_29) rfl  k) ?_
    show OutW _ _ _ _ _ _ _ (T2.setTop (mkF m 30 #[.val (.ref a1), .val (.int (-2 : Int32)), .val (.int p3)] [(.int p3), (.int (1 : Int32)), (.ref c4)]))
    obtain ⟨cq3, kq3, qa3, qb3, qc3⟩ := isOf hZ e2 E_c4
    obtain ⟨_, _, ⟨T3, L3, k3, n3⟩, -, X3, ⟨Lc3, hQ3, l3, y3, z3⟩, st3⟩ := X2.virtualBack hx (y := (⟨"com/example/xml_document_query/xmldocumentquery/tree/IntColumn", "set", "(II)V"⟩ : MethodName)) (z := (⟨"com/example/xml_document_query/xmldocumentquery/tree/IntColumn", "set", "(II)V"⟩ : MethodName)) hown (mvT hZ (hw _ (List.mem_of_getElem? (i := 77) rfl))) (mvT hZ (hw _ (List.mem_of_getElem? (i := 73) rfl))) (notFace_of_selects (args := #[]) (mvT hZ (hw _ (List.mem_of_getElem? (i := 75) rfl)))) (mvT hZ (hw _ (List.mem_of_getElem? (i := 75) rfl))) (mvT hZ (hw _ (List.mem_of_getElem? (i := 74) rfl))) (by decide) (backOf (W := 0) (rm11_k1 l Z a0 hw [] c4 p3 b5 d6 kE kF u0 u1 (0 : Int32) (0 : Int32) h0 n0 Z0 F_blocks_c4 V_b5 V_d6 g_d6 ne_d6_b5 ne_c4_d6) hZ (hw _ (List.mem_of_getElem? (i := 76) rfl)) (hw _ (List.mem_of_getElem? (i := 2) rfl)) (by decide) (by decide)) qa3 qc3 (g := (mkF m 30 #[.val (.ref a1), .val (.int (-2 : Int32)), .val (.int p3)] [(.int p3), (.int (1 : Int32)), (.ref c4)])) rfl (by rw [hml]; rfl) (Steps.refl _) (argsL := [(.int (1 : Int32)), (.int p3)]) (rest := []) (lenOf pd_0 rfl) rfl (by show 2 * 0 + _ ≤ _; exact Nat.le_of_eq rfl) (hb hby d11_30) (fun _ _ => ⟨rfl, e2, (by decide : 0 + 0 ≤ _), (by decide : 0 + 0 ≤ _)⟩)
    dsimp only [Pt.U, Pt.locs, Pt.cells, Pt.slots] at X3 l3 y3 z3 st3 hQ3
    subst l3 y3 z3
    obtain ⟨h3, eh3⟩ : ∃ z, z = T3.heap := ⟨_, rfl⟩
    rw [← eh3] at hQ3
    have e3 : T3.heap = h3 := eh3.symm
    obtain ⟨rfl, Nq3, Kq3, V_d6_3⟩ := hQ3
    have F_blocks_a1 := F_blocks_a1.keep Kq3 (ninS ne_a1_d6 nin0)
    have F_before_a1 := F_before_a1.keep Kq3 (ninS ne_a1_d6 nin0)
    have V_b2 := V_b2.keep Kq3 (ninS ne_b2_d6 nin0)
    have V_d3 := V_d3.keep Kq3 (ninS (Ne.symm ne_d6_d3) nin0)
    have E_c4 := E_c4.keep Kq3
    have F_blocks_c4 := F_blocks_c4.keep Kq3 (ninS ne_c4_d6 nin0)
    have V_b5 := V_b5.keep Kq3 (ninS (Ne.symm ne_d6_b5) nin0)
    have Z3 : n0 ≤ h3.size := Nat.le_trans Z0 Kq3.1
    have K3 := K0.trans Kq3 (allS (Or.inl (List.mem_of_getElem? (i := 1) rfl)) all0)
    have N3 := Fr.app N0 Nq3
    obtain ⟨lc3, X3, N3⟩ : ∃ lc, Stand p l e ({ frames := 1, cells := 0, slots := 0, locals := 14 } : Room) s m #[(.ref a1), (.int (-2 : Int32)), (.int p3)] below meth c T3 lc 0 0 ∧ Fr n0 lc := ⟨_, X3, N3⟩
    refine OutW.via st3 ?_
    show OutW _ _ _ _ _ _ _ (T3.setTop (mkF m 33 #[.val (.ref a1), .val (.int (-2 : Int32)), .val (.int p3)] []))
    refine OutW.retV X3 hx Bd.returns hlk (hb hby d11_33) (by decide) (by decide) ?_
    show Q11_c4 Z a1 (-2 : Int32) p3 b2 d3 c4 b5 d6 kB kD kE kF w0 w1 u0 u1 h0 n0 _ T3.heap _
    rw [e3]
    exact ⟨rfl, N3, K3, V_d3, V_d6_3⟩
  · skip
    show OutW _ _ _ _ _ _ _ (s₁.setTop (mkF m 0 #[.val (.ref a1), .val (.int (-1 : Int32)), .val (.int p3)] []))
    refine OutW.back (fun t k => XS.iloadN X0.here hx rfl (hb hby d11_0) rfl  k) ?_
    show OutW _ _ _ _ _ _ _ (s₁.setTop (mkF m 1 #[.val (.ref a1), .val (.int (-1 : Int32)), .val (.int p3)] [(.int (-1 : Int32))]))
    refine OutW.back (fun t k => XS.ifYes X0.here hx rfl (pc0 := 1) (pc' := 22) rfl (hb hby d11_1) rfl ((if0 _ _).trans (tlt (by decide : (-1 : Int32) < (0 : Int32))).1) (by decide) (by decide) k) ?_
    show OutW _ _ _ _ _ _ _ (s₁.setTop (mkF m 22 #[.val (.ref a1), .val (.int (-1 : Int32)), .val (.int p3)] []))
    refine OutW.back (fun t k => XS.aloadN X0.here hx rfl (hb hby d11_22) rfl rfl  k) ?_
    show OutW _ _ _ _ _ _ _ (s₁.setTop (mkF m 23 #[.val (.ref a1), .val (.int (-1 : Int32)), .val (.int p3)] [(.ref a1)]))
    obtain ⟨T4, X4, e4, st4⟩ := getF X0 hx hZ hown (host := "") (Or.inl (hw _ (List.mem_of_getElem? (i := 67) rfl))) Via.refl e0 F_before_a1 (g := (mkF m 23 #[.val (.ref a1), .val (.int (-1 : Int32)), .val (.int p3)] [(.ref a1)])) rfl rfl (hb hby d11_23)
    refine OutW.back st4 ?_
    show OutW _ _ _ _ _ _ _ (T4.setTop (mkF m 26 #[.val (.ref a1), .val (.int (-1 : Int32)), .val (.int p3)] [(.ref c4)]))
    refine OutW.back (fun t k => XS.iconst X4.here hx rfl (hb hby d11_26) k) ?_
    show OutW _ _ _ _ _ _ _ (T4.setTop (mkF m 27 #[.val (.ref a1), .val (.int (-1 : Int32)), .val (.int p3)] [(.int (-1 : Int32)), (.ref c4)]))
    refine OutW.back (fun t k => XS.iloadN X4.here hx rfl (hb hby d11_27) rfl  k) ?_
    show OutW _ _ _ _ _ _ _ (T4.setTop (mkF m 28 #[.val (.ref a1), .val (.int (-1 : Int32)), .val (.int p3)] [(.int (-1 : Int32)), (.int (-1 : Int32)), (.ref c4)]))
    refine OutW.back (fun t k => XS.isub X4.here hx rfl (hb hby d11_28) rfl k) ?_
    show OutW _ _ _ _ _ _ _ (T4.setTop (mkF m 29 #[.val (.ref a1), .val (.int (-1 : Int32)), .val (.int p3)] [(.int ((-1 : Int32) - (-1 : Int32))), (.ref c4)]))
    rw [show ((-1 : Int32) - (-1 : Int32)) = (0 : Int32) from by decide]
    refine OutW.back (fun t k => XS.iloadN X4.here hx rfl (hb hby d11_29) rfl  k) ?_
    show OutW _ _ _ _ _ _ _ (T4.setTop (mkF m 30 #[.val (.ref a1), .val (.int (-1 : Int32)), .val (.int p3)] [(.int p3), (.int (0 : Int32)), (.ref c4)]))
    obtain ⟨cq5, kq5, qa5, qb5, qc5⟩ := isOf hZ e4 E_c4
    obtain ⟨_, _, ⟨T5, L5, k5, n5⟩, -, X5, ⟨Lc5, hQ5, l5, y5, z5⟩, st5⟩ := X4.virtualBack hx (y := (⟨"com/example/xml_document_query/xmldocumentquery/tree/IntColumn", "set", "(II)V"⟩ : MethodName)) (z := (⟨"com/example/xml_document_query/xmldocumentquery/tree/IntColumn", "set", "(II)V"⟩ : MethodName)) hown (mvT hZ (hw _ (List.mem_of_getElem? (i := 77) rfl))) (mvT hZ (hw _ (List.mem_of_getElem? (i := 73) rfl))) (notFace_of_selects (args := #[]) (mvT hZ (hw _ (List.mem_of_getElem? (i := 75) rfl)))) (mvT hZ (hw _ (List.mem_of_getElem? (i := 75) rfl))) (mvT hZ (hw _ (List.mem_of_getElem? (i := 74) rfl))) (by decide) (backOf (W := 0) (rm11_k0 l Z a0 hw [] c4 p3 b5 d6 kE kF u0 u1 (0 : Int32) (0 : Int32) h0 n0 Z0 F_blocks_c4 V_b5 V_d6 g_d6 ne_d6_b5 ne_c4_d6) hZ (hw _ (List.mem_of_getElem? (i := 76) rfl)) (hw _ (List.mem_of_getElem? (i := 2) rfl)) (by decide) (by decide)) qa5 qc5 (g := (mkF m 30 #[.val (.ref a1), .val (.int (-1 : Int32)), .val (.int p3)] [(.int p3), (.int (0 : Int32)), (.ref c4)])) rfl (by rw [hml]; rfl) (Steps.refl _) (argsL := [(.int (0 : Int32)), (.int p3)]) (rest := []) (lenOf pd_0 rfl) rfl (by show 2 * 0 + _ ≤ _; exact Nat.le_of_eq rfl) (hb hby d11_30) (fun _ _ => ⟨rfl, e4, (by decide : 0 + 0 ≤ _), (by decide : 0 + 0 ≤ _)⟩)
    dsimp only [Pt.U, Pt.locs, Pt.cells, Pt.slots] at X5 l5 y5 z5 st5 hQ5
    subst l5 y5 z5
    obtain ⟨h5, eh5⟩ : ∃ z, z = T5.heap := ⟨_, rfl⟩
    rw [← eh5] at hQ5
    have e5 : T5.heap = h5 := eh5.symm
    obtain ⟨rfl, Nq5, Kq5, V_d6_5⟩ := hQ5
    have F_blocks_a1 := F_blocks_a1.keep Kq5 (ninS ne_a1_d6 nin0)
    have F_before_a1 := F_before_a1.keep Kq5 (ninS ne_a1_d6 nin0)
    have V_b2 := V_b2.keep Kq5 (ninS ne_b2_d6 nin0)
    have V_d3 := V_d3.keep Kq5 (ninS (Ne.symm ne_d6_d3) nin0)
    have E_c4 := E_c4.keep Kq5
    have F_blocks_c4 := F_blocks_c4.keep Kq5 (ninS ne_c4_d6 nin0)
    have V_b5 := V_b5.keep Kq5 (ninS (Ne.symm ne_d6_b5) nin0)
    have Z5 : n0 ≤ h5.size := Nat.le_trans Z0 Kq5.1
    have K5 := K0.trans Kq5 (allS (Or.inl (List.mem_of_getElem? (i := 1) rfl)) all0)
    have N5 := Fr.app N0 Nq5
    obtain ⟨lc5, X5, N5⟩ : ∃ lc, Stand p l e ({ frames := 1, cells := 0, slots := 0, locals := 14 } : Room) s m #[(.ref a1), (.int (-1 : Int32)), (.int p3)] below meth c T5 lc 0 0 ∧ Fr n0 lc := ⟨_, X5, N5⟩
    refine OutW.via st5 ?_
    show OutW _ _ _ _ _ _ _ (T5.setTop (mkF m 33 #[.val (.ref a1), .val (.int (-1 : Int32)), .val (.int p3)] []))
    refine OutW.retV X5 hx Bd.returns hlk (hb hby d11_33) (by decide) (by decide) ?_
    show Q11_c4 Z a1 (-1 : Int32) p3 b2 d3 c4 b5 d6 kB kD kE kF w0 w1 u0 u1 h0 n0 _ T5.heap _
    rw [e5]
    exact ⟨rfl, N5, K5, V_d3, V_d6_5⟩
  · skip
    show OutW _ _ _ _ _ _ _ (s₁.setTop (mkF m 0 #[.val (.ref a1), .val (.int (0 : Int32)), .val (.int p3)] []))
    refine OutW.back (fun t k => XS.iloadN X0.here hx rfl (hb hby d11_0) rfl  k) ?_
    show OutW _ _ _ _ _ _ _ (s₁.setTop (mkF m 1 #[.val (.ref a1), .val (.int (0 : Int32)), .val (.int p3)] [(.int (0 : Int32))]))
    refine OutW.back (fun t k => XS.ifNo X0.here hx rfl (hb hby d11_1) rfl ((if0 _ _).trans (flt (by decide : ¬ ((0 : Int32) < (0 : Int32)))).1) k) ?_
    show OutW _ _ _ _ _ _ _ (s₁.setTop (mkF m 4 #[.val (.ref a1), .val (.int (0 : Int32)), .val (.int p3)] []))
    refine OutW.back (fun t k => XS.aloadN X0.here hx rfl (hb hby d11_4) rfl rfl  k) ?_
    show OutW _ _ _ _ _ _ _ (s₁.setTop (mkF m 5 #[.val (.ref a1), .val (.int (0 : Int32)), .val (.int p3)] [(.ref a1)]))
    obtain ⟨T6, X6, e6, st6⟩ := getF X0 hx hZ hown (host := "") (Or.inl (hw _ (List.mem_of_getElem? (i := 22) rfl))) Via.refl e0 F_blocks_a1 (g := (mkF m 5 #[.val (.ref a1), .val (.int (0 : Int32)), .val (.int p3)] [(.ref a1)])) rfl rfl (hb hby d11_5)
    refine OutW.back st6 ?_
    show OutW _ _ _ _ _ _ _ (T6.setTop (mkF m 8 #[.val (.ref a1), .val (.int (0 : Int32)), .val (.int p3)] [(.ref b2)]))
    refine OutW.back (fun t k => XS.iloadN X6.here hx rfl (hb hby d11_8) rfl  k) ?_
    show OutW _ _ _ _ _ _ _ (T6.setTop (mkF m 9 #[.val (.ref a1), .val (.int (0 : Int32)), .val (.int p3)] [(.int (0 : Int32)), (.ref b2)]))
    refine OutW.back (fun t k => XS.bipush X6.here hx rfl (hb hby d11_9) k) ?_
    show OutW _ _ _ _ _ _ _ (T6.setTop (mkF m 11 #[.val (.ref a1), .val (.int (0 : Int32)), .val (.int p3)] [(.int (16 : Int32)), (.int (0 : Int32)), (.ref b2)]))
    refine OutW.back (fun t k => XS.iushr X6.here hx rfl (hb hby d11_11) rfl k) ?_
    show OutW _ _ _ _ _ _ _ (T6.setTop (mkF m 12 #[.val (.ref a1), .val (.int (0 : Int32)), .val (.int p3)] [(.int (((0 : Int32).toUInt32 >>> ((16 : Int32) &&& 31).toUInt32).toInt32)), (.ref b2)]))
    rw [show (((0 : Int32).toUInt32 >>> ((16 : Int32) &&& 31).toUInt32).toInt32) = (0 : Int32) from by decide]
    obtain ⟨cl7, Ar7, Qk7, Sz7, Nn7, Hh7, Gg7⟩ := id V_b2
    have hin7 : ¬ ((0 : Int32) < 0 ∨ cl7.slots.size ≤ ((0 : Int32)).toNatClampNeg) := inb_of Sz7 ⟨by decide, by decide⟩
    refine OutW.back (X6.aaload hx (j := (0 : Int32)) (v := (.ref d3)) (by rw [e6]; exact Ar7.1) (State.isArrayOf_alike hZ.alike Ar7.2.1) rfl Ar7.2.2 hin7 (Hh7.at hin7 (by rfl)) (g := (mkF m 12 #[.val (.ref a1), .val (.int (0 : Int32)), .val (.int p3)] [(.int (0 : Int32)), (.ref b2)])) rfl rfl (hb hby d11_12)) ?_
    show OutW _ _ _ _ _ _ _ (T6.setTop (mkF m 13 #[.val (.ref a1), .val (.int (0 : Int32)), .val (.int p3)] [(.ref d3)]))
    refine OutW.back (fun t k => XS.iloadN X6.here hx rfl (hb hby d11_13) rfl  k) ?_
    show OutW _ _ _ _ _ _ _ (T6.setTop (mkF m 14 #[.val (.ref a1), .val (.int (0 : Int32)), .val (.int p3)] [(.int (0 : Int32)), (.ref d3)]))
    refine OutW.back (X6.ldcInt hx hown (mvT hZ (hw _ (List.mem_of_getElem? (i := 37) rfl))) (g := (mkF m 14 #[.val (.ref a1), .val (.int (0 : Int32)), .val (.int p3)] [(.int (0 : Int32)), (.ref d3)])) rfl (hb hby d11_14)) ?_
    show OutW _ _ _ _ _ _ _ (T6.setTop (mkF m 16 #[.val (.ref a1), .val (.int (0 : Int32)), .val (.int p3)] [(.int (65535 : Int32)), (.int (0 : Int32)), (.ref d3)]))
    refine OutW.back (fun t k => XS.iand X6.here hx rfl (hb hby d11_16) rfl k) ?_
    show OutW _ _ _ _ _ _ _ (T6.setTop (mkF m 17 #[.val (.ref a1), .val (.int (0 : Int32)), .val (.int p3)] [(.int ((0 : Int32) &&& (65535 : Int32))), (.ref d3)]))
    rw [show ((0 : Int32) &&& (65535 : Int32)) = (0 : Int32) from by decide]
    refine OutW.back (fun t k => XS.iloadN X6.here hx rfl (hb hby d11_17) rfl  k) ?_
    show OutW _ _ _ _ _ _ _ (T6.setTop (mkF m 18 #[.val (.ref a1), .val (.int (0 : Int32)), .val (.int p3)] [(.int p3), (.int (0 : Int32)), (.ref d3)]))
    obtain ⟨cl8, Ar8, Qk8, Sz8, Nn8, Hh8, Gg8⟩ := id V_d3
    have hin8 : ¬ ((0 : Int32) < 0 ∨ cl8.slots.size ≤ ((0 : Int32)).toNatClampNeg) := inb_of Sz8 ⟨by decide, by decide⟩
    obtain ⟨T8, h8, X8, e8, W8, st8⟩ := stI X6 hx hZ e6 Ar8 (j := (0 : Int32)) hin8 (g := (mkF m 18 #[.val (.ref a1), .val (.int (0 : Int32)), .val (.int p3)] [(.int p3), (.int (0 : Int32)), (.ref d3)])) rfl rfl (hb hby d11_18)
    have V_d3_8 : Arv Z h8 d3 kD .int (4 : Int32) [(.int p3), (.int w1), (.int (0 : Int32)), (.int (0 : Int32))] (.int (0 : Int32)) := Arv.set Ar8 Qk8 Sz8 Nn8 Hh8 Gg8 rfl W8 0 rfl (Nat.le_of_ble_eq_true rfl)
    have F_blocks_a1 := F_blocks_a1.other W8 (Or.inl ne_a1_d3)
    have F_before_a1 := F_before_a1.other W8 (Or.inl ne_a1_d3)
    have V_b2 := V_b2.other W8 (Ne.symm ne_d3_b2)
    have E_c4 := E_c4.wr W8
    have F_blocks_c4 := F_blocks_c4.other W8 (Or.inl ne_c4_d3)
    have V_b5 := V_b5.other W8 ne_b5_d3
    have V_d6 := V_d6.other W8 ne_d6_d3
    have N8 := Fr.snoc X8 N0 g_d3
    have Z8 : n0 ≤ h8.size := Nat.le_trans Z0 (Keep.of_wr W8).1
    have K8 := K0.wr W8 (Or.inl (List.mem_of_getElem? (i := 0) rfl))
    obtain ⟨lc8, X8, N8⟩ : ∃ lc, Stand p l e ({ frames := 1, cells := 0, slots := 0, locals := 14 } : Room) s m #[(.ref a1), (.int (0 : Int32)), (.int p3)] below meth c T8 lc 0 0 ∧ Fr n0 lc := ⟨_, X8, N8⟩
    refine OutW.back st8 ?_
    show OutW _ _ _ _ _ _ _ (T8.setTop (mkF m 19 #[.val (.ref a1), .val (.int (0 : Int32)), .val (.int p3)] []))
    refine OutW.back (fun t k => XS.goto X8.here hx rfl (pc0 := 19) (pc' := 33) rfl (hb hby d11_19) (by decide) (by decide) k) ?_
    show OutW _ _ _ _ _ _ _ (T8.setTop (mkF m 33 #[.val (.ref a1), .val (.int (0 : Int32)), .val (.int p3)] []))
    refine OutW.retV X8 hx Bd.returns hlk (hb hby d11_33) (by decide) (by decide) ?_
    show Q11_c4 Z a1 (0 : Int32) p3 b2 d3 c4 b5 d6 kB kD kE kF w0 w1 u0 u1 h0 n0 _ T8.heap _
    rw [e8]
    exact ⟨rfl, N8, K8, V_d3_8, V_d6⟩
  · skip
    show OutW _ _ _ _ _ _ _ (s₁.setTop (mkF m 0 #[.val (.ref a1), .val (.int (1 : Int32)), .val (.int p3)] []))
    refine OutW.back (fun t k => XS.iloadN X0.here hx rfl (hb hby d11_0) rfl  k) ?_
    show OutW _ _ _ _ _ _ _ (s₁.setTop (mkF m 1 #[.val (.ref a1), .val (.int (1 : Int32)), .val (.int p3)] [(.int (1 : Int32))]))
    refine OutW.back (fun t k => XS.ifNo X0.here hx rfl (hb hby d11_1) rfl ((if0 _ _).trans (flt (by decide : ¬ ((1 : Int32) < (0 : Int32)))).1) k) ?_
    show OutW _ _ _ _ _ _ _ (s₁.setTop (mkF m 4 #[.val (.ref a1), .val (.int (1 : Int32)), .val (.int p3)] []))
    refine OutW.back (fun t k => XS.aloadN X0.here hx rfl (hb hby d11_4) rfl rfl  k) ?_
    show OutW _ _ _ _ _ _ _ (s₁.setTop (mkF m 5 #[.val (.ref a1), .val (.int (1 : Int32)), .val (.int p3)] [(.ref a1)]))
    obtain ⟨T9, X9, e9, st9⟩ := getF X0 hx hZ hown (host := "") (Or.inl (hw _ (List.mem_of_getElem? (i := 22) rfl))) Via.refl e0 F_blocks_a1 (g := (mkF m 5 #[.val (.ref a1), .val (.int (1 : Int32)), .val (.int p3)] [(.ref a1)])) rfl rfl (hb hby d11_5)
    refine OutW.back st9 ?_
    show OutW _ _ _ _ _ _ _ (T9.setTop (mkF m 8 #[.val (.ref a1), .val (.int (1 : Int32)), .val (.int p3)] [(.ref b2)]))
    refine OutW.back (fun t k => XS.iloadN X9.here hx rfl (hb hby d11_8) rfl  k) ?_
    show OutW _ _ _ _ _ _ _ (T9.setTop (mkF m 9 #[.val (.ref a1), .val (.int (1 : Int32)), .val (.int p3)] [(.int (1 : Int32)), (.ref b2)]))
    refine OutW.back (fun t k => XS.bipush X9.here hx rfl (hb hby d11_9) k) ?_
    show OutW _ _ _ _ _ _ _ (T9.setTop (mkF m 11 #[.val (.ref a1), .val (.int (1 : Int32)), .val (.int p3)] [(.int (16 : Int32)), (.int (1 : Int32)), (.ref b2)]))
    refine OutW.back (fun t k => XS.iushr X9.here hx rfl (hb hby d11_11) rfl k) ?_
    show OutW _ _ _ _ _ _ _ (T9.setTop (mkF m 12 #[.val (.ref a1), .val (.int (1 : Int32)), .val (.int p3)] [(.int (((1 : Int32).toUInt32 >>> ((16 : Int32) &&& 31).toUInt32).toInt32)), (.ref b2)]))
    rw [show (((1 : Int32).toUInt32 >>> ((16 : Int32) &&& 31).toUInt32).toInt32) = (0 : Int32) from by decide]
    obtain ⟨cl10, Ar10, Qk10, Sz10, Nn10, Hh10, Gg10⟩ := id V_b2
    have hin10 : ¬ ((0 : Int32) < 0 ∨ cl10.slots.size ≤ ((0 : Int32)).toNatClampNeg) := inb_of Sz10 ⟨by decide, by decide⟩
    refine OutW.back (X9.aaload hx (j := (0 : Int32)) (v := (.ref d3)) (by rw [e9]; exact Ar10.1) (State.isArrayOf_alike hZ.alike Ar10.2.1) rfl Ar10.2.2 hin10 (Hh10.at hin10 (by rfl)) (g := (mkF m 12 #[.val (.ref a1), .val (.int (1 : Int32)), .val (.int p3)] [(.int (0 : Int32)), (.ref b2)])) rfl rfl (hb hby d11_12)) ?_
    show OutW _ _ _ _ _ _ _ (T9.setTop (mkF m 13 #[.val (.ref a1), .val (.int (1 : Int32)), .val (.int p3)] [(.ref d3)]))
    refine OutW.back (fun t k => XS.iloadN X9.here hx rfl (hb hby d11_13) rfl  k) ?_
    show OutW _ _ _ _ _ _ _ (T9.setTop (mkF m 14 #[.val (.ref a1), .val (.int (1 : Int32)), .val (.int p3)] [(.int (1 : Int32)), (.ref d3)]))
    refine OutW.back (X9.ldcInt hx hown (mvT hZ (hw _ (List.mem_of_getElem? (i := 37) rfl))) (g := (mkF m 14 #[.val (.ref a1), .val (.int (1 : Int32)), .val (.int p3)] [(.int (1 : Int32)), (.ref d3)])) rfl (hb hby d11_14)) ?_
    show OutW _ _ _ _ _ _ _ (T9.setTop (mkF m 16 #[.val (.ref a1), .val (.int (1 : Int32)), .val (.int p3)] [(.int (65535 : Int32)), (.int (1 : Int32)), (.ref d3)]))
    refine OutW.back (fun t k => XS.iand X9.here hx rfl (hb hby d11_16) rfl k) ?_
    show OutW _ _ _ _ _ _ _ (T9.setTop (mkF m 17 #[.val (.ref a1), .val (.int (1 : Int32)), .val (.int p3)] [(.int ((1 : Int32) &&& (65535 : Int32))), (.ref d3)]))
    rw [show ((1 : Int32) &&& (65535 : Int32)) = (1 : Int32) from by decide]
    refine OutW.back (fun t k => XS.iloadN X9.here hx rfl (hb hby d11_17) rfl  k) ?_
    show OutW _ _ _ _ _ _ _ (T9.setTop (mkF m 18 #[.val (.ref a1), .val (.int (1 : Int32)), .val (.int p3)] [(.int p3), (.int (1 : Int32)), (.ref d3)]))
    obtain ⟨cl11, Ar11, Qk11, Sz11, Nn11, Hh11, Gg11⟩ := id V_d3
    have hin11 : ¬ ((1 : Int32) < 0 ∨ cl11.slots.size ≤ ((1 : Int32)).toNatClampNeg) := inb_of Sz11 ⟨by decide, by decide⟩
    obtain ⟨T11, h11, X11, e11, W11, st11⟩ := stI X9 hx hZ e9 Ar11 (j := (1 : Int32)) hin11 (g := (mkF m 18 #[.val (.ref a1), .val (.int (1 : Int32)), .val (.int p3)] [(.int p3), (.int (1 : Int32)), (.ref d3)])) rfl rfl (hb hby d11_18)
    have V_d3_11 : Arv Z h11 d3 kD .int (4 : Int32) [(.int w0), (.int p3), (.int (0 : Int32)), (.int (0 : Int32))] (.int (0 : Int32)) := Arv.set Ar11 Qk11 Sz11 Nn11 Hh11 Gg11 rfl W11 1 rfl (Nat.le_of_ble_eq_true rfl)
    have F_blocks_a1 := F_blocks_a1.other W11 (Or.inl ne_a1_d3)
    have F_before_a1 := F_before_a1.other W11 (Or.inl ne_a1_d3)
    have V_b2 := V_b2.other W11 (Ne.symm ne_d3_b2)
    have E_c4 := E_c4.wr W11
    have F_blocks_c4 := F_blocks_c4.other W11 (Or.inl ne_c4_d3)
    have V_b5 := V_b5.other W11 ne_b5_d3
    have V_d6 := V_d6.other W11 ne_d6_d3
    have N11 := Fr.snoc X11 N0 g_d3
    have Z11 : n0 ≤ h11.size := Nat.le_trans Z0 (Keep.of_wr W11).1
    have K11 := K0.wr W11 (Or.inl (List.mem_of_getElem? (i := 0) rfl))
    obtain ⟨lc11, X11, N11⟩ : ∃ lc, Stand p l e ({ frames := 1, cells := 0, slots := 0, locals := 14 } : Room) s m #[(.ref a1), (.int (1 : Int32)), (.int p3)] below meth c T11 lc 0 0 ∧ Fr n0 lc := ⟨_, X11, N11⟩
    refine OutW.back st11 ?_
    show OutW _ _ _ _ _ _ _ (T11.setTop (mkF m 19 #[.val (.ref a1), .val (.int (1 : Int32)), .val (.int p3)] []))
    refine OutW.back (fun t k => XS.goto X11.here hx rfl (pc0 := 19) (pc' := 33) rfl (hb hby d11_19) (by decide) (by decide) k) ?_
    show OutW _ _ _ _ _ _ _ (T11.setTop (mkF m 33 #[.val (.ref a1), .val (.int (1 : Int32)), .val (.int p3)] []))
    refine OutW.retV X11 hx Bd.returns hlk (hb hby d11_33) (by decide) (by decide) ?_
    show Q11_c4 Z a1 (1 : Int32) p3 b2 d3 c4 b5 d6 kB kD kE kF w0 w1 u0 u1 h0 n0 _ T11.heap _
    rw [e11]
    exact ⟨rfl, N11, K11, V_d3_11, V_d6⟩
theorem ef_11_c8 (m : MethodId) (x0 : Addr) (x1 : Int32) (x2 : Int32) : entryFrame m #[(.ref x0), (.int x1), (.int x2)] 3 = mkF m 0 #[.val (.ref x0), .val (.int x1), .val (.int x2)] [] := by first | (simp [entryFrame, mkF, argsToLocals, Value.category]; done) | rfl
def Q11_c8 (Z : State) (a1 : Addr) (p2 : Int32) (p3 : Int32) (b2 : Addr) (d3 : Addr) (c4 : Addr) (b5 : Addr) (d6 : Addr) (kB : ClassId) (kD : ClassId) (kE : ClassId) (kF : ClassId) (w0 : Int32) (w1 : Int32) (u0 : Int32) (u1 : Int32) (h0 : Heap) (n0 : Nat) (v : Option Value) (h : Heap) (L : List Loc) : Prop := v = none ∧ Fr n0 L ∧ Keep h0 h [d3, d6] ∧ Arv Z h d3 kD .int (8 : Int32) [(.int (if p2 = (0 : Int32) then p3 else w0)), (.int (if p2 = (1 : Int32) then p3 else w1)), (.int (0 : Int32)), (.int (0 : Int32)), (.int (0 : Int32)), (.int (0 : Int32)), (.int (0 : Int32)), (.int (0 : Int32))] (.int (0 : Int32)) ∧ Arv Z h d6 kF .int (4 : Int32) [(.int (if p2 = (-1 : Int32) then p3 else u0)), (.int (if p2 = (-2 : Int32) then p3 else u1)), (.int (0 : Int32)), (.int (0 : Int32))] (.int (0 : Int32))
set_option maxRecDepth 65536 in
set_option maxHeartbeats 40000000 in
theorem rm11_c8 (l : Launch) (Z : State) (a0 : Array Value) (hw : ∀ d ∈ tables_1, d.before a0 Z = true) (ws : List Jvm.Cond) (a1 : Addr) (p2 : Int32) (p3 : Int32) (b2 : Addr) (d3 : Addr) (c4 : Addr) (b5 : Addr) (d6 : Addr) (kB : ClassId) (kD : ClassId) (kE : ClassId) (kF : ClassId) (w0 : Int32) (w1 : Int32) (u0 : Int32) (u1 : Int32) (h0 : Heap) (n0 : Nat) (Z0 : n0 ≤ h0.size) (F_blocks_a1 : Fld Z h0 a1 "com/example/xml_document_query/xmldocumentquery/tree/IntColumn" "blocks" "[[I" (.ref b2)) (F_before_a1 : Fld Z h0 a1 "com/example/xml_document_query/xmldocumentquery/tree/IntColumn" "before" "Lcom/example/xml_document_query/xmldocumentquery/tree/IntColumn;" (.ref c4)) (V_b2 : Arv Z h0 b2 kB (.array .int) (1 : Int32) [(.ref d3)] .null) (V_d3 : Arv Z h0 d3 kD .int (8 : Int32) [(.int w0), (.int w1), (.int (0 : Int32)), (.int (0 : Int32)), (.int (0 : Int32)), (.int (0 : Int32)), (.int (0 : Int32)), (.int (0 : Int32))] (.int (0 : Int32))) (E_c4 : Exa Z h0 c4 "com/example/xml_document_query/xmldocumentquery/tree/IntColumn") (F_blocks_c4 : Fld Z h0 c4 "com/example/xml_document_query/xmldocumentquery/tree/IntColumn" "blocks" "[[I" (.ref b5)) (V_b5 : Arv Z h0 b5 kE (.array .int) (1 : Int32) [(.ref d6)] .null) (V_d6 : Arv Z h0 d6 kF .int (4 : Int32) [(.int u0), (.int u1), (.int (0 : Int32)), (.int (0 : Int32))] (.int (0 : Int32))) (g_d3 : n0 ≤ d3) (g_d6 : n0 ≤ d6) (ne_d3_b2 : d3 ≠ b2) (ne_a1_d3 : a1 ≠ d3) (ne_d6_d3 : d6 ≠ d3) (ne_b5_d3 : b5 ≠ d3) (ne_c4_d3 : c4 ≠ d3) (ne_d6_b5 : d6 ≠ b5) (ne_c4_d6 : c4 ≠ d6) (ne_a1_d6 : a1 ≠ d6) (ne_b2_d6 : b2 ≠ d6) (hi : p2 = (-2 : Int32) ∨ p2 = (-1 : Int32) ∨ p2 = (0 : Int32) ∨ p2 = (1 : Int32)) :
    MetFree l (⟨"com/example/xml_document_query/xmldocumentquery/tree/IntColumn", "set", "(II)V"⟩ : MethodName) (head1 (Jvm.Cond.code (⟨"com/example/xml_document_query/xmldocumentquery/tree/IntColumn", "set", "(II)V"⟩ : MethodName) prog_168_method_5_code 3 none :: ws) ({ frames := 1, cells := 0, slots := 0, locals := 14 } : Room)) (fun a U => a = #[(.ref a1), (.int p2), (.int p3)] ∧ Z.Warmed39 U.vm ∧ U.heap = h0) (fun _ _ _ _ _ => True) (fun _ U o U' => ∃ v L, o = .returned v ∧ Q11_c8 Z a1 p2 p3 b2 d3 c4 b5 d6 kB kD kE kF w0 w1 u0 u1 h0 n0 v U'.heap L ∧ FrameEnd U o U' L ({ frames := 1, cells := 0, slots := 0, locals := 14 } : Room).cells ({ frames := 1, cells := 0, slots := 0, locals := 14 } : Room).slots) := by
  refine MetFree.of_bodySF (plainFor_of_name pn_11) hisR ?_
  intro p e s m args below meth c s₁ Bd hml0 hP hK
  obtain ⟨rfl, hZ, hh⟩ := hP
  have hx := Bd.exec
  have hby := Bd.bytes
  have hlk := Bd.notSynchronized
  have hml : c.maxLocals = 3 := hml0
  have hown : s.vm.findClass "com/example/xml_document_query/xmldocumentquery/tree/IntColumn" = some m.cls := findClass_of_methodNamed Bd.named
  have hnm := (name_of_methodNamed Bd.named Bd.method).1
  have X0 : Stand p l e ({ frames := 1, cells := 0, slots := 0, locals := 14 } : Room) s m #[(.ref a1), (.int p2), (.int p3)] below meth c s₁ [] 0 0 := Stand.of_body Bd
  have e0 : s₁.heap = h0 := by rw [← hh, Bd.state]; rfl
  have N0 := Fr.nil n0
  have K0 : Keep h0 h0 [d3, d6] := Keep.refl h0 _
  show OutW p e below s ({ frames := 1, cells := 0, slots := 0, locals := 14 } : Room).cells ({ frames := 1, cells := 0, slots := 0, locals := 14 } : Room).slots (Q11_c8 Z a1 p2 p3 b2 d3 c4 b5 d6 kB kD kE kF w0 w1 u0 u1 h0 n0) _
  refine OutW.back (fun t k => castTop (ef_11_c8 m a1 p2 p3) k) ?_
  show OutW _ _ _ _ _ _ _ (s₁.setTop (mkF m 0 #[.val (.ref a1), .val (.int p2), .val (.int p3)] []))
  have sp1 : p2 = (-2 : Int32) ∨ p2 = (-1 : Int32) ∨ p2 = (0 : Int32) ∨ p2 = (1 : Int32) := hi
  rcases sp1 with rfl | rfl | rfl | rfl
  · skip
    show OutW _ _ _ _ _ _ _ (s₁.setTop (mkF m 0 #[.val (.ref a1), .val (.int (-2 : Int32)), .val (.int p3)] []))
    refine OutW.back (fun t k => XS.iloadN X0.here hx rfl (hb hby d11_0) rfl  k) ?_
    show OutW _ _ _ _ _ _ _ (s₁.setTop (mkF m 1 #[.val (.ref a1), .val (.int (-2 : Int32)), .val (.int p3)] [(.int (-2 : Int32))]))
    refine OutW.back (fun t k => XS.ifYes X0.here hx rfl (pc0 := 1) (pc' := 22) rfl (hb hby d11_1) rfl ((if0 _ _).trans (tlt (by decide : (-2 : Int32) < (0 : Int32))).1) (by decide) (by decide) k) ?_
    show OutW _ _ _ _ _ _ _ (s₁.setTop (mkF m 22 #[.val (.ref a1), .val (.int (-2 : Int32)), .val (.int p3)] []))
    refine OutW.back (fun t k => XS.aloadN X0.here hx rfl (hb hby d11_22) rfl rfl  k) ?_
    show OutW _ _ _ _ _ _ _ (s₁.setTop (mkF m 23 #[.val (.ref a1), .val (.int (-2 : Int32)), .val (.int p3)] [(.ref a1)]))
    obtain ⟨T2, X2, e2, st2⟩ := getF X0 hx hZ hown (host := "") (Or.inl (hw _ (List.mem_of_getElem? (i := 67) rfl))) Via.refl e0 F_before_a1 (g := (mkF m 23 #[.val (.ref a1), .val (.int (-2 : Int32)), .val (.int p3)] [(.ref a1)])) rfl rfl (hb hby d11_23)
    refine OutW.back st2 ?_
    show OutW _ _ _ _ _ _ _ (T2.setTop (mkF m 26 #[.val (.ref a1), .val (.int (-2 : Int32)), .val (.int p3)] [(.ref c4)]))
    refine OutW.back (fun t k => XS.iconst X2.here hx rfl (hb hby d11_26) k) ?_
    show OutW _ _ _ _ _ _ _ (T2.setTop (mkF m 27 #[.val (.ref a1), .val (.int (-2 : Int32)), .val (.int p3)] [(.int (-1 : Int32)), (.ref c4)]))
    refine OutW.back (fun t k => XS.iloadN X2.here hx rfl (hb hby d11_27) rfl  k) ?_
    show OutW _ _ _ _ _ _ _ (T2.setTop (mkF m 28 #[.val (.ref a1), .val (.int (-2 : Int32)), .val (.int p3)] [(.int (-2 : Int32)), (.int (-1 : Int32)), (.ref c4)]))
    refine OutW.back (fun t k => XS.isub X2.here hx rfl (hb hby d11_28) rfl k) ?_
    show OutW _ _ _ _ _ _ _ (T2.setTop (mkF m 29 #[.val (.ref a1), .val (.int (-2 : Int32)), .val (.int p3)] [(.int ((-1 : Int32) - (-2 : Int32))), (.ref c4)]))
    rw [show ((-1 : Int32) - (-2 : Int32)) = (1 : Int32) from by decide]
    refine OutW.back (fun t k => XS.iloadN X2.here hx rfl (hb hby d11_29) rfl  k) ?_
    show OutW _ _ _ _ _ _ _ (T2.setTop (mkF m 30 #[.val (.ref a1), .val (.int (-2 : Int32)), .val (.int p3)] [(.int p3), (.int (1 : Int32)), (.ref c4)]))
    obtain ⟨cq3, kq3, qa3, qb3, qc3⟩ := isOf hZ e2 E_c4
    obtain ⟨_, _, ⟨T3, L3, k3, n3⟩, -, X3, ⟨Lc3, hQ3, l3, y3, z3⟩, st3⟩ := X2.virtualBack hx (y := (⟨"com/example/xml_document_query/xmldocumentquery/tree/IntColumn", "set", "(II)V"⟩ : MethodName)) (z := (⟨"com/example/xml_document_query/xmldocumentquery/tree/IntColumn", "set", "(II)V"⟩ : MethodName)) hown (mvT hZ (hw _ (List.mem_of_getElem? (i := 77) rfl))) (mvT hZ (hw _ (List.mem_of_getElem? (i := 73) rfl))) (notFace_of_selects (args := #[]) (mvT hZ (hw _ (List.mem_of_getElem? (i := 75) rfl)))) (mvT hZ (hw _ (List.mem_of_getElem? (i := 75) rfl))) (mvT hZ (hw _ (List.mem_of_getElem? (i := 74) rfl))) (by decide) (backOf (W := 0) (rm11_k1 l Z a0 hw [] c4 p3 b5 d6 kE kF u0 u1 (0 : Int32) (0 : Int32) h0 n0 Z0 F_blocks_c4 V_b5 V_d6 g_d6 ne_d6_b5 ne_c4_d6) hZ (hw _ (List.mem_of_getElem? (i := 76) rfl)) (hw _ (List.mem_of_getElem? (i := 2) rfl)) (by decide) (by decide)) qa3 qc3 (g := (mkF m 30 #[.val (.ref a1), .val (.int (-2 : Int32)), .val (.int p3)] [(.int p3), (.int (1 : Int32)), (.ref c4)])) rfl (by rw [hml]; rfl) (Steps.refl _) (argsL := [(.int (1 : Int32)), (.int p3)]) (rest := []) (lenOf pd_0 rfl) rfl (by show 2 * 0 + _ ≤ _; exact Nat.le_of_eq rfl) (hb hby d11_30) (fun _ _ => ⟨rfl, e2, (by decide : 0 + 0 ≤ _), (by decide : 0 + 0 ≤ _)⟩)
    dsimp only [Pt.U, Pt.locs, Pt.cells, Pt.slots] at X3 l3 y3 z3 st3 hQ3
    subst l3 y3 z3
    obtain ⟨h3, eh3⟩ : ∃ z, z = T3.heap := ⟨_, rfl⟩
    rw [← eh3] at hQ3
    have e3 : T3.heap = h3 := eh3.symm
    obtain ⟨rfl, Nq3, Kq3, V_d6_3⟩ := hQ3
    have F_blocks_a1 := F_blocks_a1.keep Kq3 (ninS ne_a1_d6 nin0)
    have F_before_a1 := F_before_a1.keep Kq3 (ninS ne_a1_d6 nin0)
    have V_b2 := V_b2.keep Kq3 (ninS ne_b2_d6 nin0)
    have V_d3 := V_d3.keep Kq3 (ninS (Ne.symm ne_d6_d3) nin0)
    have E_c4 := E_c4.keep Kq3
    have F_blocks_c4 := F_blocks_c4.keep Kq3 (ninS ne_c4_d6 nin0)
    have V_b5 := V_b5.keep Kq3 (ninS (Ne.symm ne_d6_b5) nin0)
    have Z3 : n0 ≤ h3.size := Nat.le_trans Z0 Kq3.1
    have K3 := K0.trans Kq3 (allS (Or.inl (List.mem_of_getElem? (i := 1) rfl)) all0)
    have N3 := Fr.app N0 Nq3
    obtain ⟨lc3, X3, N3⟩ : ∃ lc, Stand p l e ({ frames := 1, cells := 0, slots := 0, locals := 14 } : Room) s m #[(.ref a1), (.int (-2 : Int32)), (.int p3)] below meth c T3 lc 0 0 ∧ Fr n0 lc := ⟨_, X3, N3⟩
    refine OutW.via st3 ?_
    show OutW _ _ _ _ _ _ _ (T3.setTop (mkF m 33 #[.val (.ref a1), .val (.int (-2 : Int32)), .val (.int p3)] []))
    refine OutW.retV X3 hx Bd.returns hlk (hb hby d11_33) (by decide) (by decide) ?_
    show Q11_c8 Z a1 (-2 : Int32) p3 b2 d3 c4 b5 d6 kB kD kE kF w0 w1 u0 u1 h0 n0 _ T3.heap _
    rw [e3]
    exact ⟨rfl, N3, K3, V_d3, V_d6_3⟩
  · skip
    show OutW _ _ _ _ _ _ _ (s₁.setTop (mkF m 0 #[.val (.ref a1), .val (.int (-1 : Int32)), .val (.int p3)] []))
    refine OutW.back (fun t k => XS.iloadN X0.here hx rfl (hb hby d11_0) rfl  k) ?_
    show OutW _ _ _ _ _ _ _ (s₁.setTop (mkF m 1 #[.val (.ref a1), .val (.int (-1 : Int32)), .val (.int p3)] [(.int (-1 : Int32))]))
    refine OutW.back (fun t k => XS.ifYes X0.here hx rfl (pc0 := 1) (pc' := 22) rfl (hb hby d11_1) rfl ((if0 _ _).trans (tlt (by decide : (-1 : Int32) < (0 : Int32))).1) (by decide) (by decide) k) ?_
    show OutW _ _ _ _ _ _ _ (s₁.setTop (mkF m 22 #[.val (.ref a1), .val (.int (-1 : Int32)), .val (.int p3)] []))
    refine OutW.back (fun t k => XS.aloadN X0.here hx rfl (hb hby d11_22) rfl rfl  k) ?_
    show OutW _ _ _ _ _ _ _ (s₁.setTop (mkF m 23 #[.val (.ref a1), .val (.int (-1 : Int32)), .val (.int p3)] [(.ref a1)]))
    obtain ⟨T4, X4, e4, st4⟩ := getF X0 hx hZ hown (host := "") (Or.inl (hw _ (List.mem_of_getElem? (i := 67) rfl))) Via.refl e0 F_before_a1 (g := (mkF m 23 #[.val (.ref a1), .val (.int (-1 : Int32)), .val (.int p3)] [(.ref a1)])) rfl rfl (hb hby d11_23)
    refine OutW.back st4 ?_
    show OutW _ _ _ _ _ _ _ (T4.setTop (mkF m 26 #[.val (.ref a1), .val (.int (-1 : Int32)), .val (.int p3)] [(.ref c4)]))
    refine OutW.back (fun t k => XS.iconst X4.here hx rfl (hb hby d11_26) k) ?_
    show OutW _ _ _ _ _ _ _ (T4.setTop (mkF m 27 #[.val (.ref a1), .val (.int (-1 : Int32)), .val (.int p3)] [(.int (-1 : Int32)), (.ref c4)]))
    refine OutW.back (fun t k => XS.iloadN X4.here hx rfl (hb hby d11_27) rfl  k) ?_
    show OutW _ _ _ _ _ _ _ (T4.setTop (mkF m 28 #[.val (.ref a1), .val (.int (-1 : Int32)), .val (.int p3)] [(.int (-1 : Int32)), (.int (-1 : Int32)), (.ref c4)]))
    refine OutW.back (fun t k => XS.isub X4.here hx rfl (hb hby d11_28) rfl k) ?_
    show OutW _ _ _ _ _ _ _ (T4.setTop (mkF m 29 #[.val (.ref a1), .val (.int (-1 : Int32)), .val (.int p3)] [(.int ((-1 : Int32) - (-1 : Int32))), (.ref c4)]))
    rw [show ((-1 : Int32) - (-1 : Int32)) = (0 : Int32) from by decide]
    refine OutW.back (fun t k => XS.iloadN X4.here hx rfl (hb hby d11_29) rfl  k) ?_
    show OutW _ _ _ _ _ _ _ (T4.setTop (mkF m 30 #[.val (.ref a1), .val (.int (-1 : Int32)), .val (.int p3)] [(.int p3), (.int (0 : Int32)), (.ref c4)]))
    obtain ⟨cq5, kq5, qa5, qb5, qc5⟩ := isOf hZ e4 E_c4
    obtain ⟨_, _, ⟨T5, L5, k5, n5⟩, -, X5, ⟨Lc5, hQ5, l5, y5, z5⟩, st5⟩ := X4.virtualBack hx (y := (⟨"com/example/xml_document_query/xmldocumentquery/tree/IntColumn", "set", "(II)V"⟩ : MethodName)) (z := (⟨"com/example/xml_document_query/xmldocumentquery/tree/IntColumn", "set", "(II)V"⟩ : MethodName)) hown (mvT hZ (hw _ (List.mem_of_getElem? (i := 77) rfl))) (mvT hZ (hw _ (List.mem_of_getElem? (i := 73) rfl))) (notFace_of_selects (args := #[]) (mvT hZ (hw _ (List.mem_of_getElem? (i := 75) rfl)))) (mvT hZ (hw _ (List.mem_of_getElem? (i := 75) rfl))) (mvT hZ (hw _ (List.mem_of_getElem? (i := 74) rfl))) (by decide) (backOf (W := 0) (rm11_k0 l Z a0 hw [] c4 p3 b5 d6 kE kF u0 u1 (0 : Int32) (0 : Int32) h0 n0 Z0 F_blocks_c4 V_b5 V_d6 g_d6 ne_d6_b5 ne_c4_d6) hZ (hw _ (List.mem_of_getElem? (i := 76) rfl)) (hw _ (List.mem_of_getElem? (i := 2) rfl)) (by decide) (by decide)) qa5 qc5 (g := (mkF m 30 #[.val (.ref a1), .val (.int (-1 : Int32)), .val (.int p3)] [(.int p3), (.int (0 : Int32)), (.ref c4)])) rfl (by rw [hml]; rfl) (Steps.refl _) (argsL := [(.int (0 : Int32)), (.int p3)]) (rest := []) (lenOf pd_0 rfl) rfl (by show 2 * 0 + _ ≤ _; exact Nat.le_of_eq rfl) (hb hby d11_30) (fun _ _ => ⟨rfl, e4, (by decide : 0 + 0 ≤ _), (by decide : 0 + 0 ≤ _)⟩)
    dsimp only [Pt.U, Pt.locs, Pt.cells, Pt.slots] at X5 l5 y5 z5 st5 hQ5
    subst l5 y5 z5
    obtain ⟨h5, eh5⟩ : ∃ z, z = T5.heap := ⟨_, rfl⟩
    rw [← eh5] at hQ5
    have e5 : T5.heap = h5 := eh5.symm
    obtain ⟨rfl, Nq5, Kq5, V_d6_5⟩ := hQ5
    have F_blocks_a1 := F_blocks_a1.keep Kq5 (ninS ne_a1_d6 nin0)
    have F_before_a1 := F_before_a1.keep Kq5 (ninS ne_a1_d6 nin0)
    have V_b2 := V_b2.keep Kq5 (ninS ne_b2_d6 nin0)
    have V_d3 := V_d3.keep Kq5 (ninS (Ne.symm ne_d6_d3) nin0)
    have E_c4 := E_c4.keep Kq5
    have F_blocks_c4 := F_blocks_c4.keep Kq5 (ninS ne_c4_d6 nin0)
    have V_b5 := V_b5.keep Kq5 (ninS (Ne.symm ne_d6_b5) nin0)
    have Z5 : n0 ≤ h5.size := Nat.le_trans Z0 Kq5.1
    have K5 := K0.trans Kq5 (allS (Or.inl (List.mem_of_getElem? (i := 1) rfl)) all0)
    have N5 := Fr.app N0 Nq5
    obtain ⟨lc5, X5, N5⟩ : ∃ lc, Stand p l e ({ frames := 1, cells := 0, slots := 0, locals := 14 } : Room) s m #[(.ref a1), (.int (-1 : Int32)), (.int p3)] below meth c T5 lc 0 0 ∧ Fr n0 lc := ⟨_, X5, N5⟩
    refine OutW.via st5 ?_
    show OutW _ _ _ _ _ _ _ (T5.setTop (mkF m 33 #[.val (.ref a1), .val (.int (-1 : Int32)), .val (.int p3)] []))
    refine OutW.retV X5 hx Bd.returns hlk (hb hby d11_33) (by decide) (by decide) ?_
    show Q11_c8 Z a1 (-1 : Int32) p3 b2 d3 c4 b5 d6 kB kD kE kF w0 w1 u0 u1 h0 n0 _ T5.heap _
    rw [e5]
    exact ⟨rfl, N5, K5, V_d3, V_d6_5⟩
  · skip
    show OutW _ _ _ _ _ _ _ (s₁.setTop (mkF m 0 #[.val (.ref a1), .val (.int (0 : Int32)), .val (.int p3)] []))
    refine OutW.back (fun t k => XS.iloadN X0.here hx rfl (hb hby d11_0) rfl  k) ?_
    show OutW _ _ _ _ _ _ _ (s₁.setTop (mkF m 1 #[.val (.ref a1), .val (.int (0 : Int32)), .val (.int p3)] [(.int (0 : Int32))]))
    refine OutW.back (fun t k => XS.ifNo X0.here hx rfl (hb hby d11_1) rfl ((if0 _ _).trans (flt (by decide : ¬ ((0 : Int32) < (0 : Int32)))).1) k) ?_
    show OutW _ _ _ _ _ _ _ (s₁.setTop (mkF m 4 #[.val (.ref a1), .val (.int (0 : Int32)), .val (.int p3)] []))
    refine OutW.back (fun t k => XS.aloadN X0.here hx rfl (hb hby d11_4) rfl rfl  k) ?_
    show OutW _ _ _ _ _ _ _ (s₁.setTop (mkF m 5 #[.val (.ref a1), .val (.int (0 : Int32)), .val (.int p3)] [(.ref a1)]))
    obtain ⟨T6, X6, e6, st6⟩ := getF X0 hx hZ hown (host := "") (Or.inl (hw _ (List.mem_of_getElem? (i := 22) rfl))) Via.refl e0 F_blocks_a1 (g := (mkF m 5 #[.val (.ref a1), .val (.int (0 : Int32)), .val (.int p3)] [(.ref a1)])) rfl rfl (hb hby d11_5)
    refine OutW.back st6 ?_
    show OutW _ _ _ _ _ _ _ (T6.setTop (mkF m 8 #[.val (.ref a1), .val (.int (0 : Int32)), .val (.int p3)] [(.ref b2)]))
    refine OutW.back (fun t k => XS.iloadN X6.here hx rfl (hb hby d11_8) rfl  k) ?_
    show OutW _ _ _ _ _ _ _ (T6.setTop (mkF m 9 #[.val (.ref a1), .val (.int (0 : Int32)), .val (.int p3)] [(.int (0 : Int32)), (.ref b2)]))
    refine OutW.back (fun t k => XS.bipush X6.here hx rfl (hb hby d11_9) k) ?_
    show OutW _ _ _ _ _ _ _ (T6.setTop (mkF m 11 #[.val (.ref a1), .val (.int (0 : Int32)), .val (.int p3)] [(.int (16 : Int32)), (.int (0 : Int32)), (.ref b2)]))
    refine OutW.back (fun t k => XS.iushr X6.here hx rfl (hb hby d11_11) rfl k) ?_
    show OutW _ _ _ _ _ _ _ (T6.setTop (mkF m 12 #[.val (.ref a1), .val (.int (0 : Int32)), .val (.int p3)] [(.int (((0 : Int32).toUInt32 >>> ((16 : Int32) &&& 31).toUInt32).toInt32)), (.ref b2)]))
    rw [show (((0 : Int32).toUInt32 >>> ((16 : Int32) &&& 31).toUInt32).toInt32) = (0 : Int32) from by decide]
    obtain ⟨cl7, Ar7, Qk7, Sz7, Nn7, Hh7, Gg7⟩ := id V_b2
    have hin7 : ¬ ((0 : Int32) < 0 ∨ cl7.slots.size ≤ ((0 : Int32)).toNatClampNeg) := inb_of Sz7 ⟨by decide, by decide⟩
    refine OutW.back (X6.aaload hx (j := (0 : Int32)) (v := (.ref d3)) (by rw [e6]; exact Ar7.1) (State.isArrayOf_alike hZ.alike Ar7.2.1) rfl Ar7.2.2 hin7 (Hh7.at hin7 (by rfl)) (g := (mkF m 12 #[.val (.ref a1), .val (.int (0 : Int32)), .val (.int p3)] [(.int (0 : Int32)), (.ref b2)])) rfl rfl (hb hby d11_12)) ?_
    show OutW _ _ _ _ _ _ _ (T6.setTop (mkF m 13 #[.val (.ref a1), .val (.int (0 : Int32)), .val (.int p3)] [(.ref d3)]))
    refine OutW.back (fun t k => XS.iloadN X6.here hx rfl (hb hby d11_13) rfl  k) ?_
    show OutW _ _ _ _ _ _ _ (T6.setTop (mkF m 14 #[.val (.ref a1), .val (.int (0 : Int32)), .val (.int p3)] [(.int (0 : Int32)), (.ref d3)]))
    refine OutW.back (X6.ldcInt hx hown (mvT hZ (hw _ (List.mem_of_getElem? (i := 37) rfl))) (g := (mkF m 14 #[.val (.ref a1), .val (.int (0 : Int32)), .val (.int p3)] [(.int (0 : Int32)), (.ref d3)])) rfl (hb hby d11_14)) ?_
    show OutW _ _ _ _ _ _ _ (T6.setTop (mkF m 16 #[.val (.ref a1), .val (.int (0 : Int32)), .val (.int p3)] [(.int (65535 : Int32)), (.int (0 : Int32)), (.ref d3)]))
    refine OutW.back (fun t k => XS.iand X6.here hx rfl (hb hby d11_16) rfl k) ?_
    show OutW _ _ _ _ _ _ _ (T6.setTop (mkF m 17 #[.val (.ref a1), .val (.int (0 : Int32)), .val (.int p3)] [(.int ((0 : Int32) &&& (65535 : Int32))), (.ref d3)]))
    rw [show ((0 : Int32) &&& (65535 : Int32)) = (0 : Int32) from by decide]
    refine OutW.back (fun t k => XS.iloadN X6.here hx rfl (hb hby d11_17) rfl  k) ?_
    show OutW _ _ _ _ _ _ _ (T6.setTop (mkF m 18 #[.val (.ref a1), .val (.int (0 : Int32)), .val (.int p3)] [(.int p3), (.int (0 : Int32)), (.ref d3)]))
    obtain ⟨cl8, Ar8, Qk8, Sz8, Nn8, Hh8, Gg8⟩ := id V_d3
    have hin8 : ¬ ((0 : Int32) < 0 ∨ cl8.slots.size ≤ ((0 : Int32)).toNatClampNeg) := inb_of Sz8 ⟨by decide, by decide⟩
    obtain ⟨T8, h8, X8, e8, W8, st8⟩ := stI X6 hx hZ e6 Ar8 (j := (0 : Int32)) hin8 (g := (mkF m 18 #[.val (.ref a1), .val (.int (0 : Int32)), .val (.int p3)] [(.int p3), (.int (0 : Int32)), (.ref d3)])) rfl rfl (hb hby d11_18)
    have V_d3_8 : Arv Z h8 d3 kD .int (8 : Int32) [(.int p3), (.int w1), (.int (0 : Int32)), (.int (0 : Int32)), (.int (0 : Int32)), (.int (0 : Int32)), (.int (0 : Int32)), (.int (0 : Int32))] (.int (0 : Int32)) := Arv.set Ar8 Qk8 Sz8 Nn8 Hh8 Gg8 rfl W8 0 rfl (Nat.le_of_ble_eq_true rfl)
    have F_blocks_a1 := F_blocks_a1.other W8 (Or.inl ne_a1_d3)
    have F_before_a1 := F_before_a1.other W8 (Or.inl ne_a1_d3)
    have V_b2 := V_b2.other W8 (Ne.symm ne_d3_b2)
    have E_c4 := E_c4.wr W8
    have F_blocks_c4 := F_blocks_c4.other W8 (Or.inl ne_c4_d3)
    have V_b5 := V_b5.other W8 ne_b5_d3
    have V_d6 := V_d6.other W8 ne_d6_d3
    have N8 := Fr.snoc X8 N0 g_d3
    have Z8 : n0 ≤ h8.size := Nat.le_trans Z0 (Keep.of_wr W8).1
    have K8 := K0.wr W8 (Or.inl (List.mem_of_getElem? (i := 0) rfl))
    obtain ⟨lc8, X8, N8⟩ : ∃ lc, Stand p l e ({ frames := 1, cells := 0, slots := 0, locals := 14 } : Room) s m #[(.ref a1), (.int (0 : Int32)), (.int p3)] below meth c T8 lc 0 0 ∧ Fr n0 lc := ⟨_, X8, N8⟩
    refine OutW.back st8 ?_
    show OutW _ _ _ _ _ _ _ (T8.setTop (mkF m 19 #[.val (.ref a1), .val (.int (0 : Int32)), .val (.int p3)] []))
    refine OutW.back (fun t k => XS.goto X8.here hx rfl (pc0 := 19) (pc' := 33) rfl (hb hby d11_19) (by decide) (by decide) k) ?_
    show OutW _ _ _ _ _ _ _ (T8.setTop (mkF m 33 #[.val (.ref a1), .val (.int (0 : Int32)), .val (.int p3)] []))
    refine OutW.retV X8 hx Bd.returns hlk (hb hby d11_33) (by decide) (by decide) ?_
    show Q11_c8 Z a1 (0 : Int32) p3 b2 d3 c4 b5 d6 kB kD kE kF w0 w1 u0 u1 h0 n0 _ T8.heap _
    rw [e8]
    exact ⟨rfl, N8, K8, V_d3_8, V_d6⟩
  · skip
    show OutW _ _ _ _ _ _ _ (s₁.setTop (mkF m 0 #[.val (.ref a1), .val (.int (1 : Int32)), .val (.int p3)] []))
    refine OutW.back (fun t k => XS.iloadN X0.here hx rfl (hb hby d11_0) rfl  k) ?_
    show OutW _ _ _ _ _ _ _ (s₁.setTop (mkF m 1 #[.val (.ref a1), .val (.int (1 : Int32)), .val (.int p3)] [(.int (1 : Int32))]))
    refine OutW.back (fun t k => XS.ifNo X0.here hx rfl (hb hby d11_1) rfl ((if0 _ _).trans (flt (by decide : ¬ ((1 : Int32) < (0 : Int32)))).1) k) ?_
    show OutW _ _ _ _ _ _ _ (s₁.setTop (mkF m 4 #[.val (.ref a1), .val (.int (1 : Int32)), .val (.int p3)] []))
    refine OutW.back (fun t k => XS.aloadN X0.here hx rfl (hb hby d11_4) rfl rfl  k) ?_
    show OutW _ _ _ _ _ _ _ (s₁.setTop (mkF m 5 #[.val (.ref a1), .val (.int (1 : Int32)), .val (.int p3)] [(.ref a1)]))
    obtain ⟨T9, X9, e9, st9⟩ := getF X0 hx hZ hown (host := "") (Or.inl (hw _ (List.mem_of_getElem? (i := 22) rfl))) Via.refl e0 F_blocks_a1 (g := (mkF m 5 #[.val (.ref a1), .val (.int (1 : Int32)), .val (.int p3)] [(.ref a1)])) rfl rfl (hb hby d11_5)
    refine OutW.back st9 ?_
    show OutW _ _ _ _ _ _ _ (T9.setTop (mkF m 8 #[.val (.ref a1), .val (.int (1 : Int32)), .val (.int p3)] [(.ref b2)]))
    refine OutW.back (fun t k => XS.iloadN X9.here hx rfl (hb hby d11_8) rfl  k) ?_
    show OutW _ _ _ _ _ _ _ (T9.setTop (mkF m 9 #[.val (.ref a1), .val (.int (1 : Int32)), .val (.int p3)] [(.int (1 : Int32)), (.ref b2)]))
    refine OutW.back (fun t k => XS.bipush X9.here hx rfl (hb hby d11_9) k) ?_
    show OutW _ _ _ _ _ _ _ (T9.setTop (mkF m 11 #[.val (.ref a1), .val (.int (1 : Int32)), .val (.int p3)] [(.int (16 : Int32)), (.int (1 : Int32)), (.ref b2)]))
    refine OutW.back (fun t k => XS.iushr X9.here hx rfl (hb hby d11_11) rfl k) ?_
    show OutW _ _ _ _ _ _ _ (T9.setTop (mkF m 12 #[.val (.ref a1), .val (.int (1 : Int32)), .val (.int p3)] [(.int (((1 : Int32).toUInt32 >>> ((16 : Int32) &&& 31).toUInt32).toInt32)), (.ref b2)]))
    rw [show (((1 : Int32).toUInt32 >>> ((16 : Int32) &&& 31).toUInt32).toInt32) = (0 : Int32) from by decide]
    obtain ⟨cl10, Ar10, Qk10, Sz10, Nn10, Hh10, Gg10⟩ := id V_b2
    have hin10 : ¬ ((0 : Int32) < 0 ∨ cl10.slots.size ≤ ((0 : Int32)).toNatClampNeg) := inb_of Sz10 ⟨by decide, by decide⟩
    refine OutW.back (X9.aaload hx (j := (0 : Int32)) (v := (.ref d3)) (by rw [e9]; exact Ar10.1) (State.isArrayOf_alike hZ.alike Ar10.2.1) rfl Ar10.2.2 hin10 (Hh10.at hin10 (by rfl)) (g := (mkF m 12 #[.val (.ref a1), .val (.int (1 : Int32)), .val (.int p3)] [(.int (0 : Int32)), (.ref b2)])) rfl rfl (hb hby d11_12)) ?_
    show OutW _ _ _ _ _ _ _ (T9.setTop (mkF m 13 #[.val (.ref a1), .val (.int (1 : Int32)), .val (.int p3)] [(.ref d3)]))
    refine OutW.back (fun t k => XS.iloadN X9.here hx rfl (hb hby d11_13) rfl  k) ?_
    show OutW _ _ _ _ _ _ _ (T9.setTop (mkF m 14 #[.val (.ref a1), .val (.int (1 : Int32)), .val (.int p3)] [(.int (1 : Int32)), (.ref d3)]))
    refine OutW.back (X9.ldcInt hx hown (mvT hZ (hw _ (List.mem_of_getElem? (i := 37) rfl))) (g := (mkF m 14 #[.val (.ref a1), .val (.int (1 : Int32)), .val (.int p3)] [(.int (1 : Int32)), (.ref d3)])) rfl (hb hby d11_14)) ?_
    show OutW _ _ _ _ _ _ _ (T9.setTop (mkF m 16 #[.val (.ref a1), .val (.int (1 : Int32)), .val (.int p3)] [(.int (65535 : Int32)), (.int (1 : Int32)), (.ref d3)]))
    refine OutW.back (fun t k => XS.iand X9.here hx rfl (hb hby d11_16) rfl k) ?_
    show OutW _ _ _ _ _ _ _ (T9.setTop (mkF m 17 #[.val (.ref a1), .val (.int (1 : Int32)), .val (.int p3)] [(.int ((1 : Int32) &&& (65535 : Int32))), (.ref d3)]))
    rw [show ((1 : Int32) &&& (65535 : Int32)) = (1 : Int32) from by decide]
    refine OutW.back (fun t k => XS.iloadN X9.here hx rfl (hb hby d11_17) rfl  k) ?_
    show OutW _ _ _ _ _ _ _ (T9.setTop (mkF m 18 #[.val (.ref a1), .val (.int (1 : Int32)), .val (.int p3)] [(.int p3), (.int (1 : Int32)), (.ref d3)]))
    obtain ⟨cl11, Ar11, Qk11, Sz11, Nn11, Hh11, Gg11⟩ := id V_d3
    have hin11 : ¬ ((1 : Int32) < 0 ∨ cl11.slots.size ≤ ((1 : Int32)).toNatClampNeg) := inb_of Sz11 ⟨by decide, by decide⟩
    obtain ⟨T11, h11, X11, e11, W11, st11⟩ := stI X9 hx hZ e9 Ar11 (j := (1 : Int32)) hin11 (g := (mkF m 18 #[.val (.ref a1), .val (.int (1 : Int32)), .val (.int p3)] [(.int p3), (.int (1 : Int32)), (.ref d3)])) rfl rfl (hb hby d11_18)
    have V_d3_11 : Arv Z h11 d3 kD .int (8 : Int32) [(.int w0), (.int p3), (.int (0 : Int32)), (.int (0 : Int32)), (.int (0 : Int32)), (.int (0 : Int32)), (.int (0 : Int32)), (.int (0 : Int32))] (.int (0 : Int32)) := Arv.set Ar11 Qk11 Sz11 Nn11 Hh11 Gg11 rfl W11 1 rfl (Nat.le_of_ble_eq_true rfl)
    have F_blocks_a1 := F_blocks_a1.other W11 (Or.inl ne_a1_d3)
    have F_before_a1 := F_before_a1.other W11 (Or.inl ne_a1_d3)
    have V_b2 := V_b2.other W11 (Ne.symm ne_d3_b2)
    have E_c4 := E_c4.wr W11
    have F_blocks_c4 := F_blocks_c4.other W11 (Or.inl ne_c4_d3)
    have V_b5 := V_b5.other W11 ne_b5_d3
    have V_d6 := V_d6.other W11 ne_d6_d3
    have N11 := Fr.snoc X11 N0 g_d3
    have Z11 : n0 ≤ h11.size := Nat.le_trans Z0 (Keep.of_wr W11).1
    have K11 := K0.wr W11 (Or.inl (List.mem_of_getElem? (i := 0) rfl))
    obtain ⟨lc11, X11, N11⟩ : ∃ lc, Stand p l e ({ frames := 1, cells := 0, slots := 0, locals := 14 } : Room) s m #[(.ref a1), (.int (1 : Int32)), (.int p3)] below meth c T11 lc 0 0 ∧ Fr n0 lc := ⟨_, X11, N11⟩
    refine OutW.back st11 ?_
    show OutW _ _ _ _ _ _ _ (T11.setTop (mkF m 19 #[.val (.ref a1), .val (.int (1 : Int32)), .val (.int p3)] []))
    refine OutW.back (fun t k => XS.goto X11.here hx rfl (pc0 := 19) (pc' := 33) rfl (hb hby d11_19) (by decide) (by decide) k) ?_
    show OutW _ _ _ _ _ _ _ (T11.setTop (mkF m 33 #[.val (.ref a1), .val (.int (1 : Int32)), .val (.int p3)] []))
    refine OutW.retV X11 hx Bd.returns hlk (hb hby d11_33) (by decide) (by decide) ?_
    show Q11_c8 Z a1 (1 : Int32) p3 b2 d3 c4 b5 d6 kB kD kE kF w0 w1 u0 u1 h0 n0 _ T11.heap _
    rw [e11]
    exact ⟨rfl, N11, K11, V_d3_11, V_d6⟩
theorem d12_0 : decode prog_168_method_4_code 0 = .ok (.iload_n 1, 1) := by decide +kernel
theorem d12_1 : decode prog_168_method_4_code 1 = .ok (.ifCond .lt 20, 3) := by decide +kernel
theorem d12_4 : decode prog_168_method_4_code 4 = .ok (.aload_n 0, 1) := by decide +kernel
theorem d12_5 : decode prog_168_method_4_code 5 = .ok (.getfield 11, 3) := by decide +kernel
theorem d12_8 : decode prog_168_method_4_code 8 = .ok (.iload_n 1, 1) := by decide +kernel
theorem d12_9 : decode prog_168_method_4_code 9 = .ok (.bipush 16, 2) := by decide +kernel
theorem d12_11 : decode prog_168_method_4_code 11 = .ok (.iushr, 1) := by decide +kernel
theorem d12_12 : decode prog_168_method_4_code 12 = .ok (.aaload, 1) := by decide +kernel
theorem d12_13 : decode prog_168_method_4_code 13 = .ok (.iload_n 1, 1) := by decide +kernel
theorem d12_14 : decode prog_168_method_4_code 14 = .ok (.ldc 27, 2) := by decide +kernel
theorem d12_16 : decode prog_168_method_4_code 16 = .ok (.iand, 1) := by decide +kernel
theorem d12_17 : decode prog_168_method_4_code 17 = .ok (.iaload, 1) := by decide +kernel
theorem d12_18 : decode prog_168_method_4_code 18 = .ok (.goto 13, 3) := by decide +kernel
theorem d12_31 : decode prog_168_method_4_code 31 = .ok (.ireturn, 1) := by decide +kernel
theorem pn_12 : plainName "com/example/xml_document_query/xmldocumentquery/tree/IntColumn" = true := by first | (simp [plainName, overriddenIn]; done) | decide +kernel
theorem ef_12_0_4 (m : MethodId) (x0 : Addr) : entryFrame m #[(.ref x0), (.int (0 : Int32))] 2 = mkF m 0 #[.val (.ref x0), .val (.int (0 : Int32))] [] := by first | (simp [entryFrame, mkF, argsToLocals, Value.category]; done) | rfl
def Q12_0_4 (Z : State) (a1 : Addr) (b2 : Addr) (d3 : Addr) (kB : ClassId) (kD : ClassId) (w0 : Int32) (w1 : Int32) (w2 : Int32) (w3 : Int32) (h0 : Heap) (n0 : Nat) (v : Option Value) (h : Heap) (L : List Loc) : Prop := v = some (.int w0) ∧ Fr n0 L ∧ h = h0
set_option maxRecDepth 65536 in
set_option maxHeartbeats 40000000 in
theorem rm12_0_4 (l : Launch) (Z : State) (a0 : Array Value) (hw : ∀ d ∈ tables_1, d.before a0 Z = true) (ws : List Jvm.Cond) (a1 : Addr) (b2 : Addr) (d3 : Addr) (kB : ClassId) (kD : ClassId) (w0 : Int32) (w1 : Int32) (w2 : Int32) (w3 : Int32) (h0 : Heap) (n0 : Nat) (Z0 : n0 ≤ h0.size) (F_blocks_a1 : Fld Z h0 a1 "com/example/xml_document_query/xmldocumentquery/tree/IntColumn" "blocks" "[[I" (.ref b2)) (V_b2 : Arv Z h0 b2 kB (.array .int) (1 : Int32) [(.ref d3)] .null) (V_d3 : Arv Z h0 d3 kD .int (4 : Int32) [(.int w0), (.int w1), (.int w2), (.int w3)] (.int (0 : Int32))) :
    MetFree l (⟨"com/example/xml_document_query/xmldocumentquery/tree/IntColumn", "get", "(I)I"⟩ : MethodName) (head1 (Jvm.Cond.code (⟨"com/example/xml_document_query/xmldocumentquery/tree/IntColumn", "get", "(I)I"⟩ : MethodName) prog_168_method_4_code 2 (some .int) :: ws) ({ frames := 0, cells := 0, slots := 0, locals := 0 } : Room)) (fun a U => a = #[(.ref a1), (.int (0 : Int32))] ∧ Z.Warmed39 U.vm ∧ U.heap = h0) (fun _ _ _ _ _ => True) (fun _ U o U' => ∃ v L, o = .returned v ∧ Q12_0_4 Z a1 b2 d3 kB kD w0 w1 w2 w3 h0 n0 v U'.heap L ∧ FrameEnd U o U' L ({ frames := 0, cells := 0, slots := 0, locals := 0 } : Room).cells ({ frames := 0, cells := 0, slots := 0, locals := 0 } : Room).slots) := by
  refine MetFree.of_bodySF (plainFor_of_name pn_12) hisR ?_
  intro p e s m args below meth c s₁ Bd hml0 hP hK
  obtain ⟨rfl, hZ, hh⟩ := hP
  have hx := Bd.exec
  have hby := Bd.bytes
  have hlk := Bd.notSynchronized
  have hml : c.maxLocals = 2 := hml0
  have hown : s.vm.findClass "com/example/xml_document_query/xmldocumentquery/tree/IntColumn" = some m.cls := findClass_of_methodNamed Bd.named
  have hnm := (name_of_methodNamed Bd.named Bd.method).1
  have X0 : Stand p l e ({ frames := 0, cells := 0, slots := 0, locals := 0 } : Room) s m #[(.ref a1), (.int (0 : Int32))] below meth c s₁ [] 0 0 := Stand.of_body Bd
  have e0 : s₁.heap = h0 := by rw [← hh, Bd.state]; rfl
  have N0 := Fr.nil n0
  have K0 : Keep h0 h0 [] := Keep.refl h0 _
  show OutW p e below s ({ frames := 0, cells := 0, slots := 0, locals := 0 } : Room).cells ({ frames := 0, cells := 0, slots := 0, locals := 0 } : Room).slots (Q12_0_4 Z a1 b2 d3 kB kD w0 w1 w2 w3 h0 n0) _
  refine OutW.back (fun t k => castTop (ef_12_0_4 m a1) k) ?_
  show OutW _ _ _ _ _ _ _ (s₁.setTop (mkF m 0 #[.val (.ref a1), .val (.int (0 : Int32))] []))
  refine OutW.back (fun t k => XS.iloadN X0.here hx rfl (hb hby d12_0) rfl  k) ?_
  show OutW _ _ _ _ _ _ _ (s₁.setTop (mkF m 1 #[.val (.ref a1), .val (.int (0 : Int32))] [(.int (0 : Int32))]))
  refine OutW.back (fun t k => XS.ifNo X0.here hx rfl (hb hby d12_1) rfl ((if0 _ _).trans (flt (by decide : ¬ ((0 : Int32) < (0 : Int32)))).1) k) ?_
  show OutW _ _ _ _ _ _ _ (s₁.setTop (mkF m 4 #[.val (.ref a1), .val (.int (0 : Int32))] []))
  refine OutW.back (fun t k => XS.aloadN X0.here hx rfl (hb hby d12_4) rfl rfl  k) ?_
  show OutW _ _ _ _ _ _ _ (s₁.setTop (mkF m 5 #[.val (.ref a1), .val (.int (0 : Int32))] [(.ref a1)]))
  obtain ⟨T1, X1, e1, st1⟩ := getF X0 hx hZ hown (host := "") (Or.inl (hw _ (List.mem_of_getElem? (i := 22) rfl))) Via.refl e0 F_blocks_a1 (g := (mkF m 5 #[.val (.ref a1), .val (.int (0 : Int32))] [(.ref a1)])) rfl rfl (hb hby d12_5)
  refine OutW.back st1 ?_
  show OutW _ _ _ _ _ _ _ (T1.setTop (mkF m 8 #[.val (.ref a1), .val (.int (0 : Int32))] [(.ref b2)]))
  refine OutW.back (fun t k => XS.iloadN X1.here hx rfl (hb hby d12_8) rfl  k) ?_
  show OutW _ _ _ _ _ _ _ (T1.setTop (mkF m 9 #[.val (.ref a1), .val (.int (0 : Int32))] [(.int (0 : Int32)), (.ref b2)]))
  refine OutW.back (fun t k => XS.bipush X1.here hx rfl (hb hby d12_9) k) ?_
  show OutW _ _ _ _ _ _ _ (T1.setTop (mkF m 11 #[.val (.ref a1), .val (.int (0 : Int32))] [(.int (16 : Int32)), (.int (0 : Int32)), (.ref b2)]))
  refine OutW.back (fun t k => XS.iushr X1.here hx rfl (hb hby d12_11) rfl k) ?_
  show OutW _ _ _ _ _ _ _ (T1.setTop (mkF m 12 #[.val (.ref a1), .val (.int (0 : Int32))] [(.int (((0 : Int32).toUInt32 >>> ((16 : Int32) &&& 31).toUInt32).toInt32)), (.ref b2)]))
  rw [show (((0 : Int32).toUInt32 >>> ((16 : Int32) &&& 31).toUInt32).toInt32) = (0 : Int32) from by decide]
  obtain ⟨cl2, Ar2, Qk2, Sz2, Nn2, Hh2, Gg2⟩ := id V_b2
  have hin2 : ¬ ((0 : Int32) < 0 ∨ cl2.slots.size ≤ ((0 : Int32)).toNatClampNeg) := inb_of Sz2 ⟨by decide, by decide⟩
  refine OutW.back (X1.aaload hx (j := (0 : Int32)) (v := (.ref d3)) (by rw [e1]; exact Ar2.1) (State.isArrayOf_alike hZ.alike Ar2.2.1) rfl Ar2.2.2 hin2 (Hh2.at hin2 (by rfl)) (g := (mkF m 12 #[.val (.ref a1), .val (.int (0 : Int32))] [(.int (0 : Int32)), (.ref b2)])) rfl rfl (hb hby d12_12)) ?_
  show OutW _ _ _ _ _ _ _ (T1.setTop (mkF m 13 #[.val (.ref a1), .val (.int (0 : Int32))] [(.ref d3)]))
  refine OutW.back (fun t k => XS.iloadN X1.here hx rfl (hb hby d12_13) rfl  k) ?_
  show OutW _ _ _ _ _ _ _ (T1.setTop (mkF m 14 #[.val (.ref a1), .val (.int (0 : Int32))] [(.int (0 : Int32)), (.ref d3)]))
  refine OutW.back (X1.ldcInt hx hown (mvT hZ (hw _ (List.mem_of_getElem? (i := 37) rfl))) (g := (mkF m 14 #[.val (.ref a1), .val (.int (0 : Int32))] [(.int (0 : Int32)), (.ref d3)])) rfl (hb hby d12_14)) ?_
  show OutW _ _ _ _ _ _ _ (T1.setTop (mkF m 16 #[.val (.ref a1), .val (.int (0 : Int32))] [(.int (65535 : Int32)), (.int (0 : Int32)), (.ref d3)]))
  refine OutW.back (fun t k => XS.iand X1.here hx rfl (hb hby d12_16) rfl k) ?_
  show OutW _ _ _ _ _ _ _ (T1.setTop (mkF m 17 #[.val (.ref a1), .val (.int (0 : Int32))] [(.int ((0 : Int32) &&& (65535 : Int32))), (.ref d3)]))
  rw [show ((0 : Int32) &&& (65535 : Int32)) = (0 : Int32) from by decide]
  obtain ⟨cl3, Ar3, Qk3, Sz3, Nn3, Hh3, Gg3⟩ := id V_d3
  have hin3 : ¬ ((0 : Int32) < 0 ∨ cl3.slots.size ≤ ((0 : Int32)).toNatClampNeg) := inb_of Sz3 ⟨by decide, by decide⟩
  refine OutW.back (X1.iaload hx (j := (0 : Int32)) (v := (.int w0)) (by rw [e1]; exact Ar3.1) (State.isArrayOf_alike hZ.alike Ar3.2.1) Ar3.2.2 hin3 (Hh3.at hin3 (by rfl)) (g := (mkF m 17 #[.val (.ref a1), .val (.int (0 : Int32))] [(.int (0 : Int32)), (.ref d3)])) rfl rfl (hb hby d12_17)) ?_
  show OutW _ _ _ _ _ _ _ (T1.setTop (mkF m 18 #[.val (.ref a1), .val (.int (0 : Int32))] [(.int w0)]))
  refine OutW.back (fun t k => XS.goto X1.here hx rfl (pc0 := 18) (pc' := 31) rfl (hb hby d12_18) (by decide) (by decide) k) ?_
  show OutW _ _ _ _ _ _ _ (T1.setTop (mkF m 31 #[.val (.ref a1), .val (.int (0 : Int32))] [(.int w0)]))
  refine OutW.retI X1 hx Bd.returns hlk (hb hby d12_31) (by decide) (by decide) ?_
  show Q12_0_4 Z a1 b2 d3 kB kD w0 w1 w2 w3 h0 n0 _ T1.heap _
  rw [e1]
  exact ⟨rfl, N0, rfl⟩
theorem ef_12_1_4 (m : MethodId) (x0 : Addr) : entryFrame m #[(.ref x0), (.int (1 : Int32))] 2 = mkF m 0 #[.val (.ref x0), .val (.int (1 : Int32))] [] := by first | (simp [entryFrame, mkF, argsToLocals, Value.category]; done) | rfl
def Q12_1_4 (Z : State) (a1 : Addr) (b2 : Addr) (d3 : Addr) (kB : ClassId) (kD : ClassId) (w0 : Int32) (w1 : Int32) (w2 : Int32) (w3 : Int32) (h0 : Heap) (n0 : Nat) (v : Option Value) (h : Heap) (L : List Loc) : Prop := v = some (.int w1) ∧ Fr n0 L ∧ h = h0
set_option maxRecDepth 65536 in
set_option maxHeartbeats 40000000 in
theorem rm12_1_4 (l : Launch) (Z : State) (a0 : Array Value) (hw : ∀ d ∈ tables_1, d.before a0 Z = true) (ws : List Jvm.Cond) (a1 : Addr) (b2 : Addr) (d3 : Addr) (kB : ClassId) (kD : ClassId) (w0 : Int32) (w1 : Int32) (w2 : Int32) (w3 : Int32) (h0 : Heap) (n0 : Nat) (Z0 : n0 ≤ h0.size) (F_blocks_a1 : Fld Z h0 a1 "com/example/xml_document_query/xmldocumentquery/tree/IntColumn" "blocks" "[[I" (.ref b2)) (V_b2 : Arv Z h0 b2 kB (.array .int) (1 : Int32) [(.ref d3)] .null) (V_d3 : Arv Z h0 d3 kD .int (4 : Int32) [(.int w0), (.int w1), (.int w2), (.int w3)] (.int (0 : Int32))) :
    MetFree l (⟨"com/example/xml_document_query/xmldocumentquery/tree/IntColumn", "get", "(I)I"⟩ : MethodName) (head1 (Jvm.Cond.code (⟨"com/example/xml_document_query/xmldocumentquery/tree/IntColumn", "get", "(I)I"⟩ : MethodName) prog_168_method_4_code 2 (some .int) :: ws) ({ frames := 0, cells := 0, slots := 0, locals := 0 } : Room)) (fun a U => a = #[(.ref a1), (.int (1 : Int32))] ∧ Z.Warmed39 U.vm ∧ U.heap = h0) (fun _ _ _ _ _ => True) (fun _ U o U' => ∃ v L, o = .returned v ∧ Q12_1_4 Z a1 b2 d3 kB kD w0 w1 w2 w3 h0 n0 v U'.heap L ∧ FrameEnd U o U' L ({ frames := 0, cells := 0, slots := 0, locals := 0 } : Room).cells ({ frames := 0, cells := 0, slots := 0, locals := 0 } : Room).slots) := by
  refine MetFree.of_bodySF (plainFor_of_name pn_12) hisR ?_
  intro p e s m args below meth c s₁ Bd hml0 hP hK
  obtain ⟨rfl, hZ, hh⟩ := hP
  have hx := Bd.exec
  have hby := Bd.bytes
  have hlk := Bd.notSynchronized
  have hml : c.maxLocals = 2 := hml0
  have hown : s.vm.findClass "com/example/xml_document_query/xmldocumentquery/tree/IntColumn" = some m.cls := findClass_of_methodNamed Bd.named
  have hnm := (name_of_methodNamed Bd.named Bd.method).1
  have X0 : Stand p l e ({ frames := 0, cells := 0, slots := 0, locals := 0 } : Room) s m #[(.ref a1), (.int (1 : Int32))] below meth c s₁ [] 0 0 := Stand.of_body Bd
  have e0 : s₁.heap = h0 := by rw [← hh, Bd.state]; rfl
  have N0 := Fr.nil n0
  have K0 : Keep h0 h0 [] := Keep.refl h0 _
  show OutW p e below s ({ frames := 0, cells := 0, slots := 0, locals := 0 } : Room).cells ({ frames := 0, cells := 0, slots := 0, locals := 0 } : Room).slots (Q12_1_4 Z a1 b2 d3 kB kD w0 w1 w2 w3 h0 n0) _
  refine OutW.back (fun t k => castTop (ef_12_1_4 m a1) k) ?_
  show OutW _ _ _ _ _ _ _ (s₁.setTop (mkF m 0 #[.val (.ref a1), .val (.int (1 : Int32))] []))
  refine OutW.back (fun t k => XS.iloadN X0.here hx rfl (hb hby d12_0) rfl  k) ?_
  show OutW _ _ _ _ _ _ _ (s₁.setTop (mkF m 1 #[.val (.ref a1), .val (.int (1 : Int32))] [(.int (1 : Int32))]))
  refine OutW.back (fun t k => XS.ifNo X0.here hx rfl (hb hby d12_1) rfl ((if0 _ _).trans (flt (by decide : ¬ ((1 : Int32) < (0 : Int32)))).1) k) ?_
  show OutW _ _ _ _ _ _ _ (s₁.setTop (mkF m 4 #[.val (.ref a1), .val (.int (1 : Int32))] []))
  refine OutW.back (fun t k => XS.aloadN X0.here hx rfl (hb hby d12_4) rfl rfl  k) ?_
  show OutW _ _ _ _ _ _ _ (s₁.setTop (mkF m 5 #[.val (.ref a1), .val (.int (1 : Int32))] [(.ref a1)]))
  obtain ⟨T1, X1, e1, st1⟩ := getF X0 hx hZ hown (host := "") (Or.inl (hw _ (List.mem_of_getElem? (i := 22) rfl))) Via.refl e0 F_blocks_a1 (g := (mkF m 5 #[.val (.ref a1), .val (.int (1 : Int32))] [(.ref a1)])) rfl rfl (hb hby d12_5)
  refine OutW.back st1 ?_
  show OutW _ _ _ _ _ _ _ (T1.setTop (mkF m 8 #[.val (.ref a1), .val (.int (1 : Int32))] [(.ref b2)]))
  refine OutW.back (fun t k => XS.iloadN X1.here hx rfl (hb hby d12_8) rfl  k) ?_
  show OutW _ _ _ _ _ _ _ (T1.setTop (mkF m 9 #[.val (.ref a1), .val (.int (1 : Int32))] [(.int (1 : Int32)), (.ref b2)]))
  refine OutW.back (fun t k => XS.bipush X1.here hx rfl (hb hby d12_9) k) ?_
  show OutW _ _ _ _ _ _ _ (T1.setTop (mkF m 11 #[.val (.ref a1), .val (.int (1 : Int32))] [(.int (16 : Int32)), (.int (1 : Int32)), (.ref b2)]))
  refine OutW.back (fun t k => XS.iushr X1.here hx rfl (hb hby d12_11) rfl k) ?_
  show OutW _ _ _ _ _ _ _ (T1.setTop (mkF m 12 #[.val (.ref a1), .val (.int (1 : Int32))] [(.int (((1 : Int32).toUInt32 >>> ((16 : Int32) &&& 31).toUInt32).toInt32)), (.ref b2)]))
  rw [show (((1 : Int32).toUInt32 >>> ((16 : Int32) &&& 31).toUInt32).toInt32) = (0 : Int32) from by decide]
  obtain ⟨cl2, Ar2, Qk2, Sz2, Nn2, Hh2, Gg2⟩ := id V_b2
  have hin2 : ¬ ((0 : Int32) < 0 ∨ cl2.slots.size ≤ ((0 : Int32)).toNatClampNeg) := inb_of Sz2 ⟨by decide, by decide⟩
  refine OutW.back (X1.aaload hx (j := (0 : Int32)) (v := (.ref d3)) (by rw [e1]; exact Ar2.1) (State.isArrayOf_alike hZ.alike Ar2.2.1) rfl Ar2.2.2 hin2 (Hh2.at hin2 (by rfl)) (g := (mkF m 12 #[.val (.ref a1), .val (.int (1 : Int32))] [(.int (0 : Int32)), (.ref b2)])) rfl rfl (hb hby d12_12)) ?_
  show OutW _ _ _ _ _ _ _ (T1.setTop (mkF m 13 #[.val (.ref a1), .val (.int (1 : Int32))] [(.ref d3)]))
  refine OutW.back (fun t k => XS.iloadN X1.here hx rfl (hb hby d12_13) rfl  k) ?_
  show OutW _ _ _ _ _ _ _ (T1.setTop (mkF m 14 #[.val (.ref a1), .val (.int (1 : Int32))] [(.int (1 : Int32)), (.ref d3)]))
  refine OutW.back (X1.ldcInt hx hown (mvT hZ (hw _ (List.mem_of_getElem? (i := 37) rfl))) (g := (mkF m 14 #[.val (.ref a1), .val (.int (1 : Int32))] [(.int (1 : Int32)), (.ref d3)])) rfl (hb hby d12_14)) ?_
  show OutW _ _ _ _ _ _ _ (T1.setTop (mkF m 16 #[.val (.ref a1), .val (.int (1 : Int32))] [(.int (65535 : Int32)), (.int (1 : Int32)), (.ref d3)]))
  refine OutW.back (fun t k => XS.iand X1.here hx rfl (hb hby d12_16) rfl k) ?_
  show OutW _ _ _ _ _ _ _ (T1.setTop (mkF m 17 #[.val (.ref a1), .val (.int (1 : Int32))] [(.int ((1 : Int32) &&& (65535 : Int32))), (.ref d3)]))
  rw [show ((1 : Int32) &&& (65535 : Int32)) = (1 : Int32) from by decide]
  obtain ⟨cl3, Ar3, Qk3, Sz3, Nn3, Hh3, Gg3⟩ := id V_d3
  have hin3 : ¬ ((1 : Int32) < 0 ∨ cl3.slots.size ≤ ((1 : Int32)).toNatClampNeg) := inb_of Sz3 ⟨by decide, by decide⟩
  refine OutW.back (X1.iaload hx (j := (1 : Int32)) (v := (.int w1)) (by rw [e1]; exact Ar3.1) (State.isArrayOf_alike hZ.alike Ar3.2.1) Ar3.2.2 hin3 (Hh3.at hin3 (by rfl)) (g := (mkF m 17 #[.val (.ref a1), .val (.int (1 : Int32))] [(.int (1 : Int32)), (.ref d3)])) rfl rfl (hb hby d12_17)) ?_
  show OutW _ _ _ _ _ _ _ (T1.setTop (mkF m 18 #[.val (.ref a1), .val (.int (1 : Int32))] [(.int w1)]))
  refine OutW.back (fun t k => XS.goto X1.here hx rfl (pc0 := 18) (pc' := 31) rfl (hb hby d12_18) (by decide) (by decide) k) ?_
  show OutW _ _ _ _ _ _ _ (T1.setTop (mkF m 31 #[.val (.ref a1), .val (.int (1 : Int32))] [(.int w1)]))
  refine OutW.retI X1 hx Bd.returns hlk (hb hby d12_31) (by decide) (by decide) ?_
  show Q12_1_4 Z a1 b2 d3 kB kD w0 w1 w2 w3 h0 n0 _ T1.heap _
  rw [e1]
  exact ⟨rfl, N0, rfl⟩
theorem ef_12_0_2 (m : MethodId) (x0 : Addr) : entryFrame m #[(.ref x0), (.int (0 : Int32))] 2 = mkF m 0 #[.val (.ref x0), .val (.int (0 : Int32))] [] := by first | (simp [entryFrame, mkF, argsToLocals, Value.category]; done) | rfl
def Q12_0_2 (Z : State) (a1 : Addr) (b2 : Addr) (d3 : Addr) (kB : ClassId) (kD : ClassId) (w0 : Int32) (w1 : Int32) (h0 : Heap) (n0 : Nat) (v : Option Value) (h : Heap) (L : List Loc) : Prop := v = some (.int w0) ∧ Fr n0 L ∧ h = h0
set_option maxRecDepth 65536 in
set_option maxHeartbeats 40000000 in
theorem rm12_0_2 (l : Launch) (Z : State) (a0 : Array Value) (hw : ∀ d ∈ tables_1, d.before a0 Z = true) (ws : List Jvm.Cond) (a1 : Addr) (b2 : Addr) (d3 : Addr) (kB : ClassId) (kD : ClassId) (w0 : Int32) (w1 : Int32) (h0 : Heap) (n0 : Nat) (Z0 : n0 ≤ h0.size) (F_blocks_a1 : Fld Z h0 a1 "com/example/xml_document_query/xmldocumentquery/tree/IntColumn" "blocks" "[[I" (.ref b2)) (V_b2 : Arv Z h0 b2 kB (.array .int) (1 : Int32) [(.ref d3)] .null) (V_d3 : Arv Z h0 d3 kD .int (2 : Int32) [(.int w0), (.int w1)] (.int (0 : Int32))) :
    MetFree l (⟨"com/example/xml_document_query/xmldocumentquery/tree/IntColumn", "get", "(I)I"⟩ : MethodName) (head1 (Jvm.Cond.code (⟨"com/example/xml_document_query/xmldocumentquery/tree/IntColumn", "get", "(I)I"⟩ : MethodName) prog_168_method_4_code 2 (some .int) :: ws) ({ frames := 0, cells := 0, slots := 0, locals := 0 } : Room)) (fun a U => a = #[(.ref a1), (.int (0 : Int32))] ∧ Z.Warmed39 U.vm ∧ U.heap = h0) (fun _ _ _ _ _ => True) (fun _ U o U' => ∃ v L, o = .returned v ∧ Q12_0_2 Z a1 b2 d3 kB kD w0 w1 h0 n0 v U'.heap L ∧ FrameEnd U o U' L ({ frames := 0, cells := 0, slots := 0, locals := 0 } : Room).cells ({ frames := 0, cells := 0, slots := 0, locals := 0 } : Room).slots) := by
  refine MetFree.of_bodySF (plainFor_of_name pn_12) hisR ?_
  intro p e s m args below meth c s₁ Bd hml0 hP hK
  obtain ⟨rfl, hZ, hh⟩ := hP
  have hx := Bd.exec
  have hby := Bd.bytes
  have hlk := Bd.notSynchronized
  have hml : c.maxLocals = 2 := hml0
  have hown : s.vm.findClass "com/example/xml_document_query/xmldocumentquery/tree/IntColumn" = some m.cls := findClass_of_methodNamed Bd.named
  have hnm := (name_of_methodNamed Bd.named Bd.method).1
  have X0 : Stand p l e ({ frames := 0, cells := 0, slots := 0, locals := 0 } : Room) s m #[(.ref a1), (.int (0 : Int32))] below meth c s₁ [] 0 0 := Stand.of_body Bd
  have e0 : s₁.heap = h0 := by rw [← hh, Bd.state]; rfl
  have N0 := Fr.nil n0
  have K0 : Keep h0 h0 [] := Keep.refl h0 _
  show OutW p e below s ({ frames := 0, cells := 0, slots := 0, locals := 0 } : Room).cells ({ frames := 0, cells := 0, slots := 0, locals := 0 } : Room).slots (Q12_0_2 Z a1 b2 d3 kB kD w0 w1 h0 n0) _
  refine OutW.back (fun t k => castTop (ef_12_0_2 m a1) k) ?_
  show OutW _ _ _ _ _ _ _ (s₁.setTop (mkF m 0 #[.val (.ref a1), .val (.int (0 : Int32))] []))
  refine OutW.back (fun t k => XS.iloadN X0.here hx rfl (hb hby d12_0) rfl  k) ?_
  show OutW _ _ _ _ _ _ _ (s₁.setTop (mkF m 1 #[.val (.ref a1), .val (.int (0 : Int32))] [(.int (0 : Int32))]))
  refine OutW.back (fun t k => XS.ifNo X0.here hx rfl (hb hby d12_1) rfl ((if0 _ _).trans (flt (by decide : ¬ ((0 : Int32) < (0 : Int32)))).1) k) ?_
  show OutW _ _ _ _ _ _ _ (s₁.setTop (mkF m 4 #[.val (.ref a1), .val (.int (0 : Int32))] []))
  refine OutW.back (fun t k => XS.aloadN X0.here hx rfl (hb hby d12_4) rfl rfl  k) ?_
  show OutW _ _ _ _ _ _ _ (s₁.setTop (mkF m 5 #[.val (.ref a1), .val (.int (0 : Int32))] [(.ref a1)]))
  obtain ⟨T1, X1, e1, st1⟩ := getF X0 hx hZ hown (host := "") (Or.inl (hw _ (List.mem_of_getElem? (i := 22) rfl))) Via.refl e0 F_blocks_a1 (g := (mkF m 5 #[.val (.ref a1), .val (.int (0 : Int32))] [(.ref a1)])) rfl rfl (hb hby d12_5)
  refine OutW.back st1 ?_
  show OutW _ _ _ _ _ _ _ (T1.setTop (mkF m 8 #[.val (.ref a1), .val (.int (0 : Int32))] [(.ref b2)]))
  refine OutW.back (fun t k => XS.iloadN X1.here hx rfl (hb hby d12_8) rfl  k) ?_
  show OutW _ _ _ _ _ _ _ (T1.setTop (mkF m 9 #[.val (.ref a1), .val (.int (0 : Int32))] [(.int (0 : Int32)), (.ref b2)]))
  refine OutW.back (fun t k => XS.bipush X1.here hx rfl (hb hby d12_9) k) ?_
  show OutW _ _ _ _ _ _ _ (T1.setTop (mkF m 11 #[.val (.ref a1), .val (.int (0 : Int32))] [(.int (16 : Int32)), (.int (0 : Int32)), (.ref b2)]))
  refine OutW.back (fun t k => XS.iushr X1.here hx rfl (hb hby d12_11) rfl k) ?_
  show OutW _ _ _ _ _ _ _ (T1.setTop (mkF m 12 #[.val (.ref a1), .val (.int (0 : Int32))] [(.int (((0 : Int32).toUInt32 >>> ((16 : Int32) &&& 31).toUInt32).toInt32)), (.ref b2)]))
  rw [show (((0 : Int32).toUInt32 >>> ((16 : Int32) &&& 31).toUInt32).toInt32) = (0 : Int32) from by decide]
  obtain ⟨cl2, Ar2, Qk2, Sz2, Nn2, Hh2, Gg2⟩ := id V_b2
  have hin2 : ¬ ((0 : Int32) < 0 ∨ cl2.slots.size ≤ ((0 : Int32)).toNatClampNeg) := inb_of Sz2 ⟨by decide, by decide⟩
  refine OutW.back (X1.aaload hx (j := (0 : Int32)) (v := (.ref d3)) (by rw [e1]; exact Ar2.1) (State.isArrayOf_alike hZ.alike Ar2.2.1) rfl Ar2.2.2 hin2 (Hh2.at hin2 (by rfl)) (g := (mkF m 12 #[.val (.ref a1), .val (.int (0 : Int32))] [(.int (0 : Int32)), (.ref b2)])) rfl rfl (hb hby d12_12)) ?_
  show OutW _ _ _ _ _ _ _ (T1.setTop (mkF m 13 #[.val (.ref a1), .val (.int (0 : Int32))] [(.ref d3)]))
  refine OutW.back (fun t k => XS.iloadN X1.here hx rfl (hb hby d12_13) rfl  k) ?_
  show OutW _ _ _ _ _ _ _ (T1.setTop (mkF m 14 #[.val (.ref a1), .val (.int (0 : Int32))] [(.int (0 : Int32)), (.ref d3)]))
  refine OutW.back (X1.ldcInt hx hown (mvT hZ (hw _ (List.mem_of_getElem? (i := 37) rfl))) (g := (mkF m 14 #[.val (.ref a1), .val (.int (0 : Int32))] [(.int (0 : Int32)), (.ref d3)])) rfl (hb hby d12_14)) ?_
  show OutW _ _ _ _ _ _ _ (T1.setTop (mkF m 16 #[.val (.ref a1), .val (.int (0 : Int32))] [(.int (65535 : Int32)), (.int (0 : Int32)), (.ref d3)]))
  refine OutW.back (fun t k => XS.iand X1.here hx rfl (hb hby d12_16) rfl k) ?_
  show OutW _ _ _ _ _ _ _ (T1.setTop (mkF m 17 #[.val (.ref a1), .val (.int (0 : Int32))] [(.int ((0 : Int32) &&& (65535 : Int32))), (.ref d3)]))
  rw [show ((0 : Int32) &&& (65535 : Int32)) = (0 : Int32) from by decide]
  obtain ⟨cl3, Ar3, Qk3, Sz3, Nn3, Hh3, Gg3⟩ := id V_d3
  have hin3 : ¬ ((0 : Int32) < 0 ∨ cl3.slots.size ≤ ((0 : Int32)).toNatClampNeg) := inb_of Sz3 ⟨by decide, by decide⟩
  refine OutW.back (X1.iaload hx (j := (0 : Int32)) (v := (.int w0)) (by rw [e1]; exact Ar3.1) (State.isArrayOf_alike hZ.alike Ar3.2.1) Ar3.2.2 hin3 (Hh3.at hin3 (by rfl)) (g := (mkF m 17 #[.val (.ref a1), .val (.int (0 : Int32))] [(.int (0 : Int32)), (.ref d3)])) rfl rfl (hb hby d12_17)) ?_
  show OutW _ _ _ _ _ _ _ (T1.setTop (mkF m 18 #[.val (.ref a1), .val (.int (0 : Int32))] [(.int w0)]))
  refine OutW.back (fun t k => XS.goto X1.here hx rfl (pc0 := 18) (pc' := 31) rfl (hb hby d12_18) (by decide) (by decide) k) ?_
  show OutW _ _ _ _ _ _ _ (T1.setTop (mkF m 31 #[.val (.ref a1), .val (.int (0 : Int32))] [(.int w0)]))
  refine OutW.retI X1 hx Bd.returns hlk (hb hby d12_31) (by decide) (by decide) ?_
  show Q12_0_2 Z a1 b2 d3 kB kD w0 w1 h0 n0 _ T1.heap _
  rw [e1]
  exact ⟨rfl, N0, rfl⟩
theorem ef_12_1_2 (m : MethodId) (x0 : Addr) : entryFrame m #[(.ref x0), (.int (1 : Int32))] 2 = mkF m 0 #[.val (.ref x0), .val (.int (1 : Int32))] [] := by first | (simp [entryFrame, mkF, argsToLocals, Value.category]; done) | rfl
def Q12_1_2 (Z : State) (a1 : Addr) (b2 : Addr) (d3 : Addr) (kB : ClassId) (kD : ClassId) (w0 : Int32) (w1 : Int32) (h0 : Heap) (n0 : Nat) (v : Option Value) (h : Heap) (L : List Loc) : Prop := v = some (.int w1) ∧ Fr n0 L ∧ h = h0
set_option maxRecDepth 65536 in
set_option maxHeartbeats 40000000 in
theorem rm12_1_2 (l : Launch) (Z : State) (a0 : Array Value) (hw : ∀ d ∈ tables_1, d.before a0 Z = true) (ws : List Jvm.Cond) (a1 : Addr) (b2 : Addr) (d3 : Addr) (kB : ClassId) (kD : ClassId) (w0 : Int32) (w1 : Int32) (h0 : Heap) (n0 : Nat) (Z0 : n0 ≤ h0.size) (F_blocks_a1 : Fld Z h0 a1 "com/example/xml_document_query/xmldocumentquery/tree/IntColumn" "blocks" "[[I" (.ref b2)) (V_b2 : Arv Z h0 b2 kB (.array .int) (1 : Int32) [(.ref d3)] .null) (V_d3 : Arv Z h0 d3 kD .int (2 : Int32) [(.int w0), (.int w1)] (.int (0 : Int32))) :
    MetFree l (⟨"com/example/xml_document_query/xmldocumentquery/tree/IntColumn", "get", "(I)I"⟩ : MethodName) (head1 (Jvm.Cond.code (⟨"com/example/xml_document_query/xmldocumentquery/tree/IntColumn", "get", "(I)I"⟩ : MethodName) prog_168_method_4_code 2 (some .int) :: ws) ({ frames := 0, cells := 0, slots := 0, locals := 0 } : Room)) (fun a U => a = #[(.ref a1), (.int (1 : Int32))] ∧ Z.Warmed39 U.vm ∧ U.heap = h0) (fun _ _ _ _ _ => True) (fun _ U o U' => ∃ v L, o = .returned v ∧ Q12_1_2 Z a1 b2 d3 kB kD w0 w1 h0 n0 v U'.heap L ∧ FrameEnd U o U' L ({ frames := 0, cells := 0, slots := 0, locals := 0 } : Room).cells ({ frames := 0, cells := 0, slots := 0, locals := 0 } : Room).slots) := by
  refine MetFree.of_bodySF (plainFor_of_name pn_12) hisR ?_
  intro p e s m args below meth c s₁ Bd hml0 hP hK
  obtain ⟨rfl, hZ, hh⟩ := hP
  have hx := Bd.exec
  have hby := Bd.bytes
  have hlk := Bd.notSynchronized
  have hml : c.maxLocals = 2 := hml0
  have hown : s.vm.findClass "com/example/xml_document_query/xmldocumentquery/tree/IntColumn" = some m.cls := findClass_of_methodNamed Bd.named
  have hnm := (name_of_methodNamed Bd.named Bd.method).1
  have X0 : Stand p l e ({ frames := 0, cells := 0, slots := 0, locals := 0 } : Room) s m #[(.ref a1), (.int (1 : Int32))] below meth c s₁ [] 0 0 := Stand.of_body Bd
  have e0 : s₁.heap = h0 := by rw [← hh, Bd.state]; rfl
  have N0 := Fr.nil n0
  have K0 : Keep h0 h0 [] := Keep.refl h0 _
  show OutW p e below s ({ frames := 0, cells := 0, slots := 0, locals := 0 } : Room).cells ({ frames := 0, cells := 0, slots := 0, locals := 0 } : Room).slots (Q12_1_2 Z a1 b2 d3 kB kD w0 w1 h0 n0) _
  refine OutW.back (fun t k => castTop (ef_12_1_2 m a1) k) ?_
  show OutW _ _ _ _ _ _ _ (s₁.setTop (mkF m 0 #[.val (.ref a1), .val (.int (1 : Int32))] []))
  refine OutW.back (fun t k => XS.iloadN X0.here hx rfl (hb hby d12_0) rfl  k) ?_
  show OutW _ _ _ _ _ _ _ (s₁.setTop (mkF m 1 #[.val (.ref a1), .val (.int (1 : Int32))] [(.int (1 : Int32))]))
  refine OutW.back (fun t k => XS.ifNo X0.here hx rfl (hb hby d12_1) rfl ((if0 _ _).trans (flt (by decide : ¬ ((1 : Int32) < (0 : Int32)))).1) k) ?_
  show OutW _ _ _ _ _ _ _ (s₁.setTop (mkF m 4 #[.val (.ref a1), .val (.int (1 : Int32))] []))
  refine OutW.back (fun t k => XS.aloadN X0.here hx rfl (hb hby d12_4) rfl rfl  k) ?_
  show OutW _ _ _ _ _ _ _ (s₁.setTop (mkF m 5 #[.val (.ref a1), .val (.int (1 : Int32))] [(.ref a1)]))
  obtain ⟨T1, X1, e1, st1⟩ := getF X0 hx hZ hown (host := "") (Or.inl (hw _ (List.mem_of_getElem? (i := 22) rfl))) Via.refl e0 F_blocks_a1 (g := (mkF m 5 #[.val (.ref a1), .val (.int (1 : Int32))] [(.ref a1)])) rfl rfl (hb hby d12_5)
  refine OutW.back st1 ?_
  show OutW _ _ _ _ _ _ _ (T1.setTop (mkF m 8 #[.val (.ref a1), .val (.int (1 : Int32))] [(.ref b2)]))
  refine OutW.back (fun t k => XS.iloadN X1.here hx rfl (hb hby d12_8) rfl  k) ?_
  show OutW _ _ _ _ _ _ _ (T1.setTop (mkF m 9 #[.val (.ref a1), .val (.int (1 : Int32))] [(.int (1 : Int32)), (.ref b2)]))
  refine OutW.back (fun t k => XS.bipush X1.here hx rfl (hb hby d12_9) k) ?_
  show OutW _ _ _ _ _ _ _ (T1.setTop (mkF m 11 #[.val (.ref a1), .val (.int (1 : Int32))] [(.int (16 : Int32)), (.int (1 : Int32)), (.ref b2)]))
  refine OutW.back (fun t k => XS.iushr X1.here hx rfl (hb hby d12_11) rfl k) ?_
  show OutW _ _ _ _ _ _ _ (T1.setTop (mkF m 12 #[.val (.ref a1), .val (.int (1 : Int32))] [(.int (((1 : Int32).toUInt32 >>> ((16 : Int32) &&& 31).toUInt32).toInt32)), (.ref b2)]))
  rw [show (((1 : Int32).toUInt32 >>> ((16 : Int32) &&& 31).toUInt32).toInt32) = (0 : Int32) from by decide]
  obtain ⟨cl2, Ar2, Qk2, Sz2, Nn2, Hh2, Gg2⟩ := id V_b2
  have hin2 : ¬ ((0 : Int32) < 0 ∨ cl2.slots.size ≤ ((0 : Int32)).toNatClampNeg) := inb_of Sz2 ⟨by decide, by decide⟩
  refine OutW.back (X1.aaload hx (j := (0 : Int32)) (v := (.ref d3)) (by rw [e1]; exact Ar2.1) (State.isArrayOf_alike hZ.alike Ar2.2.1) rfl Ar2.2.2 hin2 (Hh2.at hin2 (by rfl)) (g := (mkF m 12 #[.val (.ref a1), .val (.int (1 : Int32))] [(.int (0 : Int32)), (.ref b2)])) rfl rfl (hb hby d12_12)) ?_
  show OutW _ _ _ _ _ _ _ (T1.setTop (mkF m 13 #[.val (.ref a1), .val (.int (1 : Int32))] [(.ref d3)]))
  refine OutW.back (fun t k => XS.iloadN X1.here hx rfl (hb hby d12_13) rfl  k) ?_
  show OutW _ _ _ _ _ _ _ (T1.setTop (mkF m 14 #[.val (.ref a1), .val (.int (1 : Int32))] [(.int (1 : Int32)), (.ref d3)]))
  refine OutW.back (X1.ldcInt hx hown (mvT hZ (hw _ (List.mem_of_getElem? (i := 37) rfl))) (g := (mkF m 14 #[.val (.ref a1), .val (.int (1 : Int32))] [(.int (1 : Int32)), (.ref d3)])) rfl (hb hby d12_14)) ?_
  show OutW _ _ _ _ _ _ _ (T1.setTop (mkF m 16 #[.val (.ref a1), .val (.int (1 : Int32))] [(.int (65535 : Int32)), (.int (1 : Int32)), (.ref d3)]))
  refine OutW.back (fun t k => XS.iand X1.here hx rfl (hb hby d12_16) rfl k) ?_
  show OutW _ _ _ _ _ _ _ (T1.setTop (mkF m 17 #[.val (.ref a1), .val (.int (1 : Int32))] [(.int ((1 : Int32) &&& (65535 : Int32))), (.ref d3)]))
  rw [show ((1 : Int32) &&& (65535 : Int32)) = (1 : Int32) from by decide]
  obtain ⟨cl3, Ar3, Qk3, Sz3, Nn3, Hh3, Gg3⟩ := id V_d3
  have hin3 : ¬ ((1 : Int32) < 0 ∨ cl3.slots.size ≤ ((1 : Int32)).toNatClampNeg) := inb_of Sz3 ⟨by decide, by decide⟩
  refine OutW.back (X1.iaload hx (j := (1 : Int32)) (v := (.int w1)) (by rw [e1]; exact Ar3.1) (State.isArrayOf_alike hZ.alike Ar3.2.1) Ar3.2.2 hin3 (Hh3.at hin3 (by rfl)) (g := (mkF m 17 #[.val (.ref a1), .val (.int (1 : Int32))] [(.int (1 : Int32)), (.ref d3)])) rfl rfl (hb hby d12_17)) ?_
  show OutW _ _ _ _ _ _ _ (T1.setTop (mkF m 18 #[.val (.ref a1), .val (.int (1 : Int32))] [(.int w1)]))
  refine OutW.back (fun t k => XS.goto X1.here hx rfl (pc0 := 18) (pc' := 31) rfl (hb hby d12_18) (by decide) (by decide) k) ?_
  show OutW _ _ _ _ _ _ _ (T1.setTop (mkF m 31 #[.val (.ref a1), .val (.int (1 : Int32))] [(.int w1)]))
  refine OutW.retI X1 hx Bd.returns hlk (hb hby d12_31) (by decide) (by decide) ?_
  show Q12_1_2 Z a1 b2 d3 kB kD w0 w1 h0 n0 _ T1.heap _
  rw [e1]
  exact ⟨rfl, N0, rfl⟩
theorem ef_12_0_8 (m : MethodId) (x0 : Addr) : entryFrame m #[(.ref x0), (.int (0 : Int32))] 2 = mkF m 0 #[.val (.ref x0), .val (.int (0 : Int32))] [] := by first | (simp [entryFrame, mkF, argsToLocals, Value.category]; done) | rfl
def Q12_0_8 (Z : State) (a1 : Addr) (b2 : Addr) (d3 : Addr) (kB : ClassId) (kD : ClassId) (w0 : Int32) (w1 : Int32) (w2 : Int32) (w3 : Int32) (w4 : Int32) (w5 : Int32) (w6 : Int32) (w7 : Int32) (h0 : Heap) (n0 : Nat) (v : Option Value) (h : Heap) (L : List Loc) : Prop := v = some (.int w0) ∧ Fr n0 L ∧ h = h0
set_option maxRecDepth 65536 in
set_option maxHeartbeats 40000000 in
theorem rm12_0_8 (l : Launch) (Z : State) (a0 : Array Value) (hw : ∀ d ∈ tables_1, d.before a0 Z = true) (ws : List Jvm.Cond) (a1 : Addr) (b2 : Addr) (d3 : Addr) (kB : ClassId) (kD : ClassId) (w0 : Int32) (w1 : Int32) (w2 : Int32) (w3 : Int32) (w4 : Int32) (w5 : Int32) (w6 : Int32) (w7 : Int32) (h0 : Heap) (n0 : Nat) (Z0 : n0 ≤ h0.size) (F_blocks_a1 : Fld Z h0 a1 "com/example/xml_document_query/xmldocumentquery/tree/IntColumn" "blocks" "[[I" (.ref b2)) (V_b2 : Arv Z h0 b2 kB (.array .int) (1 : Int32) [(.ref d3)] .null) (V_d3 : Arv Z h0 d3 kD .int (8 : Int32) [(.int w0), (.int w1), (.int w2), (.int w3), (.int w4), (.int w5), (.int w6), (.int w7)] (.int (0 : Int32))) :
    MetFree l (⟨"com/example/xml_document_query/xmldocumentquery/tree/IntColumn", "get", "(I)I"⟩ : MethodName) (head1 (Jvm.Cond.code (⟨"com/example/xml_document_query/xmldocumentquery/tree/IntColumn", "get", "(I)I"⟩ : MethodName) prog_168_method_4_code 2 (some .int) :: ws) ({ frames := 0, cells := 0, slots := 0, locals := 0 } : Room)) (fun a U => a = #[(.ref a1), (.int (0 : Int32))] ∧ Z.Warmed39 U.vm ∧ U.heap = h0) (fun _ _ _ _ _ => True) (fun _ U o U' => ∃ v L, o = .returned v ∧ Q12_0_8 Z a1 b2 d3 kB kD w0 w1 w2 w3 w4 w5 w6 w7 h0 n0 v U'.heap L ∧ FrameEnd U o U' L ({ frames := 0, cells := 0, slots := 0, locals := 0 } : Room).cells ({ frames := 0, cells := 0, slots := 0, locals := 0 } : Room).slots) := by
  refine MetFree.of_bodySF (plainFor_of_name pn_12) hisR ?_
  intro p e s m args below meth c s₁ Bd hml0 hP hK
  obtain ⟨rfl, hZ, hh⟩ := hP
  have hx := Bd.exec
  have hby := Bd.bytes
  have hlk := Bd.notSynchronized
  have hml : c.maxLocals = 2 := hml0
  have hown : s.vm.findClass "com/example/xml_document_query/xmldocumentquery/tree/IntColumn" = some m.cls := findClass_of_methodNamed Bd.named
  have hnm := (name_of_methodNamed Bd.named Bd.method).1
  have X0 : Stand p l e ({ frames := 0, cells := 0, slots := 0, locals := 0 } : Room) s m #[(.ref a1), (.int (0 : Int32))] below meth c s₁ [] 0 0 := Stand.of_body Bd
  have e0 : s₁.heap = h0 := by rw [← hh, Bd.state]; rfl
  have N0 := Fr.nil n0
  have K0 : Keep h0 h0 [] := Keep.refl h0 _
  show OutW p e below s ({ frames := 0, cells := 0, slots := 0, locals := 0 } : Room).cells ({ frames := 0, cells := 0, slots := 0, locals := 0 } : Room).slots (Q12_0_8 Z a1 b2 d3 kB kD w0 w1 w2 w3 w4 w5 w6 w7 h0 n0) _
  refine OutW.back (fun t k => castTop (ef_12_0_8 m a1) k) ?_
  show OutW _ _ _ _ _ _ _ (s₁.setTop (mkF m 0 #[.val (.ref a1), .val (.int (0 : Int32))] []))
  refine OutW.back (fun t k => XS.iloadN X0.here hx rfl (hb hby d12_0) rfl  k) ?_
  show OutW _ _ _ _ _ _ _ (s₁.setTop (mkF m 1 #[.val (.ref a1), .val (.int (0 : Int32))] [(.int (0 : Int32))]))
  refine OutW.back (fun t k => XS.ifNo X0.here hx rfl (hb hby d12_1) rfl ((if0 _ _).trans (flt (by decide : ¬ ((0 : Int32) < (0 : Int32)))).1) k) ?_
  show OutW _ _ _ _ _ _ _ (s₁.setTop (mkF m 4 #[.val (.ref a1), .val (.int (0 : Int32))] []))
  refine OutW.back (fun t k => XS.aloadN X0.here hx rfl (hb hby d12_4) rfl rfl  k) ?_
  show OutW _ _ _ _ _ _ _ (s₁.setTop (mkF m 5 #[.val (.ref a1), .val (.int (0 : Int32))] [(.ref a1)]))
  obtain ⟨T1, X1, e1, st1⟩ := getF X0 hx hZ hown (host := "") (Or.inl (hw _ (List.mem_of_getElem? (i := 22) rfl))) Via.refl e0 F_blocks_a1 (g := (mkF m 5 #[.val (.ref a1), .val (.int (0 : Int32))] [(.ref a1)])) rfl rfl (hb hby d12_5)
  refine OutW.back st1 ?_
  show OutW _ _ _ _ _ _ _ (T1.setTop (mkF m 8 #[.val (.ref a1), .val (.int (0 : Int32))] [(.ref b2)]))
  refine OutW.back (fun t k => XS.iloadN X1.here hx rfl (hb hby d12_8) rfl  k) ?_
  show OutW _ _ _ _ _ _ _ (T1.setTop (mkF m 9 #[.val (.ref a1), .val (.int (0 : Int32))] [(.int (0 : Int32)), (.ref b2)]))
  refine OutW.back (fun t k => XS.bipush X1.here hx rfl (hb hby d12_9) k) ?_
  show OutW _ _ _ _ _ _ _ (T1.setTop (mkF m 11 #[.val (.ref a1), .val (.int (0 : Int32))] [(.int (16 : Int32)), (.int (0 : Int32)), (.ref b2)]))
  refine OutW.back (fun t k => XS.iushr X1.here hx rfl (hb hby d12_11) rfl k) ?_
  show OutW _ _ _ _ _ _ _ (T1.setTop (mkF m 12 #[.val (.ref a1), .val (.int (0 : Int32))] [(.int (((0 : Int32).toUInt32 >>> ((16 : Int32) &&& 31).toUInt32).toInt32)), (.ref b2)]))
  rw [show (((0 : Int32).toUInt32 >>> ((16 : Int32) &&& 31).toUInt32).toInt32) = (0 : Int32) from by decide]
  obtain ⟨cl2, Ar2, Qk2, Sz2, Nn2, Hh2, Gg2⟩ := id V_b2
  have hin2 : ¬ ((0 : Int32) < 0 ∨ cl2.slots.size ≤ ((0 : Int32)).toNatClampNeg) := inb_of Sz2 ⟨by decide, by decide⟩
  refine OutW.back (X1.aaload hx (j := (0 : Int32)) (v := (.ref d3)) (by rw [e1]; exact Ar2.1) (State.isArrayOf_alike hZ.alike Ar2.2.1) rfl Ar2.2.2 hin2 (Hh2.at hin2 (by rfl)) (g := (mkF m 12 #[.val (.ref a1), .val (.int (0 : Int32))] [(.int (0 : Int32)), (.ref b2)])) rfl rfl (hb hby d12_12)) ?_
  show OutW _ _ _ _ _ _ _ (T1.setTop (mkF m 13 #[.val (.ref a1), .val (.int (0 : Int32))] [(.ref d3)]))
  refine OutW.back (fun t k => XS.iloadN X1.here hx rfl (hb hby d12_13) rfl  k) ?_
  show OutW _ _ _ _ _ _ _ (T1.setTop (mkF m 14 #[.val (.ref a1), .val (.int (0 : Int32))] [(.int (0 : Int32)), (.ref d3)]))
  refine OutW.back (X1.ldcInt hx hown (mvT hZ (hw _ (List.mem_of_getElem? (i := 37) rfl))) (g := (mkF m 14 #[.val (.ref a1), .val (.int (0 : Int32))] [(.int (0 : Int32)), (.ref d3)])) rfl (hb hby d12_14)) ?_
  show OutW _ _ _ _ _ _ _ (T1.setTop (mkF m 16 #[.val (.ref a1), .val (.int (0 : Int32))] [(.int (65535 : Int32)), (.int (0 : Int32)), (.ref d3)]))
  refine OutW.back (fun t k => XS.iand X1.here hx rfl (hb hby d12_16) rfl k) ?_
  show OutW _ _ _ _ _ _ _ (T1.setTop (mkF m 17 #[.val (.ref a1), .val (.int (0 : Int32))] [(.int ((0 : Int32) &&& (65535 : Int32))), (.ref d3)]))
  rw [show ((0 : Int32) &&& (65535 : Int32)) = (0 : Int32) from by decide]
  obtain ⟨cl3, Ar3, Qk3, Sz3, Nn3, Hh3, Gg3⟩ := id V_d3
  have hin3 : ¬ ((0 : Int32) < 0 ∨ cl3.slots.size ≤ ((0 : Int32)).toNatClampNeg) := inb_of Sz3 ⟨by decide, by decide⟩
  refine OutW.back (X1.iaload hx (j := (0 : Int32)) (v := (.int w0)) (by rw [e1]; exact Ar3.1) (State.isArrayOf_alike hZ.alike Ar3.2.1) Ar3.2.2 hin3 (Hh3.at hin3 (by rfl)) (g := (mkF m 17 #[.val (.ref a1), .val (.int (0 : Int32))] [(.int (0 : Int32)), (.ref d3)])) rfl rfl (hb hby d12_17)) ?_
  show OutW _ _ _ _ _ _ _ (T1.setTop (mkF m 18 #[.val (.ref a1), .val (.int (0 : Int32))] [(.int w0)]))
  refine OutW.back (fun t k => XS.goto X1.here hx rfl (pc0 := 18) (pc' := 31) rfl (hb hby d12_18) (by decide) (by decide) k) ?_
  show OutW _ _ _ _ _ _ _ (T1.setTop (mkF m 31 #[.val (.ref a1), .val (.int (0 : Int32))] [(.int w0)]))
  refine OutW.retI X1 hx Bd.returns hlk (hb hby d12_31) (by decide) (by decide) ?_
  show Q12_0_8 Z a1 b2 d3 kB kD w0 w1 w2 w3 w4 w5 w6 w7 h0 n0 _ T1.heap _
  rw [e1]
  exact ⟨rfl, N0, rfl⟩
theorem ef_12_1_8 (m : MethodId) (x0 : Addr) : entryFrame m #[(.ref x0), (.int (1 : Int32))] 2 = mkF m 0 #[.val (.ref x0), .val (.int (1 : Int32))] [] := by first | (simp [entryFrame, mkF, argsToLocals, Value.category]; done) | rfl
def Q12_1_8 (Z : State) (a1 : Addr) (b2 : Addr) (d3 : Addr) (kB : ClassId) (kD : ClassId) (w0 : Int32) (w1 : Int32) (w2 : Int32) (w3 : Int32) (w4 : Int32) (w5 : Int32) (w6 : Int32) (w7 : Int32) (h0 : Heap) (n0 : Nat) (v : Option Value) (h : Heap) (L : List Loc) : Prop := v = some (.int w1) ∧ Fr n0 L ∧ h = h0
set_option maxRecDepth 65536 in
set_option maxHeartbeats 40000000 in
theorem rm12_1_8 (l : Launch) (Z : State) (a0 : Array Value) (hw : ∀ d ∈ tables_1, d.before a0 Z = true) (ws : List Jvm.Cond) (a1 : Addr) (b2 : Addr) (d3 : Addr) (kB : ClassId) (kD : ClassId) (w0 : Int32) (w1 : Int32) (w2 : Int32) (w3 : Int32) (w4 : Int32) (w5 : Int32) (w6 : Int32) (w7 : Int32) (h0 : Heap) (n0 : Nat) (Z0 : n0 ≤ h0.size) (F_blocks_a1 : Fld Z h0 a1 "com/example/xml_document_query/xmldocumentquery/tree/IntColumn" "blocks" "[[I" (.ref b2)) (V_b2 : Arv Z h0 b2 kB (.array .int) (1 : Int32) [(.ref d3)] .null) (V_d3 : Arv Z h0 d3 kD .int (8 : Int32) [(.int w0), (.int w1), (.int w2), (.int w3), (.int w4), (.int w5), (.int w6), (.int w7)] (.int (0 : Int32))) :
    MetFree l (⟨"com/example/xml_document_query/xmldocumentquery/tree/IntColumn", "get", "(I)I"⟩ : MethodName) (head1 (Jvm.Cond.code (⟨"com/example/xml_document_query/xmldocumentquery/tree/IntColumn", "get", "(I)I"⟩ : MethodName) prog_168_method_4_code 2 (some .int) :: ws) ({ frames := 0, cells := 0, slots := 0, locals := 0 } : Room)) (fun a U => a = #[(.ref a1), (.int (1 : Int32))] ∧ Z.Warmed39 U.vm ∧ U.heap = h0) (fun _ _ _ _ _ => True) (fun _ U o U' => ∃ v L, o = .returned v ∧ Q12_1_8 Z a1 b2 d3 kB kD w0 w1 w2 w3 w4 w5 w6 w7 h0 n0 v U'.heap L ∧ FrameEnd U o U' L ({ frames := 0, cells := 0, slots := 0, locals := 0 } : Room).cells ({ frames := 0, cells := 0, slots := 0, locals := 0 } : Room).slots) := by
  refine MetFree.of_bodySF (plainFor_of_name pn_12) hisR ?_
  intro p e s m args below meth c s₁ Bd hml0 hP hK
  obtain ⟨rfl, hZ, hh⟩ := hP
  have hx := Bd.exec
  have hby := Bd.bytes
  have hlk := Bd.notSynchronized
  have hml : c.maxLocals = 2 := hml0
  have hown : s.vm.findClass "com/example/xml_document_query/xmldocumentquery/tree/IntColumn" = some m.cls := findClass_of_methodNamed Bd.named
  have hnm := (name_of_methodNamed Bd.named Bd.method).1
  have X0 : Stand p l e ({ frames := 0, cells := 0, slots := 0, locals := 0 } : Room) s m #[(.ref a1), (.int (1 : Int32))] below meth c s₁ [] 0 0 := Stand.of_body Bd
  have e0 : s₁.heap = h0 := by rw [← hh, Bd.state]; rfl
  have N0 := Fr.nil n0
  have K0 : Keep h0 h0 [] := Keep.refl h0 _
  show OutW p e below s ({ frames := 0, cells := 0, slots := 0, locals := 0 } : Room).cells ({ frames := 0, cells := 0, slots := 0, locals := 0 } : Room).slots (Q12_1_8 Z a1 b2 d3 kB kD w0 w1 w2 w3 w4 w5 w6 w7 h0 n0) _
  refine OutW.back (fun t k => castTop (ef_12_1_8 m a1) k) ?_
  show OutW _ _ _ _ _ _ _ (s₁.setTop (mkF m 0 #[.val (.ref a1), .val (.int (1 : Int32))] []))
  refine OutW.back (fun t k => XS.iloadN X0.here hx rfl (hb hby d12_0) rfl  k) ?_
  show OutW _ _ _ _ _ _ _ (s₁.setTop (mkF m 1 #[.val (.ref a1), .val (.int (1 : Int32))] [(.int (1 : Int32))]))
  refine OutW.back (fun t k => XS.ifNo X0.here hx rfl (hb hby d12_1) rfl ((if0 _ _).trans (flt (by decide : ¬ ((1 : Int32) < (0 : Int32)))).1) k) ?_
  show OutW _ _ _ _ _ _ _ (s₁.setTop (mkF m 4 #[.val (.ref a1), .val (.int (1 : Int32))] []))
  refine OutW.back (fun t k => XS.aloadN X0.here hx rfl (hb hby d12_4) rfl rfl  k) ?_
  show OutW _ _ _ _ _ _ _ (s₁.setTop (mkF m 5 #[.val (.ref a1), .val (.int (1 : Int32))] [(.ref a1)]))
  obtain ⟨T1, X1, e1, st1⟩ := getF X0 hx hZ hown (host := "") (Or.inl (hw _ (List.mem_of_getElem? (i := 22) rfl))) Via.refl e0 F_blocks_a1 (g := (mkF m 5 #[.val (.ref a1), .val (.int (1 : Int32))] [(.ref a1)])) rfl rfl (hb hby d12_5)
  refine OutW.back st1 ?_
  show OutW _ _ _ _ _ _ _ (T1.setTop (mkF m 8 #[.val (.ref a1), .val (.int (1 : Int32))] [(.ref b2)]))
  refine OutW.back (fun t k => XS.iloadN X1.here hx rfl (hb hby d12_8) rfl  k) ?_
  show OutW _ _ _ _ _ _ _ (T1.setTop (mkF m 9 #[.val (.ref a1), .val (.int (1 : Int32))] [(.int (1 : Int32)), (.ref b2)]))
  refine OutW.back (fun t k => XS.bipush X1.here hx rfl (hb hby d12_9) k) ?_
  show OutW _ _ _ _ _ _ _ (T1.setTop (mkF m 11 #[.val (.ref a1), .val (.int (1 : Int32))] [(.int (16 : Int32)), (.int (1 : Int32)), (.ref b2)]))
  refine OutW.back (fun t k => XS.iushr X1.here hx rfl (hb hby d12_11) rfl k) ?_
  show OutW _ _ _ _ _ _ _ (T1.setTop (mkF m 12 #[.val (.ref a1), .val (.int (1 : Int32))] [(.int (((1 : Int32).toUInt32 >>> ((16 : Int32) &&& 31).toUInt32).toInt32)), (.ref b2)]))
  rw [show (((1 : Int32).toUInt32 >>> ((16 : Int32) &&& 31).toUInt32).toInt32) = (0 : Int32) from by decide]
  obtain ⟨cl2, Ar2, Qk2, Sz2, Nn2, Hh2, Gg2⟩ := id V_b2
  have hin2 : ¬ ((0 : Int32) < 0 ∨ cl2.slots.size ≤ ((0 : Int32)).toNatClampNeg) := inb_of Sz2 ⟨by decide, by decide⟩
  refine OutW.back (X1.aaload hx (j := (0 : Int32)) (v := (.ref d3)) (by rw [e1]; exact Ar2.1) (State.isArrayOf_alike hZ.alike Ar2.2.1) rfl Ar2.2.2 hin2 (Hh2.at hin2 (by rfl)) (g := (mkF m 12 #[.val (.ref a1), .val (.int (1 : Int32))] [(.int (0 : Int32)), (.ref b2)])) rfl rfl (hb hby d12_12)) ?_
  show OutW _ _ _ _ _ _ _ (T1.setTop (mkF m 13 #[.val (.ref a1), .val (.int (1 : Int32))] [(.ref d3)]))
  refine OutW.back (fun t k => XS.iloadN X1.here hx rfl (hb hby d12_13) rfl  k) ?_
  show OutW _ _ _ _ _ _ _ (T1.setTop (mkF m 14 #[.val (.ref a1), .val (.int (1 : Int32))] [(.int (1 : Int32)), (.ref d3)]))
  refine OutW.back (X1.ldcInt hx hown (mvT hZ (hw _ (List.mem_of_getElem? (i := 37) rfl))) (g := (mkF m 14 #[.val (.ref a1), .val (.int (1 : Int32))] [(.int (1 : Int32)), (.ref d3)])) rfl (hb hby d12_14)) ?_
  show OutW _ _ _ _ _ _ _ (T1.setTop (mkF m 16 #[.val (.ref a1), .val (.int (1 : Int32))] [(.int (65535 : Int32)), (.int (1 : Int32)), (.ref d3)]))
  refine OutW.back (fun t k => XS.iand X1.here hx rfl (hb hby d12_16) rfl k) ?_
  show OutW _ _ _ _ _ _ _ (T1.setTop (mkF m 17 #[.val (.ref a1), .val (.int (1 : Int32))] [(.int ((1 : Int32) &&& (65535 : Int32))), (.ref d3)]))
  rw [show ((1 : Int32) &&& (65535 : Int32)) = (1 : Int32) from by decide]
  obtain ⟨cl3, Ar3, Qk3, Sz3, Nn3, Hh3, Gg3⟩ := id V_d3
  have hin3 : ¬ ((1 : Int32) < 0 ∨ cl3.slots.size ≤ ((1 : Int32)).toNatClampNeg) := inb_of Sz3 ⟨by decide, by decide⟩
  refine OutW.back (X1.iaload hx (j := (1 : Int32)) (v := (.int w1)) (by rw [e1]; exact Ar3.1) (State.isArrayOf_alike hZ.alike Ar3.2.1) Ar3.2.2 hin3 (Hh3.at hin3 (by rfl)) (g := (mkF m 17 #[.val (.ref a1), .val (.int (1 : Int32))] [(.int (1 : Int32)), (.ref d3)])) rfl rfl (hb hby d12_17)) ?_
  show OutW _ _ _ _ _ _ _ (T1.setTop (mkF m 18 #[.val (.ref a1), .val (.int (1 : Int32))] [(.int w1)]))
  refine OutW.back (fun t k => XS.goto X1.here hx rfl (pc0 := 18) (pc' := 31) rfl (hb hby d12_18) (by decide) (by decide) k) ?_
  show OutW _ _ _ _ _ _ _ (T1.setTop (mkF m 31 #[.val (.ref a1), .val (.int (1 : Int32))] [(.int w1)]))
  refine OutW.retI X1 hx Bd.returns hlk (hb hby d12_31) (by decide) (by decide) ?_
  show Q12_1_8 Z a1 b2 d3 kB kD w0 w1 w2 w3 w4 w5 w6 w7 h0 n0 _ T1.heap _
  rw [e1]
  exact ⟨rfl, N0, rfl⟩
theorem pd_6 : parseMethodDescriptor "(I)I" = some ⟨[.int], some .int⟩ := by decide +kernel
theorem ef_12_m1 (m : MethodId) (x0 : Addr) : entryFrame m #[(.ref x0), (.int (-1 : Int32))] 2 = mkF m 0 #[.val (.ref x0), .val (.int (-1 : Int32))] [] := by first | (simp [entryFrame, mkF, argsToLocals, Value.category]; done) | rfl
def Q12_m1 (Z : State) (a1 : Addr) (c4 : Addr) (b5 : Addr) (d6 : Addr) (kE : ClassId) (kF : ClassId) (w0 : Int32) (w1 : Int32) (w2 : Int32) (w3 : Int32) (h0 : Heap) (n0 : Nat) (v : Option Value) (h : Heap) (L : List Loc) : Prop := v = some (.int w0) ∧ Fr n0 L ∧ h = h0
set_option maxRecDepth 65536 in
set_option maxHeartbeats 40000000 in
theorem rm12_m1 (l : Launch) (Z : State) (a0 : Array Value) (hw : ∀ d ∈ tables_1, d.before a0 Z = true) (ws : List Jvm.Cond) (a1 : Addr) (c4 : Addr) (b5 : Addr) (d6 : Addr) (kE : ClassId) (kF : ClassId) (w0 : Int32) (w1 : Int32) (w2 : Int32) (w3 : Int32) (h0 : Heap) (n0 : Nat) (Z0 : n0 ≤ h0.size) (F_before_a1 : Fld Z h0 a1 "com/example/xml_document_query/xmldocumentquery/tree/IntColumn" "before" "Lcom/example/xml_document_query/xmldocumentquery/tree/IntColumn;" (.ref c4)) (E_c4 : Exa Z h0 c4 "com/example/xml_document_query/xmldocumentquery/tree/IntColumn") (F_blocks_c4 : Fld Z h0 c4 "com/example/xml_document_query/xmldocumentquery/tree/IntColumn" "blocks" "[[I" (.ref b5)) (V_b5 : Arv Z h0 b5 kE (.array .int) (1 : Int32) [(.ref d6)] .null) (V_d6 : Arv Z h0 d6 kF .int (4 : Int32) [(.int w0), (.int w1), (.int w2), (.int w3)] (.int (0 : Int32))) :
    MetFree l (⟨"com/example/xml_document_query/xmldocumentquery/tree/IntColumn", "get", "(I)I"⟩ : MethodName) (head1 (Jvm.Cond.code (⟨"com/example/xml_document_query/xmldocumentquery/tree/IntColumn", "get", "(I)I"⟩ : MethodName) prog_168_method_4_code 2 (some .int) :: ws) ({ frames := 1, cells := 0, slots := 0, locals := 13 } : Room)) (fun a U => a = #[(.ref a1), (.int (-1 : Int32))] ∧ Z.Warmed39 U.vm ∧ U.heap = h0) (fun _ _ _ _ _ => True) (fun _ U o U' => ∃ v L, o = .returned v ∧ Q12_m1 Z a1 c4 b5 d6 kE kF w0 w1 w2 w3 h0 n0 v U'.heap L ∧ FrameEnd U o U' L ({ frames := 1, cells := 0, slots := 0, locals := 13 } : Room).cells ({ frames := 1, cells := 0, slots := 0, locals := 13 } : Room).slots) := by
  refine MetFree.of_bodySF (plainFor_of_name pn_12) hisR ?_
  intro p e s m args below meth c s₁ Bd hml0 hP hK
  obtain ⟨rfl, hZ, hh⟩ := hP
  have hx := Bd.exec
  have hby := Bd.bytes
  have hlk := Bd.notSynchronized
  have hml : c.maxLocals = 2 := hml0
  have hown : s.vm.findClass "com/example/xml_document_query/xmldocumentquery/tree/IntColumn" = some m.cls := findClass_of_methodNamed Bd.named
  have hnm := (name_of_methodNamed Bd.named Bd.method).1
  have X0 : Stand p l e ({ frames := 1, cells := 0, slots := 0, locals := 13 } : Room) s m #[(.ref a1), (.int (-1 : Int32))] below meth c s₁ [] 0 0 := Stand.of_body Bd
  have e0 : s₁.heap = h0 := by rw [← hh, Bd.state]; rfl
  have N0 := Fr.nil n0
  have K0 : Keep h0 h0 [] := Keep.refl h0 _
  show OutW p e below s ({ frames := 1, cells := 0, slots := 0, locals := 13 } : Room).cells ({ frames := 1, cells := 0, slots := 0, locals := 13 } : Room).slots (Q12_m1 Z a1 c4 b5 d6 kE kF w0 w1 w2 w3 h0 n0) _
  refine OutW.back (fun t k => castTop (ef_12_m1 m a1) k) ?_
  show OutW _ _ _ _ _ _ _ (s₁.setTop (mkF m 0 #[.val (.ref a1), .val (.int (-1 : Int32))] []))
  refine OutW.back (fun t k => XS.iloadN X0.here hx rfl (hb hby d12_0) rfl  k) ?_
  show OutW _ _ _ _ _ _ _ (s₁.setTop (mkF m 1 #[.val (.ref a1), .val (.int (-1 : Int32))] [(.int (-1 : Int32))]))
  refine OutW.back (fun t k => XS.ifYes X0.here hx rfl (pc0 := 1) (pc' := 21) rfl (hb hby d12_1) rfl ((if0 _ _).trans (tlt (by decide : (-1 : Int32) < (0 : Int32))).1) (by decide) (by decide) k) ?_
  show OutW _ _ _ _ _ _ _ (s₁.setTop (mkF m 21 #[.val (.ref a1), .val (.int (-1 : Int32))] []))
  refine OutW.back (fun t k => XS.aloadN X0.here hx rfl (hb hby d12_21) rfl rfl  k) ?_
  show OutW _ _ _ _ _ _ _ (s₁.setTop (mkF m 22 #[.val (.ref a1), .val (.int (-1 : Int32))] [(.ref a1)]))
  obtain ⟨T1, X1, e1, st1⟩ := getF X0 hx hZ hown (host := "") (Or.inl (hw _ (List.mem_of_getElem? (i := 67) rfl))) Via.refl e0 F_before_a1 (g := (mkF m 22 #[.val (.ref a1), .val (.int (-1 : Int32))] [(.ref a1)])) rfl rfl (hb hby d12_22)
  refine OutW.back st1 ?_
  show OutW _ _ _ _ _ _ _ (T1.setTop (mkF m 25 #[.val (.ref a1), .val (.int (-1 : Int32))] [(.ref c4)]))
  refine OutW.back (fun t k => XS.iconst X1.here hx rfl (hb hby d12_25) k) ?_
  show OutW _ _ _ _ _ _ _ (T1.setTop (mkF m 26 #[.val (.ref a1), .val (.int (-1 : Int32))] [(.int (-1 : Int32)), (.ref c4)]))
  refine OutW.back (fun t k => XS.iloadN X1.here hx rfl (hb hby d12_26) rfl  k) ?_
  show OutW _ _ _ _ _ _ _ (T1.setTop (mkF m 27 #[.val (.ref a1), .val (.int (-1 : Int32))] [(.int (-1 : Int32)), (.int (-1 : Int32)), (.ref c4)]))
  refine OutW.back (fun t k => XS.isub X1.here hx rfl (hb hby d12_27) rfl k) ?_
  show OutW _ _ _ _ _ _ _ (T1.setTop (mkF m 28 #[.val (.ref a1), .val (.int (-1 : Int32))] [(.int ((-1 : Int32) - (-1 : Int32))), (.ref c4)]))
  rw [show ((-1 : Int32) - (-1 : Int32)) = (0 : Int32) from by decide]
  obtain ⟨cq2, kq2, qa2, qb2, qc2⟩ := isOf hZ e1 E_c4
  obtain ⟨_, _, ⟨T2, L2, k2, n2⟩, -, X2, ⟨Lc2, hQ2, l2, y2, z2⟩, st2⟩ := X1.virtualBack hx (y := (⟨"com/example/xml_document_query/xmldocumentquery/tree/IntColumn", "get", "(I)I"⟩ : MethodName)) (z := (⟨"com/example/xml_document_query/xmldocumentquery/tree/IntColumn", "get", "(I)I"⟩ : MethodName)) hown (mvT hZ (hw _ (List.mem_of_getElem? (i := 83) rfl))) (mvT hZ (hw _ (List.mem_of_getElem? (i := 79) rfl))) (notFace_of_selects (args := #[]) (mvT hZ (hw _ (List.mem_of_getElem? (i := 81) rfl)))) (mvT hZ (hw _ (List.mem_of_getElem? (i := 81) rfl))) (mvT hZ (hw _ (List.mem_of_getElem? (i := 80) rfl))) (by decide) (backOf (W := 0) (rm12_0_4 l Z a0 hw [] c4 b5 d6 kE kF w0 w1 w2 w3 h0 n0 Z0 F_blocks_c4 V_b5 V_d6) hZ (hw _ (List.mem_of_getElem? (i := 82) rfl)) (hw _ (List.mem_of_getElem? (i := 2) rfl)) (by decide) (by decide)) qa2 qc2 (g := (mkF m 28 #[.val (.ref a1), .val (.int (-1 : Int32))] [(.int (0 : Int32)), (.ref c4)])) rfl (by rw [hml]; rfl) (Steps.refl _) (argsL := [(.int (0 : Int32))]) (rest := []) (lenOf pd_6 rfl) rfl (by show 2 * 0 + _ ≤ _; exact Nat.le_of_eq rfl) (hb hby d12_28) (fun _ _ => ⟨rfl, e1, (by decide : 0 + 0 ≤ _), (by decide : 0 + 0 ≤ _)⟩)
  dsimp only [Pt.U, Pt.locs, Pt.cells, Pt.slots] at X2 l2 y2 z2 st2 hQ2
  subst l2 y2 z2
  obtain ⟨rfl, Nq2, e2⟩ := hQ2
  have N2 := Fr.app N0 Nq2
  obtain ⟨lc2, X2, N2⟩ : ∃ lc, Stand p l e ({ frames := 1, cells := 0, slots := 0, locals := 13 } : Room) s m #[(.ref a1), (.int (-1 : Int32))] below meth c T2 lc 0 0 ∧ Fr n0 lc := ⟨_, X2, N2⟩
  refine OutW.via st2 ?_
  show OutW _ _ _ _ _ _ _ (T2.setTop (mkF m 31 #[.val (.ref a1), .val (.int (-1 : Int32))] [(.int w0)]))
  refine OutW.retI X2 hx Bd.returns hlk (hb hby d12_31) (by decide) (by decide) ?_
  show Q12_m1 Z a1 c4 b5 d6 kE kF w0 w1 w2 w3 h0 n0 _ T2.heap _
  rw [e2]
  exact ⟨rfl, N2, rfl⟩
theorem ef_12_m2 (m : MethodId) (x0 : Addr) : entryFrame m #[(.ref x0), (.int (-2 : Int32))] 2 = mkF m 0 #[.val (.ref x0), .val (.int (-2 : Int32))] [] := by first | (simp [entryFrame, mkF, argsToLocals, Value.category]; done) | rfl
def Q12_m2 (Z : State) (a1 : Addr) (c4 : Addr) (b5 : Addr) (d6 : Addr) (kE : ClassId) (kF : ClassId) (w0 : Int32) (w1 : Int32) (w2 : Int32) (w3 : Int32) (h0 : Heap) (n0 : Nat) (v : Option Value) (h : Heap) (L : List Loc) : Prop := v = some (.int w1) ∧ Fr n0 L ∧ h = h0
set_option maxRecDepth 65536 in
set_option maxHeartbeats 40000000 in
theorem rm12_m2 (l : Launch) (Z : State) (a0 : Array Value) (hw : ∀ d ∈ tables_1, d.before a0 Z = true) (ws : List Jvm.Cond) (a1 : Addr) (c4 : Addr) (b5 : Addr) (d6 : Addr) (kE : ClassId) (kF : ClassId) (w0 : Int32) (w1 : Int32) (w2 : Int32) (w3 : Int32) (h0 : Heap) (n0 : Nat) (Z0 : n0 ≤ h0.size) (F_before_a1 : Fld Z h0 a1 "com/example/xml_document_query/xmldocumentquery/tree/IntColumn" "before" "Lcom/example/xml_document_query/xmldocumentquery/tree/IntColumn;" (.ref c4)) (E_c4 : Exa Z h0 c4 "com/example/xml_document_query/xmldocumentquery/tree/IntColumn") (F_blocks_c4 : Fld Z h0 c4 "com/example/xml_document_query/xmldocumentquery/tree/IntColumn" "blocks" "[[I" (.ref b5)) (V_b5 : Arv Z h0 b5 kE (.array .int) (1 : Int32) [(.ref d6)] .null) (V_d6 : Arv Z h0 d6 kF .int (4 : Int32) [(.int w0), (.int w1), (.int w2), (.int w3)] (.int (0 : Int32))) :
    MetFree l (⟨"com/example/xml_document_query/xmldocumentquery/tree/IntColumn", "get", "(I)I"⟩ : MethodName) (head1 (Jvm.Cond.code (⟨"com/example/xml_document_query/xmldocumentquery/tree/IntColumn", "get", "(I)I"⟩ : MethodName) prog_168_method_4_code 2 (some .int) :: ws) ({ frames := 1, cells := 0, slots := 0, locals := 13 } : Room)) (fun a U => a = #[(.ref a1), (.int (-2 : Int32))] ∧ Z.Warmed39 U.vm ∧ U.heap = h0) (fun _ _ _ _ _ => True) (fun _ U o U' => ∃ v L, o = .returned v ∧ Q12_m2 Z a1 c4 b5 d6 kE kF w0 w1 w2 w3 h0 n0 v U'.heap L ∧ FrameEnd U o U' L ({ frames := 1, cells := 0, slots := 0, locals := 13 } : Room).cells ({ frames := 1, cells := 0, slots := 0, locals := 13 } : Room).slots) := by
  refine MetFree.of_bodySF (plainFor_of_name pn_12) hisR ?_
  intro p e s m args below meth c s₁ Bd hml0 hP hK
  obtain ⟨rfl, hZ, hh⟩ := hP
  have hx := Bd.exec
  have hby := Bd.bytes
  have hlk := Bd.notSynchronized
  have hml : c.maxLocals = 2 := hml0
  have hown : s.vm.findClass "com/example/xml_document_query/xmldocumentquery/tree/IntColumn" = some m.cls := findClass_of_methodNamed Bd.named
  have hnm := (name_of_methodNamed Bd.named Bd.method).1
  have X0 : Stand p l e ({ frames := 1, cells := 0, slots := 0, locals := 13 } : Room) s m #[(.ref a1), (.int (-2 : Int32))] below meth c s₁ [] 0 0 := Stand.of_body Bd
  have e0 : s₁.heap = h0 := by rw [← hh, Bd.state]; rfl
  have N0 := Fr.nil n0
  have K0 : Keep h0 h0 [] := Keep.refl h0 _
  show OutW p e below s ({ frames := 1, cells := 0, slots := 0, locals := 13 } : Room).cells ({ frames := 1, cells := 0, slots := 0, locals := 13 } : Room).slots (Q12_m2 Z a1 c4 b5 d6 kE kF w0 w1 w2 w3 h0 n0) _
  refine OutW.back (fun t k => castTop (ef_12_m2 m a1) k) ?_
  show OutW _ _ _ _ _ _ _ (s₁.setTop (mkF m 0 #[.val (.ref a1), .val (.int (-2 : Int32))] []))
  refine OutW.back (fun t k => XS.iloadN X0.here hx rfl (hb hby d12_0) rfl  k) ?_
  show OutW _ _ _ _ _ _ _ (s₁.setTop (mkF m 1 #[.val (.ref a1), .val (.int (-2 : Int32))] [(.int (-2 : Int32))]))
  refine OutW.back (fun t k => XS.ifYes X0.here hx rfl (pc0 := 1) (pc' := 21) rfl (hb hby d12_1) rfl ((if0 _ _).trans (tlt (by decide : (-2 : Int32) < (0 : Int32))).1) (by decide) (by decide) k) ?_
  show OutW _ _ _ _ _ _ _ (s₁.setTop (mkF m 21 #[.val (.ref a1), .val (.int (-2 : Int32))] []))
  refine OutW.back (fun t k => XS.aloadN X0.here hx rfl (hb hby d12_21) rfl rfl  k) ?_
  show OutW _ _ _ _ _ _ _ (s₁.setTop (mkF m 22 #[.val (.ref a1), .val (.int (-2 : Int32))] [(.ref a1)]))
  obtain ⟨T1, X1, e1, st1⟩ := getF X0 hx hZ hown (host := "") (Or.inl (hw _ (List.mem_of_getElem? (i := 67) rfl))) Via.refl e0 F_before_a1 (g := (mkF m 22 #[.val (.ref a1), .val (.int (-2 : Int32))] [(.ref a1)])) rfl rfl (hb hby d12_22)
  refine OutW.back st1 ?_
  show OutW _ _ _ _ _ _ _ (T1.setTop (mkF m 25 #[.val (.ref a1), .val (.int (-2 : Int32))] [(.ref c4)]))
  refine OutW.back (fun t k => XS.iconst X1.here hx rfl (hb hby d12_25) k) ?_
  show OutW _ _ _ _ _ _ _ (T1.setTop (mkF m 26 #[.val (.ref a1), .val (.int (-2 : Int32))] [(.int (-1 : Int32)), (.ref c4)]))
  refine OutW.back (fun t k => XS.iloadN X1.here hx rfl (hb hby d12_26) rfl  k) ?_
  show OutW _ _ _ _ _ _ _ (T1.setTop (mkF m 27 #[.val (.ref a1), .val (.int (-2 : Int32))] [(.int (-2 : Int32)), (.int (-1 : Int32)), (.ref c4)]))
  refine OutW.back (fun t k => XS.isub X1.here hx rfl (hb hby d12_27) rfl k) ?_
  show OutW _ _ _ _ _ _ _ (T1.setTop (mkF m 28 #[.val (.ref a1), .val (.int (-2 : Int32))] [(.int ((-1 : Int32) - (-2 : Int32))), (.ref c4)]))
  rw [show ((-1 : Int32) - (-2 : Int32)) = (1 : Int32) from by decide]
  obtain ⟨cq2, kq2, qa2, qb2, qc2⟩ := isOf hZ e1 E_c4
  obtain ⟨_, _, ⟨T2, L2, k2, n2⟩, -, X2, ⟨Lc2, hQ2, l2, y2, z2⟩, st2⟩ := X1.virtualBack hx (y := (⟨"com/example/xml_document_query/xmldocumentquery/tree/IntColumn", "get", "(I)I"⟩ : MethodName)) (z := (⟨"com/example/xml_document_query/xmldocumentquery/tree/IntColumn", "get", "(I)I"⟩ : MethodName)) hown (mvT hZ (hw _ (List.mem_of_getElem? (i := 83) rfl))) (mvT hZ (hw _ (List.mem_of_getElem? (i := 79) rfl))) (notFace_of_selects (args := #[]) (mvT hZ (hw _ (List.mem_of_getElem? (i := 81) rfl)))) (mvT hZ (hw _ (List.mem_of_getElem? (i := 81) rfl))) (mvT hZ (hw _ (List.mem_of_getElem? (i := 80) rfl))) (by decide) (backOf (W := 0) (rm12_1_4 l Z a0 hw [] c4 b5 d6 kE kF w0 w1 w2 w3 h0 n0 Z0 F_blocks_c4 V_b5 V_d6) hZ (hw _ (List.mem_of_getElem? (i := 82) rfl)) (hw _ (List.mem_of_getElem? (i := 2) rfl)) (by decide) (by decide)) qa2 qc2 (g := (mkF m 28 #[.val (.ref a1), .val (.int (-2 : Int32))] [(.int (1 : Int32)), (.ref c4)])) rfl (by rw [hml]; rfl) (Steps.refl _) (argsL := [(.int (1 : Int32))]) (rest := []) (lenOf pd_6 rfl) rfl (by show 2 * 0 + _ ≤ _; exact Nat.le_of_eq rfl) (hb hby d12_28) (fun _ _ => ⟨rfl, e1, (by decide : 0 + 0 ≤ _), (by decide : 0 + 0 ≤ _)⟩)
  dsimp only [Pt.U, Pt.locs, Pt.cells, Pt.slots] at X2 l2 y2 z2 st2 hQ2
  subst l2 y2 z2
  obtain ⟨rfl, Nq2, e2⟩ := hQ2
  have N2 := Fr.app N0 Nq2
  obtain ⟨lc2, X2, N2⟩ : ∃ lc, Stand p l e ({ frames := 1, cells := 0, slots := 0, locals := 13 } : Room) s m #[(.ref a1), (.int (-2 : Int32))] below meth c T2 lc 0 0 ∧ Fr n0 lc := ⟨_, X2, N2⟩
  refine OutW.via st2 ?_
  show OutW _ _ _ _ _ _ _ (T2.setTop (mkF m 31 #[.val (.ref a1), .val (.int (-2 : Int32))] [(.int w1)]))
  refine OutW.retI X2 hx Bd.returns hlk (hb hby d12_31) (by decide) (by decide) ?_
  show Q12_m2 Z a1 c4 b5 d6 kE kF w0 w1 w2 w3 h0 n0 _ T2.heap _
  rw [e2]
  exact ⟨rfl, N2, rfl⟩
theorem pn_0 : plainName "com/example/xml_document_query/xmldocumentquery/tree/IntColumnSetPinLaw" = true := by first | (simp [plainName, overriddenIn]; done) | decide +kernel
theorem ef_0 (m : MethodId) (x0 : Int32) (x1 : Int32) (x2 : Int32) (x3 : Int32) (x4 : Int32) (x5 : Int32) : entryFrame m #[(.int x0), (.int x1), (.int x2), (.int x3), (.int x4), (.int x5)] maxLocals = mkF m 0 #[.val (.int x0), .val (.int x1), .val (.int x2), .val (.int x3), .val (.int x4), .val (.int x5), .unset, .unset, .unset] [] := by first | (simp [entryFrame, mkF, argsToLocals, Value.category, maxLocals]; done) | rfl
def Q0 (Z : State) (p1 : Int32) (p2 : Int32) (p3 : Int32) (p4 : Int32) (p5 : Int32) (p6 : Int32)  (h0 : Heap) (n0 : Nat) (v : Option Value) (h : Heap) (L : List Loc) : Prop := v = some (.int 1) ∧ Fr n0 L
set_option maxRecDepth 65536 in
set_option maxHeartbeats 40000000 in
theorem rm0 (l : Launch) (Z : State) (a0 : Array Value) (hw : ∀ d ∈ tables_1, d.before a0 Z = true) (ws : List Jvm.Cond) (p1 : Int32) (p2 : Int32) (p3 : Int32) (p4 : Int32) (p5 : Int32) (p6 : Int32)  (h0 : Heap) (n0 : Nat) (Z0 : n0 ≤ h0.size) :
    MetFree l x (head1 (Jvm.Cond.code x code maxLocals ret :: ws) room_1) (fun a U => a = #[(.int p1), (.int p2), (.int p3), (.int p4), (.int p5), (.int p6)] ∧ Z.Warmed39 U.vm ∧ U.heap = h0) (fun _ _ _ _ _ => True) (fun _ U o U' => ∃ v L, o = .returned v ∧ Q0 Z p1 p2 p3 p4 p5 p6 h0 n0 v U'.heap L ∧ FrameEnd U o U' L room_1.cells room_1.slots) := by
  refine MetFree.of_bodySF (plainFor_of_name pn_0) hisR ?_
  intro p e s m args below meth c s₁ Bd hml0 hP hK
  obtain ⟨rfl, hZ, hh⟩ := hP
  have hx := Bd.exec
  have hby := Bd.bytes
  have hlk := Bd.notSynchronized
  have hml : c.maxLocals = 9 := hml0
  have hown : s.vm.findClass "com/example/xml_document_query/xmldocumentquery/tree/IntColumnSetPinLaw" = some m.cls := findClass_of_methodNamed Bd.named
  have hnm := (name_of_methodNamed Bd.named Bd.method).1
  have X0 : Stand p l e room_1 s m #[(.int p1), (.int p2), (.int p3), (.int p4), (.int p5), (.int p6)] below meth c s₁ [] 0 0 := Stand.of_body Bd
  have e0 : s₁.heap = h0 := by rw [← hh, Bd.state]; rfl
  have N0 := Fr.nil n0
  have K0 : Keep h0 h0 [] := Keep.refl h0 _
  show OutW p e below s room_1.cells room_1.slots (Q0 Z p1 p2 p3 p4 p5 p6 h0 n0) _
  refine OutW.back (fun t k => castTop (ef_0 m p1 p2 p3 p4 p5 p6) k) ?_
  show OutW _ _ _ _ _ _ _ (s₁.setTop (mkF m 0 #[.val (.int p1), .val (.int p2), .val (.int p3), .val (.int p4), .val (.int p5), .val (.int p6), .unset, .unset, .unset] []))
  refine OutW.back (fun t k => XS.iloadN X0.here hx rfl (hb hby at_0) rfl  k) ?_
  show OutW _ _ _ _ _ _ _ (s₁.setTop (mkF m 1 #[.val (.int p1), .val (.int p2), .val (.int p3), .val (.int p4), .val (.int p5), .val (.int p6), .unset, .unset, .unset] [(.int p1)]))
  refine OutW.back (fun t k => XS.iconst X0.here hx rfl (hb hby at_1) k) ?_
  show OutW _ _ _ _ _ _ _ (s₁.setTop (mkF m 2 #[.val (.int p1), .val (.int p2), .val (.int p3), .val (.int p4), .val (.int p5), .val (.int p6), .unset, .unset, .unset] [(.int (3 : Int32)), (.int p1)]))
  refine OutW.back (fun t k => XS.iand X0.here hx rfl (hb hby at_2) rfl k) ?_
  show OutW _ _ _ _ _ _ _ (s₁.setTop (mkF m 3 #[.val (.int p1), .val (.int p2), .val (.int p3), .val (.int p4), .val (.int p5), .val (.int p6), .unset, .unset, .unset] [(.int (p1 &&& (3 : Int32)))]))
  refine OutW.back (fun t k => XS.iconst X0.here hx rfl (hb hby at_3) k) ?_
  show OutW _ _ _ _ _ _ _ (s₁.setTop (mkF m 4 #[.val (.int p1), .val (.int p2), .val (.int p3), .val (.int p4), .val (.int p5), .val (.int p6), .unset, .unset, .unset] [(.int (2 : Int32)), (.int (p1 &&& (3 : Int32)))]))
  refine OutW.back (fun t k => XS.isub X0.here hx rfl (hb hby at_4) rfl k) ?_
  show OutW _ _ _ _ _ _ _ (s₁.setTop (mkF m 5 #[.val (.int p1), .val (.int p2), .val (.int p3), .val (.int p4), .val (.int p5), .val (.int p6), .unset, .unset, .unset] [(.int ((p1 &&& (3 : Int32)) - (2 : Int32)))]))
  generalize hv_v1 : ((p1 &&& (3 : Int32)) - (2 : Int32)) = v1
  refine OutW.back (fun t k => XS.istore X0.here hx rfl (hb hby at_5) rfl (l' := #[.val (.int p1), .val (.int p2), .val (.int p3), .val (.int p4), .val (.int p5), .val (.int p6), .val (.int v1), .unset, .unset]) rfl k) ?_
  show OutW _ _ _ _ _ _ _ (s₁.setTop (mkF m 7 #[.val (.int p1), .val (.int p2), .val (.int p3), .val (.int p4), .val (.int p5), .val (.int p6), .val (.int v1), .unset, .unset] []))
  refine OutW.back (fun t k => XS.iconst X0.here hx rfl (hb hby at_7) k) ?_
  show OutW _ _ _ _ _ _ _ (s₁.setTop (mkF m 8 #[.val (.int p1), .val (.int p2), .val (.int p3), .val (.int p4), .val (.int p5), .val (.int p6), .val (.int v1), .unset, .unset] [(.int (1 : Int32))]))
  refine OutW.back (fun t k => XS.iloadN X0.here hx rfl (hb hby at_8) rfl  k) ?_
  show OutW _ _ _ _ _ _ _ (s₁.setTop (mkF m 9 #[.val (.int p1), .val (.int p2), .val (.int p3), .val (.int p4), .val (.int p5), .val (.int p6), .val (.int v1), .unset, .unset] [(.int p1), (.int (1 : Int32))]))
  refine OutW.back (fun t k => XS.iconst X0.here hx rfl (hb hby at_9) k) ?_
  show OutW _ _ _ _ _ _ _ (s₁.setTop (mkF m 10 #[.val (.int p1), .val (.int p2), .val (.int p3), .val (.int p4), .val (.int p5), .val (.int p6), .val (.int v1), .unset, .unset] [(.int (2 : Int32)), (.int p1), (.int (1 : Int32))]))
  refine OutW.back (fun t k => XS.iushr X0.here hx rfl (hb hby at_10) rfl k) ?_
  show OutW _ _ _ _ _ _ _ (s₁.setTop (mkF m 11 #[.val (.int p1), .val (.int p2), .val (.int p3), .val (.int p4), .val (.int p5), .val (.int p6), .val (.int v1), .unset, .unset] [(.int ((p1.toUInt32 >>> ((2 : Int32) &&& 31).toUInt32).toInt32)), (.int (1 : Int32))]))
  refine OutW.back (fun t k => XS.iconst X0.here hx rfl (hb hby at_11) k) ?_
  show OutW _ _ _ _ _ _ _ (s₁.setTop (mkF m 12 #[.val (.int p1), .val (.int p2), .val (.int p3), .val (.int p4), .val (.int p5), .val (.int p6), .val (.int v1), .unset, .unset] [(.int (3 : Int32)), (.int ((p1.toUInt32 >>> ((2 : Int32) &&& 31).toUInt32).toInt32)), (.int (1 : Int32))]))
  refine OutW.back (fun t k => XS.iand X0.here hx rfl (hb hby at_12) rfl k) ?_
  show OutW _ _ _ _ _ _ _ (s₁.setTop (mkF m 13 #[.val (.int p1), .val (.int p2), .val (.int p3), .val (.int p4), .val (.int p5), .val (.int p6), .val (.int v1), .unset, .unset] [(.int (((p1.toUInt32 >>> ((2 : Int32) &&& 31).toUInt32).toInt32) &&& (3 : Int32))), (.int (1 : Int32))]))
  refine OutW.back (fun t k => XS.ishl X0.here hx rfl (hb hby at_13) rfl k) ?_
  show OutW _ _ _ _ _ _ _ (s₁.setTop (mkF m 14 #[.val (.int p1), .val (.int p2), .val (.int p3), .val (.int p4), .val (.int p5), .val (.int p6), .val (.int v1), .unset, .unset] [(.int ((1 : Int32) <<< ((((p1.toUInt32 >>> ((2 : Int32) &&& 31).toUInt32).toInt32) &&& (3 : Int32)) &&& 31)))]))
  generalize hv_v2 : ((1 : Int32) <<< ((((p1.toUInt32 >>> ((2 : Int32) &&& 31).toUInt32).toInt32) &&& (3 : Int32)) &&& 31)) = v2
  refine OutW.back (fun t k => XS.istore X0.here hx rfl (hb hby at_14) rfl (l' := #[.val (.int p1), .val (.int p2), .val (.int p3), .val (.int p4), .val (.int p5), .val (.int p6), .val (.int v1), .val (.int v2), .unset]) rfl k) ?_
  show OutW _ _ _ _ _ _ _ (s₁.setTop (mkF m 16 #[.val (.int p1), .val (.int p2), .val (.int p3), .val (.int p4), .val (.int p5), .val (.int p6), .val (.int v1), .val (.int v2), .unset] []))
  have hi := own_is _ _ hv_v1
  have sp3 : v2 = (1 : Int32) ∨ v2 = (2 : Int32) ∨ v2 = (4 : Int32) ∨ v2 = (8 : Int32) := own_caps _ _ hv_v2
  rcases sp3 with rfl | rfl | rfl | rfl
  · skip
    show OutW _ _ _ _ _ _ _ (s₁.setTop (mkF m 16 #[.val (.int p1), .val (.int p2), .val (.int p3), .val (.int p4), .val (.int p5), .val (.int p6), .val (.int v1), .val (.int (1 : Int32)), .unset] []))
    obtain ⟨T4, h4, X4, e4, E4, A4, D4, -, st4⟩ := newO X0 hx hZ hown (hw _ (List.mem_of_getElem? (i := 0) rfl)) (hw _ (List.mem_of_getElem? (i := 1) rfl)) (hw _ (List.mem_of_getElem? (i := 2) rfl)) e0 (g := (mkF m 16 #[.val (.int p1), .val (.int p2), .val (.int p3), .val (.int p4), .val (.int p5), .val (.int p6), .val (.int v1), .val (.int (1 : Int32)), .unset] [])) rfl (hb hby at_16) (by decide) (by decide)
    obtain ⟨b4, g4⟩ : ∃ z, z = h0.size := ⟨_, rfl⟩
    rw [← g4] at A4 D4 st4
    have g_b4 : n0 ≤ b4 := Nat.le_trans Z0 (Nat.le_of_eq g4.symm)
    have sz_b4 : h0.size ≤ b4 := Nat.le_trans K0.1 (Nat.le_of_eq g4.symm)
    have Z4 : n0 ≤ h4.size := Nat.le_trans Z0 E4.1
    have K4 := K0.ext E4
    have E_b4 := A4
    have F_blockBits_b4 : Fld Z h4 b4 "com/example/xml_document_query/xmldocumentquery/tree/BlockedArray" "blockBits" "I" (.int (0 : Int32)) := D4 (Or.inr (hw _ (List.mem_of_getElem? (i := 15) rfl))) (ty := .int) (by decide)
    have F_capacity_b4 : Fld Z h4 b4 "com/example/xml_document_query/xmldocumentquery/tree/BlockedArray" "capacity" "I" (.int (0 : Int32)) := D4 (Or.inl (hw _ (List.mem_of_getElem? (i := 17) rfl))) (ty := .int) (by decide)
    have F_blocks_b4 : Fld Z h4 b4 "com/example/xml_document_query/xmldocumentquery/tree/IntColumn" "blocks" "[[I" .null := D4 (Or.inl (hw _ (List.mem_of_getElem? (i := 23) rfl))) (ty := (.array (.array .int))) (by decide)
    have F_size_b4 : Fld Z h4 b4 "com/example/xml_document_query/xmldocumentquery/tree/IntColumn" "size" "I" (.int (0 : Int32)) := D4 (Or.inl (hw _ (List.mem_of_getElem? (i := 30) rfl))) (ty := .int) (by decide)
    have F_before_b4 : Fld Z h4 b4 "com/example/xml_document_query/xmldocumentquery/tree/IntColumn" "before" "Lcom/example/xml_document_query/xmldocumentquery/tree/IntColumn;" .null := D4 (Or.inl (hw _ (List.mem_of_getElem? (i := 68) rfl))) (ty := (.object "com/example/xml_document_query/xmldocumentquery/tree/IntColumn")) (by decide)
    refine OutW.back st4 ?_
    show OutW _ _ _ _ _ _ _ (T4.setTop (mkF m 19 #[.val (.int p1), .val (.int p2), .val (.int p3), .val (.int p4), .val (.int p5), .val (.int p6), .val (.int v1), .val (.int (1 : Int32)), .unset] [(.ref b4)]))
    refine OutW.back (fun t k => XS.dup X4.here hx rfl (hb hby at_19) rfl rfl k) ?_
    show OutW _ _ _ _ _ _ _ (T4.setTop (mkF m 20 #[.val (.int p1), .val (.int p2), .val (.int p3), .val (.int p4), .val (.int p5), .val (.int p6), .val (.int v1), .val (.int (1 : Int32)), .unset] [(.ref b4), (.ref b4)]))
    refine OutW.back (fun t k => XS.iload X4.here hx rfl (hb hby at_20) rfl  k) ?_
    show OutW _ _ _ _ _ _ _ (T4.setTop (mkF m 22 #[.val (.int p1), .val (.int p2), .val (.int p3), .val (.int p4), .val (.int p5), .val (.int p6), .val (.int v1), .val (.int (1 : Int32)), .unset] [(.int (1 : Int32)), (.ref b4), (.ref b4)]))
    obtain ⟨_, _, ⟨T5, L5, k5, n5⟩, -, X5, ⟨Lc5, hQ5, l5, y5, z5⟩, st5⟩ := X4.specialBack hx (y := (⟨"com/example/xml_document_query/xmldocumentquery/tree/IntColumn", "<init>", "(I)V"⟩ : MethodName)) rfl hown (mvT hZ (hw _ (List.mem_of_getElem? (i := 3) rfl))) (mvT hZ (hw _ (List.mem_of_getElem? (i := 4) rfl))) (mvT hZ (hw _ (List.mem_of_getElem? (i := 5) rfl))) (by decide) (backOf (W := 1) (rm1_1 l Z a0 hw [] b4 h4 n0 Z4 E_b4 g_b4 F_blockBits_b4 F_capacity_b4 F_size_b4 F_blocks_b4 F_before_b4) hZ (hw _ (List.mem_of_getElem? (i := 5) rfl)) (hw _ (List.mem_of_getElem? (i := 2) rfl)) (by decide) (by decide)) (g := (mkF m 22 #[.val (.int p1), .val (.int p2), .val (.int p3), .val (.int p4), .val (.int p5), .val (.int p6), .val (.int v1), .val (.int (1 : Int32)), .unset] [(.int (1 : Int32)), (.ref b4), (.ref b4)])) rfl (by rw [hml]; rfl) (Steps.refl _) (a := b4) (argsL := [(.int (1 : Int32))]) (rest := [(.ref b4)]) (lenOf pd_3 rfl) rfl (by show 2 * 0 + _ ≤ _; exact Nat.le_of_eq rfl) (hb hby at_22) (fun _ _ => ⟨rfl, e4, (by decide : 1 + 2 ≤ _), (by decide : 5 + 2 ≤ _)⟩)
    dsimp only [Pt.U, Pt.locs, Pt.cells, Pt.slots] at X5 l5 y5 z5 st5 hQ5
    subst l5 y5 z5
    obtain ⟨h5, eh5⟩ : ∃ z, z = T5.heap := ⟨_, rfl⟩
    rw [← eh5] at hQ5
    have e5 : T5.heap = h5 := eh5.symm
    obtain ⟨bN_5, dN_5, kB_5, kD_5, rfl, Nq5, Kq5, F_blockBits_b4, F_capacity_b4, F_size_b4, F_blocks_b4, F_before_b4, szq_bN_5, szq_dN_5, g_bN_5, g_dN_5, ne_bN_5_dN_5, V_bN_5, V_dN_5, O_bN_5⟩ := hQ5
    have lt5_b4 := E_b4.lt
    have ne_b4_bN_5 : b4 ≠ bN_5 := Nat.ne_of_lt (Nat.lt_of_lt_of_le lt5_b4 szq_bN_5)
    have sz_bN_5 : h0.size ≤ bN_5 := Nat.le_trans K4.1 szq_bN_5
    have ne_b4_dN_5 : b4 ≠ dN_5 := Nat.ne_of_lt (Nat.lt_of_lt_of_le lt5_b4 szq_dN_5)
    have sz_dN_5 : h0.size ≤ dN_5 := Nat.le_trans K4.1 szq_dN_5
    have E_b4 := E_b4.keep Kq5
    have Z5 : n0 ≤ h5.size := Nat.le_trans Z4 Kq5.1
    have K5 := K4.trans Kq5 (allS (Or.inr sz_b4) all0)
    have N5 := Fr.app N0 Nq5
    obtain ⟨lc5, X5, N5⟩ : ∃ lc, Stand p l e room_1 s m #[(.int p1), (.int p2), (.int p3), (.int p4), (.int p5), (.int p6)] below meth c T5 lc 3 7 ∧ Fr n0 lc := ⟨_, X5, N5⟩
    refine OutW.via st5 ?_
    show OutW _ _ _ _ _ _ _ (T5.setTop (mkF m 25 #[.val (.int p1), .val (.int p2), .val (.int p3), .val (.int p4), .val (.int p5), .val (.int p6), .val (.int v1), .val (.int (1 : Int32)), .unset] [(.ref b4)]))
    refine OutW.back (fun t k => XS.astore X5.here hx rfl (hb hby at_25) rfl rfl (l' := #[.val (.int p1), .val (.int p2), .val (.int p3), .val (.int p4), .val (.int p5), .val (.int p6), .val (.int v1), .val (.int (1 : Int32)), .val (.ref b4)]) rfl k) ?_
    show OutW _ _ _ _ _ _ _ (T5.setTop (mkF m 27 #[.val (.int p1), .val (.int p2), .val (.int p3), .val (.int p4), .val (.int p5), .val (.int p6), .val (.int v1), .val (.int (1 : Int32)), .val (.ref b4)] []))
    refine OutW.back (fun t k => XS.aload X5.here hx rfl (hb hby at_27) rfl rfl  k) ?_
    show OutW _ _ _ _ _ _ _ (T5.setTop (mkF m 29 #[.val (.int p1), .val (.int p2), .val (.int p3), .val (.int p4), .val (.int p5), .val (.int p6), .val (.int v1), .val (.int (1 : Int32)), .val (.ref b4)] [(.ref b4)]))
    refine OutW.back (fun t k => XS.iloadN X5.here hx rfl (hb hby at_29) rfl  k) ?_
    show OutW _ _ _ _ _ _ _ (T5.setTop (mkF m 30 #[.val (.int p1), .val (.int p2), .val (.int p3), .val (.int p4), .val (.int p5), .val (.int p6), .val (.int v1), .val (.int (1 : Int32)), .val (.ref b4)] [(.int p2), (.ref b4)]))
    obtain ⟨cq6, kq6, qa6, qb6, qc6⟩ := isOf hZ e5 E_b4
    obtain ⟨_, _, ⟨T6, L6, k6, n6⟩, -, X6, ⟨Lc6, hQ6, l6, y6, z6⟩, st6⟩ := X5.virtualBack hx (y := (⟨"com/example/xml_document_query/xmldocumentquery/tree/IntColumn", "add", "(I)V"⟩ : MethodName)) (z := (⟨"com/example/xml_document_query/xmldocumentquery/tree/IntColumn", "add", "(I)V"⟩ : MethodName)) hown (mvT hZ (hw _ (List.mem_of_getElem? (i := 24) rfl))) (mvT hZ (hw _ (List.mem_of_getElem? (i := 25) rfl))) (notFace_of_selects (args := #[]) (mvT hZ (hw _ (List.mem_of_getElem? (i := 27) rfl)))) (mvT hZ (hw _ (List.mem_of_getElem? (i := 27) rfl))) (mvT hZ (hw _ (List.mem_of_getElem? (i := 26) rfl))) (by decide) (backOf (W := 0) (rm4_0_1 l Z a0 hw [] b4 p2 bN_5 dN_5 kB_5 kD_5 (0 : Int32) .null h5 n0 Z5 E_b4 g_b4 F_blockBits_b4 F_capacity_b4 F_size_b4 F_blocks_b4 F_before_b4 V_bN_5 O_bN_5 V_dN_5 ne_b4_bN_5 (Ne.symm ne_bN_5_dN_5) (Ne.symm ne_b4_dN_5) g_bN_5 g_dN_5) hZ (hw _ (List.mem_of_getElem? (i := 28) rfl)) (hw _ (List.mem_of_getElem? (i := 2) rfl)) (by decide) (by decide)) qa6 qc6 (g := (mkF m 30 #[.val (.int p1), .val (.int p2), .val (.int p3), .val (.int p4), .val (.int p5), .val (.int p6), .val (.int v1), .val (.int (1 : Int32)), .val (.ref b4)] [(.int p2), (.ref b4)])) rfl (by rw [hml]; rfl) (Steps.refl _) (argsL := [(.int p2)]) (rest := []) (lenOf pd_3 rfl) rfl (by show 2 * 0 + _ ≤ _; exact Nat.le_of_eq rfl) (hb hby at_30) (fun _ _ => ⟨rfl, e5, (by decide : 3 + 0 ≤ _), (by decide : 7 + 0 ≤ _)⟩)
    dsimp only [Pt.U, Pt.locs, Pt.cells, Pt.slots] at X6 l6 y6 z6 st6 hQ6
    subst l6 y6 z6
    obtain ⟨h6, eh6⟩ : ∃ z, z = T6.heap := ⟨_, rfl⟩
    rw [← eh6] at hQ6
    have e6 : T6.heap = h6 := eh6.symm
    obtain ⟨rfl, Nq6, Kq6, F_blockBits_b4, F_capacity_b4, F_size_b4, F_blocks_b4, F_before_b4, V_dN_5_6⟩ := hQ6
    have E_b4 := E_b4.keep Kq6
    have V_bN_5 := V_bN_5.keep Kq6 (ninS (Ne.symm ne_b4_bN_5) (ninS ne_bN_5_dN_5 nin0))
    have Z6 : n0 ≤ h6.size := Nat.le_trans Z5 Kq6.1
    have K6 := K5.trans Kq6 (allS (Or.inr sz_b4) (allS (Or.inr sz_dN_5) all0))
    have N6 := Fr.app N5 Nq6
    obtain ⟨lc6, X6, N6⟩ : ∃ lc, Stand p l e room_1 s m #[(.int p1), (.int p2), (.int p3), (.int p4), (.int p5), (.int p6)] below meth c T6 lc 3 7 ∧ Fr n0 lc := ⟨_, X6, N6⟩
    refine OutW.via st6 ?_
    show OutW _ _ _ _ _ _ _ (T6.setTop (mkF m 33 #[.val (.int p1), .val (.int p2), .val (.int p3), .val (.int p4), .val (.int p5), .val (.int p6), .val (.int v1), .val (.int (1 : Int32)), .val (.ref b4)] []))
    refine OutW.back (fun t k => XS.aload X6.here hx rfl (hb hby at_33) rfl rfl  k) ?_
    show OutW _ _ _ _ _ _ _ (T6.setTop (mkF m 35 #[.val (.int p1), .val (.int p2), .val (.int p3), .val (.int p4), .val (.int p5), .val (.int p6), .val (.int v1), .val (.int (1 : Int32)), .val (.ref b4)] [(.ref b4)]))
    refine OutW.back (fun t k => XS.iloadN X6.here hx rfl (hb hby at_35) rfl  k) ?_
    show OutW _ _ _ _ _ _ _ (T6.setTop (mkF m 36 #[.val (.int p1), .val (.int p2), .val (.int p3), .val (.int p4), .val (.int p5), .val (.int p6), .val (.int v1), .val (.int (1 : Int32)), .val (.ref b4)] [(.int p3), (.ref b4)]))
    obtain ⟨cq7, kq7, qa7, qb7, qc7⟩ := isOf hZ e6 E_b4
    obtain ⟨_, _, ⟨T7, L7, k7, n7⟩, -, X7, ⟨Lc7, hQ7, l7, y7, z7⟩, st7⟩ := X6.virtualBack hx (y := (⟨"com/example/xml_document_query/xmldocumentquery/tree/IntColumn", "add", "(I)V"⟩ : MethodName)) (z := (⟨"com/example/xml_document_query/xmldocumentquery/tree/IntColumn", "add", "(I)V"⟩ : MethodName)) hown (mvT hZ (hw _ (List.mem_of_getElem? (i := 24) rfl))) (mvT hZ (hw _ (List.mem_of_getElem? (i := 25) rfl))) (notFace_of_selects (args := #[]) (mvT hZ (hw _ (List.mem_of_getElem? (i := 27) rfl)))) (mvT hZ (hw _ (List.mem_of_getElem? (i := 27) rfl))) (mvT hZ (hw _ (List.mem_of_getElem? (i := 26) rfl))) (by decide) (backOf (W := 0) (rm4_1_1 l Z a0 hw [] b4 p3 bN_5 dN_5 kB_5 kD_5 p2 h6 n0 Z6 E_b4 g_b4 F_blockBits_b4 F_capacity_b4 F_size_b4 F_blocks_b4 F_before_b4 V_bN_5 O_bN_5 V_dN_5_6 ne_b4_bN_5 (Ne.symm ne_bN_5_dN_5) (Ne.symm ne_b4_dN_5) g_bN_5 g_dN_5) hZ (hw _ (List.mem_of_getElem? (i := 28) rfl)) (hw _ (List.mem_of_getElem? (i := 2) rfl)) (by decide) (by decide)) qa7 qc7 (g := (mkF m 36 #[.val (.int p1), .val (.int p2), .val (.int p3), .val (.int p4), .val (.int p5), .val (.int p6), .val (.int v1), .val (.int (1 : Int32)), .val (.ref b4)] [(.int p3), (.ref b4)])) rfl (by rw [hml]; rfl) (Steps.refl _) (argsL := [(.int p3)]) (rest := []) (lenOf pd_3 rfl) rfl (by show 2 * 0 + _ ≤ _; exact Nat.le_of_eq rfl) (hb hby at_36) (fun _ _ => ⟨rfl, e6, (by decide : 3 + 1 ≤ _), (by decide : 7 + 2 ≤ _)⟩)
    dsimp only [Pt.U, Pt.locs, Pt.cells, Pt.slots] at X7 l7 y7 z7 st7 hQ7
    subst l7 y7 z7
    obtain ⟨h7, eh7⟩ : ∃ z, z = T7.heap := ⟨_, rfl⟩
    rw [← eh7] at hQ7
    have e7 : T7.heap = h7 := eh7.symm
    obtain ⟨dN_7, kN_7, rfl, Nq7, Kq7, F_blockBits_b4, F_capacity_b4, F_size_b4, F_blocks_b4, F_before_b4, szq_dN_7, g_dN_7, V_dN_7, V_bN_5_7⟩ := hQ7
    have lt7_b4 := E_b4.lt
    have lt7_bN_5 := V_bN_5.lt
    have lt7_dN_5 := V_dN_5_6.lt
    have ne_b4_dN_7 : b4 ≠ dN_7 := Nat.ne_of_lt (Nat.lt_of_lt_of_le lt7_b4 szq_dN_7)
    have ne_bN_5_dN_7 : bN_5 ≠ dN_7 := Nat.ne_of_lt (Nat.lt_of_lt_of_le lt7_bN_5 szq_dN_7)
    have ne_dN_5_dN_7 : dN_5 ≠ dN_7 := Nat.ne_of_lt (Nat.lt_of_lt_of_le lt7_dN_5 szq_dN_7)
    have sz_dN_7 : h0.size ≤ dN_7 := Nat.le_trans K6.1 szq_dN_7
    have E_b4 := E_b4.keep Kq7
    have V_dN_5_6 := V_dN_5_6.keep Kq7 (ninS (Ne.symm ne_b4_dN_5) (ninS (Ne.symm ne_bN_5_dN_5) nin0))
    have Z7 : n0 ≤ h7.size := Nat.le_trans Z6 Kq7.1
    have K7 := K6.trans Kq7 (allS (Or.inr sz_b4) (allS (Or.inr sz_bN_5) all0))
    have N7 := Fr.app N6 Nq7
    obtain ⟨lc7, X7, N7⟩ : ∃ lc, Stand p l e room_1 s m #[(.int p1), (.int p2), (.int p3), (.int p4), (.int p5), (.int p6)] below meth c T7 lc 4 9 ∧ Fr n0 lc := ⟨_, X7, N7⟩
    refine OutW.via st7 ?_
    show OutW _ _ _ _ _ _ _ (T7.setTop (mkF m 39 #[.val (.int p1), .val (.int p2), .val (.int p3), .val (.int p4), .val (.int p5), .val (.int p6), .val (.int v1), .val (.int (1 : Int32)), .val (.ref b4)] []))
    refine OutW.back (fun t k => XS.aload X7.here hx rfl (hb hby at_39) rfl rfl  k) ?_
    show OutW _ _ _ _ _ _ _ (T7.setTop (mkF m 41 #[.val (.int p1), .val (.int p2), .val (.int p3), .val (.int p4), .val (.int p5), .val (.int p6), .val (.int v1), .val (.int (1 : Int32)), .val (.ref b4)] [(.ref b4)]))
    refine OutW.back (fun t k => XS.iloadN X7.here hx rfl (hb hby at_41) rfl  k) ?_
    show OutW _ _ _ _ _ _ _ (T7.setTop (mkF m 42 #[.val (.int p1), .val (.int p2), .val (.int p3), .val (.int p4), .val (.int p5), .val (.int p6), .val (.int v1), .val (.int (1 : Int32)), .val (.ref b4)] [(.int p4), (.ref b4)]))
    obtain ⟨cq8, kq8, qa8, qb8, qc8⟩ := isOf hZ e7 E_b4
    obtain ⟨_, _, ⟨T8, L8, k8, n8⟩, -, X8, ⟨Lc8, hQ8, l8, y8, z8⟩, st8⟩ := X7.virtualBack hx (y := (⟨"com/example/xml_document_query/xmldocumentquery/tree/IntColumn", "addFirst", "(I)V"⟩ : MethodName)) (z := (⟨"com/example/xml_document_query/xmldocumentquery/tree/IntColumn", "addFirst", "(I)V"⟩ : MethodName)) hown (mvT hZ (hw _ (List.mem_of_getElem? (i := 62) rfl))) (mvT hZ (hw _ (List.mem_of_getElem? (i := 63) rfl))) (notFace_of_selects (args := #[]) (mvT hZ (hw _ (List.mem_of_getElem? (i := 65) rfl)))) (mvT hZ (hw _ (List.mem_of_getElem? (i := 65) rfl))) (mvT hZ (hw _ (List.mem_of_getElem? (i := 64) rfl))) (by decide) (backOf (W := 0) (rm10_0 l Z a0 hw [] b4 p4 (2 : Int32) bN_5 h7 n0 Z7 E_b4 g_b4 F_blockBits_b4 F_capacity_b4 F_size_b4 F_blocks_b4 F_before_b4) hZ (hw _ (List.mem_of_getElem? (i := 66) rfl)) (hw _ (List.mem_of_getElem? (i := 2) rfl)) (by decide) (by decide)) qa8 qc8 (g := (mkF m 42 #[.val (.int p1), .val (.int p2), .val (.int p3), .val (.int p4), .val (.int p5), .val (.int p6), .val (.int v1), .val (.int (1 : Int32)), .val (.ref b4)] [(.int p4), (.ref b4)])) rfl (by rw [hml]; rfl) (Steps.refl _) (argsL := [(.int p4)]) (rest := []) (lenOf pd_3 rfl) rfl (by show 2 * 0 + _ ≤ _; exact Nat.le_of_eq rfl) (hb hby at_42) (fun _ _ => ⟨rfl, e7, (by decide : 4 + 3 ≤ _), (by decide : 9 + 10 ≤ _)⟩)
    dsimp only [Pt.U, Pt.locs, Pt.cells, Pt.slots] at X8 l8 y8 z8 st8 hQ8
    subst l8 y8 z8
    obtain ⟨h8, eh8⟩ : ∃ z, z = T8.heap := ⟨_, rfl⟩
    rw [← eh8] at hQ8
    have e8 : T8.heap = h8 := eh8.symm
    obtain ⟨cN_8, bN_8, dN_8, kB_8, kD_8, rfl, Nq8, Kq8, F_blockBits_b4, F_capacity_b4, F_size_b4, F_blocks_b4, F_before_b4, szq_cN_8, szq_bN_8, szq_dN_8, g_cN_8, g_bN_8, g_dN_8, ne_cN_8_bN_8, ne_cN_8_dN_8, ne_bN_8_dN_8, E_cN_8, F_blockBits_cN_8, F_capacity_cN_8, F_size_cN_8, F_blocks_cN_8, F_before_cN_8, V_bN_8, V_dN_8, O_bN_8⟩ := hQ8
    have lt8_b4 := E_b4.lt
    have lt8_dN_5 := V_dN_5_6.lt
    have lt8_bN_5 := V_bN_5_7.lt
    have lt8_dN_7 := V_dN_7.lt
    have ne_b4_cN_8 : b4 ≠ cN_8 := Nat.ne_of_lt (Nat.lt_of_lt_of_le lt8_b4 szq_cN_8)
    have ne_dN_5_cN_8 : dN_5 ≠ cN_8 := Nat.ne_of_lt (Nat.lt_of_lt_of_le lt8_dN_5 szq_cN_8)
    have ne_bN_5_cN_8 : bN_5 ≠ cN_8 := Nat.ne_of_lt (Nat.lt_of_lt_of_le lt8_bN_5 szq_cN_8)
    have ne_dN_7_cN_8 : dN_7 ≠ cN_8 := Nat.ne_of_lt (Nat.lt_of_lt_of_le lt8_dN_7 szq_cN_8)
    have sz_cN_8 : h0.size ≤ cN_8 := Nat.le_trans K7.1 szq_cN_8
    have ne_b4_bN_8 : b4 ≠ bN_8 := Nat.ne_of_lt (Nat.lt_of_lt_of_le lt8_b4 szq_bN_8)
    have ne_dN_5_bN_8 : dN_5 ≠ bN_8 := Nat.ne_of_lt (Nat.lt_of_lt_of_le lt8_dN_5 szq_bN_8)
    have ne_bN_5_bN_8 : bN_5 ≠ bN_8 := Nat.ne_of_lt (Nat.lt_of_lt_of_le lt8_bN_5 szq_bN_8)
    have ne_dN_7_bN_8 : dN_7 ≠ bN_8 := Nat.ne_of_lt (Nat.lt_of_lt_of_le lt8_dN_7 szq_bN_8)
    have sz_bN_8 : h0.size ≤ bN_8 := Nat.le_trans K7.1 szq_bN_8
    have ne_b4_dN_8 : b4 ≠ dN_8 := Nat.ne_of_lt (Nat.lt_of_lt_of_le lt8_b4 szq_dN_8)
    have ne_dN_5_dN_8 : dN_5 ≠ dN_8 := Nat.ne_of_lt (Nat.lt_of_lt_of_le lt8_dN_5 szq_dN_8)
    have ne_bN_5_dN_8 : bN_5 ≠ dN_8 := Nat.ne_of_lt (Nat.lt_of_lt_of_le lt8_bN_5 szq_dN_8)
    have ne_dN_7_dN_8 : dN_7 ≠ dN_8 := Nat.ne_of_lt (Nat.lt_of_lt_of_le lt8_dN_7 szq_dN_8)
    have sz_dN_8 : h0.size ≤ dN_8 := Nat.le_trans K7.1 szq_dN_8
    have E_b4 := E_b4.keep Kq8
    have V_dN_5_6 := V_dN_5_6.keep Kq8 (ninS (Ne.symm ne_b4_dN_5) nin0)
    have V_bN_5_7 := V_bN_5_7.keep Kq8 (ninS (Ne.symm ne_b4_bN_5) nin0)
    have V_dN_7 := V_dN_7.keep Kq8 (ninS (Ne.symm ne_b4_dN_7) nin0)
    have Z8 : n0 ≤ h8.size := Nat.le_trans Z7 Kq8.1
    have K8 := K7.trans Kq8 (allS (Or.inr sz_b4) all0)
    have N8 := Fr.app N7 Nq8
    obtain ⟨lc8, X8, N8⟩ : ∃ lc, Stand p l e room_1 s m #[(.int p1), (.int p2), (.int p3), (.int p4), (.int p5), (.int p6)] below meth c T8 lc 7 19 ∧ Fr n0 lc := ⟨_, X8, N8⟩
    refine OutW.via st8 ?_
    show OutW _ _ _ _ _ _ _ (T8.setTop (mkF m 45 #[.val (.int p1), .val (.int p2), .val (.int p3), .val (.int p4), .val (.int p5), .val (.int p6), .val (.int v1), .val (.int (1 : Int32)), .val (.ref b4)] []))
    refine OutW.back (fun t k => XS.aload X8.here hx rfl (hb hby at_45) rfl rfl  k) ?_
    show OutW _ _ _ _ _ _ _ (T8.setTop (mkF m 47 #[.val (.int p1), .val (.int p2), .val (.int p3), .val (.int p4), .val (.int p5), .val (.int p6), .val (.int v1), .val (.int (1 : Int32)), .val (.ref b4)] [(.ref b4)]))
    refine OutW.back (fun t k => XS.iload X8.here hx rfl (hb hby at_47) rfl  k) ?_
    show OutW _ _ _ _ _ _ _ (T8.setTop (mkF m 49 #[.val (.int p1), .val (.int p2), .val (.int p3), .val (.int p4), .val (.int p5), .val (.int p6), .val (.int v1), .val (.int (1 : Int32)), .val (.ref b4)] [(.int p5), (.ref b4)]))
    obtain ⟨cq9, kq9, qa9, qb9, qc9⟩ := isOf hZ e8 E_b4
    obtain ⟨_, _, ⟨T9, L9, k9, n9⟩, -, X9, ⟨Lc9, hQ9, l9, y9, z9⟩, st9⟩ := X8.virtualBack hx (y := (⟨"com/example/xml_document_query/xmldocumentquery/tree/IntColumn", "addFirst", "(I)V"⟩ : MethodName)) (z := (⟨"com/example/xml_document_query/xmldocumentquery/tree/IntColumn", "addFirst", "(I)V"⟩ : MethodName)) hown (mvT hZ (hw _ (List.mem_of_getElem? (i := 62) rfl))) (mvT hZ (hw _ (List.mem_of_getElem? (i := 63) rfl))) (notFace_of_selects (args := #[]) (mvT hZ (hw _ (List.mem_of_getElem? (i := 65) rfl)))) (mvT hZ (hw _ (List.mem_of_getElem? (i := 65) rfl))) (mvT hZ (hw _ (List.mem_of_getElem? (i := 64) rfl))) (by decide) (backOf (W := 0) (rm10_1 l Z a0 hw [] b4 p5 cN_8 bN_8 dN_8 kB_8 kD_8 p4 h8 n0 Z8 F_before_b4 E_cN_8 g_cN_8 F_blockBits_cN_8 F_capacity_cN_8 F_size_cN_8 F_blocks_cN_8 F_before_cN_8 V_bN_8 O_bN_8 V_dN_8 g_bN_8 g_dN_8 ne_cN_8_bN_8 (Ne.symm ne_bN_8_dN_8) (Ne.symm ne_cN_8_dN_8) ne_b4_cN_8 ne_b4_dN_8) hZ (hw _ (List.mem_of_getElem? (i := 66) rfl)) (hw _ (List.mem_of_getElem? (i := 2) rfl)) (by decide) (by decide)) qa9 qc9 (g := (mkF m 49 #[.val (.int p1), .val (.int p2), .val (.int p3), .val (.int p4), .val (.int p5), .val (.int p6), .val (.int v1), .val (.int (1 : Int32)), .val (.ref b4)] [(.int p5), (.ref b4)])) rfl (by rw [hml]; rfl) (Steps.refl _) (argsL := [(.int p5)]) (rest := []) (lenOf pd_3 rfl) rfl (by show 2 * 0 + _ ≤ _; exact Nat.le_of_eq rfl) (hb hby at_49) (fun _ _ => ⟨rfl, e8, (by decide : 7 + 0 ≤ _), (by decide : 19 + 0 ≤ _)⟩)
    dsimp only [Pt.U, Pt.locs, Pt.cells, Pt.slots] at X9 l9 y9 z9 st9 hQ9
    subst l9 y9 z9
    obtain ⟨h9, eh9⟩ : ∃ z, z = T9.heap := ⟨_, rfl⟩
    rw [← eh9] at hQ9
    have e9 : T9.heap = h9 := eh9.symm
    obtain ⟨rfl, Nq9, Kq9, F_blockBits_cN_8, F_capacity_cN_8, F_size_cN_8, F_blocks_cN_8, F_before_cN_8, V_dN_8_9⟩ := hQ9
    have E_b4 := E_b4.keep Kq9
    have V_dN_5_6 := V_dN_5_6.keep Kq9 (ninS ne_dN_5_cN_8 (ninS ne_dN_5_dN_8 nin0))
    have V_bN_5_7 := V_bN_5_7.keep Kq9 (ninS ne_bN_5_cN_8 (ninS ne_bN_5_dN_8 nin0))
    have V_dN_7 := V_dN_7.keep Kq9 (ninS ne_dN_7_cN_8 (ninS ne_dN_7_dN_8 nin0))
    have F_blockBits_b4 := F_blockBits_b4.keep Kq9 (ninS ne_b4_cN_8 (ninS ne_b4_dN_8 nin0))
    have F_capacity_b4 := F_capacity_b4.keep Kq9 (ninS ne_b4_cN_8 (ninS ne_b4_dN_8 nin0))
    have F_size_b4 := F_size_b4.keep Kq9 (ninS ne_b4_cN_8 (ninS ne_b4_dN_8 nin0))
    have F_blocks_b4 := F_blocks_b4.keep Kq9 (ninS ne_b4_cN_8 (ninS ne_b4_dN_8 nin0))
    have F_before_b4 := F_before_b4.keep Kq9 (ninS ne_b4_cN_8 (ninS ne_b4_dN_8 nin0))
    have E_cN_8 := E_cN_8.keep Kq9
    have V_bN_8 := V_bN_8.keep Kq9 (ninS (Ne.symm ne_cN_8_bN_8) (ninS ne_bN_8_dN_8 nin0))
    have Z9 : n0 ≤ h9.size := Nat.le_trans Z8 Kq9.1
    have K9 := K8.trans Kq9 (allS (Or.inr sz_cN_8) (allS (Or.inr sz_dN_8) all0))
    have N9 := Fr.app N8 Nq9
    obtain ⟨lc9, X9, N9⟩ : ∃ lc, Stand p l e room_1 s m #[(.int p1), (.int p2), (.int p3), (.int p4), (.int p5), (.int p6)] below meth c T9 lc 7 19 ∧ Fr n0 lc := ⟨_, X9, N9⟩
    refine OutW.via st9 ?_
    show OutW _ _ _ _ _ _ _ (T9.setTop (mkF m 52 #[.val (.int p1), .val (.int p2), .val (.int p3), .val (.int p4), .val (.int p5), .val (.int p6), .val (.int v1), .val (.int (1 : Int32)), .val (.ref b4)] []))
    refine OutW.back (fun t k => XS.aload X9.here hx rfl (hb hby at_52) rfl rfl  k) ?_
    show OutW _ _ _ _ _ _ _ (T9.setTop (mkF m 54 #[.val (.int p1), .val (.int p2), .val (.int p3), .val (.int p4), .val (.int p5), .val (.int p6), .val (.int v1), .val (.int (1 : Int32)), .val (.ref b4)] [(.ref b4)]))
    refine OutW.back (fun t k => XS.iload X9.here hx rfl (hb hby at_54) rfl  k) ?_
    show OutW _ _ _ _ _ _ _ (T9.setTop (mkF m 56 #[.val (.int p1), .val (.int p2), .val (.int p3), .val (.int p4), .val (.int p5), .val (.int p6), .val (.int v1), .val (.int (1 : Int32)), .val (.ref b4)] [(.int v1), (.ref b4)]))
    refine OutW.back (fun t k => XS.iload X9.here hx rfl (hb hby at_56) rfl  k) ?_
    show OutW _ _ _ _ _ _ _ (T9.setTop (mkF m 58 #[.val (.int p1), .val (.int p2), .val (.int p3), .val (.int p4), .val (.int p5), .val (.int p6), .val (.int v1), .val (.int (1 : Int32)), .val (.ref b4)] [(.int p6), (.int v1), (.ref b4)]))
    obtain ⟨cq10, kq10, qa10, qb10, qc10⟩ := isOf hZ e9 E_b4
    obtain ⟨_, _, ⟨T10, L10, k10, n10⟩, -, X10, ⟨Lc10, hQ10, l10, y10, z10⟩, st10⟩ := X9.virtualBack hx (y := (⟨"com/example/xml_document_query/xmldocumentquery/tree/IntColumn", "set", "(II)V"⟩ : MethodName)) (z := (⟨"com/example/xml_document_query/xmldocumentquery/tree/IntColumn", "set", "(II)V"⟩ : MethodName)) hown (mvT hZ (hw _ (List.mem_of_getElem? (i := 72) rfl))) (mvT hZ (hw _ (List.mem_of_getElem? (i := 73) rfl))) (notFace_of_selects (args := #[]) (mvT hZ (hw _ (List.mem_of_getElem? (i := 75) rfl)))) (mvT hZ (hw _ (List.mem_of_getElem? (i := 75) rfl))) (mvT hZ (hw _ (List.mem_of_getElem? (i := 74) rfl))) (by decide) (backOf (W := 0) (rm11_c2 l Z a0 hw [] b4 v1 p6 bN_5 dN_7 cN_8 bN_8 dN_8 kB_5 kN_7 kB_8 kD_8 p2 p3 p4 p5 h9 n0 Z9 F_blocks_b4 F_before_b4 V_bN_5_7 V_dN_7 E_cN_8 F_blocks_cN_8 V_bN_8 V_dN_8_9 g_dN_7 g_dN_8 (Ne.symm ne_bN_5_dN_7) ne_b4_dN_7 (Ne.symm ne_dN_7_dN_8) (Ne.symm ne_dN_7_bN_8) (Ne.symm ne_dN_7_cN_8) (Ne.symm ne_bN_8_dN_8) ne_cN_8_dN_8 ne_b4_dN_8 ne_bN_5_dN_8 hi) hZ (hw _ (List.mem_of_getElem? (i := 76) rfl)) (hw _ (List.mem_of_getElem? (i := 2) rfl)) (by decide) (by decide)) qa10 qc10 (g := (mkF m 58 #[.val (.int p1), .val (.int p2), .val (.int p3), .val (.int p4), .val (.int p5), .val (.int p6), .val (.int v1), .val (.int (1 : Int32)), .val (.ref b4)] [(.int p6), (.int v1), (.ref b4)])) rfl (by rw [hml]; rfl) (Steps.refl _) (argsL := [(.int v1), (.int p6)]) (rest := []) (lenOf pd_0 rfl) rfl (by show 2 * 0 + _ ≤ _; exact Nat.le_of_eq rfl) (hb hby at_58) (fun _ _ => ⟨rfl, e9, (by decide : 7 + 0 ≤ _), (by decide : 19 + 0 ≤ _)⟩)
    dsimp only [Pt.U, Pt.locs, Pt.cells, Pt.slots] at X10 l10 y10 z10 st10 hQ10
    subst l10 y10 z10
    obtain ⟨h10, eh10⟩ : ∃ z, z = T10.heap := ⟨_, rfl⟩
    rw [← eh10] at hQ10
    have e10 : T10.heap = h10 := eh10.symm
    obtain ⟨rfl, Nq10, Kq10, V_dN_7_10, V_dN_8_10⟩ := hQ10
    have E_b4 := E_b4.keep Kq10
    have V_dN_5_6 := V_dN_5_6.keep Kq10 (ninS ne_dN_5_dN_7 (ninS ne_dN_5_dN_8 nin0))
    have V_bN_5_7 := V_bN_5_7.keep Kq10 (ninS ne_bN_5_dN_7 (ninS ne_bN_5_dN_8 nin0))
    have F_blockBits_b4 := F_blockBits_b4.keep Kq10 (ninS ne_b4_dN_7 (ninS ne_b4_dN_8 nin0))
    have F_capacity_b4 := F_capacity_b4.keep Kq10 (ninS ne_b4_dN_7 (ninS ne_b4_dN_8 nin0))
    have F_size_b4 := F_size_b4.keep Kq10 (ninS ne_b4_dN_7 (ninS ne_b4_dN_8 nin0))
    have F_blocks_b4 := F_blocks_b4.keep Kq10 (ninS ne_b4_dN_7 (ninS ne_b4_dN_8 nin0))
    have F_before_b4 := F_before_b4.keep Kq10 (ninS ne_b4_dN_7 (ninS ne_b4_dN_8 nin0))
    have E_cN_8 := E_cN_8.keep Kq10
    have V_bN_8 := V_bN_8.keep Kq10 (ninS (Ne.symm ne_dN_7_bN_8) (ninS ne_bN_8_dN_8 nin0))
    have F_blockBits_cN_8 := F_blockBits_cN_8.keep Kq10 (ninS (Ne.symm ne_dN_7_cN_8) (ninS ne_cN_8_dN_8 nin0))
    have F_capacity_cN_8 := F_capacity_cN_8.keep Kq10 (ninS (Ne.symm ne_dN_7_cN_8) (ninS ne_cN_8_dN_8 nin0))
    have F_size_cN_8 := F_size_cN_8.keep Kq10 (ninS (Ne.symm ne_dN_7_cN_8) (ninS ne_cN_8_dN_8 nin0))
    have F_blocks_cN_8 := F_blocks_cN_8.keep Kq10 (ninS (Ne.symm ne_dN_7_cN_8) (ninS ne_cN_8_dN_8 nin0))
    have F_before_cN_8 := F_before_cN_8.keep Kq10 (ninS (Ne.symm ne_dN_7_cN_8) (ninS ne_cN_8_dN_8 nin0))
    have Z10 : n0 ≤ h10.size := Nat.le_trans Z9 Kq10.1
    have K10 := K9.trans Kq10 (allS (Or.inr sz_dN_7) (allS (Or.inr sz_dN_8) all0))
    have N10 := Fr.app N9 Nq10
    obtain ⟨lc10, X10, N10⟩ : ∃ lc, Stand p l e room_1 s m #[(.int p1), (.int p2), (.int p3), (.int p4), (.int p5), (.int p6)] below meth c T10 lc 7 19 ∧ Fr n0 lc := ⟨_, X10, N10⟩
    refine OutW.via st10 ?_
    show OutW _ _ _ _ _ _ _ (T10.setTop (mkF m 61 #[.val (.int p1), .val (.int p2), .val (.int p3), .val (.int p4), .val (.int p5), .val (.int p6), .val (.int v1), .val (.int (1 : Int32)), .val (.ref b4)] []))
    refine OutW.back (fun t k => XS.aload X10.here hx rfl (hb hby at_61) rfl rfl  k) ?_
    show OutW _ _ _ _ _ _ _ (T10.setTop (mkF m 63 #[.val (.int p1), .val (.int p2), .val (.int p3), .val (.int p4), .val (.int p5), .val (.int p6), .val (.int v1), .val (.int (1 : Int32)), .val (.ref b4)] [(.ref b4)]))
    refine OutW.back (fun t k => XS.bipush X10.here hx rfl (hb hby at_63) k) ?_
    show OutW _ _ _ _ _ _ _ (T10.setTop (mkF m 65 #[.val (.int p1), .val (.int p2), .val (.int p3), .val (.int p4), .val (.int p5), .val (.int p6), .val (.int v1), .val (.int (1 : Int32)), .val (.ref b4)] [(.int (-2 : Int32)), (.ref b4)]))
    obtain ⟨cq11, kq11, qa11, qb11, qc11⟩ := isOf hZ e10 E_b4
    obtain ⟨_, _, ⟨T11, L11, k11, n11⟩, -, X11, ⟨Lc11, hQ11, l11, y11, z11⟩, st11⟩ := X10.virtualBack hx (y := (⟨"com/example/xml_document_query/xmldocumentquery/tree/IntColumn", "get", "(I)I"⟩ : MethodName)) (z := (⟨"com/example/xml_document_query/xmldocumentquery/tree/IntColumn", "get", "(I)I"⟩ : MethodName)) hown (mvT hZ (hw _ (List.mem_of_getElem? (i := 78) rfl))) (mvT hZ (hw _ (List.mem_of_getElem? (i := 79) rfl))) (notFace_of_selects (args := #[]) (mvT hZ (hw _ (List.mem_of_getElem? (i := 81) rfl)))) (mvT hZ (hw _ (List.mem_of_getElem? (i := 81) rfl))) (mvT hZ (hw _ (List.mem_of_getElem? (i := 80) rfl))) (by decide) (backOf (W := 0) (rm12_m2 l Z a0 hw [] b4 cN_8 bN_8 dN_8 kB_8 kD_8 (if v1 = (-1 : Int32) then p6 else p4) (if v1 = (-2 : Int32) then p6 else p5) (0 : Int32) (0 : Int32) h10 n0 Z10 F_before_b4 E_cN_8 F_blocks_cN_8 V_bN_8 V_dN_8_10) hZ (hw _ (List.mem_of_getElem? (i := 82) rfl)) (hw _ (List.mem_of_getElem? (i := 2) rfl)) (by decide) (by decide)) qa11 qc11 (g := (mkF m 65 #[.val (.int p1), .val (.int p2), .val (.int p3), .val (.int p4), .val (.int p5), .val (.int p6), .val (.int v1), .val (.int (1 : Int32)), .val (.ref b4)] [(.int (-2 : Int32)), (.ref b4)])) rfl (by rw [hml]; rfl) (Steps.refl _) (argsL := [(.int (-2 : Int32))]) (rest := []) (lenOf pd_6 rfl) rfl (by show 2 * 0 + _ ≤ _; exact Nat.le_of_eq rfl) (hb hby at_65) (fun _ _ => ⟨rfl, e10, (by decide : 7 + 0 ≤ _), (by decide : 19 + 0 ≤ _)⟩)
    dsimp only [Pt.U, Pt.locs, Pt.cells, Pt.slots] at X11 l11 y11 z11 st11 hQ11
    subst l11 y11 z11
    obtain ⟨rfl, Nq11, e11⟩ := hQ11
    have N11 := Fr.app N10 Nq11
    obtain ⟨lc11, X11, N11⟩ : ∃ lc, Stand p l e room_1 s m #[(.int p1), (.int p2), (.int p3), (.int p4), (.int p5), (.int p6)] below meth c T11 lc 7 19 ∧ Fr n0 lc := ⟨_, X11, N11⟩
    refine OutW.via st11 ?_
    show OutW _ _ _ _ _ _ _ (T11.setTop (mkF m 68 #[.val (.int p1), .val (.int p2), .val (.int p3), .val (.int p4), .val (.int p5), .val (.int p6), .val (.int v1), .val (.int (1 : Int32)), .val (.ref b4)] [(.int (if v1 = (-2 : Int32) then p6 else p5))]))
    refine OutW.back (fun t k => XS.iload X11.here hx rfl (hb hby at_68) rfl  k) ?_
    show OutW _ _ _ _ _ _ _ (T11.setTop (mkF m 70 #[.val (.int p1), .val (.int p2), .val (.int p3), .val (.int p4), .val (.int p5), .val (.int p6), .val (.int v1), .val (.int (1 : Int32)), .val (.ref b4)] [(.int v1), (.int (if v1 = (-2 : Int32) then p6 else p5))]))
    refine OutW.back (fun t k => XS.bipush X11.here hx rfl (hb hby at_70) k) ?_
    show OutW _ _ _ _ _ _ _ (T11.setTop (mkF m 72 #[.val (.int p1), .val (.int p2), .val (.int p3), .val (.int p4), .val (.int p5), .val (.int p6), .val (.int v1), .val (.int (1 : Int32)), .val (.ref b4)] [(.int (-2 : Int32)), (.int v1), (.int (if v1 = (-2 : Int32) then p6 else p5))]))
    obtain ⟨v13, hv_v13⟩ : ∃ z : Int32, z = (if v1 = (-2 : Int32) then p6 else p5) := ⟨_, rfl⟩
    have j14 : ∀ t, Steps p.tables e below (T11.setTop (mkF m 82 #[.val (.int p1), .val (.int p2), .val (.int p3), .val (.int p4), .val (.int p5), .val (.int p6), .val (.int v1), .val (.int (1 : Int32)), .val (.ref b4)] [(.int v13), (.int (if v1 = (-2 : Int32) then p6 else p5))])) t → Steps p.tables e below (T11.setTop (mkF m 72 #[.val (.int p1), .val (.int p2), .val (.int p3), .val (.int p4), .val (.int p5), .val (.int p6), .val (.int v1), .val (.int (1 : Int32)), .val (.ref b4)] [(.int (-2 : Int32)), (.int v1), (.int (if v1 = (-2 : Int32) then p6 else p5))])) t := by
      intro t k
      by_cases c72_15 : v1 = (-2 : Int32)
      · skip
        refine XS.icmpNo X11.here hx rfl (hb hby at_72) rfl (teq c72_15).2 ?_
        show Steps p.tables e below (T11.setTop (mkF m 75 #[.val (.int p1), .val (.int p2), .val (.int p3), .val (.int p4), .val (.int p5), .val (.int p6), .val (.int v1), .val (.int (1 : Int32)), .val (.ref b4)] [(.int (if v1 = (-2 : Int32) then p6 else p5))])) t
        refine XS.iload X11.here hx rfl (hb hby at_75) rfl  ?_
        show Steps p.tables e below (T11.setTop (mkF m 77 #[.val (.int p1), .val (.int p2), .val (.int p3), .val (.int p4), .val (.int p5), .val (.int p6), .val (.int v1), .val (.int (1 : Int32)), .val (.ref b4)] [(.int p6), (.int (if v1 = (-2 : Int32) then p6 else p5))])) t
        refine XS.goto X11.here hx rfl (pc0 := 77) (pc' := 82) rfl (hb hby at_77) (by decide) (by decide) ?_
        show Steps p.tables e below (T11.setTop (mkF m 82 #[.val (.int p1), .val (.int p2), .val (.int p3), .val (.int p4), .val (.int p5), .val (.int p6), .val (.int v1), .val (.int (1 : Int32)), .val (.ref b4)] [(.int p6), (.int (if v1 = (-2 : Int32) then p6 else p5))])) t
        have q_v13 : v13 = p6 := by rw [hv_v13, if_pos c72_15]
        rw [q_v13] at k
        exact k
      · skip
        refine XS.icmpYes X11.here hx rfl (pc0 := 72) (pc' := 80) rfl (hb hby at_72) rfl (feq c72_15).2 (by decide) (by decide) ?_
        show Steps p.tables e below (T11.setTop (mkF m 80 #[.val (.int p1), .val (.int p2), .val (.int p3), .val (.int p4), .val (.int p5), .val (.int p6), .val (.int v1), .val (.int (1 : Int32)), .val (.ref b4)] [(.int (if v1 = (-2 : Int32) then p6 else p5))])) t
        refine XS.iload X11.here hx rfl (hb hby at_80) rfl  ?_
        show Steps p.tables e below (T11.setTop (mkF m 82 #[.val (.int p1), .val (.int p2), .val (.int p3), .val (.int p4), .val (.int p5), .val (.int p6), .val (.int v1), .val (.int (1 : Int32)), .val (.ref b4)] [(.int p5), (.int (if v1 = (-2 : Int32) then p6 else p5))])) t
        have q_v13 : v13 = p5 := by rw [hv_v13, if_neg c72_15]
        rw [q_v13] at k
        exact k
    refine OutW.back j14 ?_
    show OutW _ _ _ _ _ _ _ (T11.setTop (mkF m 82 #[.val (.int p1), .val (.int p2), .val (.int p3), .val (.int p4), .val (.int p5), .val (.int p6), .val (.int v1), .val (.int (1 : Int32)), .val (.ref b4)] [(.int v13), (.int (if v1 = (-2 : Int32) then p6 else p5))]))
    refine OutW.back (fun t k => XS.icmpNo X11.here hx rfl (hb hby at_82) rfl (teq hv_v13.symm).2 k) ?_
    show OutW _ _ _ _ _ _ _ (T11.setTop (mkF m 85 #[.val (.int p1), .val (.int p2), .val (.int p3), .val (.int p4), .val (.int p5), .val (.int p6), .val (.int v1), .val (.int (1 : Int32)), .val (.ref b4)] []))
    refine OutW.back (fun t k => XS.aload X11.here hx rfl (hb hby at_85) rfl rfl  k) ?_
    show OutW _ _ _ _ _ _ _ (T11.setTop (mkF m 87 #[.val (.int p1), .val (.int p2), .val (.int p3), .val (.int p4), .val (.int p5), .val (.int p6), .val (.int v1), .val (.int (1 : Int32)), .val (.ref b4)] [(.ref b4)]))
    refine OutW.back (fun t k => XS.iconst X11.here hx rfl (hb hby at_87) k) ?_
    show OutW _ _ _ _ _ _ _ (T11.setTop (mkF m 88 #[.val (.int p1), .val (.int p2), .val (.int p3), .val (.int p4), .val (.int p5), .val (.int p6), .val (.int v1), .val (.int (1 : Int32)), .val (.ref b4)] [(.int (-1 : Int32)), (.ref b4)]))
    obtain ⟨cq16, kq16, qa16, qb16, qc16⟩ := isOf hZ e11 E_b4
    obtain ⟨_, _, ⟨T16, L16, k16, n16⟩, -, X16, ⟨Lc16, hQ16, l16, y16, z16⟩, st16⟩ := X11.virtualBack hx (y := (⟨"com/example/xml_document_query/xmldocumentquery/tree/IntColumn", "get", "(I)I"⟩ : MethodName)) (z := (⟨"com/example/xml_document_query/xmldocumentquery/tree/IntColumn", "get", "(I)I"⟩ : MethodName)) hown (mvT hZ (hw _ (List.mem_of_getElem? (i := 78) rfl))) (mvT hZ (hw _ (List.mem_of_getElem? (i := 79) rfl))) (notFace_of_selects (args := #[]) (mvT hZ (hw _ (List.mem_of_getElem? (i := 81) rfl)))) (mvT hZ (hw _ (List.mem_of_getElem? (i := 81) rfl))) (mvT hZ (hw _ (List.mem_of_getElem? (i := 80) rfl))) (by decide) (backOf (W := 0) (rm12_m1 l Z a0 hw [] b4 cN_8 bN_8 dN_8 kB_8 kD_8 (if v1 = (-1 : Int32) then p6 else p4) (if v1 = (-2 : Int32) then p6 else p5) (0 : Int32) (0 : Int32) h10 n0 Z10 F_before_b4 E_cN_8 F_blocks_cN_8 V_bN_8 V_dN_8_10) hZ (hw _ (List.mem_of_getElem? (i := 82) rfl)) (hw _ (List.mem_of_getElem? (i := 2) rfl)) (by decide) (by decide)) qa16 qc16 (g := (mkF m 88 #[.val (.int p1), .val (.int p2), .val (.int p3), .val (.int p4), .val (.int p5), .val (.int p6), .val (.int v1), .val (.int (1 : Int32)), .val (.ref b4)] [(.int (-1 : Int32)), (.ref b4)])) rfl (by rw [hml]; rfl) (Steps.refl _) (argsL := [(.int (-1 : Int32))]) (rest := []) (lenOf pd_6 rfl) rfl (by show 2 * 0 + _ ≤ _; exact Nat.le_of_eq rfl) (hb hby at_88) (fun _ _ => ⟨rfl, e11, (by decide : 7 + 0 ≤ _), (by decide : 19 + 0 ≤ _)⟩)
    dsimp only [Pt.U, Pt.locs, Pt.cells, Pt.slots] at X16 l16 y16 z16 st16 hQ16
    subst l16 y16 z16
    obtain ⟨rfl, Nq16, e16⟩ := hQ16
    have N16 := Fr.app N11 Nq16
    obtain ⟨lc16, X16, N16⟩ : ∃ lc, Stand p l e room_1 s m #[(.int p1), (.int p2), (.int p3), (.int p4), (.int p5), (.int p6)] below meth c T16 lc 7 19 ∧ Fr n0 lc := ⟨_, X16, N16⟩
    refine OutW.via st16 ?_
    show OutW _ _ _ _ _ _ _ (T16.setTop (mkF m 91 #[.val (.int p1), .val (.int p2), .val (.int p3), .val (.int p4), .val (.int p5), .val (.int p6), .val (.int v1), .val (.int (1 : Int32)), .val (.ref b4)] [(.int (if v1 = (-1 : Int32) then p6 else p4))]))
    refine OutW.back (fun t k => XS.iload X16.here hx rfl (hb hby at_91) rfl  k) ?_
    show OutW _ _ _ _ _ _ _ (T16.setTop (mkF m 93 #[.val (.int p1), .val (.int p2), .val (.int p3), .val (.int p4), .val (.int p5), .val (.int p6), .val (.int v1), .val (.int (1 : Int32)), .val (.ref b4)] [(.int v1), (.int (if v1 = (-1 : Int32) then p6 else p4))]))
    refine OutW.back (fun t k => XS.iconst X16.here hx rfl (hb hby at_93) k) ?_
    show OutW _ _ _ _ _ _ _ (T16.setTop (mkF m 94 #[.val (.int p1), .val (.int p2), .val (.int p3), .val (.int p4), .val (.int p5), .val (.int p6), .val (.int v1), .val (.int (1 : Int32)), .val (.ref b4)] [(.int (-1 : Int32)), (.int v1), (.int (if v1 = (-1 : Int32) then p6 else p4))]))
    obtain ⟨v18, hv_v18⟩ : ∃ z : Int32, z = (if v1 = (-1 : Int32) then p6 else p4) := ⟨_, rfl⟩
    have j19 : ∀ t, Steps p.tables e below (T16.setTop (mkF m 103 #[.val (.int p1), .val (.int p2), .val (.int p3), .val (.int p4), .val (.int p5), .val (.int p6), .val (.int v1), .val (.int (1 : Int32)), .val (.ref b4)] [(.int v18), (.int (if v1 = (-1 : Int32) then p6 else p4))])) t → Steps p.tables e below (T16.setTop (mkF m 94 #[.val (.int p1), .val (.int p2), .val (.int p3), .val (.int p4), .val (.int p5), .val (.int p6), .val (.int v1), .val (.int (1 : Int32)), .val (.ref b4)] [(.int (-1 : Int32)), (.int v1), (.int (if v1 = (-1 : Int32) then p6 else p4))])) t := by
      intro t k
      by_cases c94_20 : v1 = (-1 : Int32)
      · skip
        refine XS.icmpNo X16.here hx rfl (hb hby at_94) rfl (teq c94_20).2 ?_
        show Steps p.tables e below (T16.setTop (mkF m 97 #[.val (.int p1), .val (.int p2), .val (.int p3), .val (.int p4), .val (.int p5), .val (.int p6), .val (.int v1), .val (.int (1 : Int32)), .val (.ref b4)] [(.int (if v1 = (-1 : Int32) then p6 else p4))])) t
        refine XS.iload X16.here hx rfl (hb hby at_97) rfl  ?_
        show Steps p.tables e below (T16.setTop (mkF m 99 #[.val (.int p1), .val (.int p2), .val (.int p3), .val (.int p4), .val (.int p5), .val (.int p6), .val (.int v1), .val (.int (1 : Int32)), .val (.ref b4)] [(.int p6), (.int (if v1 = (-1 : Int32) then p6 else p4))])) t
        refine XS.goto X16.here hx rfl (pc0 := 99) (pc' := 103) rfl (hb hby at_99) (by decide) (by decide) ?_
        show Steps p.tables e below (T16.setTop (mkF m 103 #[.val (.int p1), .val (.int p2), .val (.int p3), .val (.int p4), .val (.int p5), .val (.int p6), .val (.int v1), .val (.int (1 : Int32)), .val (.ref b4)] [(.int p6), (.int (if v1 = (-1 : Int32) then p6 else p4))])) t
        have q_v18 : v18 = p6 := by rw [hv_v18, if_pos c94_20]
        rw [q_v18] at k
        exact k
      · skip
        refine XS.icmpYes X16.here hx rfl (pc0 := 94) (pc' := 102) rfl (hb hby at_94) rfl (feq c94_20).2 (by decide) (by decide) ?_
        show Steps p.tables e below (T16.setTop (mkF m 102 #[.val (.int p1), .val (.int p2), .val (.int p3), .val (.int p4), .val (.int p5), .val (.int p6), .val (.int v1), .val (.int (1 : Int32)), .val (.ref b4)] [(.int (if v1 = (-1 : Int32) then p6 else p4))])) t
        refine XS.iloadN X16.here hx rfl (hb hby at_102) rfl  ?_
        show Steps p.tables e below (T16.setTop (mkF m 103 #[.val (.int p1), .val (.int p2), .val (.int p3), .val (.int p4), .val (.int p5), .val (.int p6), .val (.int v1), .val (.int (1 : Int32)), .val (.ref b4)] [(.int p4), (.int (if v1 = (-1 : Int32) then p6 else p4))])) t
        have q_v18 : v18 = p4 := by rw [hv_v18, if_neg c94_20]
        rw [q_v18] at k
        exact k
    refine OutW.back j19 ?_
    show OutW _ _ _ _ _ _ _ (T16.setTop (mkF m 103 #[.val (.int p1), .val (.int p2), .val (.int p3), .val (.int p4), .val (.int p5), .val (.int p6), .val (.int v1), .val (.int (1 : Int32)), .val (.ref b4)] [(.int v18), (.int (if v1 = (-1 : Int32) then p6 else p4))]))
    refine OutW.back (fun t k => XS.icmpNo X16.here hx rfl (hb hby at_103) rfl (teq hv_v18.symm).2 k) ?_
    show OutW _ _ _ _ _ _ _ (T16.setTop (mkF m 106 #[.val (.int p1), .val (.int p2), .val (.int p3), .val (.int p4), .val (.int p5), .val (.int p6), .val (.int v1), .val (.int (1 : Int32)), .val (.ref b4)] []))
    refine OutW.back (fun t k => XS.aload X16.here hx rfl (hb hby at_106) rfl rfl  k) ?_
    show OutW _ _ _ _ _ _ _ (T16.setTop (mkF m 108 #[.val (.int p1), .val (.int p2), .val (.int p3), .val (.int p4), .val (.int p5), .val (.int p6), .val (.int v1), .val (.int (1 : Int32)), .val (.ref b4)] [(.ref b4)]))
    refine OutW.back (fun t k => XS.iconst X16.here hx rfl (hb hby at_108) k) ?_
    show OutW _ _ _ _ _ _ _ (T16.setTop (mkF m 109 #[.val (.int p1), .val (.int p2), .val (.int p3), .val (.int p4), .val (.int p5), .val (.int p6), .val (.int v1), .val (.int (1 : Int32)), .val (.ref b4)] [(.int (0 : Int32)), (.ref b4)]))
    obtain ⟨cq21, kq21, qa21, qb21, qc21⟩ := isOf hZ e16 E_b4
    obtain ⟨_, _, ⟨T21, L21, k21, n21⟩, -, X21, ⟨Lc21, hQ21, l21, y21, z21⟩, st21⟩ := X16.virtualBack hx (y := (⟨"com/example/xml_document_query/xmldocumentquery/tree/IntColumn", "get", "(I)I"⟩ : MethodName)) (z := (⟨"com/example/xml_document_query/xmldocumentquery/tree/IntColumn", "get", "(I)I"⟩ : MethodName)) hown (mvT hZ (hw _ (List.mem_of_getElem? (i := 78) rfl))) (mvT hZ (hw _ (List.mem_of_getElem? (i := 79) rfl))) (notFace_of_selects (args := #[]) (mvT hZ (hw _ (List.mem_of_getElem? (i := 81) rfl)))) (mvT hZ (hw _ (List.mem_of_getElem? (i := 81) rfl))) (mvT hZ (hw _ (List.mem_of_getElem? (i := 80) rfl))) (by decide) (backOf (W := 0) (rm12_0_2 l Z a0 hw [] b4 bN_5 dN_7 kB_5 kN_7 (if v1 = (0 : Int32) then p6 else p2) (if v1 = (1 : Int32) then p6 else p3) h10 n0 Z10 F_blocks_b4 V_bN_5_7 V_dN_7_10) hZ (hw _ (List.mem_of_getElem? (i := 82) rfl)) (hw _ (List.mem_of_getElem? (i := 2) rfl)) (by decide) (by decide)) qa21 qc21 (g := (mkF m 109 #[.val (.int p1), .val (.int p2), .val (.int p3), .val (.int p4), .val (.int p5), .val (.int p6), .val (.int v1), .val (.int (1 : Int32)), .val (.ref b4)] [(.int (0 : Int32)), (.ref b4)])) rfl (by rw [hml]; rfl) (Steps.refl _) (argsL := [(.int (0 : Int32))]) (rest := []) (lenOf pd_6 rfl) rfl (by show 2 * 0 + _ ≤ _; exact Nat.le_of_eq rfl) (hb hby at_109) (fun _ _ => ⟨rfl, e16, (by decide : 7 + 0 ≤ _), (by decide : 19 + 0 ≤ _)⟩)
    dsimp only [Pt.U, Pt.locs, Pt.cells, Pt.slots] at X21 l21 y21 z21 st21 hQ21
    subst l21 y21 z21
    obtain ⟨rfl, Nq21, e21⟩ := hQ21
    have N21 := Fr.app N16 Nq21
    obtain ⟨lc21, X21, N21⟩ : ∃ lc, Stand p l e room_1 s m #[(.int p1), (.int p2), (.int p3), (.int p4), (.int p5), (.int p6)] below meth c T21 lc 7 19 ∧ Fr n0 lc := ⟨_, X21, N21⟩
    refine OutW.via st21 ?_
    show OutW _ _ _ _ _ _ _ (T21.setTop (mkF m 112 #[.val (.int p1), .val (.int p2), .val (.int p3), .val (.int p4), .val (.int p5), .val (.int p6), .val (.int v1), .val (.int (1 : Int32)), .val (.ref b4)] [(.int (if v1 = (0 : Int32) then p6 else p2))]))
    refine OutW.back (fun t k => XS.iload X21.here hx rfl (hb hby at_112) rfl  k) ?_
    show OutW _ _ _ _ _ _ _ (T21.setTop (mkF m 114 #[.val (.int p1), .val (.int p2), .val (.int p3), .val (.int p4), .val (.int p5), .val (.int p6), .val (.int v1), .val (.int (1 : Int32)), .val (.ref b4)] [(.int v1), (.int (if v1 = (0 : Int32) then p6 else p2))]))
    obtain ⟨v23, hv_v23⟩ : ∃ z : Int32, z = (if v1 = (0 : Int32) then p6 else p2) := ⟨_, rfl⟩
    have j24 : ∀ t, Steps p.tables e below (T21.setTop (mkF m 123 #[.val (.int p1), .val (.int p2), .val (.int p3), .val (.int p4), .val (.int p5), .val (.int p6), .val (.int v1), .val (.int (1 : Int32)), .val (.ref b4)] [(.int v23), (.int (if v1 = (0 : Int32) then p6 else p2))])) t → Steps p.tables e below (T21.setTop (mkF m 114 #[.val (.int p1), .val (.int p2), .val (.int p3), .val (.int p4), .val (.int p5), .val (.int p6), .val (.int v1), .val (.int (1 : Int32)), .val (.ref b4)] [(.int v1), (.int (if v1 = (0 : Int32) then p6 else p2))])) t := by
      intro t k
      by_cases c114_25 : v1 = (0 : Int32)
      · skip
        refine XS.ifNo X21.here hx rfl (hb hby at_114) rfl ((if0 _ _).trans (teq c114_25).2) ?_
        show Steps p.tables e below (T21.setTop (mkF m 117 #[.val (.int p1), .val (.int p2), .val (.int p3), .val (.int p4), .val (.int p5), .val (.int p6), .val (.int v1), .val (.int (1 : Int32)), .val (.ref b4)] [(.int (if v1 = (0 : Int32) then p6 else p2))])) t
        refine XS.iload X21.here hx rfl (hb hby at_117) rfl  ?_
        show Steps p.tables e below (T21.setTop (mkF m 119 #[.val (.int p1), .val (.int p2), .val (.int p3), .val (.int p4), .val (.int p5), .val (.int p6), .val (.int v1), .val (.int (1 : Int32)), .val (.ref b4)] [(.int p6), (.int (if v1 = (0 : Int32) then p6 else p2))])) t
        refine XS.goto X21.here hx rfl (pc0 := 119) (pc' := 123) rfl (hb hby at_119) (by decide) (by decide) ?_
        show Steps p.tables e below (T21.setTop (mkF m 123 #[.val (.int p1), .val (.int p2), .val (.int p3), .val (.int p4), .val (.int p5), .val (.int p6), .val (.int v1), .val (.int (1 : Int32)), .val (.ref b4)] [(.int p6), (.int (if v1 = (0 : Int32) then p6 else p2))])) t
        have q_v23 : v23 = p6 := by rw [hv_v23, if_pos c114_25]
        rw [q_v23] at k
        exact k
      · skip
        refine XS.ifYes X21.here hx rfl (pc0 := 114) (pc' := 122) rfl (hb hby at_114) rfl ((if0 _ _).trans (feq c114_25).2) (by decide) (by decide) ?_
        show Steps p.tables e below (T21.setTop (mkF m 122 #[.val (.int p1), .val (.int p2), .val (.int p3), .val (.int p4), .val (.int p5), .val (.int p6), .val (.int v1), .val (.int (1 : Int32)), .val (.ref b4)] [(.int (if v1 = (0 : Int32) then p6 else p2))])) t
        refine XS.iloadN X21.here hx rfl (hb hby at_122) rfl  ?_
        show Steps p.tables e below (T21.setTop (mkF m 123 #[.val (.int p1), .val (.int p2), .val (.int p3), .val (.int p4), .val (.int p5), .val (.int p6), .val (.int v1), .val (.int (1 : Int32)), .val (.ref b4)] [(.int p2), (.int (if v1 = (0 : Int32) then p6 else p2))])) t
        have q_v23 : v23 = p2 := by rw [hv_v23, if_neg c114_25]
        rw [q_v23] at k
        exact k
    refine OutW.back j24 ?_
    show OutW _ _ _ _ _ _ _ (T21.setTop (mkF m 123 #[.val (.int p1), .val (.int p2), .val (.int p3), .val (.int p4), .val (.int p5), .val (.int p6), .val (.int v1), .val (.int (1 : Int32)), .val (.ref b4)] [(.int v23), (.int (if v1 = (0 : Int32) then p6 else p2))]))
    refine OutW.back (fun t k => XS.icmpNo X21.here hx rfl (hb hby at_123) rfl (teq hv_v23.symm).2 k) ?_
    show OutW _ _ _ _ _ _ _ (T21.setTop (mkF m 126 #[.val (.int p1), .val (.int p2), .val (.int p3), .val (.int p4), .val (.int p5), .val (.int p6), .val (.int v1), .val (.int (1 : Int32)), .val (.ref b4)] []))
    refine OutW.back (fun t k => XS.aload X21.here hx rfl (hb hby at_126) rfl rfl  k) ?_
    show OutW _ _ _ _ _ _ _ (T21.setTop (mkF m 128 #[.val (.int p1), .val (.int p2), .val (.int p3), .val (.int p4), .val (.int p5), .val (.int p6), .val (.int v1), .val (.int (1 : Int32)), .val (.ref b4)] [(.ref b4)]))
    refine OutW.back (fun t k => XS.iconst X21.here hx rfl (hb hby at_128) k) ?_
    show OutW _ _ _ _ _ _ _ (T21.setTop (mkF m 129 #[.val (.int p1), .val (.int p2), .val (.int p3), .val (.int p4), .val (.int p5), .val (.int p6), .val (.int v1), .val (.int (1 : Int32)), .val (.ref b4)] [(.int (1 : Int32)), (.ref b4)]))
    obtain ⟨cq26, kq26, qa26, qb26, qc26⟩ := isOf hZ e21 E_b4
    obtain ⟨_, _, ⟨T26, L26, k26, n26⟩, -, X26, ⟨Lc26, hQ26, l26, y26, z26⟩, st26⟩ := X21.virtualBack hx (y := (⟨"com/example/xml_document_query/xmldocumentquery/tree/IntColumn", "get", "(I)I"⟩ : MethodName)) (z := (⟨"com/example/xml_document_query/xmldocumentquery/tree/IntColumn", "get", "(I)I"⟩ : MethodName)) hown (mvT hZ (hw _ (List.mem_of_getElem? (i := 78) rfl))) (mvT hZ (hw _ (List.mem_of_getElem? (i := 79) rfl))) (notFace_of_selects (args := #[]) (mvT hZ (hw _ (List.mem_of_getElem? (i := 81) rfl)))) (mvT hZ (hw _ (List.mem_of_getElem? (i := 81) rfl))) (mvT hZ (hw _ (List.mem_of_getElem? (i := 80) rfl))) (by decide) (backOf (W := 0) (rm12_1_2 l Z a0 hw [] b4 bN_5 dN_7 kB_5 kN_7 (if v1 = (0 : Int32) then p6 else p2) (if v1 = (1 : Int32) then p6 else p3) h10 n0 Z10 F_blocks_b4 V_bN_5_7 V_dN_7_10) hZ (hw _ (List.mem_of_getElem? (i := 82) rfl)) (hw _ (List.mem_of_getElem? (i := 2) rfl)) (by decide) (by decide)) qa26 qc26 (g := (mkF m 129 #[.val (.int p1), .val (.int p2), .val (.int p3), .val (.int p4), .val (.int p5), .val (.int p6), .val (.int v1), .val (.int (1 : Int32)), .val (.ref b4)] [(.int (1 : Int32)), (.ref b4)])) rfl (by rw [hml]; rfl) (Steps.refl _) (argsL := [(.int (1 : Int32))]) (rest := []) (lenOf pd_6 rfl) rfl (by show 2 * 0 + _ ≤ _; exact Nat.le_of_eq rfl) (hb hby at_129) (fun _ _ => ⟨rfl, e21, (by decide : 7 + 0 ≤ _), (by decide : 19 + 0 ≤ _)⟩)
    dsimp only [Pt.U, Pt.locs, Pt.cells, Pt.slots] at X26 l26 y26 z26 st26 hQ26
    subst l26 y26 z26
    obtain ⟨rfl, Nq26, e26⟩ := hQ26
    have N26 := Fr.app N21 Nq26
    obtain ⟨lc26, X26, N26⟩ : ∃ lc, Stand p l e room_1 s m #[(.int p1), (.int p2), (.int p3), (.int p4), (.int p5), (.int p6)] below meth c T26 lc 7 19 ∧ Fr n0 lc := ⟨_, X26, N26⟩
    refine OutW.via st26 ?_
    show OutW _ _ _ _ _ _ _ (T26.setTop (mkF m 132 #[.val (.int p1), .val (.int p2), .val (.int p3), .val (.int p4), .val (.int p5), .val (.int p6), .val (.int v1), .val (.int (1 : Int32)), .val (.ref b4)] [(.int (if v1 = (1 : Int32) then p6 else p3))]))
    refine OutW.back (fun t k => XS.iload X26.here hx rfl (hb hby at_132) rfl  k) ?_
    show OutW _ _ _ _ _ _ _ (T26.setTop (mkF m 134 #[.val (.int p1), .val (.int p2), .val (.int p3), .val (.int p4), .val (.int p5), .val (.int p6), .val (.int v1), .val (.int (1 : Int32)), .val (.ref b4)] [(.int v1), (.int (if v1 = (1 : Int32) then p6 else p3))]))
    refine OutW.back (fun t k => XS.iconst X26.here hx rfl (hb hby at_134) k) ?_
    show OutW _ _ _ _ _ _ _ (T26.setTop (mkF m 135 #[.val (.int p1), .val (.int p2), .val (.int p3), .val (.int p4), .val (.int p5), .val (.int p6), .val (.int v1), .val (.int (1 : Int32)), .val (.ref b4)] [(.int (1 : Int32)), (.int v1), (.int (if v1 = (1 : Int32) then p6 else p3))]))
    obtain ⟨v28, hv_v28⟩ : ∃ z : Int32, z = (if v1 = (1 : Int32) then p6 else p3) := ⟨_, rfl⟩
    have j29 : ∀ t, Steps p.tables e below (T26.setTop (mkF m 144 #[.val (.int p1), .val (.int p2), .val (.int p3), .val (.int p4), .val (.int p5), .val (.int p6), .val (.int v1), .val (.int (1 : Int32)), .val (.ref b4)] [(.int v28), (.int (if v1 = (1 : Int32) then p6 else p3))])) t → Steps p.tables e below (T26.setTop (mkF m 135 #[.val (.int p1), .val (.int p2), .val (.int p3), .val (.int p4), .val (.int p5), .val (.int p6), .val (.int v1), .val (.int (1 : Int32)), .val (.ref b4)] [(.int (1 : Int32)), (.int v1), (.int (if v1 = (1 : Int32) then p6 else p3))])) t := by
      intro t k
      by_cases c135_30 : v1 = (1 : Int32)
      · skip
        refine XS.icmpNo X26.here hx rfl (hb hby at_135) rfl (teq c135_30).2 ?_
        show Steps p.tables e below (T26.setTop (mkF m 138 #[.val (.int p1), .val (.int p2), .val (.int p3), .val (.int p4), .val (.int p5), .val (.int p6), .val (.int v1), .val (.int (1 : Int32)), .val (.ref b4)] [(.int (if v1 = (1 : Int32) then p6 else p3))])) t
        refine XS.iload X26.here hx rfl (hb hby at_138) rfl  ?_
        show Steps p.tables e below (T26.setTop (mkF m 140 #[.val (.int p1), .val (.int p2), .val (.int p3), .val (.int p4), .val (.int p5), .val (.int p6), .val (.int v1), .val (.int (1 : Int32)), .val (.ref b4)] [(.int p6), (.int (if v1 = (1 : Int32) then p6 else p3))])) t
        refine XS.goto X26.here hx rfl (pc0 := 140) (pc' := 144) rfl (hb hby at_140) (by decide) (by decide) ?_
        show Steps p.tables e below (T26.setTop (mkF m 144 #[.val (.int p1), .val (.int p2), .val (.int p3), .val (.int p4), .val (.int p5), .val (.int p6), .val (.int v1), .val (.int (1 : Int32)), .val (.ref b4)] [(.int p6), (.int (if v1 = (1 : Int32) then p6 else p3))])) t
        have q_v28 : v28 = p6 := by rw [hv_v28, if_pos c135_30]
        rw [q_v28] at k
        exact k
      · skip
        refine XS.icmpYes X26.here hx rfl (pc0 := 135) (pc' := 143) rfl (hb hby at_135) rfl (feq c135_30).2 (by decide) (by decide) ?_
        show Steps p.tables e below (T26.setTop (mkF m 143 #[.val (.int p1), .val (.int p2), .val (.int p3), .val (.int p4), .val (.int p5), .val (.int p6), .val (.int v1), .val (.int (1 : Int32)), .val (.ref b4)] [(.int (if v1 = (1 : Int32) then p6 else p3))])) t
        refine XS.iloadN X26.here hx rfl (hb hby at_143) rfl  ?_
        show Steps p.tables e below (T26.setTop (mkF m 144 #[.val (.int p1), .val (.int p2), .val (.int p3), .val (.int p4), .val (.int p5), .val (.int p6), .val (.int v1), .val (.int (1 : Int32)), .val (.ref b4)] [(.int p3), (.int (if v1 = (1 : Int32) then p6 else p3))])) t
        have q_v28 : v28 = p3 := by rw [hv_v28, if_neg c135_30]
        rw [q_v28] at k
        exact k
    refine OutW.back j29 ?_
    show OutW _ _ _ _ _ _ _ (T26.setTop (mkF m 144 #[.val (.int p1), .val (.int p2), .val (.int p3), .val (.int p4), .val (.int p5), .val (.int p6), .val (.int v1), .val (.int (1 : Int32)), .val (.ref b4)] [(.int v28), (.int (if v1 = (1 : Int32) then p6 else p3))]))
    refine OutW.back (fun t k => XS.icmpNo X26.here hx rfl (hb hby at_144) rfl (teq hv_v28.symm).2 k) ?_
    show OutW _ _ _ _ _ _ _ (T26.setTop (mkF m 147 #[.val (.int p1), .val (.int p2), .val (.int p3), .val (.int p4), .val (.int p5), .val (.int p6), .val (.int v1), .val (.int (1 : Int32)), .val (.ref b4)] []))
    refine OutW.back (fun t k => XS.iconst X26.here hx rfl (hb hby at_147) k) ?_
    show OutW _ _ _ _ _ _ _ (T26.setTop (mkF m 148 #[.val (.int p1), .val (.int p2), .val (.int p3), .val (.int p4), .val (.int p5), .val (.int p6), .val (.int v1), .val (.int (1 : Int32)), .val (.ref b4)] [(.int (1 : Int32))]))
    refine OutW.back (fun t k => XS.goto X26.here hx rfl (pc0 := 148) (pc' := 152) rfl (hb hby at_148) (by decide) (by decide) k) ?_
    show OutW _ _ _ _ _ _ _ (T26.setTop (mkF m 152 #[.val (.int p1), .val (.int p2), .val (.int p3), .val (.int p4), .val (.int p5), .val (.int p6), .val (.int v1), .val (.int (1 : Int32)), .val (.ref b4)] [(.int (1 : Int32))]))
    refine OutW.retN X26 hx (t := .boolean) (z' := 1) Bd.returns (by simp) hlk (hb hby at_152) ?hz (by decide) (by decide) ?_
    case hz =>
      rfl
    show Q0 Z p1 p2 p3 p4 p5 p6 h0 n0 _ T26.heap _
    rw [e26]
    exact ⟨rfl, N26⟩
  · skip
    show OutW _ _ _ _ _ _ _ (s₁.setTop (mkF m 16 #[.val (.int p1), .val (.int p2), .val (.int p3), .val (.int p4), .val (.int p5), .val (.int p6), .val (.int v1), .val (.int (2 : Int32)), .unset] []))
    obtain ⟨T31, h31, X31, e31, E31, A31, D31, -, st31⟩ := newO X0 hx hZ hown (hw _ (List.mem_of_getElem? (i := 0) rfl)) (hw _ (List.mem_of_getElem? (i := 1) rfl)) (hw _ (List.mem_of_getElem? (i := 2) rfl)) e0 (g := (mkF m 16 #[.val (.int p1), .val (.int p2), .val (.int p3), .val (.int p4), .val (.int p5), .val (.int p6), .val (.int v1), .val (.int (2 : Int32)), .unset] [])) rfl (hb hby at_16) (by decide) (by decide)
    obtain ⟨b31, g31⟩ : ∃ z, z = h0.size := ⟨_, rfl⟩
    rw [← g31] at A31 D31 st31
    have g_b31 : n0 ≤ b31 := Nat.le_trans Z0 (Nat.le_of_eq g31.symm)
    have sz_b31 : h0.size ≤ b31 := Nat.le_trans K0.1 (Nat.le_of_eq g31.symm)
    have Z31 : n0 ≤ h31.size := Nat.le_trans Z0 E31.1
    have K31 := K0.ext E31
    have E_b31 := A31
    have F_blockBits_b31 : Fld Z h31 b31 "com/example/xml_document_query/xmldocumentquery/tree/BlockedArray" "blockBits" "I" (.int (0 : Int32)) := D31 (Or.inr (hw _ (List.mem_of_getElem? (i := 15) rfl))) (ty := .int) (by decide)
    have F_capacity_b31 : Fld Z h31 b31 "com/example/xml_document_query/xmldocumentquery/tree/BlockedArray" "capacity" "I" (.int (0 : Int32)) := D31 (Or.inl (hw _ (List.mem_of_getElem? (i := 17) rfl))) (ty := .int) (by decide)
    have F_blocks_b31 : Fld Z h31 b31 "com/example/xml_document_query/xmldocumentquery/tree/IntColumn" "blocks" "[[I" .null := D31 (Or.inl (hw _ (List.mem_of_getElem? (i := 23) rfl))) (ty := (.array (.array .int))) (by decide)
    have F_size_b31 : Fld Z h31 b31 "com/example/xml_document_query/xmldocumentquery/tree/IntColumn" "size" "I" (.int (0 : Int32)) := D31 (Or.inl (hw _ (List.mem_of_getElem? (i := 30) rfl))) (ty := .int) (by decide)
    have F_before_b31 : Fld Z h31 b31 "com/example/xml_document_query/xmldocumentquery/tree/IntColumn" "before" "Lcom/example/xml_document_query/xmldocumentquery/tree/IntColumn;" .null := D31 (Or.inl (hw _ (List.mem_of_getElem? (i := 68) rfl))) (ty := (.object "com/example/xml_document_query/xmldocumentquery/tree/IntColumn")) (by decide)
    refine OutW.back st31 ?_
    show OutW _ _ _ _ _ _ _ (T31.setTop (mkF m 19 #[.val (.int p1), .val (.int p2), .val (.int p3), .val (.int p4), .val (.int p5), .val (.int p6), .val (.int v1), .val (.int (2 : Int32)), .unset] [(.ref b31)]))
    refine OutW.back (fun t k => XS.dup X31.here hx rfl (hb hby at_19) rfl rfl k) ?_
    show OutW _ _ _ _ _ _ _ (T31.setTop (mkF m 20 #[.val (.int p1), .val (.int p2), .val (.int p3), .val (.int p4), .val (.int p5), .val (.int p6), .val (.int v1), .val (.int (2 : Int32)), .unset] [(.ref b31), (.ref b31)]))
    refine OutW.back (fun t k => XS.iload X31.here hx rfl (hb hby at_20) rfl  k) ?_
    show OutW _ _ _ _ _ _ _ (T31.setTop (mkF m 22 #[.val (.int p1), .val (.int p2), .val (.int p3), .val (.int p4), .val (.int p5), .val (.int p6), .val (.int v1), .val (.int (2 : Int32)), .unset] [(.int (2 : Int32)), (.ref b31), (.ref b31)]))
    obtain ⟨_, _, ⟨T32, L32, k32, n32⟩, -, X32, ⟨Lc32, hQ32, l32, y32, z32⟩, st32⟩ := X31.specialBack hx (y := (⟨"com/example/xml_document_query/xmldocumentquery/tree/IntColumn", "<init>", "(I)V"⟩ : MethodName)) rfl hown (mvT hZ (hw _ (List.mem_of_getElem? (i := 3) rfl))) (mvT hZ (hw _ (List.mem_of_getElem? (i := 4) rfl))) (mvT hZ (hw _ (List.mem_of_getElem? (i := 5) rfl))) (by decide) (backOf (W := 1) (rm1_2 l Z a0 hw [] b31 h31 n0 Z31 E_b31 g_b31 F_blockBits_b31 F_capacity_b31 F_size_b31 F_blocks_b31 F_before_b31) hZ (hw _ (List.mem_of_getElem? (i := 5) rfl)) (hw _ (List.mem_of_getElem? (i := 2) rfl)) (by decide) (by decide)) (g := (mkF m 22 #[.val (.int p1), .val (.int p2), .val (.int p3), .val (.int p4), .val (.int p5), .val (.int p6), .val (.int v1), .val (.int (2 : Int32)), .unset] [(.int (2 : Int32)), (.ref b31), (.ref b31)])) rfl (by rw [hml]; rfl) (Steps.refl _) (a := b31) (argsL := [(.int (2 : Int32))]) (rest := [(.ref b31)]) (lenOf pd_3 rfl) rfl (by show 2 * 0 + _ ≤ _; exact Nat.le_of_eq rfl) (hb hby at_22) (fun _ _ => ⟨rfl, e31, (by decide : 1 + 2 ≤ _), (by decide : 5 + 3 ≤ _)⟩)
    dsimp only [Pt.U, Pt.locs, Pt.cells, Pt.slots] at X32 l32 y32 z32 st32 hQ32
    subst l32 y32 z32
    obtain ⟨h32, eh32⟩ : ∃ z, z = T32.heap := ⟨_, rfl⟩
    rw [← eh32] at hQ32
    have e32 : T32.heap = h32 := eh32.symm
    obtain ⟨bN_32, dN_32, kB_32, kD_32, rfl, Nq32, Kq32, F_blockBits_b31, F_capacity_b31, F_size_b31, F_blocks_b31, F_before_b31, szq_bN_32, szq_dN_32, g_bN_32, g_dN_32, ne_bN_32_dN_32, V_bN_32, V_dN_32, O_bN_32⟩ := hQ32
    have lt32_b31 := E_b31.lt
    have ne_b31_bN_32 : b31 ≠ bN_32 := Nat.ne_of_lt (Nat.lt_of_lt_of_le lt32_b31 szq_bN_32)
    have sz_bN_32 : h0.size ≤ bN_32 := Nat.le_trans K31.1 szq_bN_32
    have ne_b31_dN_32 : b31 ≠ dN_32 := Nat.ne_of_lt (Nat.lt_of_lt_of_le lt32_b31 szq_dN_32)
    have sz_dN_32 : h0.size ≤ dN_32 := Nat.le_trans K31.1 szq_dN_32
    have E_b31 := E_b31.keep Kq32
    have Z32 : n0 ≤ h32.size := Nat.le_trans Z31 Kq32.1
    have K32 := K31.trans Kq32 (allS (Or.inr sz_b31) all0)
    have N32 := Fr.app N0 Nq32
    obtain ⟨lc32, X32, N32⟩ : ∃ lc, Stand p l e room_1 s m #[(.int p1), (.int p2), (.int p3), (.int p4), (.int p5), (.int p6)] below meth c T32 lc 3 8 ∧ Fr n0 lc := ⟨_, X32, N32⟩
    refine OutW.via st32 ?_
    show OutW _ _ _ _ _ _ _ (T32.setTop (mkF m 25 #[.val (.int p1), .val (.int p2), .val (.int p3), .val (.int p4), .val (.int p5), .val (.int p6), .val (.int v1), .val (.int (2 : Int32)), .unset] [(.ref b31)]))
    refine OutW.back (fun t k => XS.astore X32.here hx rfl (hb hby at_25) rfl rfl (l' := #[.val (.int p1), .val (.int p2), .val (.int p3), .val (.int p4), .val (.int p5), .val (.int p6), .val (.int v1), .val (.int (2 : Int32)), .val (.ref b31)]) rfl k) ?_
    show OutW _ _ _ _ _ _ _ (T32.setTop (mkF m 27 #[.val (.int p1), .val (.int p2), .val (.int p3), .val (.int p4), .val (.int p5), .val (.int p6), .val (.int v1), .val (.int (2 : Int32)), .val (.ref b31)] []))
    refine OutW.back (fun t k => XS.aload X32.here hx rfl (hb hby at_27) rfl rfl  k) ?_
    show OutW _ _ _ _ _ _ _ (T32.setTop (mkF m 29 #[.val (.int p1), .val (.int p2), .val (.int p3), .val (.int p4), .val (.int p5), .val (.int p6), .val (.int v1), .val (.int (2 : Int32)), .val (.ref b31)] [(.ref b31)]))
    refine OutW.back (fun t k => XS.iloadN X32.here hx rfl (hb hby at_29) rfl  k) ?_
    show OutW _ _ _ _ _ _ _ (T32.setTop (mkF m 30 #[.val (.int p1), .val (.int p2), .val (.int p3), .val (.int p4), .val (.int p5), .val (.int p6), .val (.int v1), .val (.int (2 : Int32)), .val (.ref b31)] [(.int p2), (.ref b31)]))
    obtain ⟨cq33, kq33, qa33, qb33, qc33⟩ := isOf hZ e32 E_b31
    obtain ⟨_, _, ⟨T33, L33, k33, n33⟩, -, X33, ⟨Lc33, hQ33, l33, y33, z33⟩, st33⟩ := X32.virtualBack hx (y := (⟨"com/example/xml_document_query/xmldocumentquery/tree/IntColumn", "add", "(I)V"⟩ : MethodName)) (z := (⟨"com/example/xml_document_query/xmldocumentquery/tree/IntColumn", "add", "(I)V"⟩ : MethodName)) hown (mvT hZ (hw _ (List.mem_of_getElem? (i := 24) rfl))) (mvT hZ (hw _ (List.mem_of_getElem? (i := 25) rfl))) (notFace_of_selects (args := #[]) (mvT hZ (hw _ (List.mem_of_getElem? (i := 27) rfl)))) (mvT hZ (hw _ (List.mem_of_getElem? (i := 27) rfl))) (mvT hZ (hw _ (List.mem_of_getElem? (i := 26) rfl))) (by decide) (backOf (W := 0) (rm4_0_2 l Z a0 hw [] b31 p2 bN_32 dN_32 kB_32 kD_32 (0 : Int32) (0 : Int32) .null h32 n0 Z32 E_b31 g_b31 F_blockBits_b31 F_capacity_b31 F_size_b31 F_blocks_b31 F_before_b31 V_bN_32 O_bN_32 V_dN_32 ne_b31_bN_32 (Ne.symm ne_bN_32_dN_32) (Ne.symm ne_b31_dN_32) g_bN_32 g_dN_32) hZ (hw _ (List.mem_of_getElem? (i := 28) rfl)) (hw _ (List.mem_of_getElem? (i := 2) rfl)) (by decide) (by decide)) qa33 qc33 (g := (mkF m 30 #[.val (.int p1), .val (.int p2), .val (.int p3), .val (.int p4), .val (.int p5), .val (.int p6), .val (.int v1), .val (.int (2 : Int32)), .val (.ref b31)] [(.int p2), (.ref b31)])) rfl (by rw [hml]; rfl) (Steps.refl _) (argsL := [(.int p2)]) (rest := []) (lenOf pd_3 rfl) rfl (by show 2 * 0 + _ ≤ _; exact Nat.le_of_eq rfl) (hb hby at_30) (fun _ _ => ⟨rfl, e32, (by decide : 3 + 0 ≤ _), (by decide : 8 + 0 ≤ _)⟩)
    dsimp only [Pt.U, Pt.locs, Pt.cells, Pt.slots] at X33 l33 y33 z33 st33 hQ33
    subst l33 y33 z33
    obtain ⟨h33, eh33⟩ : ∃ z, z = T33.heap := ⟨_, rfl⟩
    rw [← eh33] at hQ33
    have e33 : T33.heap = h33 := eh33.symm
    obtain ⟨rfl, Nq33, Kq33, F_blockBits_b31, F_capacity_b31, F_size_b31, F_blocks_b31, F_before_b31, V_dN_32_33⟩ := hQ33
    have E_b31 := E_b31.keep Kq33
    have V_bN_32 := V_bN_32.keep Kq33 (ninS (Ne.symm ne_b31_bN_32) (ninS ne_bN_32_dN_32 nin0))
    have Z33 : n0 ≤ h33.size := Nat.le_trans Z32 Kq33.1
    have K33 := K32.trans Kq33 (allS (Or.inr sz_b31) (allS (Or.inr sz_dN_32) all0))
    have N33 := Fr.app N32 Nq33
    obtain ⟨lc33, X33, N33⟩ : ∃ lc, Stand p l e room_1 s m #[(.int p1), (.int p2), (.int p3), (.int p4), (.int p5), (.int p6)] below meth c T33 lc 3 8 ∧ Fr n0 lc := ⟨_, X33, N33⟩
    refine OutW.via st33 ?_
    show OutW _ _ _ _ _ _ _ (T33.setTop (mkF m 33 #[.val (.int p1), .val (.int p2), .val (.int p3), .val (.int p4), .val (.int p5), .val (.int p6), .val (.int v1), .val (.int (2 : Int32)), .val (.ref b31)] []))
    refine OutW.back (fun t k => XS.aload X33.here hx rfl (hb hby at_33) rfl rfl  k) ?_
    show OutW _ _ _ _ _ _ _ (T33.setTop (mkF m 35 #[.val (.int p1), .val (.int p2), .val (.int p3), .val (.int p4), .val (.int p5), .val (.int p6), .val (.int v1), .val (.int (2 : Int32)), .val (.ref b31)] [(.ref b31)]))
    refine OutW.back (fun t k => XS.iloadN X33.here hx rfl (hb hby at_35) rfl  k) ?_
    show OutW _ _ _ _ _ _ _ (T33.setTop (mkF m 36 #[.val (.int p1), .val (.int p2), .val (.int p3), .val (.int p4), .val (.int p5), .val (.int p6), .val (.int v1), .val (.int (2 : Int32)), .val (.ref b31)] [(.int p3), (.ref b31)]))
    obtain ⟨cq34, kq34, qa34, qb34, qc34⟩ := isOf hZ e33 E_b31
    obtain ⟨_, _, ⟨T34, L34, k34, n34⟩, -, X34, ⟨Lc34, hQ34, l34, y34, z34⟩, st34⟩ := X33.virtualBack hx (y := (⟨"com/example/xml_document_query/xmldocumentquery/tree/IntColumn", "add", "(I)V"⟩ : MethodName)) (z := (⟨"com/example/xml_document_query/xmldocumentquery/tree/IntColumn", "add", "(I)V"⟩ : MethodName)) hown (mvT hZ (hw _ (List.mem_of_getElem? (i := 24) rfl))) (mvT hZ (hw _ (List.mem_of_getElem? (i := 25) rfl))) (notFace_of_selects (args := #[]) (mvT hZ (hw _ (List.mem_of_getElem? (i := 27) rfl)))) (mvT hZ (hw _ (List.mem_of_getElem? (i := 27) rfl))) (mvT hZ (hw _ (List.mem_of_getElem? (i := 26) rfl))) (by decide) (backOf (W := 0) (rm4_1_2 l Z a0 hw [] b31 p3 bN_32 dN_32 kB_32 kD_32 p2 (0 : Int32) .null h33 n0 Z33 E_b31 g_b31 F_blockBits_b31 F_capacity_b31 F_size_b31 F_blocks_b31 F_before_b31 V_bN_32 O_bN_32 V_dN_32_33 ne_b31_bN_32 (Ne.symm ne_bN_32_dN_32) (Ne.symm ne_b31_dN_32) g_bN_32 g_dN_32) hZ (hw _ (List.mem_of_getElem? (i := 28) rfl)) (hw _ (List.mem_of_getElem? (i := 2) rfl)) (by decide) (by decide)) qa34 qc34 (g := (mkF m 36 #[.val (.int p1), .val (.int p2), .val (.int p3), .val (.int p4), .val (.int p5), .val (.int p6), .val (.int v1), .val (.int (2 : Int32)), .val (.ref b31)] [(.int p3), (.ref b31)])) rfl (by rw [hml]; rfl) (Steps.refl _) (argsL := [(.int p3)]) (rest := []) (lenOf pd_3 rfl) rfl (by show 2 * 0 + _ ≤ _; exact Nat.le_of_eq rfl) (hb hby at_36) (fun _ _ => ⟨rfl, e33, (by decide : 3 + 0 ≤ _), (by decide : 8 + 0 ≤ _)⟩)
    dsimp only [Pt.U, Pt.locs, Pt.cells, Pt.slots] at X34 l34 y34 z34 st34 hQ34
    subst l34 y34 z34
    obtain ⟨h34, eh34⟩ : ∃ z, z = T34.heap := ⟨_, rfl⟩
    rw [← eh34] at hQ34
    have e34 : T34.heap = h34 := eh34.symm
    obtain ⟨rfl, Nq34, Kq34, F_blockBits_b31, F_capacity_b31, F_size_b31, F_blocks_b31, F_before_b31, V_dN_32_34⟩ := hQ34
    have E_b31 := E_b31.keep Kq34
    have V_bN_32 := V_bN_32.keep Kq34 (ninS (Ne.symm ne_b31_bN_32) (ninS ne_bN_32_dN_32 nin0))
    have Z34 : n0 ≤ h34.size := Nat.le_trans Z33 Kq34.1
    have K34 := K33.trans Kq34 (allS (Or.inr sz_b31) (allS (Or.inr sz_dN_32) all0))
    have N34 := Fr.app N33 Nq34
    obtain ⟨lc34, X34, N34⟩ : ∃ lc, Stand p l e room_1 s m #[(.int p1), (.int p2), (.int p3), (.int p4), (.int p5), (.int p6)] below meth c T34 lc 3 8 ∧ Fr n0 lc := ⟨_, X34, N34⟩
    refine OutW.via st34 ?_
    show OutW _ _ _ _ _ _ _ (T34.setTop (mkF m 39 #[.val (.int p1), .val (.int p2), .val (.int p3), .val (.int p4), .val (.int p5), .val (.int p6), .val (.int v1), .val (.int (2 : Int32)), .val (.ref b31)] []))
    refine OutW.back (fun t k => XS.aload X34.here hx rfl (hb hby at_39) rfl rfl  k) ?_
    show OutW _ _ _ _ _ _ _ (T34.setTop (mkF m 41 #[.val (.int p1), .val (.int p2), .val (.int p3), .val (.int p4), .val (.int p5), .val (.int p6), .val (.int v1), .val (.int (2 : Int32)), .val (.ref b31)] [(.ref b31)]))
    refine OutW.back (fun t k => XS.iloadN X34.here hx rfl (hb hby at_41) rfl  k) ?_
    show OutW _ _ _ _ _ _ _ (T34.setTop (mkF m 42 #[.val (.int p1), .val (.int p2), .val (.int p3), .val (.int p4), .val (.int p5), .val (.int p6), .val (.int v1), .val (.int (2 : Int32)), .val (.ref b31)] [(.int p4), (.ref b31)]))
    obtain ⟨cq35, kq35, qa35, qb35, qc35⟩ := isOf hZ e34 E_b31
    obtain ⟨_, _, ⟨T35, L35, k35, n35⟩, -, X35, ⟨Lc35, hQ35, l35, y35, z35⟩, st35⟩ := X34.virtualBack hx (y := (⟨"com/example/xml_document_query/xmldocumentquery/tree/IntColumn", "addFirst", "(I)V"⟩ : MethodName)) (z := (⟨"com/example/xml_document_query/xmldocumentquery/tree/IntColumn", "addFirst", "(I)V"⟩ : MethodName)) hown (mvT hZ (hw _ (List.mem_of_getElem? (i := 62) rfl))) (mvT hZ (hw _ (List.mem_of_getElem? (i := 63) rfl))) (notFace_of_selects (args := #[]) (mvT hZ (hw _ (List.mem_of_getElem? (i := 65) rfl)))) (mvT hZ (hw _ (List.mem_of_getElem? (i := 65) rfl))) (mvT hZ (hw _ (List.mem_of_getElem? (i := 64) rfl))) (by decide) (backOf (W := 0) (rm10_0 l Z a0 hw [] b31 p4 (2 : Int32) bN_32 h34 n0 Z34 E_b31 g_b31 F_blockBits_b31 F_capacity_b31 F_size_b31 F_blocks_b31 F_before_b31) hZ (hw _ (List.mem_of_getElem? (i := 66) rfl)) (hw _ (List.mem_of_getElem? (i := 2) rfl)) (by decide) (by decide)) qa35 qc35 (g := (mkF m 42 #[.val (.int p1), .val (.int p2), .val (.int p3), .val (.int p4), .val (.int p5), .val (.int p6), .val (.int v1), .val (.int (2 : Int32)), .val (.ref b31)] [(.int p4), (.ref b31)])) rfl (by rw [hml]; rfl) (Steps.refl _) (argsL := [(.int p4)]) (rest := []) (lenOf pd_3 rfl) rfl (by show 2 * 0 + _ ≤ _; exact Nat.le_of_eq rfl) (hb hby at_42) (fun _ _ => ⟨rfl, e34, (by decide : 3 + 3 ≤ _), (by decide : 8 + 10 ≤ _)⟩)
    dsimp only [Pt.U, Pt.locs, Pt.cells, Pt.slots] at X35 l35 y35 z35 st35 hQ35
    subst l35 y35 z35
    obtain ⟨h35, eh35⟩ : ∃ z, z = T35.heap := ⟨_, rfl⟩
    rw [← eh35] at hQ35
    have e35 : T35.heap = h35 := eh35.symm
    obtain ⟨cN_35, bN_35, dN_35, kB_35, kD_35, rfl, Nq35, Kq35, F_blockBits_b31, F_capacity_b31, F_size_b31, F_blocks_b31, F_before_b31, szq_cN_35, szq_bN_35, szq_dN_35, g_cN_35, g_bN_35, g_dN_35, ne_cN_35_bN_35, ne_cN_35_dN_35, ne_bN_35_dN_35, E_cN_35, F_blockBits_cN_35, F_capacity_cN_35, F_size_cN_35, F_blocks_cN_35, F_before_cN_35, V_bN_35, V_dN_35, O_bN_35⟩ := hQ35
    have lt35_b31 := E_b31.lt
    have lt35_bN_32 := V_bN_32.lt
    have lt35_dN_32 := V_dN_32_34.lt
    have ne_b31_cN_35 : b31 ≠ cN_35 := Nat.ne_of_lt (Nat.lt_of_lt_of_le lt35_b31 szq_cN_35)
    have ne_bN_32_cN_35 : bN_32 ≠ cN_35 := Nat.ne_of_lt (Nat.lt_of_lt_of_le lt35_bN_32 szq_cN_35)
    have ne_dN_32_cN_35 : dN_32 ≠ cN_35 := Nat.ne_of_lt (Nat.lt_of_lt_of_le lt35_dN_32 szq_cN_35)
    have sz_cN_35 : h0.size ≤ cN_35 := Nat.le_trans K34.1 szq_cN_35
    have ne_b31_bN_35 : b31 ≠ bN_35 := Nat.ne_of_lt (Nat.lt_of_lt_of_le lt35_b31 szq_bN_35)
    have ne_bN_32_bN_35 : bN_32 ≠ bN_35 := Nat.ne_of_lt (Nat.lt_of_lt_of_le lt35_bN_32 szq_bN_35)
    have ne_dN_32_bN_35 : dN_32 ≠ bN_35 := Nat.ne_of_lt (Nat.lt_of_lt_of_le lt35_dN_32 szq_bN_35)
    have sz_bN_35 : h0.size ≤ bN_35 := Nat.le_trans K34.1 szq_bN_35
    have ne_b31_dN_35 : b31 ≠ dN_35 := Nat.ne_of_lt (Nat.lt_of_lt_of_le lt35_b31 szq_dN_35)
    have ne_bN_32_dN_35 : bN_32 ≠ dN_35 := Nat.ne_of_lt (Nat.lt_of_lt_of_le lt35_bN_32 szq_dN_35)
    have ne_dN_32_dN_35 : dN_32 ≠ dN_35 := Nat.ne_of_lt (Nat.lt_of_lt_of_le lt35_dN_32 szq_dN_35)
    have sz_dN_35 : h0.size ≤ dN_35 := Nat.le_trans K34.1 szq_dN_35
    have E_b31 := E_b31.keep Kq35
    have V_bN_32 := V_bN_32.keep Kq35 (ninS (Ne.symm ne_b31_bN_32) nin0)
    have V_dN_32_34 := V_dN_32_34.keep Kq35 (ninS (Ne.symm ne_b31_dN_32) nin0)
    have Z35 : n0 ≤ h35.size := Nat.le_trans Z34 Kq35.1
    have K35 := K34.trans Kq35 (allS (Or.inr sz_b31) all0)
    have N35 := Fr.app N34 Nq35
    obtain ⟨lc35, X35, N35⟩ : ∃ lc, Stand p l e room_1 s m #[(.int p1), (.int p2), (.int p3), (.int p4), (.int p5), (.int p6)] below meth c T35 lc 6 18 ∧ Fr n0 lc := ⟨_, X35, N35⟩
    refine OutW.via st35 ?_
    show OutW _ _ _ _ _ _ _ (T35.setTop (mkF m 45 #[.val (.int p1), .val (.int p2), .val (.int p3), .val (.int p4), .val (.int p5), .val (.int p6), .val (.int v1), .val (.int (2 : Int32)), .val (.ref b31)] []))
    refine OutW.back (fun t k => XS.aload X35.here hx rfl (hb hby at_45) rfl rfl  k) ?_
    show OutW _ _ _ _ _ _ _ (T35.setTop (mkF m 47 #[.val (.int p1), .val (.int p2), .val (.int p3), .val (.int p4), .val (.int p5), .val (.int p6), .val (.int v1), .val (.int (2 : Int32)), .val (.ref b31)] [(.ref b31)]))
    refine OutW.back (fun t k => XS.iload X35.here hx rfl (hb hby at_47) rfl  k) ?_
    show OutW _ _ _ _ _ _ _ (T35.setTop (mkF m 49 #[.val (.int p1), .val (.int p2), .val (.int p3), .val (.int p4), .val (.int p5), .val (.int p6), .val (.int v1), .val (.int (2 : Int32)), .val (.ref b31)] [(.int p5), (.ref b31)]))
    obtain ⟨cq36, kq36, qa36, qb36, qc36⟩ := isOf hZ e35 E_b31
    obtain ⟨_, _, ⟨T36, L36, k36, n36⟩, -, X36, ⟨Lc36, hQ36, l36, y36, z36⟩, st36⟩ := X35.virtualBack hx (y := (⟨"com/example/xml_document_query/xmldocumentquery/tree/IntColumn", "addFirst", "(I)V"⟩ : MethodName)) (z := (⟨"com/example/xml_document_query/xmldocumentquery/tree/IntColumn", "addFirst", "(I)V"⟩ : MethodName)) hown (mvT hZ (hw _ (List.mem_of_getElem? (i := 62) rfl))) (mvT hZ (hw _ (List.mem_of_getElem? (i := 63) rfl))) (notFace_of_selects (args := #[]) (mvT hZ (hw _ (List.mem_of_getElem? (i := 65) rfl)))) (mvT hZ (hw _ (List.mem_of_getElem? (i := 65) rfl))) (mvT hZ (hw _ (List.mem_of_getElem? (i := 64) rfl))) (by decide) (backOf (W := 0) (rm10_1 l Z a0 hw [] b31 p5 cN_35 bN_35 dN_35 kB_35 kD_35 p4 h35 n0 Z35 F_before_b31 E_cN_35 g_cN_35 F_blockBits_cN_35 F_capacity_cN_35 F_size_cN_35 F_blocks_cN_35 F_before_cN_35 V_bN_35 O_bN_35 V_dN_35 g_bN_35 g_dN_35 ne_cN_35_bN_35 (Ne.symm ne_bN_35_dN_35) (Ne.symm ne_cN_35_dN_35) ne_b31_cN_35 ne_b31_dN_35) hZ (hw _ (List.mem_of_getElem? (i := 66) rfl)) (hw _ (List.mem_of_getElem? (i := 2) rfl)) (by decide) (by decide)) qa36 qc36 (g := (mkF m 49 #[.val (.int p1), .val (.int p2), .val (.int p3), .val (.int p4), .val (.int p5), .val (.int p6), .val (.int v1), .val (.int (2 : Int32)), .val (.ref b31)] [(.int p5), (.ref b31)])) rfl (by rw [hml]; rfl) (Steps.refl _) (argsL := [(.int p5)]) (rest := []) (lenOf pd_3 rfl) rfl (by show 2 * 0 + _ ≤ _; exact Nat.le_of_eq rfl) (hb hby at_49) (fun _ _ => ⟨rfl, e35, (by decide : 6 + 0 ≤ _), (by decide : 18 + 0 ≤ _)⟩)
    dsimp only [Pt.U, Pt.locs, Pt.cells, Pt.slots] at X36 l36 y36 z36 st36 hQ36
    subst l36 y36 z36
    obtain ⟨h36, eh36⟩ : ∃ z, z = T36.heap := ⟨_, rfl⟩
    rw [← eh36] at hQ36
    have e36 : T36.heap = h36 := eh36.symm
    obtain ⟨rfl, Nq36, Kq36, F_blockBits_cN_35, F_capacity_cN_35, F_size_cN_35, F_blocks_cN_35, F_before_cN_35, V_dN_35_36⟩ := hQ36
    have E_b31 := E_b31.keep Kq36
    have V_bN_32 := V_bN_32.keep Kq36 (ninS ne_bN_32_cN_35 (ninS ne_bN_32_dN_35 nin0))
    have V_dN_32_34 := V_dN_32_34.keep Kq36 (ninS ne_dN_32_cN_35 (ninS ne_dN_32_dN_35 nin0))
    have F_blockBits_b31 := F_blockBits_b31.keep Kq36 (ninS ne_b31_cN_35 (ninS ne_b31_dN_35 nin0))
    have F_capacity_b31 := F_capacity_b31.keep Kq36 (ninS ne_b31_cN_35 (ninS ne_b31_dN_35 nin0))
    have F_size_b31 := F_size_b31.keep Kq36 (ninS ne_b31_cN_35 (ninS ne_b31_dN_35 nin0))
    have F_blocks_b31 := F_blocks_b31.keep Kq36 (ninS ne_b31_cN_35 (ninS ne_b31_dN_35 nin0))
    have F_before_b31 := F_before_b31.keep Kq36 (ninS ne_b31_cN_35 (ninS ne_b31_dN_35 nin0))
    have E_cN_35 := E_cN_35.keep Kq36
    have V_bN_35 := V_bN_35.keep Kq36 (ninS (Ne.symm ne_cN_35_bN_35) (ninS ne_bN_35_dN_35 nin0))
    have Z36 : n0 ≤ h36.size := Nat.le_trans Z35 Kq36.1
    have K36 := K35.trans Kq36 (allS (Or.inr sz_cN_35) (allS (Or.inr sz_dN_35) all0))
    have N36 := Fr.app N35 Nq36
    obtain ⟨lc36, X36, N36⟩ : ∃ lc, Stand p l e room_1 s m #[(.int p1), (.int p2), (.int p3), (.int p4), (.int p5), (.int p6)] below meth c T36 lc 6 18 ∧ Fr n0 lc := ⟨_, X36, N36⟩
    refine OutW.via st36 ?_
    show OutW _ _ _ _ _ _ _ (T36.setTop (mkF m 52 #[.val (.int p1), .val (.int p2), .val (.int p3), .val (.int p4), .val (.int p5), .val (.int p6), .val (.int v1), .val (.int (2 : Int32)), .val (.ref b31)] []))
    refine OutW.back (fun t k => XS.aload X36.here hx rfl (hb hby at_52) rfl rfl  k) ?_
    show OutW _ _ _ _ _ _ _ (T36.setTop (mkF m 54 #[.val (.int p1), .val (.int p2), .val (.int p3), .val (.int p4), .val (.int p5), .val (.int p6), .val (.int v1), .val (.int (2 : Int32)), .val (.ref b31)] [(.ref b31)]))
    refine OutW.back (fun t k => XS.iload X36.here hx rfl (hb hby at_54) rfl  k) ?_
    show OutW _ _ _ _ _ _ _ (T36.setTop (mkF m 56 #[.val (.int p1), .val (.int p2), .val (.int p3), .val (.int p4), .val (.int p5), .val (.int p6), .val (.int v1), .val (.int (2 : Int32)), .val (.ref b31)] [(.int v1), (.ref b31)]))
    refine OutW.back (fun t k => XS.iload X36.here hx rfl (hb hby at_56) rfl  k) ?_
    show OutW _ _ _ _ _ _ _ (T36.setTop (mkF m 58 #[.val (.int p1), .val (.int p2), .val (.int p3), .val (.int p4), .val (.int p5), .val (.int p6), .val (.int v1), .val (.int (2 : Int32)), .val (.ref b31)] [(.int p6), (.int v1), (.ref b31)]))
    obtain ⟨cq37, kq37, qa37, qb37, qc37⟩ := isOf hZ e36 E_b31
    obtain ⟨_, _, ⟨T37, L37, k37, n37⟩, -, X37, ⟨Lc37, hQ37, l37, y37, z37⟩, st37⟩ := X36.virtualBack hx (y := (⟨"com/example/xml_document_query/xmldocumentquery/tree/IntColumn", "set", "(II)V"⟩ : MethodName)) (z := (⟨"com/example/xml_document_query/xmldocumentquery/tree/IntColumn", "set", "(II)V"⟩ : MethodName)) hown (mvT hZ (hw _ (List.mem_of_getElem? (i := 72) rfl))) (mvT hZ (hw _ (List.mem_of_getElem? (i := 73) rfl))) (notFace_of_selects (args := #[]) (mvT hZ (hw _ (List.mem_of_getElem? (i := 75) rfl)))) (mvT hZ (hw _ (List.mem_of_getElem? (i := 75) rfl))) (mvT hZ (hw _ (List.mem_of_getElem? (i := 74) rfl))) (by decide) (backOf (W := 0) (rm11_c2 l Z a0 hw [] b31 v1 p6 bN_32 dN_32 cN_35 bN_35 dN_35 kB_32 kD_32 kB_35 kD_35 p2 p3 p4 p5 h36 n0 Z36 F_blocks_b31 F_before_b31 V_bN_32 V_dN_32_34 E_cN_35 F_blocks_cN_35 V_bN_35 V_dN_35_36 g_dN_32 g_dN_35 (Ne.symm ne_bN_32_dN_32) ne_b31_dN_32 (Ne.symm ne_dN_32_dN_35) (Ne.symm ne_dN_32_bN_35) (Ne.symm ne_dN_32_cN_35) (Ne.symm ne_bN_35_dN_35) ne_cN_35_dN_35 ne_b31_dN_35 ne_bN_32_dN_35 hi) hZ (hw _ (List.mem_of_getElem? (i := 76) rfl)) (hw _ (List.mem_of_getElem? (i := 2) rfl)) (by decide) (by decide)) qa37 qc37 (g := (mkF m 58 #[.val (.int p1), .val (.int p2), .val (.int p3), .val (.int p4), .val (.int p5), .val (.int p6), .val (.int v1), .val (.int (2 : Int32)), .val (.ref b31)] [(.int p6), (.int v1), (.ref b31)])) rfl (by rw [hml]; rfl) (Steps.refl _) (argsL := [(.int v1), (.int p6)]) (rest := []) (lenOf pd_0 rfl) rfl (by show 2 * 0 + _ ≤ _; exact Nat.le_of_eq rfl) (hb hby at_58) (fun _ _ => ⟨rfl, e36, (by decide : 6 + 0 ≤ _), (by decide : 18 + 0 ≤ _)⟩)
    dsimp only [Pt.U, Pt.locs, Pt.cells, Pt.slots] at X37 l37 y37 z37 st37 hQ37
    subst l37 y37 z37
    obtain ⟨h37, eh37⟩ : ∃ z, z = T37.heap := ⟨_, rfl⟩
    rw [← eh37] at hQ37
    have e37 : T37.heap = h37 := eh37.symm
    obtain ⟨rfl, Nq37, Kq37, V_dN_32_37, V_dN_35_37⟩ := hQ37
    have E_b31 := E_b31.keep Kq37
    have V_bN_32 := V_bN_32.keep Kq37 (ninS ne_bN_32_dN_32 (ninS ne_bN_32_dN_35 nin0))
    have F_blockBits_b31 := F_blockBits_b31.keep Kq37 (ninS ne_b31_dN_32 (ninS ne_b31_dN_35 nin0))
    have F_capacity_b31 := F_capacity_b31.keep Kq37 (ninS ne_b31_dN_32 (ninS ne_b31_dN_35 nin0))
    have F_size_b31 := F_size_b31.keep Kq37 (ninS ne_b31_dN_32 (ninS ne_b31_dN_35 nin0))
    have F_blocks_b31 := F_blocks_b31.keep Kq37 (ninS ne_b31_dN_32 (ninS ne_b31_dN_35 nin0))
    have F_before_b31 := F_before_b31.keep Kq37 (ninS ne_b31_dN_32 (ninS ne_b31_dN_35 nin0))
    have E_cN_35 := E_cN_35.keep Kq37
    have V_bN_35 := V_bN_35.keep Kq37 (ninS (Ne.symm ne_dN_32_bN_35) (ninS ne_bN_35_dN_35 nin0))
    have F_blockBits_cN_35 := F_blockBits_cN_35.keep Kq37 (ninS (Ne.symm ne_dN_32_cN_35) (ninS ne_cN_35_dN_35 nin0))
    have F_capacity_cN_35 := F_capacity_cN_35.keep Kq37 (ninS (Ne.symm ne_dN_32_cN_35) (ninS ne_cN_35_dN_35 nin0))
    have F_size_cN_35 := F_size_cN_35.keep Kq37 (ninS (Ne.symm ne_dN_32_cN_35) (ninS ne_cN_35_dN_35 nin0))
    have F_blocks_cN_35 := F_blocks_cN_35.keep Kq37 (ninS (Ne.symm ne_dN_32_cN_35) (ninS ne_cN_35_dN_35 nin0))
    have F_before_cN_35 := F_before_cN_35.keep Kq37 (ninS (Ne.symm ne_dN_32_cN_35) (ninS ne_cN_35_dN_35 nin0))
    have Z37 : n0 ≤ h37.size := Nat.le_trans Z36 Kq37.1
    have K37 := K36.trans Kq37 (allS (Or.inr sz_dN_32) (allS (Or.inr sz_dN_35) all0))
    have N37 := Fr.app N36 Nq37
    obtain ⟨lc37, X37, N37⟩ : ∃ lc, Stand p l e room_1 s m #[(.int p1), (.int p2), (.int p3), (.int p4), (.int p5), (.int p6)] below meth c T37 lc 6 18 ∧ Fr n0 lc := ⟨_, X37, N37⟩
    refine OutW.via st37 ?_
    show OutW _ _ _ _ _ _ _ (T37.setTop (mkF m 61 #[.val (.int p1), .val (.int p2), .val (.int p3), .val (.int p4), .val (.int p5), .val (.int p6), .val (.int v1), .val (.int (2 : Int32)), .val (.ref b31)] []))
    refine OutW.back (fun t k => XS.aload X37.here hx rfl (hb hby at_61) rfl rfl  k) ?_
    show OutW _ _ _ _ _ _ _ (T37.setTop (mkF m 63 #[.val (.int p1), .val (.int p2), .val (.int p3), .val (.int p4), .val (.int p5), .val (.int p6), .val (.int v1), .val (.int (2 : Int32)), .val (.ref b31)] [(.ref b31)]))
    refine OutW.back (fun t k => XS.bipush X37.here hx rfl (hb hby at_63) k) ?_
    show OutW _ _ _ _ _ _ _ (T37.setTop (mkF m 65 #[.val (.int p1), .val (.int p2), .val (.int p3), .val (.int p4), .val (.int p5), .val (.int p6), .val (.int v1), .val (.int (2 : Int32)), .val (.ref b31)] [(.int (-2 : Int32)), (.ref b31)]))
    obtain ⟨cq38, kq38, qa38, qb38, qc38⟩ := isOf hZ e37 E_b31
    obtain ⟨_, _, ⟨T38, L38, k38, n38⟩, -, X38, ⟨Lc38, hQ38, l38, y38, z38⟩, st38⟩ := X37.virtualBack hx (y := (⟨"com/example/xml_document_query/xmldocumentquery/tree/IntColumn", "get", "(I)I"⟩ : MethodName)) (z := (⟨"com/example/xml_document_query/xmldocumentquery/tree/IntColumn", "get", "(I)I"⟩ : MethodName)) hown (mvT hZ (hw _ (List.mem_of_getElem? (i := 78) rfl))) (mvT hZ (hw _ (List.mem_of_getElem? (i := 79) rfl))) (notFace_of_selects (args := #[]) (mvT hZ (hw _ (List.mem_of_getElem? (i := 81) rfl)))) (mvT hZ (hw _ (List.mem_of_getElem? (i := 81) rfl))) (mvT hZ (hw _ (List.mem_of_getElem? (i := 80) rfl))) (by decide) (backOf (W := 0) (rm12_m2 l Z a0 hw [] b31 cN_35 bN_35 dN_35 kB_35 kD_35 (if v1 = (-1 : Int32) then p6 else p4) (if v1 = (-2 : Int32) then p6 else p5) (0 : Int32) (0 : Int32) h37 n0 Z37 F_before_b31 E_cN_35 F_blocks_cN_35 V_bN_35 V_dN_35_37) hZ (hw _ (List.mem_of_getElem? (i := 82) rfl)) (hw _ (List.mem_of_getElem? (i := 2) rfl)) (by decide) (by decide)) qa38 qc38 (g := (mkF m 65 #[.val (.int p1), .val (.int p2), .val (.int p3), .val (.int p4), .val (.int p5), .val (.int p6), .val (.int v1), .val (.int (2 : Int32)), .val (.ref b31)] [(.int (-2 : Int32)), (.ref b31)])) rfl (by rw [hml]; rfl) (Steps.refl _) (argsL := [(.int (-2 : Int32))]) (rest := []) (lenOf pd_6 rfl) rfl (by show 2 * 0 + _ ≤ _; exact Nat.le_of_eq rfl) (hb hby at_65) (fun _ _ => ⟨rfl, e37, (by decide : 6 + 0 ≤ _), (by decide : 18 + 0 ≤ _)⟩)
    dsimp only [Pt.U, Pt.locs, Pt.cells, Pt.slots] at X38 l38 y38 z38 st38 hQ38
    subst l38 y38 z38
    obtain ⟨rfl, Nq38, e38⟩ := hQ38
    have N38 := Fr.app N37 Nq38
    obtain ⟨lc38, X38, N38⟩ : ∃ lc, Stand p l e room_1 s m #[(.int p1), (.int p2), (.int p3), (.int p4), (.int p5), (.int p6)] below meth c T38 lc 6 18 ∧ Fr n0 lc := ⟨_, X38, N38⟩
    refine OutW.via st38 ?_
    show OutW _ _ _ _ _ _ _ (T38.setTop (mkF m 68 #[.val (.int p1), .val (.int p2), .val (.int p3), .val (.int p4), .val (.int p5), .val (.int p6), .val (.int v1), .val (.int (2 : Int32)), .val (.ref b31)] [(.int (if v1 = (-2 : Int32) then p6 else p5))]))
    refine OutW.back (fun t k => XS.iload X38.here hx rfl (hb hby at_68) rfl  k) ?_
    show OutW _ _ _ _ _ _ _ (T38.setTop (mkF m 70 #[.val (.int p1), .val (.int p2), .val (.int p3), .val (.int p4), .val (.int p5), .val (.int p6), .val (.int v1), .val (.int (2 : Int32)), .val (.ref b31)] [(.int v1), (.int (if v1 = (-2 : Int32) then p6 else p5))]))
    refine OutW.back (fun t k => XS.bipush X38.here hx rfl (hb hby at_70) k) ?_
    show OutW _ _ _ _ _ _ _ (T38.setTop (mkF m 72 #[.val (.int p1), .val (.int p2), .val (.int p3), .val (.int p4), .val (.int p5), .val (.int p6), .val (.int v1), .val (.int (2 : Int32)), .val (.ref b31)] [(.int (-2 : Int32)), (.int v1), (.int (if v1 = (-2 : Int32) then p6 else p5))]))
    obtain ⟨v40, hv_v40⟩ : ∃ z : Int32, z = (if v1 = (-2 : Int32) then p6 else p5) := ⟨_, rfl⟩
    have j41 : ∀ t, Steps p.tables e below (T38.setTop (mkF m 82 #[.val (.int p1), .val (.int p2), .val (.int p3), .val (.int p4), .val (.int p5), .val (.int p6), .val (.int v1), .val (.int (2 : Int32)), .val (.ref b31)] [(.int v40), (.int (if v1 = (-2 : Int32) then p6 else p5))])) t → Steps p.tables e below (T38.setTop (mkF m 72 #[.val (.int p1), .val (.int p2), .val (.int p3), .val (.int p4), .val (.int p5), .val (.int p6), .val (.int v1), .val (.int (2 : Int32)), .val (.ref b31)] [(.int (-2 : Int32)), (.int v1), (.int (if v1 = (-2 : Int32) then p6 else p5))])) t := by
      intro t k
      by_cases c72_42 : v1 = (-2 : Int32)
      · skip
        refine XS.icmpNo X38.here hx rfl (hb hby at_72) rfl (teq c72_42).2 ?_
        show Steps p.tables e below (T38.setTop (mkF m 75 #[.val (.int p1), .val (.int p2), .val (.int p3), .val (.int p4), .val (.int p5), .val (.int p6), .val (.int v1), .val (.int (2 : Int32)), .val (.ref b31)] [(.int (if v1 = (-2 : Int32) then p6 else p5))])) t
        refine XS.iload X38.here hx rfl (hb hby at_75) rfl  ?_
        show Steps p.tables e below (T38.setTop (mkF m 77 #[.val (.int p1), .val (.int p2), .val (.int p3), .val (.int p4), .val (.int p5), .val (.int p6), .val (.int v1), .val (.int (2 : Int32)), .val (.ref b31)] [(.int p6), (.int (if v1 = (-2 : Int32) then p6 else p5))])) t
        refine XS.goto X38.here hx rfl (pc0 := 77) (pc' := 82) rfl (hb hby at_77) (by decide) (by decide) ?_
        show Steps p.tables e below (T38.setTop (mkF m 82 #[.val (.int p1), .val (.int p2), .val (.int p3), .val (.int p4), .val (.int p5), .val (.int p6), .val (.int v1), .val (.int (2 : Int32)), .val (.ref b31)] [(.int p6), (.int (if v1 = (-2 : Int32) then p6 else p5))])) t
        have q_v40 : v40 = p6 := by rw [hv_v40, if_pos c72_42]
        rw [q_v40] at k
        exact k
      · skip
        refine XS.icmpYes X38.here hx rfl (pc0 := 72) (pc' := 80) rfl (hb hby at_72) rfl (feq c72_42).2 (by decide) (by decide) ?_
        show Steps p.tables e below (T38.setTop (mkF m 80 #[.val (.int p1), .val (.int p2), .val (.int p3), .val (.int p4), .val (.int p5), .val (.int p6), .val (.int v1), .val (.int (2 : Int32)), .val (.ref b31)] [(.int (if v1 = (-2 : Int32) then p6 else p5))])) t
        refine XS.iload X38.here hx rfl (hb hby at_80) rfl  ?_
        show Steps p.tables e below (T38.setTop (mkF m 82 #[.val (.int p1), .val (.int p2), .val (.int p3), .val (.int p4), .val (.int p5), .val (.int p6), .val (.int v1), .val (.int (2 : Int32)), .val (.ref b31)] [(.int p5), (.int (if v1 = (-2 : Int32) then p6 else p5))])) t
        have q_v40 : v40 = p5 := by rw [hv_v40, if_neg c72_42]
        rw [q_v40] at k
        exact k
    refine OutW.back j41 ?_
    show OutW _ _ _ _ _ _ _ (T38.setTop (mkF m 82 #[.val (.int p1), .val (.int p2), .val (.int p3), .val (.int p4), .val (.int p5), .val (.int p6), .val (.int v1), .val (.int (2 : Int32)), .val (.ref b31)] [(.int v40), (.int (if v1 = (-2 : Int32) then p6 else p5))]))
    refine OutW.back (fun t k => XS.icmpNo X38.here hx rfl (hb hby at_82) rfl (teq hv_v40.symm).2 k) ?_
    show OutW _ _ _ _ _ _ _ (T38.setTop (mkF m 85 #[.val (.int p1), .val (.int p2), .val (.int p3), .val (.int p4), .val (.int p5), .val (.int p6), .val (.int v1), .val (.int (2 : Int32)), .val (.ref b31)] []))
    refine OutW.back (fun t k => XS.aload X38.here hx rfl (hb hby at_85) rfl rfl  k) ?_
    show OutW _ _ _ _ _ _ _ (T38.setTop (mkF m 87 #[.val (.int p1), .val (.int p2), .val (.int p3), .val (.int p4), .val (.int p5), .val (.int p6), .val (.int v1), .val (.int (2 : Int32)), .val (.ref b31)] [(.ref b31)]))
    refine OutW.back (fun t k => XS.iconst X38.here hx rfl (hb hby at_87) k) ?_
    show OutW _ _ _ _ _ _ _ (T38.setTop (mkF m 88 #[.val (.int p1), .val (.int p2), .val (.int p3), .val (.int p4), .val (.int p5), .val (.int p6), .val (.int v1), .val (.int (2 : Int32)), .val (.ref b31)] [(.int (-1 : Int32)), (.ref b31)]))
    obtain ⟨cq43, kq43, qa43, qb43, qc43⟩ := isOf hZ e38 E_b31
    obtain ⟨_, _, ⟨T43, L43, k43, n43⟩, -, X43, ⟨Lc43, hQ43, l43, y43, z43⟩, st43⟩ := X38.virtualBack hx (y := (⟨"com/example/xml_document_query/xmldocumentquery/tree/IntColumn", "get", "(I)I"⟩ : MethodName)) (z := (⟨"com/example/xml_document_query/xmldocumentquery/tree/IntColumn", "get", "(I)I"⟩ : MethodName)) hown (mvT hZ (hw _ (List.mem_of_getElem? (i := 78) rfl))) (mvT hZ (hw _ (List.mem_of_getElem? (i := 79) rfl))) (notFace_of_selects (args := #[]) (mvT hZ (hw _ (List.mem_of_getElem? (i := 81) rfl)))) (mvT hZ (hw _ (List.mem_of_getElem? (i := 81) rfl))) (mvT hZ (hw _ (List.mem_of_getElem? (i := 80) rfl))) (by decide) (backOf (W := 0) (rm12_m1 l Z a0 hw [] b31 cN_35 bN_35 dN_35 kB_35 kD_35 (if v1 = (-1 : Int32) then p6 else p4) (if v1 = (-2 : Int32) then p6 else p5) (0 : Int32) (0 : Int32) h37 n0 Z37 F_before_b31 E_cN_35 F_blocks_cN_35 V_bN_35 V_dN_35_37) hZ (hw _ (List.mem_of_getElem? (i := 82) rfl)) (hw _ (List.mem_of_getElem? (i := 2) rfl)) (by decide) (by decide)) qa43 qc43 (g := (mkF m 88 #[.val (.int p1), .val (.int p2), .val (.int p3), .val (.int p4), .val (.int p5), .val (.int p6), .val (.int v1), .val (.int (2 : Int32)), .val (.ref b31)] [(.int (-1 : Int32)), (.ref b31)])) rfl (by rw [hml]; rfl) (Steps.refl _) (argsL := [(.int (-1 : Int32))]) (rest := []) (lenOf pd_6 rfl) rfl (by show 2 * 0 + _ ≤ _; exact Nat.le_of_eq rfl) (hb hby at_88) (fun _ _ => ⟨rfl, e38, (by decide : 6 + 0 ≤ _), (by decide : 18 + 0 ≤ _)⟩)
    dsimp only [Pt.U, Pt.locs, Pt.cells, Pt.slots] at X43 l43 y43 z43 st43 hQ43
    subst l43 y43 z43
    obtain ⟨rfl, Nq43, e43⟩ := hQ43
    have N43 := Fr.app N38 Nq43
    obtain ⟨lc43, X43, N43⟩ : ∃ lc, Stand p l e room_1 s m #[(.int p1), (.int p2), (.int p3), (.int p4), (.int p5), (.int p6)] below meth c T43 lc 6 18 ∧ Fr n0 lc := ⟨_, X43, N43⟩
    refine OutW.via st43 ?_
    show OutW _ _ _ _ _ _ _ (T43.setTop (mkF m 91 #[.val (.int p1), .val (.int p2), .val (.int p3), .val (.int p4), .val (.int p5), .val (.int p6), .val (.int v1), .val (.int (2 : Int32)), .val (.ref b31)] [(.int (if v1 = (-1 : Int32) then p6 else p4))]))
    refine OutW.back (fun t k => XS.iload X43.here hx rfl (hb hby at_91) rfl  k) ?_
    show OutW _ _ _ _ _ _ _ (T43.setTop (mkF m 93 #[.val (.int p1), .val (.int p2), .val (.int p3), .val (.int p4), .val (.int p5), .val (.int p6), .val (.int v1), .val (.int (2 : Int32)), .val (.ref b31)] [(.int v1), (.int (if v1 = (-1 : Int32) then p6 else p4))]))
    refine OutW.back (fun t k => XS.iconst X43.here hx rfl (hb hby at_93) k) ?_
    show OutW _ _ _ _ _ _ _ (T43.setTop (mkF m 94 #[.val (.int p1), .val (.int p2), .val (.int p3), .val (.int p4), .val (.int p5), .val (.int p6), .val (.int v1), .val (.int (2 : Int32)), .val (.ref b31)] [(.int (-1 : Int32)), (.int v1), (.int (if v1 = (-1 : Int32) then p6 else p4))]))
    obtain ⟨v45, hv_v45⟩ : ∃ z : Int32, z = (if v1 = (-1 : Int32) then p6 else p4) := ⟨_, rfl⟩
    have j46 : ∀ t, Steps p.tables e below (T43.setTop (mkF m 103 #[.val (.int p1), .val (.int p2), .val (.int p3), .val (.int p4), .val (.int p5), .val (.int p6), .val (.int v1), .val (.int (2 : Int32)), .val (.ref b31)] [(.int v45), (.int (if v1 = (-1 : Int32) then p6 else p4))])) t → Steps p.tables e below (T43.setTop (mkF m 94 #[.val (.int p1), .val (.int p2), .val (.int p3), .val (.int p4), .val (.int p5), .val (.int p6), .val (.int v1), .val (.int (2 : Int32)), .val (.ref b31)] [(.int (-1 : Int32)), (.int v1), (.int (if v1 = (-1 : Int32) then p6 else p4))])) t := by
      intro t k
      by_cases c94_47 : v1 = (-1 : Int32)
      · skip
        refine XS.icmpNo X43.here hx rfl (hb hby at_94) rfl (teq c94_47).2 ?_
        show Steps p.tables e below (T43.setTop (mkF m 97 #[.val (.int p1), .val (.int p2), .val (.int p3), .val (.int p4), .val (.int p5), .val (.int p6), .val (.int v1), .val (.int (2 : Int32)), .val (.ref b31)] [(.int (if v1 = (-1 : Int32) then p6 else p4))])) t
        refine XS.iload X43.here hx rfl (hb hby at_97) rfl  ?_
        show Steps p.tables e below (T43.setTop (mkF m 99 #[.val (.int p1), .val (.int p2), .val (.int p3), .val (.int p4), .val (.int p5), .val (.int p6), .val (.int v1), .val (.int (2 : Int32)), .val (.ref b31)] [(.int p6), (.int (if v1 = (-1 : Int32) then p6 else p4))])) t
        refine XS.goto X43.here hx rfl (pc0 := 99) (pc' := 103) rfl (hb hby at_99) (by decide) (by decide) ?_
        show Steps p.tables e below (T43.setTop (mkF m 103 #[.val (.int p1), .val (.int p2), .val (.int p3), .val (.int p4), .val (.int p5), .val (.int p6), .val (.int v1), .val (.int (2 : Int32)), .val (.ref b31)] [(.int p6), (.int (if v1 = (-1 : Int32) then p6 else p4))])) t
        have q_v45 : v45 = p6 := by rw [hv_v45, if_pos c94_47]
        rw [q_v45] at k
        exact k
      · skip
        refine XS.icmpYes X43.here hx rfl (pc0 := 94) (pc' := 102) rfl (hb hby at_94) rfl (feq c94_47).2 (by decide) (by decide) ?_
        show Steps p.tables e below (T43.setTop (mkF m 102 #[.val (.int p1), .val (.int p2), .val (.int p3), .val (.int p4), .val (.int p5), .val (.int p6), .val (.int v1), .val (.int (2 : Int32)), .val (.ref b31)] [(.int (if v1 = (-1 : Int32) then p6 else p4))])) t
        refine XS.iloadN X43.here hx rfl (hb hby at_102) rfl  ?_
        show Steps p.tables e below (T43.setTop (mkF m 103 #[.val (.int p1), .val (.int p2), .val (.int p3), .val (.int p4), .val (.int p5), .val (.int p6), .val (.int v1), .val (.int (2 : Int32)), .val (.ref b31)] [(.int p4), (.int (if v1 = (-1 : Int32) then p6 else p4))])) t
        have q_v45 : v45 = p4 := by rw [hv_v45, if_neg c94_47]
        rw [q_v45] at k
        exact k
    refine OutW.back j46 ?_
    show OutW _ _ _ _ _ _ _ (T43.setTop (mkF m 103 #[.val (.int p1), .val (.int p2), .val (.int p3), .val (.int p4), .val (.int p5), .val (.int p6), .val (.int v1), .val (.int (2 : Int32)), .val (.ref b31)] [(.int v45), (.int (if v1 = (-1 : Int32) then p6 else p4))]))
    refine OutW.back (fun t k => XS.icmpNo X43.here hx rfl (hb hby at_103) rfl (teq hv_v45.symm).2 k) ?_
    show OutW _ _ _ _ _ _ _ (T43.setTop (mkF m 106 #[.val (.int p1), .val (.int p2), .val (.int p3), .val (.int p4), .val (.int p5), .val (.int p6), .val (.int v1), .val (.int (2 : Int32)), .val (.ref b31)] []))
    refine OutW.back (fun t k => XS.aload X43.here hx rfl (hb hby at_106) rfl rfl  k) ?_
    show OutW _ _ _ _ _ _ _ (T43.setTop (mkF m 108 #[.val (.int p1), .val (.int p2), .val (.int p3), .val (.int p4), .val (.int p5), .val (.int p6), .val (.int v1), .val (.int (2 : Int32)), .val (.ref b31)] [(.ref b31)]))
    refine OutW.back (fun t k => XS.iconst X43.here hx rfl (hb hby at_108) k) ?_
    show OutW _ _ _ _ _ _ _ (T43.setTop (mkF m 109 #[.val (.int p1), .val (.int p2), .val (.int p3), .val (.int p4), .val (.int p5), .val (.int p6), .val (.int v1), .val (.int (2 : Int32)), .val (.ref b31)] [(.int (0 : Int32)), (.ref b31)]))
    obtain ⟨cq48, kq48, qa48, qb48, qc48⟩ := isOf hZ e43 E_b31
    obtain ⟨_, _, ⟨T48, L48, k48, n48⟩, -, X48, ⟨Lc48, hQ48, l48, y48, z48⟩, st48⟩ := X43.virtualBack hx (y := (⟨"com/example/xml_document_query/xmldocumentquery/tree/IntColumn", "get", "(I)I"⟩ : MethodName)) (z := (⟨"com/example/xml_document_query/xmldocumentquery/tree/IntColumn", "get", "(I)I"⟩ : MethodName)) hown (mvT hZ (hw _ (List.mem_of_getElem? (i := 78) rfl))) (mvT hZ (hw _ (List.mem_of_getElem? (i := 79) rfl))) (notFace_of_selects (args := #[]) (mvT hZ (hw _ (List.mem_of_getElem? (i := 81) rfl)))) (mvT hZ (hw _ (List.mem_of_getElem? (i := 81) rfl))) (mvT hZ (hw _ (List.mem_of_getElem? (i := 80) rfl))) (by decide) (backOf (W := 0) (rm12_0_2 l Z a0 hw [] b31 bN_32 dN_32 kB_32 kD_32 (if v1 = (0 : Int32) then p6 else p2) (if v1 = (1 : Int32) then p6 else p3) h37 n0 Z37 F_blocks_b31 V_bN_32 V_dN_32_37) hZ (hw _ (List.mem_of_getElem? (i := 82) rfl)) (hw _ (List.mem_of_getElem? (i := 2) rfl)) (by decide) (by decide)) qa48 qc48 (g := (mkF m 109 #[.val (.int p1), .val (.int p2), .val (.int p3), .val (.int p4), .val (.int p5), .val (.int p6), .val (.int v1), .val (.int (2 : Int32)), .val (.ref b31)] [(.int (0 : Int32)), (.ref b31)])) rfl (by rw [hml]; rfl) (Steps.refl _) (argsL := [(.int (0 : Int32))]) (rest := []) (lenOf pd_6 rfl) rfl (by show 2 * 0 + _ ≤ _; exact Nat.le_of_eq rfl) (hb hby at_109) (fun _ _ => ⟨rfl, e43, (by decide : 6 + 0 ≤ _), (by decide : 18 + 0 ≤ _)⟩)
    dsimp only [Pt.U, Pt.locs, Pt.cells, Pt.slots] at X48 l48 y48 z48 st48 hQ48
    subst l48 y48 z48
    obtain ⟨rfl, Nq48, e48⟩ := hQ48
    have N48 := Fr.app N43 Nq48
    obtain ⟨lc48, X48, N48⟩ : ∃ lc, Stand p l e room_1 s m #[(.int p1), (.int p2), (.int p3), (.int p4), (.int p5), (.int p6)] below meth c T48 lc 6 18 ∧ Fr n0 lc := ⟨_, X48, N48⟩
    refine OutW.via st48 ?_
    show OutW _ _ _ _ _ _ _ (T48.setTop (mkF m 112 #[.val (.int p1), .val (.int p2), .val (.int p3), .val (.int p4), .val (.int p5), .val (.int p6), .val (.int v1), .val (.int (2 : Int32)), .val (.ref b31)] [(.int (if v1 = (0 : Int32) then p6 else p2))]))
    refine OutW.back (fun t k => XS.iload X48.here hx rfl (hb hby at_112) rfl  k) ?_
    show OutW _ _ _ _ _ _ _ (T48.setTop (mkF m 114 #[.val (.int p1), .val (.int p2), .val (.int p3), .val (.int p4), .val (.int p5), .val (.int p6), .val (.int v1), .val (.int (2 : Int32)), .val (.ref b31)] [(.int v1), (.int (if v1 = (0 : Int32) then p6 else p2))]))
    obtain ⟨v50, hv_v50⟩ : ∃ z : Int32, z = (if v1 = (0 : Int32) then p6 else p2) := ⟨_, rfl⟩
    have j51 : ∀ t, Steps p.tables e below (T48.setTop (mkF m 123 #[.val (.int p1), .val (.int p2), .val (.int p3), .val (.int p4), .val (.int p5), .val (.int p6), .val (.int v1), .val (.int (2 : Int32)), .val (.ref b31)] [(.int v50), (.int (if v1 = (0 : Int32) then p6 else p2))])) t → Steps p.tables e below (T48.setTop (mkF m 114 #[.val (.int p1), .val (.int p2), .val (.int p3), .val (.int p4), .val (.int p5), .val (.int p6), .val (.int v1), .val (.int (2 : Int32)), .val (.ref b31)] [(.int v1), (.int (if v1 = (0 : Int32) then p6 else p2))])) t := by
      intro t k
      by_cases c114_52 : v1 = (0 : Int32)
      · skip
        refine XS.ifNo X48.here hx rfl (hb hby at_114) rfl ((if0 _ _).trans (teq c114_52).2) ?_
        show Steps p.tables e below (T48.setTop (mkF m 117 #[.val (.int p1), .val (.int p2), .val (.int p3), .val (.int p4), .val (.int p5), .val (.int p6), .val (.int v1), .val (.int (2 : Int32)), .val (.ref b31)] [(.int (if v1 = (0 : Int32) then p6 else p2))])) t
        refine XS.iload X48.here hx rfl (hb hby at_117) rfl  ?_
        show Steps p.tables e below (T48.setTop (mkF m 119 #[.val (.int p1), .val (.int p2), .val (.int p3), .val (.int p4), .val (.int p5), .val (.int p6), .val (.int v1), .val (.int (2 : Int32)), .val (.ref b31)] [(.int p6), (.int (if v1 = (0 : Int32) then p6 else p2))])) t
        refine XS.goto X48.here hx rfl (pc0 := 119) (pc' := 123) rfl (hb hby at_119) (by decide) (by decide) ?_
        show Steps p.tables e below (T48.setTop (mkF m 123 #[.val (.int p1), .val (.int p2), .val (.int p3), .val (.int p4), .val (.int p5), .val (.int p6), .val (.int v1), .val (.int (2 : Int32)), .val (.ref b31)] [(.int p6), (.int (if v1 = (0 : Int32) then p6 else p2))])) t
        have q_v50 : v50 = p6 := by rw [hv_v50, if_pos c114_52]
        rw [q_v50] at k
        exact k
      · skip
        refine XS.ifYes X48.here hx rfl (pc0 := 114) (pc' := 122) rfl (hb hby at_114) rfl ((if0 _ _).trans (feq c114_52).2) (by decide) (by decide) ?_
        show Steps p.tables e below (T48.setTop (mkF m 122 #[.val (.int p1), .val (.int p2), .val (.int p3), .val (.int p4), .val (.int p5), .val (.int p6), .val (.int v1), .val (.int (2 : Int32)), .val (.ref b31)] [(.int (if v1 = (0 : Int32) then p6 else p2))])) t
        refine XS.iloadN X48.here hx rfl (hb hby at_122) rfl  ?_
        show Steps p.tables e below (T48.setTop (mkF m 123 #[.val (.int p1), .val (.int p2), .val (.int p3), .val (.int p4), .val (.int p5), .val (.int p6), .val (.int v1), .val (.int (2 : Int32)), .val (.ref b31)] [(.int p2), (.int (if v1 = (0 : Int32) then p6 else p2))])) t
        have q_v50 : v50 = p2 := by rw [hv_v50, if_neg c114_52]
        rw [q_v50] at k
        exact k
    refine OutW.back j51 ?_
    show OutW _ _ _ _ _ _ _ (T48.setTop (mkF m 123 #[.val (.int p1), .val (.int p2), .val (.int p3), .val (.int p4), .val (.int p5), .val (.int p6), .val (.int v1), .val (.int (2 : Int32)), .val (.ref b31)] [(.int v50), (.int (if v1 = (0 : Int32) then p6 else p2))]))
    refine OutW.back (fun t k => XS.icmpNo X48.here hx rfl (hb hby at_123) rfl (teq hv_v50.symm).2 k) ?_
    show OutW _ _ _ _ _ _ _ (T48.setTop (mkF m 126 #[.val (.int p1), .val (.int p2), .val (.int p3), .val (.int p4), .val (.int p5), .val (.int p6), .val (.int v1), .val (.int (2 : Int32)), .val (.ref b31)] []))
    refine OutW.back (fun t k => XS.aload X48.here hx rfl (hb hby at_126) rfl rfl  k) ?_
    show OutW _ _ _ _ _ _ _ (T48.setTop (mkF m 128 #[.val (.int p1), .val (.int p2), .val (.int p3), .val (.int p4), .val (.int p5), .val (.int p6), .val (.int v1), .val (.int (2 : Int32)), .val (.ref b31)] [(.ref b31)]))
    refine OutW.back (fun t k => XS.iconst X48.here hx rfl (hb hby at_128) k) ?_
    show OutW _ _ _ _ _ _ _ (T48.setTop (mkF m 129 #[.val (.int p1), .val (.int p2), .val (.int p3), .val (.int p4), .val (.int p5), .val (.int p6), .val (.int v1), .val (.int (2 : Int32)), .val (.ref b31)] [(.int (1 : Int32)), (.ref b31)]))
    obtain ⟨cq53, kq53, qa53, qb53, qc53⟩ := isOf hZ e48 E_b31
    obtain ⟨_, _, ⟨T53, L53, k53, n53⟩, -, X53, ⟨Lc53, hQ53, l53, y53, z53⟩, st53⟩ := X48.virtualBack hx (y := (⟨"com/example/xml_document_query/xmldocumentquery/tree/IntColumn", "get", "(I)I"⟩ : MethodName)) (z := (⟨"com/example/xml_document_query/xmldocumentquery/tree/IntColumn", "get", "(I)I"⟩ : MethodName)) hown (mvT hZ (hw _ (List.mem_of_getElem? (i := 78) rfl))) (mvT hZ (hw _ (List.mem_of_getElem? (i := 79) rfl))) (notFace_of_selects (args := #[]) (mvT hZ (hw _ (List.mem_of_getElem? (i := 81) rfl)))) (mvT hZ (hw _ (List.mem_of_getElem? (i := 81) rfl))) (mvT hZ (hw _ (List.mem_of_getElem? (i := 80) rfl))) (by decide) (backOf (W := 0) (rm12_1_2 l Z a0 hw [] b31 bN_32 dN_32 kB_32 kD_32 (if v1 = (0 : Int32) then p6 else p2) (if v1 = (1 : Int32) then p6 else p3) h37 n0 Z37 F_blocks_b31 V_bN_32 V_dN_32_37) hZ (hw _ (List.mem_of_getElem? (i := 82) rfl)) (hw _ (List.mem_of_getElem? (i := 2) rfl)) (by decide) (by decide)) qa53 qc53 (g := (mkF m 129 #[.val (.int p1), .val (.int p2), .val (.int p3), .val (.int p4), .val (.int p5), .val (.int p6), .val (.int v1), .val (.int (2 : Int32)), .val (.ref b31)] [(.int (1 : Int32)), (.ref b31)])) rfl (by rw [hml]; rfl) (Steps.refl _) (argsL := [(.int (1 : Int32))]) (rest := []) (lenOf pd_6 rfl) rfl (by show 2 * 0 + _ ≤ _; exact Nat.le_of_eq rfl) (hb hby at_129) (fun _ _ => ⟨rfl, e48, (by decide : 6 + 0 ≤ _), (by decide : 18 + 0 ≤ _)⟩)
    dsimp only [Pt.U, Pt.locs, Pt.cells, Pt.slots] at X53 l53 y53 z53 st53 hQ53
    subst l53 y53 z53
    obtain ⟨rfl, Nq53, e53⟩ := hQ53
    have N53 := Fr.app N48 Nq53
    obtain ⟨lc53, X53, N53⟩ : ∃ lc, Stand p l e room_1 s m #[(.int p1), (.int p2), (.int p3), (.int p4), (.int p5), (.int p6)] below meth c T53 lc 6 18 ∧ Fr n0 lc := ⟨_, X53, N53⟩
    refine OutW.via st53 ?_
    show OutW _ _ _ _ _ _ _ (T53.setTop (mkF m 132 #[.val (.int p1), .val (.int p2), .val (.int p3), .val (.int p4), .val (.int p5), .val (.int p6), .val (.int v1), .val (.int (2 : Int32)), .val (.ref b31)] [(.int (if v1 = (1 : Int32) then p6 else p3))]))
    refine OutW.back (fun t k => XS.iload X53.here hx rfl (hb hby at_132) rfl  k) ?_
    show OutW _ _ _ _ _ _ _ (T53.setTop (mkF m 134 #[.val (.int p1), .val (.int p2), .val (.int p3), .val (.int p4), .val (.int p5), .val (.int p6), .val (.int v1), .val (.int (2 : Int32)), .val (.ref b31)] [(.int v1), (.int (if v1 = (1 : Int32) then p6 else p3))]))
    refine OutW.back (fun t k => XS.iconst X53.here hx rfl (hb hby at_134) k) ?_
    show OutW _ _ _ _ _ _ _ (T53.setTop (mkF m 135 #[.val (.int p1), .val (.int p2), .val (.int p3), .val (.int p4), .val (.int p5), .val (.int p6), .val (.int v1), .val (.int (2 : Int32)), .val (.ref b31)] [(.int (1 : Int32)), (.int v1), (.int (if v1 = (1 : Int32) then p6 else p3))]))
    obtain ⟨v55, hv_v55⟩ : ∃ z : Int32, z = (if v1 = (1 : Int32) then p6 else p3) := ⟨_, rfl⟩
    have j56 : ∀ t, Steps p.tables e below (T53.setTop (mkF m 144 #[.val (.int p1), .val (.int p2), .val (.int p3), .val (.int p4), .val (.int p5), .val (.int p6), .val (.int v1), .val (.int (2 : Int32)), .val (.ref b31)] [(.int v55), (.int (if v1 = (1 : Int32) then p6 else p3))])) t → Steps p.tables e below (T53.setTop (mkF m 135 #[.val (.int p1), .val (.int p2), .val (.int p3), .val (.int p4), .val (.int p5), .val (.int p6), .val (.int v1), .val (.int (2 : Int32)), .val (.ref b31)] [(.int (1 : Int32)), (.int v1), (.int (if v1 = (1 : Int32) then p6 else p3))])) t := by
      intro t k
      by_cases c135_57 : v1 = (1 : Int32)
      · skip
        refine XS.icmpNo X53.here hx rfl (hb hby at_135) rfl (teq c135_57).2 ?_
        show Steps p.tables e below (T53.setTop (mkF m 138 #[.val (.int p1), .val (.int p2), .val (.int p3), .val (.int p4), .val (.int p5), .val (.int p6), .val (.int v1), .val (.int (2 : Int32)), .val (.ref b31)] [(.int (if v1 = (1 : Int32) then p6 else p3))])) t
        refine XS.iload X53.here hx rfl (hb hby at_138) rfl  ?_
        show Steps p.tables e below (T53.setTop (mkF m 140 #[.val (.int p1), .val (.int p2), .val (.int p3), .val (.int p4), .val (.int p5), .val (.int p6), .val (.int v1), .val (.int (2 : Int32)), .val (.ref b31)] [(.int p6), (.int (if v1 = (1 : Int32) then p6 else p3))])) t
        refine XS.goto X53.here hx rfl (pc0 := 140) (pc' := 144) rfl (hb hby at_140) (by decide) (by decide) ?_
        show Steps p.tables e below (T53.setTop (mkF m 144 #[.val (.int p1), .val (.int p2), .val (.int p3), .val (.int p4), .val (.int p5), .val (.int p6), .val (.int v1), .val (.int (2 : Int32)), .val (.ref b31)] [(.int p6), (.int (if v1 = (1 : Int32) then p6 else p3))])) t
        have q_v55 : v55 = p6 := by rw [hv_v55, if_pos c135_57]
        rw [q_v55] at k
        exact k
      · skip
        refine XS.icmpYes X53.here hx rfl (pc0 := 135) (pc' := 143) rfl (hb hby at_135) rfl (feq c135_57).2 (by decide) (by decide) ?_
        show Steps p.tables e below (T53.setTop (mkF m 143 #[.val (.int p1), .val (.int p2), .val (.int p3), .val (.int p4), .val (.int p5), .val (.int p6), .val (.int v1), .val (.int (2 : Int32)), .val (.ref b31)] [(.int (if v1 = (1 : Int32) then p6 else p3))])) t
        refine XS.iloadN X53.here hx rfl (hb hby at_143) rfl  ?_
        show Steps p.tables e below (T53.setTop (mkF m 144 #[.val (.int p1), .val (.int p2), .val (.int p3), .val (.int p4), .val (.int p5), .val (.int p6), .val (.int v1), .val (.int (2 : Int32)), .val (.ref b31)] [(.int p3), (.int (if v1 = (1 : Int32) then p6 else p3))])) t
        have q_v55 : v55 = p3 := by rw [hv_v55, if_neg c135_57]
        rw [q_v55] at k
        exact k
    refine OutW.back j56 ?_
    show OutW _ _ _ _ _ _ _ (T53.setTop (mkF m 144 #[.val (.int p1), .val (.int p2), .val (.int p3), .val (.int p4), .val (.int p5), .val (.int p6), .val (.int v1), .val (.int (2 : Int32)), .val (.ref b31)] [(.int v55), (.int (if v1 = (1 : Int32) then p6 else p3))]))
    refine OutW.back (fun t k => XS.icmpNo X53.here hx rfl (hb hby at_144) rfl (teq hv_v55.symm).2 k) ?_
    show OutW _ _ _ _ _ _ _ (T53.setTop (mkF m 147 #[.val (.int p1), .val (.int p2), .val (.int p3), .val (.int p4), .val (.int p5), .val (.int p6), .val (.int v1), .val (.int (2 : Int32)), .val (.ref b31)] []))
    refine OutW.back (fun t k => XS.iconst X53.here hx rfl (hb hby at_147) k) ?_
    show OutW _ _ _ _ _ _ _ (T53.setTop (mkF m 148 #[.val (.int p1), .val (.int p2), .val (.int p3), .val (.int p4), .val (.int p5), .val (.int p6), .val (.int v1), .val (.int (2 : Int32)), .val (.ref b31)] [(.int (1 : Int32))]))
    refine OutW.back (fun t k => XS.goto X53.here hx rfl (pc0 := 148) (pc' := 152) rfl (hb hby at_148) (by decide) (by decide) k) ?_
    show OutW _ _ _ _ _ _ _ (T53.setTop (mkF m 152 #[.val (.int p1), .val (.int p2), .val (.int p3), .val (.int p4), .val (.int p5), .val (.int p6), .val (.int v1), .val (.int (2 : Int32)), .val (.ref b31)] [(.int (1 : Int32))]))
    refine OutW.retN X53 hx (t := .boolean) (z' := 1) Bd.returns (by simp) hlk (hb hby at_152) ?hz (by decide) (by decide) ?_
    case hz =>
      rfl
    show Q0 Z p1 p2 p3 p4 p5 p6 h0 n0 _ T53.heap _
    rw [e53]
    exact ⟨rfl, N53⟩
  · skip
    show OutW _ _ _ _ _ _ _ (s₁.setTop (mkF m 16 #[.val (.int p1), .val (.int p2), .val (.int p3), .val (.int p4), .val (.int p5), .val (.int p6), .val (.int v1), .val (.int (4 : Int32)), .unset] []))
    obtain ⟨T58, h58, X58, e58, E58, A58, D58, -, st58⟩ := newO X0 hx hZ hown (hw _ (List.mem_of_getElem? (i := 0) rfl)) (hw _ (List.mem_of_getElem? (i := 1) rfl)) (hw _ (List.mem_of_getElem? (i := 2) rfl)) e0 (g := (mkF m 16 #[.val (.int p1), .val (.int p2), .val (.int p3), .val (.int p4), .val (.int p5), .val (.int p6), .val (.int v1), .val (.int (4 : Int32)), .unset] [])) rfl (hb hby at_16) (by decide) (by decide)
    obtain ⟨b58, g58⟩ : ∃ z, z = h0.size := ⟨_, rfl⟩
    rw [← g58] at A58 D58 st58
    have g_b58 : n0 ≤ b58 := Nat.le_trans Z0 (Nat.le_of_eq g58.symm)
    have sz_b58 : h0.size ≤ b58 := Nat.le_trans K0.1 (Nat.le_of_eq g58.symm)
    have Z58 : n0 ≤ h58.size := Nat.le_trans Z0 E58.1
    have K58 := K0.ext E58
    have E_b58 := A58
    have F_blockBits_b58 : Fld Z h58 b58 "com/example/xml_document_query/xmldocumentquery/tree/BlockedArray" "blockBits" "I" (.int (0 : Int32)) := D58 (Or.inr (hw _ (List.mem_of_getElem? (i := 15) rfl))) (ty := .int) (by decide)
    have F_capacity_b58 : Fld Z h58 b58 "com/example/xml_document_query/xmldocumentquery/tree/BlockedArray" "capacity" "I" (.int (0 : Int32)) := D58 (Or.inl (hw _ (List.mem_of_getElem? (i := 17) rfl))) (ty := .int) (by decide)
    have F_blocks_b58 : Fld Z h58 b58 "com/example/xml_document_query/xmldocumentquery/tree/IntColumn" "blocks" "[[I" .null := D58 (Or.inl (hw _ (List.mem_of_getElem? (i := 23) rfl))) (ty := (.array (.array .int))) (by decide)
    have F_size_b58 : Fld Z h58 b58 "com/example/xml_document_query/xmldocumentquery/tree/IntColumn" "size" "I" (.int (0 : Int32)) := D58 (Or.inl (hw _ (List.mem_of_getElem? (i := 30) rfl))) (ty := .int) (by decide)
    have F_before_b58 : Fld Z h58 b58 "com/example/xml_document_query/xmldocumentquery/tree/IntColumn" "before" "Lcom/example/xml_document_query/xmldocumentquery/tree/IntColumn;" .null := D58 (Or.inl (hw _ (List.mem_of_getElem? (i := 68) rfl))) (ty := (.object "com/example/xml_document_query/xmldocumentquery/tree/IntColumn")) (by decide)
    refine OutW.back st58 ?_
    show OutW _ _ _ _ _ _ _ (T58.setTop (mkF m 19 #[.val (.int p1), .val (.int p2), .val (.int p3), .val (.int p4), .val (.int p5), .val (.int p6), .val (.int v1), .val (.int (4 : Int32)), .unset] [(.ref b58)]))
    refine OutW.back (fun t k => XS.dup X58.here hx rfl (hb hby at_19) rfl rfl k) ?_
    show OutW _ _ _ _ _ _ _ (T58.setTop (mkF m 20 #[.val (.int p1), .val (.int p2), .val (.int p3), .val (.int p4), .val (.int p5), .val (.int p6), .val (.int v1), .val (.int (4 : Int32)), .unset] [(.ref b58), (.ref b58)]))
    refine OutW.back (fun t k => XS.iload X58.here hx rfl (hb hby at_20) rfl  k) ?_
    show OutW _ _ _ _ _ _ _ (T58.setTop (mkF m 22 #[.val (.int p1), .val (.int p2), .val (.int p3), .val (.int p4), .val (.int p5), .val (.int p6), .val (.int v1), .val (.int (4 : Int32)), .unset] [(.int (4 : Int32)), (.ref b58), (.ref b58)]))
    obtain ⟨_, _, ⟨T59, L59, k59, n59⟩, -, X59, ⟨Lc59, hQ59, l59, y59, z59⟩, st59⟩ := X58.specialBack hx (y := (⟨"com/example/xml_document_query/xmldocumentquery/tree/IntColumn", "<init>", "(I)V"⟩ : MethodName)) rfl hown (mvT hZ (hw _ (List.mem_of_getElem? (i := 3) rfl))) (mvT hZ (hw _ (List.mem_of_getElem? (i := 4) rfl))) (mvT hZ (hw _ (List.mem_of_getElem? (i := 5) rfl))) (by decide) (backOf (W := 1) (rm1_4 l Z a0 hw [] b58 h58 n0 Z58 E_b58 g_b58 F_blockBits_b58 F_capacity_b58 F_size_b58 F_blocks_b58 F_before_b58) hZ (hw _ (List.mem_of_getElem? (i := 5) rfl)) (hw _ (List.mem_of_getElem? (i := 2) rfl)) (by decide) (by decide)) (g := (mkF m 22 #[.val (.int p1), .val (.int p2), .val (.int p3), .val (.int p4), .val (.int p5), .val (.int p6), .val (.int v1), .val (.int (4 : Int32)), .unset] [(.int (4 : Int32)), (.ref b58), (.ref b58)])) rfl (by rw [hml]; rfl) (Steps.refl _) (a := b58) (argsL := [(.int (4 : Int32))]) (rest := [(.ref b58)]) (lenOf pd_3 rfl) rfl (by show 2 * 0 + _ ≤ _; exact Nat.le_of_eq rfl) (hb hby at_22) (fun _ _ => ⟨rfl, e58, (by decide : 1 + 2 ≤ _), (by decide : 5 + 5 ≤ _)⟩)
    dsimp only [Pt.U, Pt.locs, Pt.cells, Pt.slots] at X59 l59 y59 z59 st59 hQ59
    subst l59 y59 z59
    obtain ⟨h59, eh59⟩ : ∃ z, z = T59.heap := ⟨_, rfl⟩
    rw [← eh59] at hQ59
    have e59 : T59.heap = h59 := eh59.symm
    obtain ⟨bN_59, dN_59, kB_59, kD_59, rfl, Nq59, Kq59, F_blockBits_b58, F_capacity_b58, F_size_b58, F_blocks_b58, F_before_b58, szq_bN_59, szq_dN_59, g_bN_59, g_dN_59, ne_bN_59_dN_59, V_bN_59, V_dN_59, O_bN_59⟩ := hQ59
    have lt59_b58 := E_b58.lt
    have ne_b58_bN_59 : b58 ≠ bN_59 := Nat.ne_of_lt (Nat.lt_of_lt_of_le lt59_b58 szq_bN_59)
    have sz_bN_59 : h0.size ≤ bN_59 := Nat.le_trans K58.1 szq_bN_59
    have ne_b58_dN_59 : b58 ≠ dN_59 := Nat.ne_of_lt (Nat.lt_of_lt_of_le lt59_b58 szq_dN_59)
    have sz_dN_59 : h0.size ≤ dN_59 := Nat.le_trans K58.1 szq_dN_59
    have E_b58 := E_b58.keep Kq59
    have Z59 : n0 ≤ h59.size := Nat.le_trans Z58 Kq59.1
    have K59 := K58.trans Kq59 (allS (Or.inr sz_b58) all0)
    have N59 := Fr.app N0 Nq59
    obtain ⟨lc59, X59, N59⟩ : ∃ lc, Stand p l e room_1 s m #[(.int p1), (.int p2), (.int p3), (.int p4), (.int p5), (.int p6)] below meth c T59 lc 3 10 ∧ Fr n0 lc := ⟨_, X59, N59⟩
    refine OutW.via st59 ?_
    show OutW _ _ _ _ _ _ _ (T59.setTop (mkF m 25 #[.val (.int p1), .val (.int p2), .val (.int p3), .val (.int p4), .val (.int p5), .val (.int p6), .val (.int v1), .val (.int (4 : Int32)), .unset] [(.ref b58)]))
    refine OutW.back (fun t k => XS.astore X59.here hx rfl (hb hby at_25) rfl rfl (l' := #[.val (.int p1), .val (.int p2), .val (.int p3), .val (.int p4), .val (.int p5), .val (.int p6), .val (.int v1), .val (.int (4 : Int32)), .val (.ref b58)]) rfl k) ?_
    show OutW _ _ _ _ _ _ _ (T59.setTop (mkF m 27 #[.val (.int p1), .val (.int p2), .val (.int p3), .val (.int p4), .val (.int p5), .val (.int p6), .val (.int v1), .val (.int (4 : Int32)), .val (.ref b58)] []))
    refine OutW.back (fun t k => XS.aload X59.here hx rfl (hb hby at_27) rfl rfl  k) ?_
    show OutW _ _ _ _ _ _ _ (T59.setTop (mkF m 29 #[.val (.int p1), .val (.int p2), .val (.int p3), .val (.int p4), .val (.int p5), .val (.int p6), .val (.int v1), .val (.int (4 : Int32)), .val (.ref b58)] [(.ref b58)]))
    refine OutW.back (fun t k => XS.iloadN X59.here hx rfl (hb hby at_29) rfl  k) ?_
    show OutW _ _ _ _ _ _ _ (T59.setTop (mkF m 30 #[.val (.int p1), .val (.int p2), .val (.int p3), .val (.int p4), .val (.int p5), .val (.int p6), .val (.int v1), .val (.int (4 : Int32)), .val (.ref b58)] [(.int p2), (.ref b58)]))
    obtain ⟨cq60, kq60, qa60, qb60, qc60⟩ := isOf hZ e59 E_b58
    obtain ⟨_, _, ⟨T60, L60, k60, n60⟩, -, X60, ⟨Lc60, hQ60, l60, y60, z60⟩, st60⟩ := X59.virtualBack hx (y := (⟨"com/example/xml_document_query/xmldocumentquery/tree/IntColumn", "add", "(I)V"⟩ : MethodName)) (z := (⟨"com/example/xml_document_query/xmldocumentquery/tree/IntColumn", "add", "(I)V"⟩ : MethodName)) hown (mvT hZ (hw _ (List.mem_of_getElem? (i := 24) rfl))) (mvT hZ (hw _ (List.mem_of_getElem? (i := 25) rfl))) (notFace_of_selects (args := #[]) (mvT hZ (hw _ (List.mem_of_getElem? (i := 27) rfl)))) (mvT hZ (hw _ (List.mem_of_getElem? (i := 27) rfl))) (mvT hZ (hw _ (List.mem_of_getElem? (i := 26) rfl))) (by decide) (backOf (W := 0) (rm4_0_4 l Z a0 hw [] b58 p2 bN_59 dN_59 kB_59 kD_59 (0 : Int32) (0 : Int32) (0 : Int32) (0 : Int32) .null h59 n0 Z59 E_b58 g_b58 F_blockBits_b58 F_capacity_b58 F_size_b58 F_blocks_b58 F_before_b58 V_bN_59 O_bN_59 V_dN_59 ne_b58_bN_59 (Ne.symm ne_bN_59_dN_59) (Ne.symm ne_b58_dN_59) g_bN_59 g_dN_59) hZ (hw _ (List.mem_of_getElem? (i := 28) rfl)) (hw _ (List.mem_of_getElem? (i := 2) rfl)) (by decide) (by decide)) qa60 qc60 (g := (mkF m 30 #[.val (.int p1), .val (.int p2), .val (.int p3), .val (.int p4), .val (.int p5), .val (.int p6), .val (.int v1), .val (.int (4 : Int32)), .val (.ref b58)] [(.int p2), (.ref b58)])) rfl (by rw [hml]; rfl) (Steps.refl _) (argsL := [(.int p2)]) (rest := []) (lenOf pd_3 rfl) rfl (by show 2 * 0 + _ ≤ _; exact Nat.le_of_eq rfl) (hb hby at_30) (fun _ _ => ⟨rfl, e59, (by decide : 3 + 0 ≤ _), (by decide : 10 + 0 ≤ _)⟩)
    dsimp only [Pt.U, Pt.locs, Pt.cells, Pt.slots] at X60 l60 y60 z60 st60 hQ60
    subst l60 y60 z60
    obtain ⟨h60, eh60⟩ : ∃ z, z = T60.heap := ⟨_, rfl⟩
    rw [← eh60] at hQ60
    have e60 : T60.heap = h60 := eh60.symm
    obtain ⟨rfl, Nq60, Kq60, F_blockBits_b58, F_capacity_b58, F_size_b58, F_blocks_b58, F_before_b58, V_dN_59_60⟩ := hQ60
    have E_b58 := E_b58.keep Kq60
    have V_bN_59 := V_bN_59.keep Kq60 (ninS (Ne.symm ne_b58_bN_59) (ninS ne_bN_59_dN_59 nin0))
    have Z60 : n0 ≤ h60.size := Nat.le_trans Z59 Kq60.1
    have K60 := K59.trans Kq60 (allS (Or.inr sz_b58) (allS (Or.inr sz_dN_59) all0))
    have N60 := Fr.app N59 Nq60
    obtain ⟨lc60, X60, N60⟩ : ∃ lc, Stand p l e room_1 s m #[(.int p1), (.int p2), (.int p3), (.int p4), (.int p5), (.int p6)] below meth c T60 lc 3 10 ∧ Fr n0 lc := ⟨_, X60, N60⟩
    refine OutW.via st60 ?_
    show OutW _ _ _ _ _ _ _ (T60.setTop (mkF m 33 #[.val (.int p1), .val (.int p2), .val (.int p3), .val (.int p4), .val (.int p5), .val (.int p6), .val (.int v1), .val (.int (4 : Int32)), .val (.ref b58)] []))
    refine OutW.back (fun t k => XS.aload X60.here hx rfl (hb hby at_33) rfl rfl  k) ?_
    show OutW _ _ _ _ _ _ _ (T60.setTop (mkF m 35 #[.val (.int p1), .val (.int p2), .val (.int p3), .val (.int p4), .val (.int p5), .val (.int p6), .val (.int v1), .val (.int (4 : Int32)), .val (.ref b58)] [(.ref b58)]))
    refine OutW.back (fun t k => XS.iloadN X60.here hx rfl (hb hby at_35) rfl  k) ?_
    show OutW _ _ _ _ _ _ _ (T60.setTop (mkF m 36 #[.val (.int p1), .val (.int p2), .val (.int p3), .val (.int p4), .val (.int p5), .val (.int p6), .val (.int v1), .val (.int (4 : Int32)), .val (.ref b58)] [(.int p3), (.ref b58)]))
    obtain ⟨cq61, kq61, qa61, qb61, qc61⟩ := isOf hZ e60 E_b58
    obtain ⟨_, _, ⟨T61, L61, k61, n61⟩, -, X61, ⟨Lc61, hQ61, l61, y61, z61⟩, st61⟩ := X60.virtualBack hx (y := (⟨"com/example/xml_document_query/xmldocumentquery/tree/IntColumn", "add", "(I)V"⟩ : MethodName)) (z := (⟨"com/example/xml_document_query/xmldocumentquery/tree/IntColumn", "add", "(I)V"⟩ : MethodName)) hown (mvT hZ (hw _ (List.mem_of_getElem? (i := 24) rfl))) (mvT hZ (hw _ (List.mem_of_getElem? (i := 25) rfl))) (notFace_of_selects (args := #[]) (mvT hZ (hw _ (List.mem_of_getElem? (i := 27) rfl)))) (mvT hZ (hw _ (List.mem_of_getElem? (i := 27) rfl))) (mvT hZ (hw _ (List.mem_of_getElem? (i := 26) rfl))) (by decide) (backOf (W := 0) (rm4_1_4 l Z a0 hw [] b58 p3 bN_59 dN_59 kB_59 kD_59 p2 (0 : Int32) (0 : Int32) (0 : Int32) .null h60 n0 Z60 E_b58 g_b58 F_blockBits_b58 F_capacity_b58 F_size_b58 F_blocks_b58 F_before_b58 V_bN_59 O_bN_59 V_dN_59_60 ne_b58_bN_59 (Ne.symm ne_bN_59_dN_59) (Ne.symm ne_b58_dN_59) g_bN_59 g_dN_59) hZ (hw _ (List.mem_of_getElem? (i := 28) rfl)) (hw _ (List.mem_of_getElem? (i := 2) rfl)) (by decide) (by decide)) qa61 qc61 (g := (mkF m 36 #[.val (.int p1), .val (.int p2), .val (.int p3), .val (.int p4), .val (.int p5), .val (.int p6), .val (.int v1), .val (.int (4 : Int32)), .val (.ref b58)] [(.int p3), (.ref b58)])) rfl (by rw [hml]; rfl) (Steps.refl _) (argsL := [(.int p3)]) (rest := []) (lenOf pd_3 rfl) rfl (by show 2 * 0 + _ ≤ _; exact Nat.le_of_eq rfl) (hb hby at_36) (fun _ _ => ⟨rfl, e60, (by decide : 3 + 0 ≤ _), (by decide : 10 + 0 ≤ _)⟩)
    dsimp only [Pt.U, Pt.locs, Pt.cells, Pt.slots] at X61 l61 y61 z61 st61 hQ61
    subst l61 y61 z61
    obtain ⟨h61, eh61⟩ : ∃ z, z = T61.heap := ⟨_, rfl⟩
    rw [← eh61] at hQ61
    have e61 : T61.heap = h61 := eh61.symm
    obtain ⟨rfl, Nq61, Kq61, F_blockBits_b58, F_capacity_b58, F_size_b58, F_blocks_b58, F_before_b58, V_dN_59_61⟩ := hQ61
    have E_b58 := E_b58.keep Kq61
    have V_bN_59 := V_bN_59.keep Kq61 (ninS (Ne.symm ne_b58_bN_59) (ninS ne_bN_59_dN_59 nin0))
    have Z61 : n0 ≤ h61.size := Nat.le_trans Z60 Kq61.1
    have K61 := K60.trans Kq61 (allS (Or.inr sz_b58) (allS (Or.inr sz_dN_59) all0))
    have N61 := Fr.app N60 Nq61
    obtain ⟨lc61, X61, N61⟩ : ∃ lc, Stand p l e room_1 s m #[(.int p1), (.int p2), (.int p3), (.int p4), (.int p5), (.int p6)] below meth c T61 lc 3 10 ∧ Fr n0 lc := ⟨_, X61, N61⟩
    refine OutW.via st61 ?_
    show OutW _ _ _ _ _ _ _ (T61.setTop (mkF m 39 #[.val (.int p1), .val (.int p2), .val (.int p3), .val (.int p4), .val (.int p5), .val (.int p6), .val (.int v1), .val (.int (4 : Int32)), .val (.ref b58)] []))
    refine OutW.back (fun t k => XS.aload X61.here hx rfl (hb hby at_39) rfl rfl  k) ?_
    show OutW _ _ _ _ _ _ _ (T61.setTop (mkF m 41 #[.val (.int p1), .val (.int p2), .val (.int p3), .val (.int p4), .val (.int p5), .val (.int p6), .val (.int v1), .val (.int (4 : Int32)), .val (.ref b58)] [(.ref b58)]))
    refine OutW.back (fun t k => XS.iloadN X61.here hx rfl (hb hby at_41) rfl  k) ?_
    show OutW _ _ _ _ _ _ _ (T61.setTop (mkF m 42 #[.val (.int p1), .val (.int p2), .val (.int p3), .val (.int p4), .val (.int p5), .val (.int p6), .val (.int v1), .val (.int (4 : Int32)), .val (.ref b58)] [(.int p4), (.ref b58)]))
    obtain ⟨cq62, kq62, qa62, qb62, qc62⟩ := isOf hZ e61 E_b58
    obtain ⟨_, _, ⟨T62, L62, k62, n62⟩, -, X62, ⟨Lc62, hQ62, l62, y62, z62⟩, st62⟩ := X61.virtualBack hx (y := (⟨"com/example/xml_document_query/xmldocumentquery/tree/IntColumn", "addFirst", "(I)V"⟩ : MethodName)) (z := (⟨"com/example/xml_document_query/xmldocumentquery/tree/IntColumn", "addFirst", "(I)V"⟩ : MethodName)) hown (mvT hZ (hw _ (List.mem_of_getElem? (i := 62) rfl))) (mvT hZ (hw _ (List.mem_of_getElem? (i := 63) rfl))) (notFace_of_selects (args := #[]) (mvT hZ (hw _ (List.mem_of_getElem? (i := 65) rfl)))) (mvT hZ (hw _ (List.mem_of_getElem? (i := 65) rfl))) (mvT hZ (hw _ (List.mem_of_getElem? (i := 64) rfl))) (by decide) (backOf (W := 0) (rm10_0 l Z a0 hw [] b58 p4 (4 : Int32) bN_59 h61 n0 Z61 E_b58 g_b58 F_blockBits_b58 F_capacity_b58 F_size_b58 F_blocks_b58 F_before_b58) hZ (hw _ (List.mem_of_getElem? (i := 66) rfl)) (hw _ (List.mem_of_getElem? (i := 2) rfl)) (by decide) (by decide)) qa62 qc62 (g := (mkF m 42 #[.val (.int p1), .val (.int p2), .val (.int p3), .val (.int p4), .val (.int p5), .val (.int p6), .val (.int v1), .val (.int (4 : Int32)), .val (.ref b58)] [(.int p4), (.ref b58)])) rfl (by rw [hml]; rfl) (Steps.refl _) (argsL := [(.int p4)]) (rest := []) (lenOf pd_3 rfl) rfl (by show 2 * 0 + _ ≤ _; exact Nat.le_of_eq rfl) (hb hby at_42) (fun _ _ => ⟨rfl, e61, (by decide : 3 + 3 ≤ _), (by decide : 10 + 10 ≤ _)⟩)
    dsimp only [Pt.U, Pt.locs, Pt.cells, Pt.slots] at X62 l62 y62 z62 st62 hQ62
    subst l62 y62 z62
    obtain ⟨h62, eh62⟩ : ∃ z, z = T62.heap := ⟨_, rfl⟩
    rw [← eh62] at hQ62
    have e62 : T62.heap = h62 := eh62.symm
    obtain ⟨cN_62, bN_62, dN_62, kB_62, kD_62, rfl, Nq62, Kq62, F_blockBits_b58, F_capacity_b58, F_size_b58, F_blocks_b58, F_before_b58, szq_cN_62, szq_bN_62, szq_dN_62, g_cN_62, g_bN_62, g_dN_62, ne_cN_62_bN_62, ne_cN_62_dN_62, ne_bN_62_dN_62, E_cN_62, F_blockBits_cN_62, F_capacity_cN_62, F_size_cN_62, F_blocks_cN_62, F_before_cN_62, V_bN_62, V_dN_62, O_bN_62⟩ := hQ62
    have lt62_b58 := E_b58.lt
    have lt62_bN_59 := V_bN_59.lt
    have lt62_dN_59 := V_dN_59_61.lt
    have ne_b58_cN_62 : b58 ≠ cN_62 := Nat.ne_of_lt (Nat.lt_of_lt_of_le lt62_b58 szq_cN_62)
    have ne_bN_59_cN_62 : bN_59 ≠ cN_62 := Nat.ne_of_lt (Nat.lt_of_lt_of_le lt62_bN_59 szq_cN_62)
    have ne_dN_59_cN_62 : dN_59 ≠ cN_62 := Nat.ne_of_lt (Nat.lt_of_lt_of_le lt62_dN_59 szq_cN_62)
    have sz_cN_62 : h0.size ≤ cN_62 := Nat.le_trans K61.1 szq_cN_62
    have ne_b58_bN_62 : b58 ≠ bN_62 := Nat.ne_of_lt (Nat.lt_of_lt_of_le lt62_b58 szq_bN_62)
    have ne_bN_59_bN_62 : bN_59 ≠ bN_62 := Nat.ne_of_lt (Nat.lt_of_lt_of_le lt62_bN_59 szq_bN_62)
    have ne_dN_59_bN_62 : dN_59 ≠ bN_62 := Nat.ne_of_lt (Nat.lt_of_lt_of_le lt62_dN_59 szq_bN_62)
    have sz_bN_62 : h0.size ≤ bN_62 := Nat.le_trans K61.1 szq_bN_62
    have ne_b58_dN_62 : b58 ≠ dN_62 := Nat.ne_of_lt (Nat.lt_of_lt_of_le lt62_b58 szq_dN_62)
    have ne_bN_59_dN_62 : bN_59 ≠ dN_62 := Nat.ne_of_lt (Nat.lt_of_lt_of_le lt62_bN_59 szq_dN_62)
    have ne_dN_59_dN_62 : dN_59 ≠ dN_62 := Nat.ne_of_lt (Nat.lt_of_lt_of_le lt62_dN_59 szq_dN_62)
    have sz_dN_62 : h0.size ≤ dN_62 := Nat.le_trans K61.1 szq_dN_62
    have E_b58 := E_b58.keep Kq62
    have V_bN_59 := V_bN_59.keep Kq62 (ninS (Ne.symm ne_b58_bN_59) nin0)
    have V_dN_59_61 := V_dN_59_61.keep Kq62 (ninS (Ne.symm ne_b58_dN_59) nin0)
    have Z62 : n0 ≤ h62.size := Nat.le_trans Z61 Kq62.1
    have K62 := K61.trans Kq62 (allS (Or.inr sz_b58) all0)
    have N62 := Fr.app N61 Nq62
    obtain ⟨lc62, X62, N62⟩ : ∃ lc, Stand p l e room_1 s m #[(.int p1), (.int p2), (.int p3), (.int p4), (.int p5), (.int p6)] below meth c T62 lc 6 20 ∧ Fr n0 lc := ⟨_, X62, N62⟩
    refine OutW.via st62 ?_
    show OutW _ _ _ _ _ _ _ (T62.setTop (mkF m 45 #[.val (.int p1), .val (.int p2), .val (.int p3), .val (.int p4), .val (.int p5), .val (.int p6), .val (.int v1), .val (.int (4 : Int32)), .val (.ref b58)] []))
    refine OutW.back (fun t k => XS.aload X62.here hx rfl (hb hby at_45) rfl rfl  k) ?_
    show OutW _ _ _ _ _ _ _ (T62.setTop (mkF m 47 #[.val (.int p1), .val (.int p2), .val (.int p3), .val (.int p4), .val (.int p5), .val (.int p6), .val (.int v1), .val (.int (4 : Int32)), .val (.ref b58)] [(.ref b58)]))
    refine OutW.back (fun t k => XS.iload X62.here hx rfl (hb hby at_47) rfl  k) ?_
    show OutW _ _ _ _ _ _ _ (T62.setTop (mkF m 49 #[.val (.int p1), .val (.int p2), .val (.int p3), .val (.int p4), .val (.int p5), .val (.int p6), .val (.int v1), .val (.int (4 : Int32)), .val (.ref b58)] [(.int p5), (.ref b58)]))
    obtain ⟨cq63, kq63, qa63, qb63, qc63⟩ := isOf hZ e62 E_b58
    obtain ⟨_, _, ⟨T63, L63, k63, n63⟩, -, X63, ⟨Lc63, hQ63, l63, y63, z63⟩, st63⟩ := X62.virtualBack hx (y := (⟨"com/example/xml_document_query/xmldocumentquery/tree/IntColumn", "addFirst", "(I)V"⟩ : MethodName)) (z := (⟨"com/example/xml_document_query/xmldocumentquery/tree/IntColumn", "addFirst", "(I)V"⟩ : MethodName)) hown (mvT hZ (hw _ (List.mem_of_getElem? (i := 62) rfl))) (mvT hZ (hw _ (List.mem_of_getElem? (i := 63) rfl))) (notFace_of_selects (args := #[]) (mvT hZ (hw _ (List.mem_of_getElem? (i := 65) rfl)))) (mvT hZ (hw _ (List.mem_of_getElem? (i := 65) rfl))) (mvT hZ (hw _ (List.mem_of_getElem? (i := 64) rfl))) (by decide) (backOf (W := 0) (rm10_1 l Z a0 hw [] b58 p5 cN_62 bN_62 dN_62 kB_62 kD_62 p4 h62 n0 Z62 F_before_b58 E_cN_62 g_cN_62 F_blockBits_cN_62 F_capacity_cN_62 F_size_cN_62 F_blocks_cN_62 F_before_cN_62 V_bN_62 O_bN_62 V_dN_62 g_bN_62 g_dN_62 ne_cN_62_bN_62 (Ne.symm ne_bN_62_dN_62) (Ne.symm ne_cN_62_dN_62) ne_b58_cN_62 ne_b58_dN_62) hZ (hw _ (List.mem_of_getElem? (i := 66) rfl)) (hw _ (List.mem_of_getElem? (i := 2) rfl)) (by decide) (by decide)) qa63 qc63 (g := (mkF m 49 #[.val (.int p1), .val (.int p2), .val (.int p3), .val (.int p4), .val (.int p5), .val (.int p6), .val (.int v1), .val (.int (4 : Int32)), .val (.ref b58)] [(.int p5), (.ref b58)])) rfl (by rw [hml]; rfl) (Steps.refl _) (argsL := [(.int p5)]) (rest := []) (lenOf pd_3 rfl) rfl (by show 2 * 0 + _ ≤ _; exact Nat.le_of_eq rfl) (hb hby at_49) (fun _ _ => ⟨rfl, e62, (by decide : 6 + 0 ≤ _), (by decide : 20 + 0 ≤ _)⟩)
    dsimp only [Pt.U, Pt.locs, Pt.cells, Pt.slots] at X63 l63 y63 z63 st63 hQ63
    subst l63 y63 z63
    obtain ⟨h63, eh63⟩ : ∃ z, z = T63.heap := ⟨_, rfl⟩
    rw [← eh63] at hQ63
    have e63 : T63.heap = h63 := eh63.symm
    obtain ⟨rfl, Nq63, Kq63, F_blockBits_cN_62, F_capacity_cN_62, F_size_cN_62, F_blocks_cN_62, F_before_cN_62, V_dN_62_63⟩ := hQ63
    have E_b58 := E_b58.keep Kq63
    have V_bN_59 := V_bN_59.keep Kq63 (ninS ne_bN_59_cN_62 (ninS ne_bN_59_dN_62 nin0))
    have V_dN_59_61 := V_dN_59_61.keep Kq63 (ninS ne_dN_59_cN_62 (ninS ne_dN_59_dN_62 nin0))
    have F_blockBits_b58 := F_blockBits_b58.keep Kq63 (ninS ne_b58_cN_62 (ninS ne_b58_dN_62 nin0))
    have F_capacity_b58 := F_capacity_b58.keep Kq63 (ninS ne_b58_cN_62 (ninS ne_b58_dN_62 nin0))
    have F_size_b58 := F_size_b58.keep Kq63 (ninS ne_b58_cN_62 (ninS ne_b58_dN_62 nin0))
    have F_blocks_b58 := F_blocks_b58.keep Kq63 (ninS ne_b58_cN_62 (ninS ne_b58_dN_62 nin0))
    have F_before_b58 := F_before_b58.keep Kq63 (ninS ne_b58_cN_62 (ninS ne_b58_dN_62 nin0))
    have E_cN_62 := E_cN_62.keep Kq63
    have V_bN_62 := V_bN_62.keep Kq63 (ninS (Ne.symm ne_cN_62_bN_62) (ninS ne_bN_62_dN_62 nin0))
    have Z63 : n0 ≤ h63.size := Nat.le_trans Z62 Kq63.1
    have K63 := K62.trans Kq63 (allS (Or.inr sz_cN_62) (allS (Or.inr sz_dN_62) all0))
    have N63 := Fr.app N62 Nq63
    obtain ⟨lc63, X63, N63⟩ : ∃ lc, Stand p l e room_1 s m #[(.int p1), (.int p2), (.int p3), (.int p4), (.int p5), (.int p6)] below meth c T63 lc 6 20 ∧ Fr n0 lc := ⟨_, X63, N63⟩
    refine OutW.via st63 ?_
    show OutW _ _ _ _ _ _ _ (T63.setTop (mkF m 52 #[.val (.int p1), .val (.int p2), .val (.int p3), .val (.int p4), .val (.int p5), .val (.int p6), .val (.int v1), .val (.int (4 : Int32)), .val (.ref b58)] []))
    refine OutW.back (fun t k => XS.aload X63.here hx rfl (hb hby at_52) rfl rfl  k) ?_
    show OutW _ _ _ _ _ _ _ (T63.setTop (mkF m 54 #[.val (.int p1), .val (.int p2), .val (.int p3), .val (.int p4), .val (.int p5), .val (.int p6), .val (.int v1), .val (.int (4 : Int32)), .val (.ref b58)] [(.ref b58)]))
    refine OutW.back (fun t k => XS.iload X63.here hx rfl (hb hby at_54) rfl  k) ?_
    show OutW _ _ _ _ _ _ _ (T63.setTop (mkF m 56 #[.val (.int p1), .val (.int p2), .val (.int p3), .val (.int p4), .val (.int p5), .val (.int p6), .val (.int v1), .val (.int (4 : Int32)), .val (.ref b58)] [(.int v1), (.ref b58)]))
    refine OutW.back (fun t k => XS.iload X63.here hx rfl (hb hby at_56) rfl  k) ?_
    show OutW _ _ _ _ _ _ _ (T63.setTop (mkF m 58 #[.val (.int p1), .val (.int p2), .val (.int p3), .val (.int p4), .val (.int p5), .val (.int p6), .val (.int v1), .val (.int (4 : Int32)), .val (.ref b58)] [(.int p6), (.int v1), (.ref b58)]))
    obtain ⟨cq64, kq64, qa64, qb64, qc64⟩ := isOf hZ e63 E_b58
    obtain ⟨_, _, ⟨T64, L64, k64, n64⟩, -, X64, ⟨Lc64, hQ64, l64, y64, z64⟩, st64⟩ := X63.virtualBack hx (y := (⟨"com/example/xml_document_query/xmldocumentquery/tree/IntColumn", "set", "(II)V"⟩ : MethodName)) (z := (⟨"com/example/xml_document_query/xmldocumentquery/tree/IntColumn", "set", "(II)V"⟩ : MethodName)) hown (mvT hZ (hw _ (List.mem_of_getElem? (i := 72) rfl))) (mvT hZ (hw _ (List.mem_of_getElem? (i := 73) rfl))) (notFace_of_selects (args := #[]) (mvT hZ (hw _ (List.mem_of_getElem? (i := 75) rfl)))) (mvT hZ (hw _ (List.mem_of_getElem? (i := 75) rfl))) (mvT hZ (hw _ (List.mem_of_getElem? (i := 74) rfl))) (by decide) (backOf (W := 0) (rm11_c4 l Z a0 hw [] b58 v1 p6 bN_59 dN_59 cN_62 bN_62 dN_62 kB_59 kD_59 kB_62 kD_62 p2 p3 p4 p5 h63 n0 Z63 F_blocks_b58 F_before_b58 V_bN_59 V_dN_59_61 E_cN_62 F_blocks_cN_62 V_bN_62 V_dN_62_63 g_dN_59 g_dN_62 (Ne.symm ne_bN_59_dN_59) ne_b58_dN_59 (Ne.symm ne_dN_59_dN_62) (Ne.symm ne_dN_59_bN_62) (Ne.symm ne_dN_59_cN_62) (Ne.symm ne_bN_62_dN_62) ne_cN_62_dN_62 ne_b58_dN_62 ne_bN_59_dN_62 hi) hZ (hw _ (List.mem_of_getElem? (i := 76) rfl)) (hw _ (List.mem_of_getElem? (i := 2) rfl)) (by decide) (by decide)) qa64 qc64 (g := (mkF m 58 #[.val (.int p1), .val (.int p2), .val (.int p3), .val (.int p4), .val (.int p5), .val (.int p6), .val (.int v1), .val (.int (4 : Int32)), .val (.ref b58)] [(.int p6), (.int v1), (.ref b58)])) rfl (by rw [hml]; rfl) (Steps.refl _) (argsL := [(.int v1), (.int p6)]) (rest := []) (lenOf pd_0 rfl) rfl (by show 2 * 0 + _ ≤ _; exact Nat.le_of_eq rfl) (hb hby at_58) (fun _ _ => ⟨rfl, e63, (by decide : 6 + 0 ≤ _), (by decide : 20 + 0 ≤ _)⟩)
    dsimp only [Pt.U, Pt.locs, Pt.cells, Pt.slots] at X64 l64 y64 z64 st64 hQ64
    subst l64 y64 z64
    obtain ⟨h64, eh64⟩ : ∃ z, z = T64.heap := ⟨_, rfl⟩
    rw [← eh64] at hQ64
    have e64 : T64.heap = h64 := eh64.symm
    obtain ⟨rfl, Nq64, Kq64, V_dN_59_64, V_dN_62_64⟩ := hQ64
    have E_b58 := E_b58.keep Kq64
    have V_bN_59 := V_bN_59.keep Kq64 (ninS ne_bN_59_dN_59 (ninS ne_bN_59_dN_62 nin0))
    have F_blockBits_b58 := F_blockBits_b58.keep Kq64 (ninS ne_b58_dN_59 (ninS ne_b58_dN_62 nin0))
    have F_capacity_b58 := F_capacity_b58.keep Kq64 (ninS ne_b58_dN_59 (ninS ne_b58_dN_62 nin0))
    have F_size_b58 := F_size_b58.keep Kq64 (ninS ne_b58_dN_59 (ninS ne_b58_dN_62 nin0))
    have F_blocks_b58 := F_blocks_b58.keep Kq64 (ninS ne_b58_dN_59 (ninS ne_b58_dN_62 nin0))
    have F_before_b58 := F_before_b58.keep Kq64 (ninS ne_b58_dN_59 (ninS ne_b58_dN_62 nin0))
    have E_cN_62 := E_cN_62.keep Kq64
    have V_bN_62 := V_bN_62.keep Kq64 (ninS (Ne.symm ne_dN_59_bN_62) (ninS ne_bN_62_dN_62 nin0))
    have F_blockBits_cN_62 := F_blockBits_cN_62.keep Kq64 (ninS (Ne.symm ne_dN_59_cN_62) (ninS ne_cN_62_dN_62 nin0))
    have F_capacity_cN_62 := F_capacity_cN_62.keep Kq64 (ninS (Ne.symm ne_dN_59_cN_62) (ninS ne_cN_62_dN_62 nin0))
    have F_size_cN_62 := F_size_cN_62.keep Kq64 (ninS (Ne.symm ne_dN_59_cN_62) (ninS ne_cN_62_dN_62 nin0))
    have F_blocks_cN_62 := F_blocks_cN_62.keep Kq64 (ninS (Ne.symm ne_dN_59_cN_62) (ninS ne_cN_62_dN_62 nin0))
    have F_before_cN_62 := F_before_cN_62.keep Kq64 (ninS (Ne.symm ne_dN_59_cN_62) (ninS ne_cN_62_dN_62 nin0))
    have Z64 : n0 ≤ h64.size := Nat.le_trans Z63 Kq64.1
    have K64 := K63.trans Kq64 (allS (Or.inr sz_dN_59) (allS (Or.inr sz_dN_62) all0))
    have N64 := Fr.app N63 Nq64
    obtain ⟨lc64, X64, N64⟩ : ∃ lc, Stand p l e room_1 s m #[(.int p1), (.int p2), (.int p3), (.int p4), (.int p5), (.int p6)] below meth c T64 lc 6 20 ∧ Fr n0 lc := ⟨_, X64, N64⟩
    refine OutW.via st64 ?_
    show OutW _ _ _ _ _ _ _ (T64.setTop (mkF m 61 #[.val (.int p1), .val (.int p2), .val (.int p3), .val (.int p4), .val (.int p5), .val (.int p6), .val (.int v1), .val (.int (4 : Int32)), .val (.ref b58)] []))
    refine OutW.back (fun t k => XS.aload X64.here hx rfl (hb hby at_61) rfl rfl  k) ?_
    show OutW _ _ _ _ _ _ _ (T64.setTop (mkF m 63 #[.val (.int p1), .val (.int p2), .val (.int p3), .val (.int p4), .val (.int p5), .val (.int p6), .val (.int v1), .val (.int (4 : Int32)), .val (.ref b58)] [(.ref b58)]))
    refine OutW.back (fun t k => XS.bipush X64.here hx rfl (hb hby at_63) k) ?_
    show OutW _ _ _ _ _ _ _ (T64.setTop (mkF m 65 #[.val (.int p1), .val (.int p2), .val (.int p3), .val (.int p4), .val (.int p5), .val (.int p6), .val (.int v1), .val (.int (4 : Int32)), .val (.ref b58)] [(.int (-2 : Int32)), (.ref b58)]))
    obtain ⟨cq65, kq65, qa65, qb65, qc65⟩ := isOf hZ e64 E_b58
    obtain ⟨_, _, ⟨T65, L65, k65, n65⟩, -, X65, ⟨Lc65, hQ65, l65, y65, z65⟩, st65⟩ := X64.virtualBack hx (y := (⟨"com/example/xml_document_query/xmldocumentquery/tree/IntColumn", "get", "(I)I"⟩ : MethodName)) (z := (⟨"com/example/xml_document_query/xmldocumentquery/tree/IntColumn", "get", "(I)I"⟩ : MethodName)) hown (mvT hZ (hw _ (List.mem_of_getElem? (i := 78) rfl))) (mvT hZ (hw _ (List.mem_of_getElem? (i := 79) rfl))) (notFace_of_selects (args := #[]) (mvT hZ (hw _ (List.mem_of_getElem? (i := 81) rfl)))) (mvT hZ (hw _ (List.mem_of_getElem? (i := 81) rfl))) (mvT hZ (hw _ (List.mem_of_getElem? (i := 80) rfl))) (by decide) (backOf (W := 0) (rm12_m2 l Z a0 hw [] b58 cN_62 bN_62 dN_62 kB_62 kD_62 (if v1 = (-1 : Int32) then p6 else p4) (if v1 = (-2 : Int32) then p6 else p5) (0 : Int32) (0 : Int32) h64 n0 Z64 F_before_b58 E_cN_62 F_blocks_cN_62 V_bN_62 V_dN_62_64) hZ (hw _ (List.mem_of_getElem? (i := 82) rfl)) (hw _ (List.mem_of_getElem? (i := 2) rfl)) (by decide) (by decide)) qa65 qc65 (g := (mkF m 65 #[.val (.int p1), .val (.int p2), .val (.int p3), .val (.int p4), .val (.int p5), .val (.int p6), .val (.int v1), .val (.int (4 : Int32)), .val (.ref b58)] [(.int (-2 : Int32)), (.ref b58)])) rfl (by rw [hml]; rfl) (Steps.refl _) (argsL := [(.int (-2 : Int32))]) (rest := []) (lenOf pd_6 rfl) rfl (by show 2 * 0 + _ ≤ _; exact Nat.le_of_eq rfl) (hb hby at_65) (fun _ _ => ⟨rfl, e64, (by decide : 6 + 0 ≤ _), (by decide : 20 + 0 ≤ _)⟩)
    dsimp only [Pt.U, Pt.locs, Pt.cells, Pt.slots] at X65 l65 y65 z65 st65 hQ65
    subst l65 y65 z65
    obtain ⟨rfl, Nq65, e65⟩ := hQ65
    have N65 := Fr.app N64 Nq65
    obtain ⟨lc65, X65, N65⟩ : ∃ lc, Stand p l e room_1 s m #[(.int p1), (.int p2), (.int p3), (.int p4), (.int p5), (.int p6)] below meth c T65 lc 6 20 ∧ Fr n0 lc := ⟨_, X65, N65⟩
    refine OutW.via st65 ?_
    show OutW _ _ _ _ _ _ _ (T65.setTop (mkF m 68 #[.val (.int p1), .val (.int p2), .val (.int p3), .val (.int p4), .val (.int p5), .val (.int p6), .val (.int v1), .val (.int (4 : Int32)), .val (.ref b58)] [(.int (if v1 = (-2 : Int32) then p6 else p5))]))
    refine OutW.back (fun t k => XS.iload X65.here hx rfl (hb hby at_68) rfl  k) ?_
    show OutW _ _ _ _ _ _ _ (T65.setTop (mkF m 70 #[.val (.int p1), .val (.int p2), .val (.int p3), .val (.int p4), .val (.int p5), .val (.int p6), .val (.int v1), .val (.int (4 : Int32)), .val (.ref b58)] [(.int v1), (.int (if v1 = (-2 : Int32) then p6 else p5))]))
    refine OutW.back (fun t k => XS.bipush X65.here hx rfl (hb hby at_70) k) ?_
    show OutW _ _ _ _ _ _ _ (T65.setTop (mkF m 72 #[.val (.int p1), .val (.int p2), .val (.int p3), .val (.int p4), .val (.int p5), .val (.int p6), .val (.int v1), .val (.int (4 : Int32)), .val (.ref b58)] [(.int (-2 : Int32)), (.int v1), (.int (if v1 = (-2 : Int32) then p6 else p5))]))
    obtain ⟨v67, hv_v67⟩ : ∃ z : Int32, z = (if v1 = (-2 : Int32) then p6 else p5) := ⟨_, rfl⟩
    have j68 : ∀ t, Steps p.tables e below (T65.setTop (mkF m 82 #[.val (.int p1), .val (.int p2), .val (.int p3), .val (.int p4), .val (.int p5), .val (.int p6), .val (.int v1), .val (.int (4 : Int32)), .val (.ref b58)] [(.int v67), (.int (if v1 = (-2 : Int32) then p6 else p5))])) t → Steps p.tables e below (T65.setTop (mkF m 72 #[.val (.int p1), .val (.int p2), .val (.int p3), .val (.int p4), .val (.int p5), .val (.int p6), .val (.int v1), .val (.int (4 : Int32)), .val (.ref b58)] [(.int (-2 : Int32)), (.int v1), (.int (if v1 = (-2 : Int32) then p6 else p5))])) t := by
      intro t k
      by_cases c72_69 : v1 = (-2 : Int32)
      · skip
        refine XS.icmpNo X65.here hx rfl (hb hby at_72) rfl (teq c72_69).2 ?_
        show Steps p.tables e below (T65.setTop (mkF m 75 #[.val (.int p1), .val (.int p2), .val (.int p3), .val (.int p4), .val (.int p5), .val (.int p6), .val (.int v1), .val (.int (4 : Int32)), .val (.ref b58)] [(.int (if v1 = (-2 : Int32) then p6 else p5))])) t
        refine XS.iload X65.here hx rfl (hb hby at_75) rfl  ?_
        show Steps p.tables e below (T65.setTop (mkF m 77 #[.val (.int p1), .val (.int p2), .val (.int p3), .val (.int p4), .val (.int p5), .val (.int p6), .val (.int v1), .val (.int (4 : Int32)), .val (.ref b58)] [(.int p6), (.int (if v1 = (-2 : Int32) then p6 else p5))])) t
        refine XS.goto X65.here hx rfl (pc0 := 77) (pc' := 82) rfl (hb hby at_77) (by decide) (by decide) ?_
        show Steps p.tables e below (T65.setTop (mkF m 82 #[.val (.int p1), .val (.int p2), .val (.int p3), .val (.int p4), .val (.int p5), .val (.int p6), .val (.int v1), .val (.int (4 : Int32)), .val (.ref b58)] [(.int p6), (.int (if v1 = (-2 : Int32) then p6 else p5))])) t
        have q_v67 : v67 = p6 := by rw [hv_v67, if_pos c72_69]
        rw [q_v67] at k
        exact k
      · skip
        refine XS.icmpYes X65.here hx rfl (pc0 := 72) (pc' := 80) rfl (hb hby at_72) rfl (feq c72_69).2 (by decide) (by decide) ?_
        show Steps p.tables e below (T65.setTop (mkF m 80 #[.val (.int p1), .val (.int p2), .val (.int p3), .val (.int p4), .val (.int p5), .val (.int p6), .val (.int v1), .val (.int (4 : Int32)), .val (.ref b58)] [(.int (if v1 = (-2 : Int32) then p6 else p5))])) t
        refine XS.iload X65.here hx rfl (hb hby at_80) rfl  ?_
        show Steps p.tables e below (T65.setTop (mkF m 82 #[.val (.int p1), .val (.int p2), .val (.int p3), .val (.int p4), .val (.int p5), .val (.int p6), .val (.int v1), .val (.int (4 : Int32)), .val (.ref b58)] [(.int p5), (.int (if v1 = (-2 : Int32) then p6 else p5))])) t
        have q_v67 : v67 = p5 := by rw [hv_v67, if_neg c72_69]
        rw [q_v67] at k
        exact k
    refine OutW.back j68 ?_
    show OutW _ _ _ _ _ _ _ (T65.setTop (mkF m 82 #[.val (.int p1), .val (.int p2), .val (.int p3), .val (.int p4), .val (.int p5), .val (.int p6), .val (.int v1), .val (.int (4 : Int32)), .val (.ref b58)] [(.int v67), (.int (if v1 = (-2 : Int32) then p6 else p5))]))
    refine OutW.back (fun t k => XS.icmpNo X65.here hx rfl (hb hby at_82) rfl (teq hv_v67.symm).2 k) ?_
    show OutW _ _ _ _ _ _ _ (T65.setTop (mkF m 85 #[.val (.int p1), .val (.int p2), .val (.int p3), .val (.int p4), .val (.int p5), .val (.int p6), .val (.int v1), .val (.int (4 : Int32)), .val (.ref b58)] []))
    refine OutW.back (fun t k => XS.aload X65.here hx rfl (hb hby at_85) rfl rfl  k) ?_
    show OutW _ _ _ _ _ _ _ (T65.setTop (mkF m 87 #[.val (.int p1), .val (.int p2), .val (.int p3), .val (.int p4), .val (.int p5), .val (.int p6), .val (.int v1), .val (.int (4 : Int32)), .val (.ref b58)] [(.ref b58)]))
    refine OutW.back (fun t k => XS.iconst X65.here hx rfl (hb hby at_87) k) ?_
    show OutW _ _ _ _ _ _ _ (T65.setTop (mkF m 88 #[.val (.int p1), .val (.int p2), .val (.int p3), .val (.int p4), .val (.int p5), .val (.int p6), .val (.int v1), .val (.int (4 : Int32)), .val (.ref b58)] [(.int (-1 : Int32)), (.ref b58)]))
    obtain ⟨cq70, kq70, qa70, qb70, qc70⟩ := isOf hZ e65 E_b58
    obtain ⟨_, _, ⟨T70, L70, k70, n70⟩, -, X70, ⟨Lc70, hQ70, l70, y70, z70⟩, st70⟩ := X65.virtualBack hx (y := (⟨"com/example/xml_document_query/xmldocumentquery/tree/IntColumn", "get", "(I)I"⟩ : MethodName)) (z := (⟨"com/example/xml_document_query/xmldocumentquery/tree/IntColumn", "get", "(I)I"⟩ : MethodName)) hown (mvT hZ (hw _ (List.mem_of_getElem? (i := 78) rfl))) (mvT hZ (hw _ (List.mem_of_getElem? (i := 79) rfl))) (notFace_of_selects (args := #[]) (mvT hZ (hw _ (List.mem_of_getElem? (i := 81) rfl)))) (mvT hZ (hw _ (List.mem_of_getElem? (i := 81) rfl))) (mvT hZ (hw _ (List.mem_of_getElem? (i := 80) rfl))) (by decide) (backOf (W := 0) (rm12_m1 l Z a0 hw [] b58 cN_62 bN_62 dN_62 kB_62 kD_62 (if v1 = (-1 : Int32) then p6 else p4) (if v1 = (-2 : Int32) then p6 else p5) (0 : Int32) (0 : Int32) h64 n0 Z64 F_before_b58 E_cN_62 F_blocks_cN_62 V_bN_62 V_dN_62_64) hZ (hw _ (List.mem_of_getElem? (i := 82) rfl)) (hw _ (List.mem_of_getElem? (i := 2) rfl)) (by decide) (by decide)) qa70 qc70 (g := (mkF m 88 #[.val (.int p1), .val (.int p2), .val (.int p3), .val (.int p4), .val (.int p5), .val (.int p6), .val (.int v1), .val (.int (4 : Int32)), .val (.ref b58)] [(.int (-1 : Int32)), (.ref b58)])) rfl (by rw [hml]; rfl) (Steps.refl _) (argsL := [(.int (-1 : Int32))]) (rest := []) (lenOf pd_6 rfl) rfl (by show 2 * 0 + _ ≤ _; exact Nat.le_of_eq rfl) (hb hby at_88) (fun _ _ => ⟨rfl, e65, (by decide : 6 + 0 ≤ _), (by decide : 20 + 0 ≤ _)⟩)
    dsimp only [Pt.U, Pt.locs, Pt.cells, Pt.slots] at X70 l70 y70 z70 st70 hQ70
    subst l70 y70 z70
    obtain ⟨rfl, Nq70, e70⟩ := hQ70
    have N70 := Fr.app N65 Nq70
    obtain ⟨lc70, X70, N70⟩ : ∃ lc, Stand p l e room_1 s m #[(.int p1), (.int p2), (.int p3), (.int p4), (.int p5), (.int p6)] below meth c T70 lc 6 20 ∧ Fr n0 lc := ⟨_, X70, N70⟩
    refine OutW.via st70 ?_
    show OutW _ _ _ _ _ _ _ (T70.setTop (mkF m 91 #[.val (.int p1), .val (.int p2), .val (.int p3), .val (.int p4), .val (.int p5), .val (.int p6), .val (.int v1), .val (.int (4 : Int32)), .val (.ref b58)] [(.int (if v1 = (-1 : Int32) then p6 else p4))]))
    refine OutW.back (fun t k => XS.iload X70.here hx rfl (hb hby at_91) rfl  k) ?_
    show OutW _ _ _ _ _ _ _ (T70.setTop (mkF m 93 #[.val (.int p1), .val (.int p2), .val (.int p3), .val (.int p4), .val (.int p5), .val (.int p6), .val (.int v1), .val (.int (4 : Int32)), .val (.ref b58)] [(.int v1), (.int (if v1 = (-1 : Int32) then p6 else p4))]))
    refine OutW.back (fun t k => XS.iconst X70.here hx rfl (hb hby at_93) k) ?_
    show OutW _ _ _ _ _ _ _ (T70.setTop (mkF m 94 #[.val (.int p1), .val (.int p2), .val (.int p3), .val (.int p4), .val (.int p5), .val (.int p6), .val (.int v1), .val (.int (4 : Int32)), .val (.ref b58)] [(.int (-1 : Int32)), (.int v1), (.int (if v1 = (-1 : Int32) then p6 else p4))]))
    obtain ⟨v72, hv_v72⟩ : ∃ z : Int32, z = (if v1 = (-1 : Int32) then p6 else p4) := ⟨_, rfl⟩
    have j73 : ∀ t, Steps p.tables e below (T70.setTop (mkF m 103 #[.val (.int p1), .val (.int p2), .val (.int p3), .val (.int p4), .val (.int p5), .val (.int p6), .val (.int v1), .val (.int (4 : Int32)), .val (.ref b58)] [(.int v72), (.int (if v1 = (-1 : Int32) then p6 else p4))])) t → Steps p.tables e below (T70.setTop (mkF m 94 #[.val (.int p1), .val (.int p2), .val (.int p3), .val (.int p4), .val (.int p5), .val (.int p6), .val (.int v1), .val (.int (4 : Int32)), .val (.ref b58)] [(.int (-1 : Int32)), (.int v1), (.int (if v1 = (-1 : Int32) then p6 else p4))])) t := by
      intro t k
      by_cases c94_74 : v1 = (-1 : Int32)
      · skip
        refine XS.icmpNo X70.here hx rfl (hb hby at_94) rfl (teq c94_74).2 ?_
        show Steps p.tables e below (T70.setTop (mkF m 97 #[.val (.int p1), .val (.int p2), .val (.int p3), .val (.int p4), .val (.int p5), .val (.int p6), .val (.int v1), .val (.int (4 : Int32)), .val (.ref b58)] [(.int (if v1 = (-1 : Int32) then p6 else p4))])) t
        refine XS.iload X70.here hx rfl (hb hby at_97) rfl  ?_
        show Steps p.tables e below (T70.setTop (mkF m 99 #[.val (.int p1), .val (.int p2), .val (.int p3), .val (.int p4), .val (.int p5), .val (.int p6), .val (.int v1), .val (.int (4 : Int32)), .val (.ref b58)] [(.int p6), (.int (if v1 = (-1 : Int32) then p6 else p4))])) t
        refine XS.goto X70.here hx rfl (pc0 := 99) (pc' := 103) rfl (hb hby at_99) (by decide) (by decide) ?_
        show Steps p.tables e below (T70.setTop (mkF m 103 #[.val (.int p1), .val (.int p2), .val (.int p3), .val (.int p4), .val (.int p5), .val (.int p6), .val (.int v1), .val (.int (4 : Int32)), .val (.ref b58)] [(.int p6), (.int (if v1 = (-1 : Int32) then p6 else p4))])) t
        have q_v72 : v72 = p6 := by rw [hv_v72, if_pos c94_74]
        rw [q_v72] at k
        exact k
      · skip
        refine XS.icmpYes X70.here hx rfl (pc0 := 94) (pc' := 102) rfl (hb hby at_94) rfl (feq c94_74).2 (by decide) (by decide) ?_
        show Steps p.tables e below (T70.setTop (mkF m 102 #[.val (.int p1), .val (.int p2), .val (.int p3), .val (.int p4), .val (.int p5), .val (.int p6), .val (.int v1), .val (.int (4 : Int32)), .val (.ref b58)] [(.int (if v1 = (-1 : Int32) then p6 else p4))])) t
        refine XS.iloadN X70.here hx rfl (hb hby at_102) rfl  ?_
        show Steps p.tables e below (T70.setTop (mkF m 103 #[.val (.int p1), .val (.int p2), .val (.int p3), .val (.int p4), .val (.int p5), .val (.int p6), .val (.int v1), .val (.int (4 : Int32)), .val (.ref b58)] [(.int p4), (.int (if v1 = (-1 : Int32) then p6 else p4))])) t
        have q_v72 : v72 = p4 := by rw [hv_v72, if_neg c94_74]
        rw [q_v72] at k
        exact k
    refine OutW.back j73 ?_
    show OutW _ _ _ _ _ _ _ (T70.setTop (mkF m 103 #[.val (.int p1), .val (.int p2), .val (.int p3), .val (.int p4), .val (.int p5), .val (.int p6), .val (.int v1), .val (.int (4 : Int32)), .val (.ref b58)] [(.int v72), (.int (if v1 = (-1 : Int32) then p6 else p4))]))
    refine OutW.back (fun t k => XS.icmpNo X70.here hx rfl (hb hby at_103) rfl (teq hv_v72.symm).2 k) ?_
    show OutW _ _ _ _ _ _ _ (T70.setTop (mkF m 106 #[.val (.int p1), .val (.int p2), .val (.int p3), .val (.int p4), .val (.int p5), .val (.int p6), .val (.int v1), .val (.int (4 : Int32)), .val (.ref b58)] []))
    refine OutW.back (fun t k => XS.aload X70.here hx rfl (hb hby at_106) rfl rfl  k) ?_
    show OutW _ _ _ _ _ _ _ (T70.setTop (mkF m 108 #[.val (.int p1), .val (.int p2), .val (.int p3), .val (.int p4), .val (.int p5), .val (.int p6), .val (.int v1), .val (.int (4 : Int32)), .val (.ref b58)] [(.ref b58)]))
    refine OutW.back (fun t k => XS.iconst X70.here hx rfl (hb hby at_108) k) ?_
    show OutW _ _ _ _ _ _ _ (T70.setTop (mkF m 109 #[.val (.int p1), .val (.int p2), .val (.int p3), .val (.int p4), .val (.int p5), .val (.int p6), .val (.int v1), .val (.int (4 : Int32)), .val (.ref b58)] [(.int (0 : Int32)), (.ref b58)]))
    obtain ⟨cq75, kq75, qa75, qb75, qc75⟩ := isOf hZ e70 E_b58
    obtain ⟨_, _, ⟨T75, L75, k75, n75⟩, -, X75, ⟨Lc75, hQ75, l75, y75, z75⟩, st75⟩ := X70.virtualBack hx (y := (⟨"com/example/xml_document_query/xmldocumentquery/tree/IntColumn", "get", "(I)I"⟩ : MethodName)) (z := (⟨"com/example/xml_document_query/xmldocumentquery/tree/IntColumn", "get", "(I)I"⟩ : MethodName)) hown (mvT hZ (hw _ (List.mem_of_getElem? (i := 78) rfl))) (mvT hZ (hw _ (List.mem_of_getElem? (i := 79) rfl))) (notFace_of_selects (args := #[]) (mvT hZ (hw _ (List.mem_of_getElem? (i := 81) rfl)))) (mvT hZ (hw _ (List.mem_of_getElem? (i := 81) rfl))) (mvT hZ (hw _ (List.mem_of_getElem? (i := 80) rfl))) (by decide) (backOf (W := 0) (rm12_0_4 l Z a0 hw [] b58 bN_59 dN_59 kB_59 kD_59 (if v1 = (0 : Int32) then p6 else p2) (if v1 = (1 : Int32) then p6 else p3) (0 : Int32) (0 : Int32) h64 n0 Z64 F_blocks_b58 V_bN_59 V_dN_59_64) hZ (hw _ (List.mem_of_getElem? (i := 82) rfl)) (hw _ (List.mem_of_getElem? (i := 2) rfl)) (by decide) (by decide)) qa75 qc75 (g := (mkF m 109 #[.val (.int p1), .val (.int p2), .val (.int p3), .val (.int p4), .val (.int p5), .val (.int p6), .val (.int v1), .val (.int (4 : Int32)), .val (.ref b58)] [(.int (0 : Int32)), (.ref b58)])) rfl (by rw [hml]; rfl) (Steps.refl _) (argsL := [(.int (0 : Int32))]) (rest := []) (lenOf pd_6 rfl) rfl (by show 2 * 0 + _ ≤ _; exact Nat.le_of_eq rfl) (hb hby at_109) (fun _ _ => ⟨rfl, e70, (by decide : 6 + 0 ≤ _), (by decide : 20 + 0 ≤ _)⟩)
    dsimp only [Pt.U, Pt.locs, Pt.cells, Pt.slots] at X75 l75 y75 z75 st75 hQ75
    subst l75 y75 z75
    obtain ⟨rfl, Nq75, e75⟩ := hQ75
    have N75 := Fr.app N70 Nq75
    obtain ⟨lc75, X75, N75⟩ : ∃ lc, Stand p l e room_1 s m #[(.int p1), (.int p2), (.int p3), (.int p4), (.int p5), (.int p6)] below meth c T75 lc 6 20 ∧ Fr n0 lc := ⟨_, X75, N75⟩
    refine OutW.via st75 ?_
    show OutW _ _ _ _ _ _ _ (T75.setTop (mkF m 112 #[.val (.int p1), .val (.int p2), .val (.int p3), .val (.int p4), .val (.int p5), .val (.int p6), .val (.int v1), .val (.int (4 : Int32)), .val (.ref b58)] [(.int (if v1 = (0 : Int32) then p6 else p2))]))
    refine OutW.back (fun t k => XS.iload X75.here hx rfl (hb hby at_112) rfl  k) ?_
    show OutW _ _ _ _ _ _ _ (T75.setTop (mkF m 114 #[.val (.int p1), .val (.int p2), .val (.int p3), .val (.int p4), .val (.int p5), .val (.int p6), .val (.int v1), .val (.int (4 : Int32)), .val (.ref b58)] [(.int v1), (.int (if v1 = (0 : Int32) then p6 else p2))]))
    obtain ⟨v77, hv_v77⟩ : ∃ z : Int32, z = (if v1 = (0 : Int32) then p6 else p2) := ⟨_, rfl⟩
    have j78 : ∀ t, Steps p.tables e below (T75.setTop (mkF m 123 #[.val (.int p1), .val (.int p2), .val (.int p3), .val (.int p4), .val (.int p5), .val (.int p6), .val (.int v1), .val (.int (4 : Int32)), .val (.ref b58)] [(.int v77), (.int (if v1 = (0 : Int32) then p6 else p2))])) t → Steps p.tables e below (T75.setTop (mkF m 114 #[.val (.int p1), .val (.int p2), .val (.int p3), .val (.int p4), .val (.int p5), .val (.int p6), .val (.int v1), .val (.int (4 : Int32)), .val (.ref b58)] [(.int v1), (.int (if v1 = (0 : Int32) then p6 else p2))])) t := by
      intro t k
      by_cases c114_79 : v1 = (0 : Int32)
      · skip
        refine XS.ifNo X75.here hx rfl (hb hby at_114) rfl ((if0 _ _).trans (teq c114_79).2) ?_
        show Steps p.tables e below (T75.setTop (mkF m 117 #[.val (.int p1), .val (.int p2), .val (.int p3), .val (.int p4), .val (.int p5), .val (.int p6), .val (.int v1), .val (.int (4 : Int32)), .val (.ref b58)] [(.int (if v1 = (0 : Int32) then p6 else p2))])) t
        refine XS.iload X75.here hx rfl (hb hby at_117) rfl  ?_
        show Steps p.tables e below (T75.setTop (mkF m 119 #[.val (.int p1), .val (.int p2), .val (.int p3), .val (.int p4), .val (.int p5), .val (.int p6), .val (.int v1), .val (.int (4 : Int32)), .val (.ref b58)] [(.int p6), (.int (if v1 = (0 : Int32) then p6 else p2))])) t
        refine XS.goto X75.here hx rfl (pc0 := 119) (pc' := 123) rfl (hb hby at_119) (by decide) (by decide) ?_
        show Steps p.tables e below (T75.setTop (mkF m 123 #[.val (.int p1), .val (.int p2), .val (.int p3), .val (.int p4), .val (.int p5), .val (.int p6), .val (.int v1), .val (.int (4 : Int32)), .val (.ref b58)] [(.int p6), (.int (if v1 = (0 : Int32) then p6 else p2))])) t
        have q_v77 : v77 = p6 := by rw [hv_v77, if_pos c114_79]
        rw [q_v77] at k
        exact k
      · skip
        refine XS.ifYes X75.here hx rfl (pc0 := 114) (pc' := 122) rfl (hb hby at_114) rfl ((if0 _ _).trans (feq c114_79).2) (by decide) (by decide) ?_
        show Steps p.tables e below (T75.setTop (mkF m 122 #[.val (.int p1), .val (.int p2), .val (.int p3), .val (.int p4), .val (.int p5), .val (.int p6), .val (.int v1), .val (.int (4 : Int32)), .val (.ref b58)] [(.int (if v1 = (0 : Int32) then p6 else p2))])) t
        refine XS.iloadN X75.here hx rfl (hb hby at_122) rfl  ?_
        show Steps p.tables e below (T75.setTop (mkF m 123 #[.val (.int p1), .val (.int p2), .val (.int p3), .val (.int p4), .val (.int p5), .val (.int p6), .val (.int v1), .val (.int (4 : Int32)), .val (.ref b58)] [(.int p2), (.int (if v1 = (0 : Int32) then p6 else p2))])) t
        have q_v77 : v77 = p2 := by rw [hv_v77, if_neg c114_79]
        rw [q_v77] at k
        exact k
    refine OutW.back j78 ?_
    show OutW _ _ _ _ _ _ _ (T75.setTop (mkF m 123 #[.val (.int p1), .val (.int p2), .val (.int p3), .val (.int p4), .val (.int p5), .val (.int p6), .val (.int v1), .val (.int (4 : Int32)), .val (.ref b58)] [(.int v77), (.int (if v1 = (0 : Int32) then p6 else p2))]))
    refine OutW.back (fun t k => XS.icmpNo X75.here hx rfl (hb hby at_123) rfl (teq hv_v77.symm).2 k) ?_
    show OutW _ _ _ _ _ _ _ (T75.setTop (mkF m 126 #[.val (.int p1), .val (.int p2), .val (.int p3), .val (.int p4), .val (.int p5), .val (.int p6), .val (.int v1), .val (.int (4 : Int32)), .val (.ref b58)] []))
    refine OutW.back (fun t k => XS.aload X75.here hx rfl (hb hby at_126) rfl rfl  k) ?_
    show OutW _ _ _ _ _ _ _ (T75.setTop (mkF m 128 #[.val (.int p1), .val (.int p2), .val (.int p3), .val (.int p4), .val (.int p5), .val (.int p6), .val (.int v1), .val (.int (4 : Int32)), .val (.ref b58)] [(.ref b58)]))
    refine OutW.back (fun t k => XS.iconst X75.here hx rfl (hb hby at_128) k) ?_
    show OutW _ _ _ _ _ _ _ (T75.setTop (mkF m 129 #[.val (.int p1), .val (.int p2), .val (.int p3), .val (.int p4), .val (.int p5), .val (.int p6), .val (.int v1), .val (.int (4 : Int32)), .val (.ref b58)] [(.int (1 : Int32)), (.ref b58)]))
    obtain ⟨cq80, kq80, qa80, qb80, qc80⟩ := isOf hZ e75 E_b58
    obtain ⟨_, _, ⟨T80, L80, k80, n80⟩, -, X80, ⟨Lc80, hQ80, l80, y80, z80⟩, st80⟩ := X75.virtualBack hx (y := (⟨"com/example/xml_document_query/xmldocumentquery/tree/IntColumn", "get", "(I)I"⟩ : MethodName)) (z := (⟨"com/example/xml_document_query/xmldocumentquery/tree/IntColumn", "get", "(I)I"⟩ : MethodName)) hown (mvT hZ (hw _ (List.mem_of_getElem? (i := 78) rfl))) (mvT hZ (hw _ (List.mem_of_getElem? (i := 79) rfl))) (notFace_of_selects (args := #[]) (mvT hZ (hw _ (List.mem_of_getElem? (i := 81) rfl)))) (mvT hZ (hw _ (List.mem_of_getElem? (i := 81) rfl))) (mvT hZ (hw _ (List.mem_of_getElem? (i := 80) rfl))) (by decide) (backOf (W := 0) (rm12_1_4 l Z a0 hw [] b58 bN_59 dN_59 kB_59 kD_59 (if v1 = (0 : Int32) then p6 else p2) (if v1 = (1 : Int32) then p6 else p3) (0 : Int32) (0 : Int32) h64 n0 Z64 F_blocks_b58 V_bN_59 V_dN_59_64) hZ (hw _ (List.mem_of_getElem? (i := 82) rfl)) (hw _ (List.mem_of_getElem? (i := 2) rfl)) (by decide) (by decide)) qa80 qc80 (g := (mkF m 129 #[.val (.int p1), .val (.int p2), .val (.int p3), .val (.int p4), .val (.int p5), .val (.int p6), .val (.int v1), .val (.int (4 : Int32)), .val (.ref b58)] [(.int (1 : Int32)), (.ref b58)])) rfl (by rw [hml]; rfl) (Steps.refl _) (argsL := [(.int (1 : Int32))]) (rest := []) (lenOf pd_6 rfl) rfl (by show 2 * 0 + _ ≤ _; exact Nat.le_of_eq rfl) (hb hby at_129) (fun _ _ => ⟨rfl, e75, (by decide : 6 + 0 ≤ _), (by decide : 20 + 0 ≤ _)⟩)
    dsimp only [Pt.U, Pt.locs, Pt.cells, Pt.slots] at X80 l80 y80 z80 st80 hQ80
    subst l80 y80 z80
    obtain ⟨rfl, Nq80, e80⟩ := hQ80
    have N80 := Fr.app N75 Nq80
    obtain ⟨lc80, X80, N80⟩ : ∃ lc, Stand p l e room_1 s m #[(.int p1), (.int p2), (.int p3), (.int p4), (.int p5), (.int p6)] below meth c T80 lc 6 20 ∧ Fr n0 lc := ⟨_, X80, N80⟩
    refine OutW.via st80 ?_
    show OutW _ _ _ _ _ _ _ (T80.setTop (mkF m 132 #[.val (.int p1), .val (.int p2), .val (.int p3), .val (.int p4), .val (.int p5), .val (.int p6), .val (.int v1), .val (.int (4 : Int32)), .val (.ref b58)] [(.int (if v1 = (1 : Int32) then p6 else p3))]))
    refine OutW.back (fun t k => XS.iload X80.here hx rfl (hb hby at_132) rfl  k) ?_
    show OutW _ _ _ _ _ _ _ (T80.setTop (mkF m 134 #[.val (.int p1), .val (.int p2), .val (.int p3), .val (.int p4), .val (.int p5), .val (.int p6), .val (.int v1), .val (.int (4 : Int32)), .val (.ref b58)] [(.int v1), (.int (if v1 = (1 : Int32) then p6 else p3))]))
    refine OutW.back (fun t k => XS.iconst X80.here hx rfl (hb hby at_134) k) ?_
    show OutW _ _ _ _ _ _ _ (T80.setTop (mkF m 135 #[.val (.int p1), .val (.int p2), .val (.int p3), .val (.int p4), .val (.int p5), .val (.int p6), .val (.int v1), .val (.int (4 : Int32)), .val (.ref b58)] [(.int (1 : Int32)), (.int v1), (.int (if v1 = (1 : Int32) then p6 else p3))]))
    obtain ⟨v82, hv_v82⟩ : ∃ z : Int32, z = (if v1 = (1 : Int32) then p6 else p3) := ⟨_, rfl⟩
    have j83 : ∀ t, Steps p.tables e below (T80.setTop (mkF m 144 #[.val (.int p1), .val (.int p2), .val (.int p3), .val (.int p4), .val (.int p5), .val (.int p6), .val (.int v1), .val (.int (4 : Int32)), .val (.ref b58)] [(.int v82), (.int (if v1 = (1 : Int32) then p6 else p3))])) t → Steps p.tables e below (T80.setTop (mkF m 135 #[.val (.int p1), .val (.int p2), .val (.int p3), .val (.int p4), .val (.int p5), .val (.int p6), .val (.int v1), .val (.int (4 : Int32)), .val (.ref b58)] [(.int (1 : Int32)), (.int v1), (.int (if v1 = (1 : Int32) then p6 else p3))])) t := by
      intro t k
      by_cases c135_84 : v1 = (1 : Int32)
      · skip
        refine XS.icmpNo X80.here hx rfl (hb hby at_135) rfl (teq c135_84).2 ?_
        show Steps p.tables e below (T80.setTop (mkF m 138 #[.val (.int p1), .val (.int p2), .val (.int p3), .val (.int p4), .val (.int p5), .val (.int p6), .val (.int v1), .val (.int (4 : Int32)), .val (.ref b58)] [(.int (if v1 = (1 : Int32) then p6 else p3))])) t
        refine XS.iload X80.here hx rfl (hb hby at_138) rfl  ?_
        show Steps p.tables e below (T80.setTop (mkF m 140 #[.val (.int p1), .val (.int p2), .val (.int p3), .val (.int p4), .val (.int p5), .val (.int p6), .val (.int v1), .val (.int (4 : Int32)), .val (.ref b58)] [(.int p6), (.int (if v1 = (1 : Int32) then p6 else p3))])) t
        refine XS.goto X80.here hx rfl (pc0 := 140) (pc' := 144) rfl (hb hby at_140) (by decide) (by decide) ?_
        show Steps p.tables e below (T80.setTop (mkF m 144 #[.val (.int p1), .val (.int p2), .val (.int p3), .val (.int p4), .val (.int p5), .val (.int p6), .val (.int v1), .val (.int (4 : Int32)), .val (.ref b58)] [(.int p6), (.int (if v1 = (1 : Int32) then p6 else p3))])) t
        have q_v82 : v82 = p6 := by rw [hv_v82, if_pos c135_84]
        rw [q_v82] at k
        exact k
      · skip
        refine XS.icmpYes X80.here hx rfl (pc0 := 135) (pc' := 143) rfl (hb hby at_135) rfl (feq c135_84).2 (by decide) (by decide) ?_
        show Steps p.tables e below (T80.setTop (mkF m 143 #[.val (.int p1), .val (.int p2), .val (.int p3), .val (.int p4), .val (.int p5), .val (.int p6), .val (.int v1), .val (.int (4 : Int32)), .val (.ref b58)] [(.int (if v1 = (1 : Int32) then p6 else p3))])) t
        refine XS.iloadN X80.here hx rfl (hb hby at_143) rfl  ?_
        show Steps p.tables e below (T80.setTop (mkF m 144 #[.val (.int p1), .val (.int p2), .val (.int p3), .val (.int p4), .val (.int p5), .val (.int p6), .val (.int v1), .val (.int (4 : Int32)), .val (.ref b58)] [(.int p3), (.int (if v1 = (1 : Int32) then p6 else p3))])) t
        have q_v82 : v82 = p3 := by rw [hv_v82, if_neg c135_84]
        rw [q_v82] at k
        exact k
    refine OutW.back j83 ?_
    show OutW _ _ _ _ _ _ _ (T80.setTop (mkF m 144 #[.val (.int p1), .val (.int p2), .val (.int p3), .val (.int p4), .val (.int p5), .val (.int p6), .val (.int v1), .val (.int (4 : Int32)), .val (.ref b58)] [(.int v82), (.int (if v1 = (1 : Int32) then p6 else p3))]))
    refine OutW.back (fun t k => XS.icmpNo X80.here hx rfl (hb hby at_144) rfl (teq hv_v82.symm).2 k) ?_
    show OutW _ _ _ _ _ _ _ (T80.setTop (mkF m 147 #[.val (.int p1), .val (.int p2), .val (.int p3), .val (.int p4), .val (.int p5), .val (.int p6), .val (.int v1), .val (.int (4 : Int32)), .val (.ref b58)] []))
    refine OutW.back (fun t k => XS.iconst X80.here hx rfl (hb hby at_147) k) ?_
    show OutW _ _ _ _ _ _ _ (T80.setTop (mkF m 148 #[.val (.int p1), .val (.int p2), .val (.int p3), .val (.int p4), .val (.int p5), .val (.int p6), .val (.int v1), .val (.int (4 : Int32)), .val (.ref b58)] [(.int (1 : Int32))]))
    refine OutW.back (fun t k => XS.goto X80.here hx rfl (pc0 := 148) (pc' := 152) rfl (hb hby at_148) (by decide) (by decide) k) ?_
    show OutW _ _ _ _ _ _ _ (T80.setTop (mkF m 152 #[.val (.int p1), .val (.int p2), .val (.int p3), .val (.int p4), .val (.int p5), .val (.int p6), .val (.int v1), .val (.int (4 : Int32)), .val (.ref b58)] [(.int (1 : Int32))]))
    refine OutW.retN X80 hx (t := .boolean) (z' := 1) Bd.returns (by simp) hlk (hb hby at_152) ?hz (by decide) (by decide) ?_
    case hz =>
      rfl
    show Q0 Z p1 p2 p3 p4 p5 p6 h0 n0 _ T80.heap _
    rw [e80]
    exact ⟨rfl, N80⟩
  · skip
    show OutW _ _ _ _ _ _ _ (s₁.setTop (mkF m 16 #[.val (.int p1), .val (.int p2), .val (.int p3), .val (.int p4), .val (.int p5), .val (.int p6), .val (.int v1), .val (.int (8 : Int32)), .unset] []))
    obtain ⟨T85, h85, X85, e85, E85, A85, D85, -, st85⟩ := newO X0 hx hZ hown (hw _ (List.mem_of_getElem? (i := 0) rfl)) (hw _ (List.mem_of_getElem? (i := 1) rfl)) (hw _ (List.mem_of_getElem? (i := 2) rfl)) e0 (g := (mkF m 16 #[.val (.int p1), .val (.int p2), .val (.int p3), .val (.int p4), .val (.int p5), .val (.int p6), .val (.int v1), .val (.int (8 : Int32)), .unset] [])) rfl (hb hby at_16) (by decide) (by decide)
    obtain ⟨b85, g85⟩ : ∃ z, z = h0.size := ⟨_, rfl⟩
    rw [← g85] at A85 D85 st85
    have g_b85 : n0 ≤ b85 := Nat.le_trans Z0 (Nat.le_of_eq g85.symm)
    have sz_b85 : h0.size ≤ b85 := Nat.le_trans K0.1 (Nat.le_of_eq g85.symm)
    have Z85 : n0 ≤ h85.size := Nat.le_trans Z0 E85.1
    have K85 := K0.ext E85
    have E_b85 := A85
    have F_blockBits_b85 : Fld Z h85 b85 "com/example/xml_document_query/xmldocumentquery/tree/BlockedArray" "blockBits" "I" (.int (0 : Int32)) := D85 (Or.inr (hw _ (List.mem_of_getElem? (i := 15) rfl))) (ty := .int) (by decide)
    have F_capacity_b85 : Fld Z h85 b85 "com/example/xml_document_query/xmldocumentquery/tree/BlockedArray" "capacity" "I" (.int (0 : Int32)) := D85 (Or.inl (hw _ (List.mem_of_getElem? (i := 17) rfl))) (ty := .int) (by decide)
    have F_blocks_b85 : Fld Z h85 b85 "com/example/xml_document_query/xmldocumentquery/tree/IntColumn" "blocks" "[[I" .null := D85 (Or.inl (hw _ (List.mem_of_getElem? (i := 23) rfl))) (ty := (.array (.array .int))) (by decide)
    have F_size_b85 : Fld Z h85 b85 "com/example/xml_document_query/xmldocumentquery/tree/IntColumn" "size" "I" (.int (0 : Int32)) := D85 (Or.inl (hw _ (List.mem_of_getElem? (i := 30) rfl))) (ty := .int) (by decide)
    have F_before_b85 : Fld Z h85 b85 "com/example/xml_document_query/xmldocumentquery/tree/IntColumn" "before" "Lcom/example/xml_document_query/xmldocumentquery/tree/IntColumn;" .null := D85 (Or.inl (hw _ (List.mem_of_getElem? (i := 68) rfl))) (ty := (.object "com/example/xml_document_query/xmldocumentquery/tree/IntColumn")) (by decide)
    refine OutW.back st85 ?_
    show OutW _ _ _ _ _ _ _ (T85.setTop (mkF m 19 #[.val (.int p1), .val (.int p2), .val (.int p3), .val (.int p4), .val (.int p5), .val (.int p6), .val (.int v1), .val (.int (8 : Int32)), .unset] [(.ref b85)]))
    refine OutW.back (fun t k => XS.dup X85.here hx rfl (hb hby at_19) rfl rfl k) ?_
    show OutW _ _ _ _ _ _ _ (T85.setTop (mkF m 20 #[.val (.int p1), .val (.int p2), .val (.int p3), .val (.int p4), .val (.int p5), .val (.int p6), .val (.int v1), .val (.int (8 : Int32)), .unset] [(.ref b85), (.ref b85)]))
    refine OutW.back (fun t k => XS.iload X85.here hx rfl (hb hby at_20) rfl  k) ?_
    show OutW _ _ _ _ _ _ _ (T85.setTop (mkF m 22 #[.val (.int p1), .val (.int p2), .val (.int p3), .val (.int p4), .val (.int p5), .val (.int p6), .val (.int v1), .val (.int (8 : Int32)), .unset] [(.int (8 : Int32)), (.ref b85), (.ref b85)]))
    obtain ⟨_, _, ⟨T86, L86, k86, n86⟩, -, X86, ⟨Lc86, hQ86, l86, y86, z86⟩, st86⟩ := X85.specialBack hx (y := (⟨"com/example/xml_document_query/xmldocumentquery/tree/IntColumn", "<init>", "(I)V"⟩ : MethodName)) rfl hown (mvT hZ (hw _ (List.mem_of_getElem? (i := 3) rfl))) (mvT hZ (hw _ (List.mem_of_getElem? (i := 4) rfl))) (mvT hZ (hw _ (List.mem_of_getElem? (i := 5) rfl))) (by decide) (backOf (W := 1) (rm1_8 l Z a0 hw [] b85 h85 n0 Z85 E_b85 g_b85 F_blockBits_b85 F_capacity_b85 F_size_b85 F_blocks_b85 F_before_b85) hZ (hw _ (List.mem_of_getElem? (i := 5) rfl)) (hw _ (List.mem_of_getElem? (i := 2) rfl)) (by decide) (by decide)) (g := (mkF m 22 #[.val (.int p1), .val (.int p2), .val (.int p3), .val (.int p4), .val (.int p5), .val (.int p6), .val (.int v1), .val (.int (8 : Int32)), .unset] [(.int (8 : Int32)), (.ref b85), (.ref b85)])) rfl (by rw [hml]; rfl) (Steps.refl _) (a := b85) (argsL := [(.int (8 : Int32))]) (rest := [(.ref b85)]) (lenOf pd_3 rfl) rfl (by show 2 * 0 + _ ≤ _; exact Nat.le_of_eq rfl) (hb hby at_22) (fun _ _ => ⟨rfl, e85, (by decide : 1 + 2 ≤ _), (by decide : 5 + 9 ≤ _)⟩)
    dsimp only [Pt.U, Pt.locs, Pt.cells, Pt.slots] at X86 l86 y86 z86 st86 hQ86
    subst l86 y86 z86
    obtain ⟨h86, eh86⟩ : ∃ z, z = T86.heap := ⟨_, rfl⟩
    rw [← eh86] at hQ86
    have e86 : T86.heap = h86 := eh86.symm
    obtain ⟨bN_86, dN_86, kB_86, kD_86, rfl, Nq86, Kq86, F_blockBits_b85, F_capacity_b85, F_size_b85, F_blocks_b85, F_before_b85, szq_bN_86, szq_dN_86, g_bN_86, g_dN_86, ne_bN_86_dN_86, V_bN_86, V_dN_86, O_bN_86⟩ := hQ86
    have lt86_b85 := E_b85.lt
    have ne_b85_bN_86 : b85 ≠ bN_86 := Nat.ne_of_lt (Nat.lt_of_lt_of_le lt86_b85 szq_bN_86)
    have sz_bN_86 : h0.size ≤ bN_86 := Nat.le_trans K85.1 szq_bN_86
    have ne_b85_dN_86 : b85 ≠ dN_86 := Nat.ne_of_lt (Nat.lt_of_lt_of_le lt86_b85 szq_dN_86)
    have sz_dN_86 : h0.size ≤ dN_86 := Nat.le_trans K85.1 szq_dN_86
    have E_b85 := E_b85.keep Kq86
    have Z86 : n0 ≤ h86.size := Nat.le_trans Z85 Kq86.1
    have K86 := K85.trans Kq86 (allS (Or.inr sz_b85) all0)
    have N86 := Fr.app N0 Nq86
    obtain ⟨lc86, X86, N86⟩ : ∃ lc, Stand p l e room_1 s m #[(.int p1), (.int p2), (.int p3), (.int p4), (.int p5), (.int p6)] below meth c T86 lc 3 14 ∧ Fr n0 lc := ⟨_, X86, N86⟩
    refine OutW.via st86 ?_
    show OutW _ _ _ _ _ _ _ (T86.setTop (mkF m 25 #[.val (.int p1), .val (.int p2), .val (.int p3), .val (.int p4), .val (.int p5), .val (.int p6), .val (.int v1), .val (.int (8 : Int32)), .unset] [(.ref b85)]))
    refine OutW.back (fun t k => XS.astore X86.here hx rfl (hb hby at_25) rfl rfl (l' := #[.val (.int p1), .val (.int p2), .val (.int p3), .val (.int p4), .val (.int p5), .val (.int p6), .val (.int v1), .val (.int (8 : Int32)), .val (.ref b85)]) rfl k) ?_
    show OutW _ _ _ _ _ _ _ (T86.setTop (mkF m 27 #[.val (.int p1), .val (.int p2), .val (.int p3), .val (.int p4), .val (.int p5), .val (.int p6), .val (.int v1), .val (.int (8 : Int32)), .val (.ref b85)] []))
    refine OutW.back (fun t k => XS.aload X86.here hx rfl (hb hby at_27) rfl rfl  k) ?_
    show OutW _ _ _ _ _ _ _ (T86.setTop (mkF m 29 #[.val (.int p1), .val (.int p2), .val (.int p3), .val (.int p4), .val (.int p5), .val (.int p6), .val (.int v1), .val (.int (8 : Int32)), .val (.ref b85)] [(.ref b85)]))
    refine OutW.back (fun t k => XS.iloadN X86.here hx rfl (hb hby at_29) rfl  k) ?_
    show OutW _ _ _ _ _ _ _ (T86.setTop (mkF m 30 #[.val (.int p1), .val (.int p2), .val (.int p3), .val (.int p4), .val (.int p5), .val (.int p6), .val (.int v1), .val (.int (8 : Int32)), .val (.ref b85)] [(.int p2), (.ref b85)]))
    obtain ⟨cq87, kq87, qa87, qb87, qc87⟩ := isOf hZ e86 E_b85
    obtain ⟨_, _, ⟨T87, L87, k87, n87⟩, -, X87, ⟨Lc87, hQ87, l87, y87, z87⟩, st87⟩ := X86.virtualBack hx (y := (⟨"com/example/xml_document_query/xmldocumentquery/tree/IntColumn", "add", "(I)V"⟩ : MethodName)) (z := (⟨"com/example/xml_document_query/xmldocumentquery/tree/IntColumn", "add", "(I)V"⟩ : MethodName)) hown (mvT hZ (hw _ (List.mem_of_getElem? (i := 24) rfl))) (mvT hZ (hw _ (List.mem_of_getElem? (i := 25) rfl))) (notFace_of_selects (args := #[]) (mvT hZ (hw _ (List.mem_of_getElem? (i := 27) rfl)))) (mvT hZ (hw _ (List.mem_of_getElem? (i := 27) rfl))) (mvT hZ (hw _ (List.mem_of_getElem? (i := 26) rfl))) (by decide) (backOf (W := 0) (rm4_0_8 l Z a0 hw [] b85 p2 bN_86 dN_86 kB_86 kD_86 (0 : Int32) (0 : Int32) (0 : Int32) (0 : Int32) (0 : Int32) (0 : Int32) (0 : Int32) (0 : Int32) .null h86 n0 Z86 E_b85 g_b85 F_blockBits_b85 F_capacity_b85 F_size_b85 F_blocks_b85 F_before_b85 V_bN_86 O_bN_86 V_dN_86 ne_b85_bN_86 (Ne.symm ne_bN_86_dN_86) (Ne.symm ne_b85_dN_86) g_bN_86 g_dN_86) hZ (hw _ (List.mem_of_getElem? (i := 28) rfl)) (hw _ (List.mem_of_getElem? (i := 2) rfl)) (by decide) (by decide)) qa87 qc87 (g := (mkF m 30 #[.val (.int p1), .val (.int p2), .val (.int p3), .val (.int p4), .val (.int p5), .val (.int p6), .val (.int v1), .val (.int (8 : Int32)), .val (.ref b85)] [(.int p2), (.ref b85)])) rfl (by rw [hml]; rfl) (Steps.refl _) (argsL := [(.int p2)]) (rest := []) (lenOf pd_3 rfl) rfl (by show 2 * 0 + _ ≤ _; exact Nat.le_of_eq rfl) (hb hby at_30) (fun _ _ => ⟨rfl, e86, (by decide : 3 + 0 ≤ _), (by decide : 14 + 0 ≤ _)⟩)
    dsimp only [Pt.U, Pt.locs, Pt.cells, Pt.slots] at X87 l87 y87 z87 st87 hQ87
    subst l87 y87 z87
    obtain ⟨h87, eh87⟩ : ∃ z, z = T87.heap := ⟨_, rfl⟩
    rw [← eh87] at hQ87
    have e87 : T87.heap = h87 := eh87.symm
    obtain ⟨rfl, Nq87, Kq87, F_blockBits_b85, F_capacity_b85, F_size_b85, F_blocks_b85, F_before_b85, V_dN_86_87⟩ := hQ87
    have E_b85 := E_b85.keep Kq87
    have V_bN_86 := V_bN_86.keep Kq87 (ninS (Ne.symm ne_b85_bN_86) (ninS ne_bN_86_dN_86 nin0))
    have Z87 : n0 ≤ h87.size := Nat.le_trans Z86 Kq87.1
    have K87 := K86.trans Kq87 (allS (Or.inr sz_b85) (allS (Or.inr sz_dN_86) all0))
    have N87 := Fr.app N86 Nq87
    obtain ⟨lc87, X87, N87⟩ : ∃ lc, Stand p l e room_1 s m #[(.int p1), (.int p2), (.int p3), (.int p4), (.int p5), (.int p6)] below meth c T87 lc 3 14 ∧ Fr n0 lc := ⟨_, X87, N87⟩
    refine OutW.via st87 ?_
    show OutW _ _ _ _ _ _ _ (T87.setTop (mkF m 33 #[.val (.int p1), .val (.int p2), .val (.int p3), .val (.int p4), .val (.int p5), .val (.int p6), .val (.int v1), .val (.int (8 : Int32)), .val (.ref b85)] []))
    refine OutW.back (fun t k => XS.aload X87.here hx rfl (hb hby at_33) rfl rfl  k) ?_
    show OutW _ _ _ _ _ _ _ (T87.setTop (mkF m 35 #[.val (.int p1), .val (.int p2), .val (.int p3), .val (.int p4), .val (.int p5), .val (.int p6), .val (.int v1), .val (.int (8 : Int32)), .val (.ref b85)] [(.ref b85)]))
    refine OutW.back (fun t k => XS.iloadN X87.here hx rfl (hb hby at_35) rfl  k) ?_
    show OutW _ _ _ _ _ _ _ (T87.setTop (mkF m 36 #[.val (.int p1), .val (.int p2), .val (.int p3), .val (.int p4), .val (.int p5), .val (.int p6), .val (.int v1), .val (.int (8 : Int32)), .val (.ref b85)] [(.int p3), (.ref b85)]))
    obtain ⟨cq88, kq88, qa88, qb88, qc88⟩ := isOf hZ e87 E_b85
    obtain ⟨_, _, ⟨T88, L88, k88, n88⟩, -, X88, ⟨Lc88, hQ88, l88, y88, z88⟩, st88⟩ := X87.virtualBack hx (y := (⟨"com/example/xml_document_query/xmldocumentquery/tree/IntColumn", "add", "(I)V"⟩ : MethodName)) (z := (⟨"com/example/xml_document_query/xmldocumentquery/tree/IntColumn", "add", "(I)V"⟩ : MethodName)) hown (mvT hZ (hw _ (List.mem_of_getElem? (i := 24) rfl))) (mvT hZ (hw _ (List.mem_of_getElem? (i := 25) rfl))) (notFace_of_selects (args := #[]) (mvT hZ (hw _ (List.mem_of_getElem? (i := 27) rfl)))) (mvT hZ (hw _ (List.mem_of_getElem? (i := 27) rfl))) (mvT hZ (hw _ (List.mem_of_getElem? (i := 26) rfl))) (by decide) (backOf (W := 0) (rm4_1_8 l Z a0 hw [] b85 p3 bN_86 dN_86 kB_86 kD_86 p2 (0 : Int32) (0 : Int32) (0 : Int32) (0 : Int32) (0 : Int32) (0 : Int32) (0 : Int32) .null h87 n0 Z87 E_b85 g_b85 F_blockBits_b85 F_capacity_b85 F_size_b85 F_blocks_b85 F_before_b85 V_bN_86 O_bN_86 V_dN_86_87 ne_b85_bN_86 (Ne.symm ne_bN_86_dN_86) (Ne.symm ne_b85_dN_86) g_bN_86 g_dN_86) hZ (hw _ (List.mem_of_getElem? (i := 28) rfl)) (hw _ (List.mem_of_getElem? (i := 2) rfl)) (by decide) (by decide)) qa88 qc88 (g := (mkF m 36 #[.val (.int p1), .val (.int p2), .val (.int p3), .val (.int p4), .val (.int p5), .val (.int p6), .val (.int v1), .val (.int (8 : Int32)), .val (.ref b85)] [(.int p3), (.ref b85)])) rfl (by rw [hml]; rfl) (Steps.refl _) (argsL := [(.int p3)]) (rest := []) (lenOf pd_3 rfl) rfl (by show 2 * 0 + _ ≤ _; exact Nat.le_of_eq rfl) (hb hby at_36) (fun _ _ => ⟨rfl, e87, (by decide : 3 + 0 ≤ _), (by decide : 14 + 0 ≤ _)⟩)
    dsimp only [Pt.U, Pt.locs, Pt.cells, Pt.slots] at X88 l88 y88 z88 st88 hQ88
    subst l88 y88 z88
    obtain ⟨h88, eh88⟩ : ∃ z, z = T88.heap := ⟨_, rfl⟩
    rw [← eh88] at hQ88
    have e88 : T88.heap = h88 := eh88.symm
    obtain ⟨rfl, Nq88, Kq88, F_blockBits_b85, F_capacity_b85, F_size_b85, F_blocks_b85, F_before_b85, V_dN_86_88⟩ := hQ88
    have E_b85 := E_b85.keep Kq88
    have V_bN_86 := V_bN_86.keep Kq88 (ninS (Ne.symm ne_b85_bN_86) (ninS ne_bN_86_dN_86 nin0))
    have Z88 : n0 ≤ h88.size := Nat.le_trans Z87 Kq88.1
    have K88 := K87.trans Kq88 (allS (Or.inr sz_b85) (allS (Or.inr sz_dN_86) all0))
    have N88 := Fr.app N87 Nq88
    obtain ⟨lc88, X88, N88⟩ : ∃ lc, Stand p l e room_1 s m #[(.int p1), (.int p2), (.int p3), (.int p4), (.int p5), (.int p6)] below meth c T88 lc 3 14 ∧ Fr n0 lc := ⟨_, X88, N88⟩
    refine OutW.via st88 ?_
    show OutW _ _ _ _ _ _ _ (T88.setTop (mkF m 39 #[.val (.int p1), .val (.int p2), .val (.int p3), .val (.int p4), .val (.int p5), .val (.int p6), .val (.int v1), .val (.int (8 : Int32)), .val (.ref b85)] []))
    refine OutW.back (fun t k => XS.aload X88.here hx rfl (hb hby at_39) rfl rfl  k) ?_
    show OutW _ _ _ _ _ _ _ (T88.setTop (mkF m 41 #[.val (.int p1), .val (.int p2), .val (.int p3), .val (.int p4), .val (.int p5), .val (.int p6), .val (.int v1), .val (.int (8 : Int32)), .val (.ref b85)] [(.ref b85)]))
    refine OutW.back (fun t k => XS.iloadN X88.here hx rfl (hb hby at_41) rfl  k) ?_
    show OutW _ _ _ _ _ _ _ (T88.setTop (mkF m 42 #[.val (.int p1), .val (.int p2), .val (.int p3), .val (.int p4), .val (.int p5), .val (.int p6), .val (.int v1), .val (.int (8 : Int32)), .val (.ref b85)] [(.int p4), (.ref b85)]))
    obtain ⟨cq89, kq89, qa89, qb89, qc89⟩ := isOf hZ e88 E_b85
    obtain ⟨_, _, ⟨T89, L89, k89, n89⟩, -, X89, ⟨Lc89, hQ89, l89, y89, z89⟩, st89⟩ := X88.virtualBack hx (y := (⟨"com/example/xml_document_query/xmldocumentquery/tree/IntColumn", "addFirst", "(I)V"⟩ : MethodName)) (z := (⟨"com/example/xml_document_query/xmldocumentquery/tree/IntColumn", "addFirst", "(I)V"⟩ : MethodName)) hown (mvT hZ (hw _ (List.mem_of_getElem? (i := 62) rfl))) (mvT hZ (hw _ (List.mem_of_getElem? (i := 63) rfl))) (notFace_of_selects (args := #[]) (mvT hZ (hw _ (List.mem_of_getElem? (i := 65) rfl)))) (mvT hZ (hw _ (List.mem_of_getElem? (i := 65) rfl))) (mvT hZ (hw _ (List.mem_of_getElem? (i := 64) rfl))) (by decide) (backOf (W := 0) (rm10_0 l Z a0 hw [] b85 p4 (8 : Int32) bN_86 h88 n0 Z88 E_b85 g_b85 F_blockBits_b85 F_capacity_b85 F_size_b85 F_blocks_b85 F_before_b85) hZ (hw _ (List.mem_of_getElem? (i := 66) rfl)) (hw _ (List.mem_of_getElem? (i := 2) rfl)) (by decide) (by decide)) qa89 qc89 (g := (mkF m 42 #[.val (.int p1), .val (.int p2), .val (.int p3), .val (.int p4), .val (.int p5), .val (.int p6), .val (.int v1), .val (.int (8 : Int32)), .val (.ref b85)] [(.int p4), (.ref b85)])) rfl (by rw [hml]; rfl) (Steps.refl _) (argsL := [(.int p4)]) (rest := []) (lenOf pd_3 rfl) rfl (by show 2 * 0 + _ ≤ _; exact Nat.le_of_eq rfl) (hb hby at_42) (fun _ _ => ⟨rfl, e88, (by decide : 3 + 3 ≤ _), (by decide : 14 + 10 ≤ _)⟩)
    dsimp only [Pt.U, Pt.locs, Pt.cells, Pt.slots] at X89 l89 y89 z89 st89 hQ89
    subst l89 y89 z89
    obtain ⟨h89, eh89⟩ : ∃ z, z = T89.heap := ⟨_, rfl⟩
    rw [← eh89] at hQ89
    have e89 : T89.heap = h89 := eh89.symm
    obtain ⟨cN_89, bN_89, dN_89, kB_89, kD_89, rfl, Nq89, Kq89, F_blockBits_b85, F_capacity_b85, F_size_b85, F_blocks_b85, F_before_b85, szq_cN_89, szq_bN_89, szq_dN_89, g_cN_89, g_bN_89, g_dN_89, ne_cN_89_bN_89, ne_cN_89_dN_89, ne_bN_89_dN_89, E_cN_89, F_blockBits_cN_89, F_capacity_cN_89, F_size_cN_89, F_blocks_cN_89, F_before_cN_89, V_bN_89, V_dN_89, O_bN_89⟩ := hQ89
    have lt89_b85 := E_b85.lt
    have lt89_bN_86 := V_bN_86.lt
    have lt89_dN_86 := V_dN_86_88.lt
    have ne_b85_cN_89 : b85 ≠ cN_89 := Nat.ne_of_lt (Nat.lt_of_lt_of_le lt89_b85 szq_cN_89)
    have ne_bN_86_cN_89 : bN_86 ≠ cN_89 := Nat.ne_of_lt (Nat.lt_of_lt_of_le lt89_bN_86 szq_cN_89)
    have ne_dN_86_cN_89 : dN_86 ≠ cN_89 := Nat.ne_of_lt (Nat.lt_of_lt_of_le lt89_dN_86 szq_cN_89)
    have sz_cN_89 : h0.size ≤ cN_89 := Nat.le_trans K88.1 szq_cN_89
    have ne_b85_bN_89 : b85 ≠ bN_89 := Nat.ne_of_lt (Nat.lt_of_lt_of_le lt89_b85 szq_bN_89)
    have ne_bN_86_bN_89 : bN_86 ≠ bN_89 := Nat.ne_of_lt (Nat.lt_of_lt_of_le lt89_bN_86 szq_bN_89)
    have ne_dN_86_bN_89 : dN_86 ≠ bN_89 := Nat.ne_of_lt (Nat.lt_of_lt_of_le lt89_dN_86 szq_bN_89)
    have sz_bN_89 : h0.size ≤ bN_89 := Nat.le_trans K88.1 szq_bN_89
    have ne_b85_dN_89 : b85 ≠ dN_89 := Nat.ne_of_lt (Nat.lt_of_lt_of_le lt89_b85 szq_dN_89)
    have ne_bN_86_dN_89 : bN_86 ≠ dN_89 := Nat.ne_of_lt (Nat.lt_of_lt_of_le lt89_bN_86 szq_dN_89)
    have ne_dN_86_dN_89 : dN_86 ≠ dN_89 := Nat.ne_of_lt (Nat.lt_of_lt_of_le lt89_dN_86 szq_dN_89)
    have sz_dN_89 : h0.size ≤ dN_89 := Nat.le_trans K88.1 szq_dN_89
    have E_b85 := E_b85.keep Kq89
    have V_bN_86 := V_bN_86.keep Kq89 (ninS (Ne.symm ne_b85_bN_86) nin0)
    have V_dN_86_88 := V_dN_86_88.keep Kq89 (ninS (Ne.symm ne_b85_dN_86) nin0)
    have Z89 : n0 ≤ h89.size := Nat.le_trans Z88 Kq89.1
    have K89 := K88.trans Kq89 (allS (Or.inr sz_b85) all0)
    have N89 := Fr.app N88 Nq89
    obtain ⟨lc89, X89, N89⟩ : ∃ lc, Stand p l e room_1 s m #[(.int p1), (.int p2), (.int p3), (.int p4), (.int p5), (.int p6)] below meth c T89 lc 6 24 ∧ Fr n0 lc := ⟨_, X89, N89⟩
    refine OutW.via st89 ?_
    show OutW _ _ _ _ _ _ _ (T89.setTop (mkF m 45 #[.val (.int p1), .val (.int p2), .val (.int p3), .val (.int p4), .val (.int p5), .val (.int p6), .val (.int v1), .val (.int (8 : Int32)), .val (.ref b85)] []))
    refine OutW.back (fun t k => XS.aload X89.here hx rfl (hb hby at_45) rfl rfl  k) ?_
    show OutW _ _ _ _ _ _ _ (T89.setTop (mkF m 47 #[.val (.int p1), .val (.int p2), .val (.int p3), .val (.int p4), .val (.int p5), .val (.int p6), .val (.int v1), .val (.int (8 : Int32)), .val (.ref b85)] [(.ref b85)]))
    refine OutW.back (fun t k => XS.iload X89.here hx rfl (hb hby at_47) rfl  k) ?_
    show OutW _ _ _ _ _ _ _ (T89.setTop (mkF m 49 #[.val (.int p1), .val (.int p2), .val (.int p3), .val (.int p4), .val (.int p5), .val (.int p6), .val (.int v1), .val (.int (8 : Int32)), .val (.ref b85)] [(.int p5), (.ref b85)]))
    obtain ⟨cq90, kq90, qa90, qb90, qc90⟩ := isOf hZ e89 E_b85
    obtain ⟨_, _, ⟨T90, L90, k90, n90⟩, -, X90, ⟨Lc90, hQ90, l90, y90, z90⟩, st90⟩ := X89.virtualBack hx (y := (⟨"com/example/xml_document_query/xmldocumentquery/tree/IntColumn", "addFirst", "(I)V"⟩ : MethodName)) (z := (⟨"com/example/xml_document_query/xmldocumentquery/tree/IntColumn", "addFirst", "(I)V"⟩ : MethodName)) hown (mvT hZ (hw _ (List.mem_of_getElem? (i := 62) rfl))) (mvT hZ (hw _ (List.mem_of_getElem? (i := 63) rfl))) (notFace_of_selects (args := #[]) (mvT hZ (hw _ (List.mem_of_getElem? (i := 65) rfl)))) (mvT hZ (hw _ (List.mem_of_getElem? (i := 65) rfl))) (mvT hZ (hw _ (List.mem_of_getElem? (i := 64) rfl))) (by decide) (backOf (W := 0) (rm10_1 l Z a0 hw [] b85 p5 cN_89 bN_89 dN_89 kB_89 kD_89 p4 h89 n0 Z89 F_before_b85 E_cN_89 g_cN_89 F_blockBits_cN_89 F_capacity_cN_89 F_size_cN_89 F_blocks_cN_89 F_before_cN_89 V_bN_89 O_bN_89 V_dN_89 g_bN_89 g_dN_89 ne_cN_89_bN_89 (Ne.symm ne_bN_89_dN_89) (Ne.symm ne_cN_89_dN_89) ne_b85_cN_89 ne_b85_dN_89) hZ (hw _ (List.mem_of_getElem? (i := 66) rfl)) (hw _ (List.mem_of_getElem? (i := 2) rfl)) (by decide) (by decide)) qa90 qc90 (g := (mkF m 49 #[.val (.int p1), .val (.int p2), .val (.int p3), .val (.int p4), .val (.int p5), .val (.int p6), .val (.int v1), .val (.int (8 : Int32)), .val (.ref b85)] [(.int p5), (.ref b85)])) rfl (by rw [hml]; rfl) (Steps.refl _) (argsL := [(.int p5)]) (rest := []) (lenOf pd_3 rfl) rfl (by show 2 * 0 + _ ≤ _; exact Nat.le_of_eq rfl) (hb hby at_49) (fun _ _ => ⟨rfl, e89, (by decide : 6 + 0 ≤ _), (by decide : 24 + 0 ≤ _)⟩)
    dsimp only [Pt.U, Pt.locs, Pt.cells, Pt.slots] at X90 l90 y90 z90 st90 hQ90
    subst l90 y90 z90
    obtain ⟨h90, eh90⟩ : ∃ z, z = T90.heap := ⟨_, rfl⟩
    rw [← eh90] at hQ90
    have e90 : T90.heap = h90 := eh90.symm
    obtain ⟨rfl, Nq90, Kq90, F_blockBits_cN_89, F_capacity_cN_89, F_size_cN_89, F_blocks_cN_89, F_before_cN_89, V_dN_89_90⟩ := hQ90
    have E_b85 := E_b85.keep Kq90
    have V_bN_86 := V_bN_86.keep Kq90 (ninS ne_bN_86_cN_89 (ninS ne_bN_86_dN_89 nin0))
    have V_dN_86_88 := V_dN_86_88.keep Kq90 (ninS ne_dN_86_cN_89 (ninS ne_dN_86_dN_89 nin0))
    have F_blockBits_b85 := F_blockBits_b85.keep Kq90 (ninS ne_b85_cN_89 (ninS ne_b85_dN_89 nin0))
    have F_capacity_b85 := F_capacity_b85.keep Kq90 (ninS ne_b85_cN_89 (ninS ne_b85_dN_89 nin0))
    have F_size_b85 := F_size_b85.keep Kq90 (ninS ne_b85_cN_89 (ninS ne_b85_dN_89 nin0))
    have F_blocks_b85 := F_blocks_b85.keep Kq90 (ninS ne_b85_cN_89 (ninS ne_b85_dN_89 nin0))
    have F_before_b85 := F_before_b85.keep Kq90 (ninS ne_b85_cN_89 (ninS ne_b85_dN_89 nin0))
    have E_cN_89 := E_cN_89.keep Kq90
    have V_bN_89 := V_bN_89.keep Kq90 (ninS (Ne.symm ne_cN_89_bN_89) (ninS ne_bN_89_dN_89 nin0))
    have Z90 : n0 ≤ h90.size := Nat.le_trans Z89 Kq90.1
    have K90 := K89.trans Kq90 (allS (Or.inr sz_cN_89) (allS (Or.inr sz_dN_89) all0))
    have N90 := Fr.app N89 Nq90
    obtain ⟨lc90, X90, N90⟩ : ∃ lc, Stand p l e room_1 s m #[(.int p1), (.int p2), (.int p3), (.int p4), (.int p5), (.int p6)] below meth c T90 lc 6 24 ∧ Fr n0 lc := ⟨_, X90, N90⟩
    refine OutW.via st90 ?_
    show OutW _ _ _ _ _ _ _ (T90.setTop (mkF m 52 #[.val (.int p1), .val (.int p2), .val (.int p3), .val (.int p4), .val (.int p5), .val (.int p6), .val (.int v1), .val (.int (8 : Int32)), .val (.ref b85)] []))
    refine OutW.back (fun t k => XS.aload X90.here hx rfl (hb hby at_52) rfl rfl  k) ?_
    show OutW _ _ _ _ _ _ _ (T90.setTop (mkF m 54 #[.val (.int p1), .val (.int p2), .val (.int p3), .val (.int p4), .val (.int p5), .val (.int p6), .val (.int v1), .val (.int (8 : Int32)), .val (.ref b85)] [(.ref b85)]))
    refine OutW.back (fun t k => XS.iload X90.here hx rfl (hb hby at_54) rfl  k) ?_
    show OutW _ _ _ _ _ _ _ (T90.setTop (mkF m 56 #[.val (.int p1), .val (.int p2), .val (.int p3), .val (.int p4), .val (.int p5), .val (.int p6), .val (.int v1), .val (.int (8 : Int32)), .val (.ref b85)] [(.int v1), (.ref b85)]))
    refine OutW.back (fun t k => XS.iload X90.here hx rfl (hb hby at_56) rfl  k) ?_
    show OutW _ _ _ _ _ _ _ (T90.setTop (mkF m 58 #[.val (.int p1), .val (.int p2), .val (.int p3), .val (.int p4), .val (.int p5), .val (.int p6), .val (.int v1), .val (.int (8 : Int32)), .val (.ref b85)] [(.int p6), (.int v1), (.ref b85)]))
    obtain ⟨cq91, kq91, qa91, qb91, qc91⟩ := isOf hZ e90 E_b85
    obtain ⟨_, _, ⟨T91, L91, k91, n91⟩, -, X91, ⟨Lc91, hQ91, l91, y91, z91⟩, st91⟩ := X90.virtualBack hx (y := (⟨"com/example/xml_document_query/xmldocumentquery/tree/IntColumn", "set", "(II)V"⟩ : MethodName)) (z := (⟨"com/example/xml_document_query/xmldocumentquery/tree/IntColumn", "set", "(II)V"⟩ : MethodName)) hown (mvT hZ (hw _ (List.mem_of_getElem? (i := 72) rfl))) (mvT hZ (hw _ (List.mem_of_getElem? (i := 73) rfl))) (notFace_of_selects (args := #[]) (mvT hZ (hw _ (List.mem_of_getElem? (i := 75) rfl)))) (mvT hZ (hw _ (List.mem_of_getElem? (i := 75) rfl))) (mvT hZ (hw _ (List.mem_of_getElem? (i := 74) rfl))) (by decide) (backOf (W := 0) (rm11_c8 l Z a0 hw [] b85 v1 p6 bN_86 dN_86 cN_89 bN_89 dN_89 kB_86 kD_86 kB_89 kD_89 p2 p3 p4 p5 h90 n0 Z90 F_blocks_b85 F_before_b85 V_bN_86 V_dN_86_88 E_cN_89 F_blocks_cN_89 V_bN_89 V_dN_89_90 g_dN_86 g_dN_89 (Ne.symm ne_bN_86_dN_86) ne_b85_dN_86 (Ne.symm ne_dN_86_dN_89) (Ne.symm ne_dN_86_bN_89) (Ne.symm ne_dN_86_cN_89) (Ne.symm ne_bN_89_dN_89) ne_cN_89_dN_89 ne_b85_dN_89 ne_bN_86_dN_89 hi) hZ (hw _ (List.mem_of_getElem? (i := 76) rfl)) (hw _ (List.mem_of_getElem? (i := 2) rfl)) (by decide) (by decide)) qa91 qc91 (g := (mkF m 58 #[.val (.int p1), .val (.int p2), .val (.int p3), .val (.int p4), .val (.int p5), .val (.int p6), .val (.int v1), .val (.int (8 : Int32)), .val (.ref b85)] [(.int p6), (.int v1), (.ref b85)])) rfl (by rw [hml]; rfl) (Steps.refl _) (argsL := [(.int v1), (.int p6)]) (rest := []) (lenOf pd_0 rfl) rfl (by show 2 * 0 + _ ≤ _; exact Nat.le_of_eq rfl) (hb hby at_58) (fun _ _ => ⟨rfl, e90, (by decide : 6 + 0 ≤ _), (by decide : 24 + 0 ≤ _)⟩)
    dsimp only [Pt.U, Pt.locs, Pt.cells, Pt.slots] at X91 l91 y91 z91 st91 hQ91
    subst l91 y91 z91
    obtain ⟨h91, eh91⟩ : ∃ z, z = T91.heap := ⟨_, rfl⟩
    rw [← eh91] at hQ91
    have e91 : T91.heap = h91 := eh91.symm
    obtain ⟨rfl, Nq91, Kq91, V_dN_86_91, V_dN_89_91⟩ := hQ91
    have E_b85 := E_b85.keep Kq91
    have V_bN_86 := V_bN_86.keep Kq91 (ninS ne_bN_86_dN_86 (ninS ne_bN_86_dN_89 nin0))
    have F_blockBits_b85 := F_blockBits_b85.keep Kq91 (ninS ne_b85_dN_86 (ninS ne_b85_dN_89 nin0))
    have F_capacity_b85 := F_capacity_b85.keep Kq91 (ninS ne_b85_dN_86 (ninS ne_b85_dN_89 nin0))
    have F_size_b85 := F_size_b85.keep Kq91 (ninS ne_b85_dN_86 (ninS ne_b85_dN_89 nin0))
    have F_blocks_b85 := F_blocks_b85.keep Kq91 (ninS ne_b85_dN_86 (ninS ne_b85_dN_89 nin0))
    have F_before_b85 := F_before_b85.keep Kq91 (ninS ne_b85_dN_86 (ninS ne_b85_dN_89 nin0))
    have E_cN_89 := E_cN_89.keep Kq91
    have V_bN_89 := V_bN_89.keep Kq91 (ninS (Ne.symm ne_dN_86_bN_89) (ninS ne_bN_89_dN_89 nin0))
    have F_blockBits_cN_89 := F_blockBits_cN_89.keep Kq91 (ninS (Ne.symm ne_dN_86_cN_89) (ninS ne_cN_89_dN_89 nin0))
    have F_capacity_cN_89 := F_capacity_cN_89.keep Kq91 (ninS (Ne.symm ne_dN_86_cN_89) (ninS ne_cN_89_dN_89 nin0))
    have F_size_cN_89 := F_size_cN_89.keep Kq91 (ninS (Ne.symm ne_dN_86_cN_89) (ninS ne_cN_89_dN_89 nin0))
    have F_blocks_cN_89 := F_blocks_cN_89.keep Kq91 (ninS (Ne.symm ne_dN_86_cN_89) (ninS ne_cN_89_dN_89 nin0))
    have F_before_cN_89 := F_before_cN_89.keep Kq91 (ninS (Ne.symm ne_dN_86_cN_89) (ninS ne_cN_89_dN_89 nin0))
    have Z91 : n0 ≤ h91.size := Nat.le_trans Z90 Kq91.1
    have K91 := K90.trans Kq91 (allS (Or.inr sz_dN_86) (allS (Or.inr sz_dN_89) all0))
    have N91 := Fr.app N90 Nq91
    obtain ⟨lc91, X91, N91⟩ : ∃ lc, Stand p l e room_1 s m #[(.int p1), (.int p2), (.int p3), (.int p4), (.int p5), (.int p6)] below meth c T91 lc 6 24 ∧ Fr n0 lc := ⟨_, X91, N91⟩
    refine OutW.via st91 ?_
    show OutW _ _ _ _ _ _ _ (T91.setTop (mkF m 61 #[.val (.int p1), .val (.int p2), .val (.int p3), .val (.int p4), .val (.int p5), .val (.int p6), .val (.int v1), .val (.int (8 : Int32)), .val (.ref b85)] []))
    refine OutW.back (fun t k => XS.aload X91.here hx rfl (hb hby at_61) rfl rfl  k) ?_
    show OutW _ _ _ _ _ _ _ (T91.setTop (mkF m 63 #[.val (.int p1), .val (.int p2), .val (.int p3), .val (.int p4), .val (.int p5), .val (.int p6), .val (.int v1), .val (.int (8 : Int32)), .val (.ref b85)] [(.ref b85)]))
    refine OutW.back (fun t k => XS.bipush X91.here hx rfl (hb hby at_63) k) ?_
    show OutW _ _ _ _ _ _ _ (T91.setTop (mkF m 65 #[.val (.int p1), .val (.int p2), .val (.int p3), .val (.int p4), .val (.int p5), .val (.int p6), .val (.int v1), .val (.int (8 : Int32)), .val (.ref b85)] [(.int (-2 : Int32)), (.ref b85)]))
    obtain ⟨cq92, kq92, qa92, qb92, qc92⟩ := isOf hZ e91 E_b85
    obtain ⟨_, _, ⟨T92, L92, k92, n92⟩, -, X92, ⟨Lc92, hQ92, l92, y92, z92⟩, st92⟩ := X91.virtualBack hx (y := (⟨"com/example/xml_document_query/xmldocumentquery/tree/IntColumn", "get", "(I)I"⟩ : MethodName)) (z := (⟨"com/example/xml_document_query/xmldocumentquery/tree/IntColumn", "get", "(I)I"⟩ : MethodName)) hown (mvT hZ (hw _ (List.mem_of_getElem? (i := 78) rfl))) (mvT hZ (hw _ (List.mem_of_getElem? (i := 79) rfl))) (notFace_of_selects (args := #[]) (mvT hZ (hw _ (List.mem_of_getElem? (i := 81) rfl)))) (mvT hZ (hw _ (List.mem_of_getElem? (i := 81) rfl))) (mvT hZ (hw _ (List.mem_of_getElem? (i := 80) rfl))) (by decide) (backOf (W := 0) (rm12_m2 l Z a0 hw [] b85 cN_89 bN_89 dN_89 kB_89 kD_89 (if v1 = (-1 : Int32) then p6 else p4) (if v1 = (-2 : Int32) then p6 else p5) (0 : Int32) (0 : Int32) h91 n0 Z91 F_before_b85 E_cN_89 F_blocks_cN_89 V_bN_89 V_dN_89_91) hZ (hw _ (List.mem_of_getElem? (i := 82) rfl)) (hw _ (List.mem_of_getElem? (i := 2) rfl)) (by decide) (by decide)) qa92 qc92 (g := (mkF m 65 #[.val (.int p1), .val (.int p2), .val (.int p3), .val (.int p4), .val (.int p5), .val (.int p6), .val (.int v1), .val (.int (8 : Int32)), .val (.ref b85)] [(.int (-2 : Int32)), (.ref b85)])) rfl (by rw [hml]; rfl) (Steps.refl _) (argsL := [(.int (-2 : Int32))]) (rest := []) (lenOf pd_6 rfl) rfl (by show 2 * 0 + _ ≤ _; exact Nat.le_of_eq rfl) (hb hby at_65) (fun _ _ => ⟨rfl, e91, (by decide : 6 + 0 ≤ _), (by decide : 24 + 0 ≤ _)⟩)
    dsimp only [Pt.U, Pt.locs, Pt.cells, Pt.slots] at X92 l92 y92 z92 st92 hQ92
    subst l92 y92 z92
    obtain ⟨rfl, Nq92, e92⟩ := hQ92
    have N92 := Fr.app N91 Nq92
    obtain ⟨lc92, X92, N92⟩ : ∃ lc, Stand p l e room_1 s m #[(.int p1), (.int p2), (.int p3), (.int p4), (.int p5), (.int p6)] below meth c T92 lc 6 24 ∧ Fr n0 lc := ⟨_, X92, N92⟩
    refine OutW.via st92 ?_
    show OutW _ _ _ _ _ _ _ (T92.setTop (mkF m 68 #[.val (.int p1), .val (.int p2), .val (.int p3), .val (.int p4), .val (.int p5), .val (.int p6), .val (.int v1), .val (.int (8 : Int32)), .val (.ref b85)] [(.int (if v1 = (-2 : Int32) then p6 else p5))]))
    refine OutW.back (fun t k => XS.iload X92.here hx rfl (hb hby at_68) rfl  k) ?_
    show OutW _ _ _ _ _ _ _ (T92.setTop (mkF m 70 #[.val (.int p1), .val (.int p2), .val (.int p3), .val (.int p4), .val (.int p5), .val (.int p6), .val (.int v1), .val (.int (8 : Int32)), .val (.ref b85)] [(.int v1), (.int (if v1 = (-2 : Int32) then p6 else p5))]))
    refine OutW.back (fun t k => XS.bipush X92.here hx rfl (hb hby at_70) k) ?_
    show OutW _ _ _ _ _ _ _ (T92.setTop (mkF m 72 #[.val (.int p1), .val (.int p2), .val (.int p3), .val (.int p4), .val (.int p5), .val (.int p6), .val (.int v1), .val (.int (8 : Int32)), .val (.ref b85)] [(.int (-2 : Int32)), (.int v1), (.int (if v1 = (-2 : Int32) then p6 else p5))]))
    obtain ⟨v94, hv_v94⟩ : ∃ z : Int32, z = (if v1 = (-2 : Int32) then p6 else p5) := ⟨_, rfl⟩
    have j95 : ∀ t, Steps p.tables e below (T92.setTop (mkF m 82 #[.val (.int p1), .val (.int p2), .val (.int p3), .val (.int p4), .val (.int p5), .val (.int p6), .val (.int v1), .val (.int (8 : Int32)), .val (.ref b85)] [(.int v94), (.int (if v1 = (-2 : Int32) then p6 else p5))])) t → Steps p.tables e below (T92.setTop (mkF m 72 #[.val (.int p1), .val (.int p2), .val (.int p3), .val (.int p4), .val (.int p5), .val (.int p6), .val (.int v1), .val (.int (8 : Int32)), .val (.ref b85)] [(.int (-2 : Int32)), (.int v1), (.int (if v1 = (-2 : Int32) then p6 else p5))])) t := by
      intro t k
      by_cases c72_96 : v1 = (-2 : Int32)
      · skip
        refine XS.icmpNo X92.here hx rfl (hb hby at_72) rfl (teq c72_96).2 ?_
        show Steps p.tables e below (T92.setTop (mkF m 75 #[.val (.int p1), .val (.int p2), .val (.int p3), .val (.int p4), .val (.int p5), .val (.int p6), .val (.int v1), .val (.int (8 : Int32)), .val (.ref b85)] [(.int (if v1 = (-2 : Int32) then p6 else p5))])) t
        refine XS.iload X92.here hx rfl (hb hby at_75) rfl  ?_
        show Steps p.tables e below (T92.setTop (mkF m 77 #[.val (.int p1), .val (.int p2), .val (.int p3), .val (.int p4), .val (.int p5), .val (.int p6), .val (.int v1), .val (.int (8 : Int32)), .val (.ref b85)] [(.int p6), (.int (if v1 = (-2 : Int32) then p6 else p5))])) t
        refine XS.goto X92.here hx rfl (pc0 := 77) (pc' := 82) rfl (hb hby at_77) (by decide) (by decide) ?_
        show Steps p.tables e below (T92.setTop (mkF m 82 #[.val (.int p1), .val (.int p2), .val (.int p3), .val (.int p4), .val (.int p5), .val (.int p6), .val (.int v1), .val (.int (8 : Int32)), .val (.ref b85)] [(.int p6), (.int (if v1 = (-2 : Int32) then p6 else p5))])) t
        have q_v94 : v94 = p6 := by rw [hv_v94, if_pos c72_96]
        rw [q_v94] at k
        exact k
      · skip
        refine XS.icmpYes X92.here hx rfl (pc0 := 72) (pc' := 80) rfl (hb hby at_72) rfl (feq c72_96).2 (by decide) (by decide) ?_
        show Steps p.tables e below (T92.setTop (mkF m 80 #[.val (.int p1), .val (.int p2), .val (.int p3), .val (.int p4), .val (.int p5), .val (.int p6), .val (.int v1), .val (.int (8 : Int32)), .val (.ref b85)] [(.int (if v1 = (-2 : Int32) then p6 else p5))])) t
        refine XS.iload X92.here hx rfl (hb hby at_80) rfl  ?_
        show Steps p.tables e below (T92.setTop (mkF m 82 #[.val (.int p1), .val (.int p2), .val (.int p3), .val (.int p4), .val (.int p5), .val (.int p6), .val (.int v1), .val (.int (8 : Int32)), .val (.ref b85)] [(.int p5), (.int (if v1 = (-2 : Int32) then p6 else p5))])) t
        have q_v94 : v94 = p5 := by rw [hv_v94, if_neg c72_96]
        rw [q_v94] at k
        exact k
    refine OutW.back j95 ?_
    show OutW _ _ _ _ _ _ _ (T92.setTop (mkF m 82 #[.val (.int p1), .val (.int p2), .val (.int p3), .val (.int p4), .val (.int p5), .val (.int p6), .val (.int v1), .val (.int (8 : Int32)), .val (.ref b85)] [(.int v94), (.int (if v1 = (-2 : Int32) then p6 else p5))]))
    refine OutW.back (fun t k => XS.icmpNo X92.here hx rfl (hb hby at_82) rfl (teq hv_v94.symm).2 k) ?_
    show OutW _ _ _ _ _ _ _ (T92.setTop (mkF m 85 #[.val (.int p1), .val (.int p2), .val (.int p3), .val (.int p4), .val (.int p5), .val (.int p6), .val (.int v1), .val (.int (8 : Int32)), .val (.ref b85)] []))
    refine OutW.back (fun t k => XS.aload X92.here hx rfl (hb hby at_85) rfl rfl  k) ?_
    show OutW _ _ _ _ _ _ _ (T92.setTop (mkF m 87 #[.val (.int p1), .val (.int p2), .val (.int p3), .val (.int p4), .val (.int p5), .val (.int p6), .val (.int v1), .val (.int (8 : Int32)), .val (.ref b85)] [(.ref b85)]))
    refine OutW.back (fun t k => XS.iconst X92.here hx rfl (hb hby at_87) k) ?_
    show OutW _ _ _ _ _ _ _ (T92.setTop (mkF m 88 #[.val (.int p1), .val (.int p2), .val (.int p3), .val (.int p4), .val (.int p5), .val (.int p6), .val (.int v1), .val (.int (8 : Int32)), .val (.ref b85)] [(.int (-1 : Int32)), (.ref b85)]))
    obtain ⟨cq97, kq97, qa97, qb97, qc97⟩ := isOf hZ e92 E_b85
    obtain ⟨_, _, ⟨T97, L97, k97, n97⟩, -, X97, ⟨Lc97, hQ97, l97, y97, z97⟩, st97⟩ := X92.virtualBack hx (y := (⟨"com/example/xml_document_query/xmldocumentquery/tree/IntColumn", "get", "(I)I"⟩ : MethodName)) (z := (⟨"com/example/xml_document_query/xmldocumentquery/tree/IntColumn", "get", "(I)I"⟩ : MethodName)) hown (mvT hZ (hw _ (List.mem_of_getElem? (i := 78) rfl))) (mvT hZ (hw _ (List.mem_of_getElem? (i := 79) rfl))) (notFace_of_selects (args := #[]) (mvT hZ (hw _ (List.mem_of_getElem? (i := 81) rfl)))) (mvT hZ (hw _ (List.mem_of_getElem? (i := 81) rfl))) (mvT hZ (hw _ (List.mem_of_getElem? (i := 80) rfl))) (by decide) (backOf (W := 0) (rm12_m1 l Z a0 hw [] b85 cN_89 bN_89 dN_89 kB_89 kD_89 (if v1 = (-1 : Int32) then p6 else p4) (if v1 = (-2 : Int32) then p6 else p5) (0 : Int32) (0 : Int32) h91 n0 Z91 F_before_b85 E_cN_89 F_blocks_cN_89 V_bN_89 V_dN_89_91) hZ (hw _ (List.mem_of_getElem? (i := 82) rfl)) (hw _ (List.mem_of_getElem? (i := 2) rfl)) (by decide) (by decide)) qa97 qc97 (g := (mkF m 88 #[.val (.int p1), .val (.int p2), .val (.int p3), .val (.int p4), .val (.int p5), .val (.int p6), .val (.int v1), .val (.int (8 : Int32)), .val (.ref b85)] [(.int (-1 : Int32)), (.ref b85)])) rfl (by rw [hml]; rfl) (Steps.refl _) (argsL := [(.int (-1 : Int32))]) (rest := []) (lenOf pd_6 rfl) rfl (by show 2 * 0 + _ ≤ _; exact Nat.le_of_eq rfl) (hb hby at_88) (fun _ _ => ⟨rfl, e92, (by decide : 6 + 0 ≤ _), (by decide : 24 + 0 ≤ _)⟩)
    dsimp only [Pt.U, Pt.locs, Pt.cells, Pt.slots] at X97 l97 y97 z97 st97 hQ97
    subst l97 y97 z97
    obtain ⟨rfl, Nq97, e97⟩ := hQ97
    have N97 := Fr.app N92 Nq97
    obtain ⟨lc97, X97, N97⟩ : ∃ lc, Stand p l e room_1 s m #[(.int p1), (.int p2), (.int p3), (.int p4), (.int p5), (.int p6)] below meth c T97 lc 6 24 ∧ Fr n0 lc := ⟨_, X97, N97⟩
    refine OutW.via st97 ?_
    show OutW _ _ _ _ _ _ _ (T97.setTop (mkF m 91 #[.val (.int p1), .val (.int p2), .val (.int p3), .val (.int p4), .val (.int p5), .val (.int p6), .val (.int v1), .val (.int (8 : Int32)), .val (.ref b85)] [(.int (if v1 = (-1 : Int32) then p6 else p4))]))
    refine OutW.back (fun t k => XS.iload X97.here hx rfl (hb hby at_91) rfl  k) ?_
    show OutW _ _ _ _ _ _ _ (T97.setTop (mkF m 93 #[.val (.int p1), .val (.int p2), .val (.int p3), .val (.int p4), .val (.int p5), .val (.int p6), .val (.int v1), .val (.int (8 : Int32)), .val (.ref b85)] [(.int v1), (.int (if v1 = (-1 : Int32) then p6 else p4))]))
    refine OutW.back (fun t k => XS.iconst X97.here hx rfl (hb hby at_93) k) ?_
    show OutW _ _ _ _ _ _ _ (T97.setTop (mkF m 94 #[.val (.int p1), .val (.int p2), .val (.int p3), .val (.int p4), .val (.int p5), .val (.int p6), .val (.int v1), .val (.int (8 : Int32)), .val (.ref b85)] [(.int (-1 : Int32)), (.int v1), (.int (if v1 = (-1 : Int32) then p6 else p4))]))
    obtain ⟨v99, hv_v99⟩ : ∃ z : Int32, z = (if v1 = (-1 : Int32) then p6 else p4) := ⟨_, rfl⟩
    have j100 : ∀ t, Steps p.tables e below (T97.setTop (mkF m 103 #[.val (.int p1), .val (.int p2), .val (.int p3), .val (.int p4), .val (.int p5), .val (.int p6), .val (.int v1), .val (.int (8 : Int32)), .val (.ref b85)] [(.int v99), (.int (if v1 = (-1 : Int32) then p6 else p4))])) t → Steps p.tables e below (T97.setTop (mkF m 94 #[.val (.int p1), .val (.int p2), .val (.int p3), .val (.int p4), .val (.int p5), .val (.int p6), .val (.int v1), .val (.int (8 : Int32)), .val (.ref b85)] [(.int (-1 : Int32)), (.int v1), (.int (if v1 = (-1 : Int32) then p6 else p4))])) t := by
      intro t k
      by_cases c94_101 : v1 = (-1 : Int32)
      · skip
        refine XS.icmpNo X97.here hx rfl (hb hby at_94) rfl (teq c94_101).2 ?_
        show Steps p.tables e below (T97.setTop (mkF m 97 #[.val (.int p1), .val (.int p2), .val (.int p3), .val (.int p4), .val (.int p5), .val (.int p6), .val (.int v1), .val (.int (8 : Int32)), .val (.ref b85)] [(.int (if v1 = (-1 : Int32) then p6 else p4))])) t
        refine XS.iload X97.here hx rfl (hb hby at_97) rfl  ?_
        show Steps p.tables e below (T97.setTop (mkF m 99 #[.val (.int p1), .val (.int p2), .val (.int p3), .val (.int p4), .val (.int p5), .val (.int p6), .val (.int v1), .val (.int (8 : Int32)), .val (.ref b85)] [(.int p6), (.int (if v1 = (-1 : Int32) then p6 else p4))])) t
        refine XS.goto X97.here hx rfl (pc0 := 99) (pc' := 103) rfl (hb hby at_99) (by decide) (by decide) ?_
        show Steps p.tables e below (T97.setTop (mkF m 103 #[.val (.int p1), .val (.int p2), .val (.int p3), .val (.int p4), .val (.int p5), .val (.int p6), .val (.int v1), .val (.int (8 : Int32)), .val (.ref b85)] [(.int p6), (.int (if v1 = (-1 : Int32) then p6 else p4))])) t
        have q_v99 : v99 = p6 := by rw [hv_v99, if_pos c94_101]
        rw [q_v99] at k
        exact k
      · skip
        refine XS.icmpYes X97.here hx rfl (pc0 := 94) (pc' := 102) rfl (hb hby at_94) rfl (feq c94_101).2 (by decide) (by decide) ?_
        show Steps p.tables e below (T97.setTop (mkF m 102 #[.val (.int p1), .val (.int p2), .val (.int p3), .val (.int p4), .val (.int p5), .val (.int p6), .val (.int v1), .val (.int (8 : Int32)), .val (.ref b85)] [(.int (if v1 = (-1 : Int32) then p6 else p4))])) t
        refine XS.iloadN X97.here hx rfl (hb hby at_102) rfl  ?_
        show Steps p.tables e below (T97.setTop (mkF m 103 #[.val (.int p1), .val (.int p2), .val (.int p3), .val (.int p4), .val (.int p5), .val (.int p6), .val (.int v1), .val (.int (8 : Int32)), .val (.ref b85)] [(.int p4), (.int (if v1 = (-1 : Int32) then p6 else p4))])) t
        have q_v99 : v99 = p4 := by rw [hv_v99, if_neg c94_101]
        rw [q_v99] at k
        exact k
    refine OutW.back j100 ?_
    show OutW _ _ _ _ _ _ _ (T97.setTop (mkF m 103 #[.val (.int p1), .val (.int p2), .val (.int p3), .val (.int p4), .val (.int p5), .val (.int p6), .val (.int v1), .val (.int (8 : Int32)), .val (.ref b85)] [(.int v99), (.int (if v1 = (-1 : Int32) then p6 else p4))]))
    refine OutW.back (fun t k => XS.icmpNo X97.here hx rfl (hb hby at_103) rfl (teq hv_v99.symm).2 k) ?_
    show OutW _ _ _ _ _ _ _ (T97.setTop (mkF m 106 #[.val (.int p1), .val (.int p2), .val (.int p3), .val (.int p4), .val (.int p5), .val (.int p6), .val (.int v1), .val (.int (8 : Int32)), .val (.ref b85)] []))
    refine OutW.back (fun t k => XS.aload X97.here hx rfl (hb hby at_106) rfl rfl  k) ?_
    show OutW _ _ _ _ _ _ _ (T97.setTop (mkF m 108 #[.val (.int p1), .val (.int p2), .val (.int p3), .val (.int p4), .val (.int p5), .val (.int p6), .val (.int v1), .val (.int (8 : Int32)), .val (.ref b85)] [(.ref b85)]))
    refine OutW.back (fun t k => XS.iconst X97.here hx rfl (hb hby at_108) k) ?_
    show OutW _ _ _ _ _ _ _ (T97.setTop (mkF m 109 #[.val (.int p1), .val (.int p2), .val (.int p3), .val (.int p4), .val (.int p5), .val (.int p6), .val (.int v1), .val (.int (8 : Int32)), .val (.ref b85)] [(.int (0 : Int32)), (.ref b85)]))
    obtain ⟨cq102, kq102, qa102, qb102, qc102⟩ := isOf hZ e97 E_b85
    obtain ⟨_, _, ⟨T102, L102, k102, n102⟩, -, X102, ⟨Lc102, hQ102, l102, y102, z102⟩, st102⟩ := X97.virtualBack hx (y := (⟨"com/example/xml_document_query/xmldocumentquery/tree/IntColumn", "get", "(I)I"⟩ : MethodName)) (z := (⟨"com/example/xml_document_query/xmldocumentquery/tree/IntColumn", "get", "(I)I"⟩ : MethodName)) hown (mvT hZ (hw _ (List.mem_of_getElem? (i := 78) rfl))) (mvT hZ (hw _ (List.mem_of_getElem? (i := 79) rfl))) (notFace_of_selects (args := #[]) (mvT hZ (hw _ (List.mem_of_getElem? (i := 81) rfl)))) (mvT hZ (hw _ (List.mem_of_getElem? (i := 81) rfl))) (mvT hZ (hw _ (List.mem_of_getElem? (i := 80) rfl))) (by decide) (backOf (W := 0) (rm12_0_8 l Z a0 hw [] b85 bN_86 dN_86 kB_86 kD_86 (if v1 = (0 : Int32) then p6 else p2) (if v1 = (1 : Int32) then p6 else p3) (0 : Int32) (0 : Int32) (0 : Int32) (0 : Int32) (0 : Int32) (0 : Int32) h91 n0 Z91 F_blocks_b85 V_bN_86 V_dN_86_91) hZ (hw _ (List.mem_of_getElem? (i := 82) rfl)) (hw _ (List.mem_of_getElem? (i := 2) rfl)) (by decide) (by decide)) qa102 qc102 (g := (mkF m 109 #[.val (.int p1), .val (.int p2), .val (.int p3), .val (.int p4), .val (.int p5), .val (.int p6), .val (.int v1), .val (.int (8 : Int32)), .val (.ref b85)] [(.int (0 : Int32)), (.ref b85)])) rfl (by rw [hml]; rfl) (Steps.refl _) (argsL := [(.int (0 : Int32))]) (rest := []) (lenOf pd_6 rfl) rfl (by show 2 * 0 + _ ≤ _; exact Nat.le_of_eq rfl) (hb hby at_109) (fun _ _ => ⟨rfl, e97, (by decide : 6 + 0 ≤ _), (by decide : 24 + 0 ≤ _)⟩)
    dsimp only [Pt.U, Pt.locs, Pt.cells, Pt.slots] at X102 l102 y102 z102 st102 hQ102
    subst l102 y102 z102
    obtain ⟨rfl, Nq102, e102⟩ := hQ102
    have N102 := Fr.app N97 Nq102
    obtain ⟨lc102, X102, N102⟩ : ∃ lc, Stand p l e room_1 s m #[(.int p1), (.int p2), (.int p3), (.int p4), (.int p5), (.int p6)] below meth c T102 lc 6 24 ∧ Fr n0 lc := ⟨_, X102, N102⟩
    refine OutW.via st102 ?_
    show OutW _ _ _ _ _ _ _ (T102.setTop (mkF m 112 #[.val (.int p1), .val (.int p2), .val (.int p3), .val (.int p4), .val (.int p5), .val (.int p6), .val (.int v1), .val (.int (8 : Int32)), .val (.ref b85)] [(.int (if v1 = (0 : Int32) then p6 else p2))]))
    refine OutW.back (fun t k => XS.iload X102.here hx rfl (hb hby at_112) rfl  k) ?_
    show OutW _ _ _ _ _ _ _ (T102.setTop (mkF m 114 #[.val (.int p1), .val (.int p2), .val (.int p3), .val (.int p4), .val (.int p5), .val (.int p6), .val (.int v1), .val (.int (8 : Int32)), .val (.ref b85)] [(.int v1), (.int (if v1 = (0 : Int32) then p6 else p2))]))
    obtain ⟨v104, hv_v104⟩ : ∃ z : Int32, z = (if v1 = (0 : Int32) then p6 else p2) := ⟨_, rfl⟩
    have j105 : ∀ t, Steps p.tables e below (T102.setTop (mkF m 123 #[.val (.int p1), .val (.int p2), .val (.int p3), .val (.int p4), .val (.int p5), .val (.int p6), .val (.int v1), .val (.int (8 : Int32)), .val (.ref b85)] [(.int v104), (.int (if v1 = (0 : Int32) then p6 else p2))])) t → Steps p.tables e below (T102.setTop (mkF m 114 #[.val (.int p1), .val (.int p2), .val (.int p3), .val (.int p4), .val (.int p5), .val (.int p6), .val (.int v1), .val (.int (8 : Int32)), .val (.ref b85)] [(.int v1), (.int (if v1 = (0 : Int32) then p6 else p2))])) t := by
      intro t k
      by_cases c114_106 : v1 = (0 : Int32)
      · skip
        refine XS.ifNo X102.here hx rfl (hb hby at_114) rfl ((if0 _ _).trans (teq c114_106).2) ?_
        show Steps p.tables e below (T102.setTop (mkF m 117 #[.val (.int p1), .val (.int p2), .val (.int p3), .val (.int p4), .val (.int p5), .val (.int p6), .val (.int v1), .val (.int (8 : Int32)), .val (.ref b85)] [(.int (if v1 = (0 : Int32) then p6 else p2))])) t
        refine XS.iload X102.here hx rfl (hb hby at_117) rfl  ?_
        show Steps p.tables e below (T102.setTop (mkF m 119 #[.val (.int p1), .val (.int p2), .val (.int p3), .val (.int p4), .val (.int p5), .val (.int p6), .val (.int v1), .val (.int (8 : Int32)), .val (.ref b85)] [(.int p6), (.int (if v1 = (0 : Int32) then p6 else p2))])) t
        refine XS.goto X102.here hx rfl (pc0 := 119) (pc' := 123) rfl (hb hby at_119) (by decide) (by decide) ?_
        show Steps p.tables e below (T102.setTop (mkF m 123 #[.val (.int p1), .val (.int p2), .val (.int p3), .val (.int p4), .val (.int p5), .val (.int p6), .val (.int v1), .val (.int (8 : Int32)), .val (.ref b85)] [(.int p6), (.int (if v1 = (0 : Int32) then p6 else p2))])) t
        have q_v104 : v104 = p6 := by rw [hv_v104, if_pos c114_106]
        rw [q_v104] at k
        exact k
      · skip
        refine XS.ifYes X102.here hx rfl (pc0 := 114) (pc' := 122) rfl (hb hby at_114) rfl ((if0 _ _).trans (feq c114_106).2) (by decide) (by decide) ?_
        show Steps p.tables e below (T102.setTop (mkF m 122 #[.val (.int p1), .val (.int p2), .val (.int p3), .val (.int p4), .val (.int p5), .val (.int p6), .val (.int v1), .val (.int (8 : Int32)), .val (.ref b85)] [(.int (if v1 = (0 : Int32) then p6 else p2))])) t
        refine XS.iloadN X102.here hx rfl (hb hby at_122) rfl  ?_
        show Steps p.tables e below (T102.setTop (mkF m 123 #[.val (.int p1), .val (.int p2), .val (.int p3), .val (.int p4), .val (.int p5), .val (.int p6), .val (.int v1), .val (.int (8 : Int32)), .val (.ref b85)] [(.int p2), (.int (if v1 = (0 : Int32) then p6 else p2))])) t
        have q_v104 : v104 = p2 := by rw [hv_v104, if_neg c114_106]
        rw [q_v104] at k
        exact k
    refine OutW.back j105 ?_
    show OutW _ _ _ _ _ _ _ (T102.setTop (mkF m 123 #[.val (.int p1), .val (.int p2), .val (.int p3), .val (.int p4), .val (.int p5), .val (.int p6), .val (.int v1), .val (.int (8 : Int32)), .val (.ref b85)] [(.int v104), (.int (if v1 = (0 : Int32) then p6 else p2))]))
    refine OutW.back (fun t k => XS.icmpNo X102.here hx rfl (hb hby at_123) rfl (teq hv_v104.symm).2 k) ?_
    show OutW _ _ _ _ _ _ _ (T102.setTop (mkF m 126 #[.val (.int p1), .val (.int p2), .val (.int p3), .val (.int p4), .val (.int p5), .val (.int p6), .val (.int v1), .val (.int (8 : Int32)), .val (.ref b85)] []))
    refine OutW.back (fun t k => XS.aload X102.here hx rfl (hb hby at_126) rfl rfl  k) ?_
    show OutW _ _ _ _ _ _ _ (T102.setTop (mkF m 128 #[.val (.int p1), .val (.int p2), .val (.int p3), .val (.int p4), .val (.int p5), .val (.int p6), .val (.int v1), .val (.int (8 : Int32)), .val (.ref b85)] [(.ref b85)]))
    refine OutW.back (fun t k => XS.iconst X102.here hx rfl (hb hby at_128) k) ?_
    show OutW _ _ _ _ _ _ _ (T102.setTop (mkF m 129 #[.val (.int p1), .val (.int p2), .val (.int p3), .val (.int p4), .val (.int p5), .val (.int p6), .val (.int v1), .val (.int (8 : Int32)), .val (.ref b85)] [(.int (1 : Int32)), (.ref b85)]))
    obtain ⟨cq107, kq107, qa107, qb107, qc107⟩ := isOf hZ e102 E_b85
    obtain ⟨_, _, ⟨T107, L107, k107, n107⟩, -, X107, ⟨Lc107, hQ107, l107, y107, z107⟩, st107⟩ := X102.virtualBack hx (y := (⟨"com/example/xml_document_query/xmldocumentquery/tree/IntColumn", "get", "(I)I"⟩ : MethodName)) (z := (⟨"com/example/xml_document_query/xmldocumentquery/tree/IntColumn", "get", "(I)I"⟩ : MethodName)) hown (mvT hZ (hw _ (List.mem_of_getElem? (i := 78) rfl))) (mvT hZ (hw _ (List.mem_of_getElem? (i := 79) rfl))) (notFace_of_selects (args := #[]) (mvT hZ (hw _ (List.mem_of_getElem? (i := 81) rfl)))) (mvT hZ (hw _ (List.mem_of_getElem? (i := 81) rfl))) (mvT hZ (hw _ (List.mem_of_getElem? (i := 80) rfl))) (by decide) (backOf (W := 0) (rm12_1_8 l Z a0 hw [] b85 bN_86 dN_86 kB_86 kD_86 (if v1 = (0 : Int32) then p6 else p2) (if v1 = (1 : Int32) then p6 else p3) (0 : Int32) (0 : Int32) (0 : Int32) (0 : Int32) (0 : Int32) (0 : Int32) h91 n0 Z91 F_blocks_b85 V_bN_86 V_dN_86_91) hZ (hw _ (List.mem_of_getElem? (i := 82) rfl)) (hw _ (List.mem_of_getElem? (i := 2) rfl)) (by decide) (by decide)) qa107 qc107 (g := (mkF m 129 #[.val (.int p1), .val (.int p2), .val (.int p3), .val (.int p4), .val (.int p5), .val (.int p6), .val (.int v1), .val (.int (8 : Int32)), .val (.ref b85)] [(.int (1 : Int32)), (.ref b85)])) rfl (by rw [hml]; rfl) (Steps.refl _) (argsL := [(.int (1 : Int32))]) (rest := []) (lenOf pd_6 rfl) rfl (by show 2 * 0 + _ ≤ _; exact Nat.le_of_eq rfl) (hb hby at_129) (fun _ _ => ⟨rfl, e102, (by decide : 6 + 0 ≤ _), (by decide : 24 + 0 ≤ _)⟩)
    dsimp only [Pt.U, Pt.locs, Pt.cells, Pt.slots] at X107 l107 y107 z107 st107 hQ107
    subst l107 y107 z107
    obtain ⟨rfl, Nq107, e107⟩ := hQ107
    have N107 := Fr.app N102 Nq107
    obtain ⟨lc107, X107, N107⟩ : ∃ lc, Stand p l e room_1 s m #[(.int p1), (.int p2), (.int p3), (.int p4), (.int p5), (.int p6)] below meth c T107 lc 6 24 ∧ Fr n0 lc := ⟨_, X107, N107⟩
    refine OutW.via st107 ?_
    show OutW _ _ _ _ _ _ _ (T107.setTop (mkF m 132 #[.val (.int p1), .val (.int p2), .val (.int p3), .val (.int p4), .val (.int p5), .val (.int p6), .val (.int v1), .val (.int (8 : Int32)), .val (.ref b85)] [(.int (if v1 = (1 : Int32) then p6 else p3))]))
    refine OutW.back (fun t k => XS.iload X107.here hx rfl (hb hby at_132) rfl  k) ?_
    show OutW _ _ _ _ _ _ _ (T107.setTop (mkF m 134 #[.val (.int p1), .val (.int p2), .val (.int p3), .val (.int p4), .val (.int p5), .val (.int p6), .val (.int v1), .val (.int (8 : Int32)), .val (.ref b85)] [(.int v1), (.int (if v1 = (1 : Int32) then p6 else p3))]))
    refine OutW.back (fun t k => XS.iconst X107.here hx rfl (hb hby at_134) k) ?_
    show OutW _ _ _ _ _ _ _ (T107.setTop (mkF m 135 #[.val (.int p1), .val (.int p2), .val (.int p3), .val (.int p4), .val (.int p5), .val (.int p6), .val (.int v1), .val (.int (8 : Int32)), .val (.ref b85)] [(.int (1 : Int32)), (.int v1), (.int (if v1 = (1 : Int32) then p6 else p3))]))
    obtain ⟨v109, hv_v109⟩ : ∃ z : Int32, z = (if v1 = (1 : Int32) then p6 else p3) := ⟨_, rfl⟩
    have j110 : ∀ t, Steps p.tables e below (T107.setTop (mkF m 144 #[.val (.int p1), .val (.int p2), .val (.int p3), .val (.int p4), .val (.int p5), .val (.int p6), .val (.int v1), .val (.int (8 : Int32)), .val (.ref b85)] [(.int v109), (.int (if v1 = (1 : Int32) then p6 else p3))])) t → Steps p.tables e below (T107.setTop (mkF m 135 #[.val (.int p1), .val (.int p2), .val (.int p3), .val (.int p4), .val (.int p5), .val (.int p6), .val (.int v1), .val (.int (8 : Int32)), .val (.ref b85)] [(.int (1 : Int32)), (.int v1), (.int (if v1 = (1 : Int32) then p6 else p3))])) t := by
      intro t k
      by_cases c135_111 : v1 = (1 : Int32)
      · skip
        refine XS.icmpNo X107.here hx rfl (hb hby at_135) rfl (teq c135_111).2 ?_
        show Steps p.tables e below (T107.setTop (mkF m 138 #[.val (.int p1), .val (.int p2), .val (.int p3), .val (.int p4), .val (.int p5), .val (.int p6), .val (.int v1), .val (.int (8 : Int32)), .val (.ref b85)] [(.int (if v1 = (1 : Int32) then p6 else p3))])) t
        refine XS.iload X107.here hx rfl (hb hby at_138) rfl  ?_
        show Steps p.tables e below (T107.setTop (mkF m 140 #[.val (.int p1), .val (.int p2), .val (.int p3), .val (.int p4), .val (.int p5), .val (.int p6), .val (.int v1), .val (.int (8 : Int32)), .val (.ref b85)] [(.int p6), (.int (if v1 = (1 : Int32) then p6 else p3))])) t
        refine XS.goto X107.here hx rfl (pc0 := 140) (pc' := 144) rfl (hb hby at_140) (by decide) (by decide) ?_
        show Steps p.tables e below (T107.setTop (mkF m 144 #[.val (.int p1), .val (.int p2), .val (.int p3), .val (.int p4), .val (.int p5), .val (.int p6), .val (.int v1), .val (.int (8 : Int32)), .val (.ref b85)] [(.int p6), (.int (if v1 = (1 : Int32) then p6 else p3))])) t
        have q_v109 : v109 = p6 := by rw [hv_v109, if_pos c135_111]
        rw [q_v109] at k
        exact k
      · skip
        refine XS.icmpYes X107.here hx rfl (pc0 := 135) (pc' := 143) rfl (hb hby at_135) rfl (feq c135_111).2 (by decide) (by decide) ?_
        show Steps p.tables e below (T107.setTop (mkF m 143 #[.val (.int p1), .val (.int p2), .val (.int p3), .val (.int p4), .val (.int p5), .val (.int p6), .val (.int v1), .val (.int (8 : Int32)), .val (.ref b85)] [(.int (if v1 = (1 : Int32) then p6 else p3))])) t
        refine XS.iloadN X107.here hx rfl (hb hby at_143) rfl  ?_
        show Steps p.tables e below (T107.setTop (mkF m 144 #[.val (.int p1), .val (.int p2), .val (.int p3), .val (.int p4), .val (.int p5), .val (.int p6), .val (.int v1), .val (.int (8 : Int32)), .val (.ref b85)] [(.int p3), (.int (if v1 = (1 : Int32) then p6 else p3))])) t
        have q_v109 : v109 = p3 := by rw [hv_v109, if_neg c135_111]
        rw [q_v109] at k
        exact k
    refine OutW.back j110 ?_
    show OutW _ _ _ _ _ _ _ (T107.setTop (mkF m 144 #[.val (.int p1), .val (.int p2), .val (.int p3), .val (.int p4), .val (.int p5), .val (.int p6), .val (.int v1), .val (.int (8 : Int32)), .val (.ref b85)] [(.int v109), (.int (if v1 = (1 : Int32) then p6 else p3))]))
    refine OutW.back (fun t k => XS.icmpNo X107.here hx rfl (hb hby at_144) rfl (teq hv_v109.symm).2 k) ?_
    show OutW _ _ _ _ _ _ _ (T107.setTop (mkF m 147 #[.val (.int p1), .val (.int p2), .val (.int p3), .val (.int p4), .val (.int p5), .val (.int p6), .val (.int v1), .val (.int (8 : Int32)), .val (.ref b85)] []))
    refine OutW.back (fun t k => XS.iconst X107.here hx rfl (hb hby at_147) k) ?_
    show OutW _ _ _ _ _ _ _ (T107.setTop (mkF m 148 #[.val (.int p1), .val (.int p2), .val (.int p3), .val (.int p4), .val (.int p5), .val (.int p6), .val (.int v1), .val (.int (8 : Int32)), .val (.ref b85)] [(.int (1 : Int32))]))
    refine OutW.back (fun t k => XS.goto X107.here hx rfl (pc0 := 148) (pc' := 152) rfl (hb hby at_148) (by decide) (by decide) k) ?_
    show OutW _ _ _ _ _ _ _ (T107.setTop (mkF m 152 #[.val (.int p1), .val (.int p2), .val (.int p3), .val (.int p4), .val (.int p5), .val (.int p6), .val (.int v1), .val (.int (8 : Int32)), .val (.ref b85)] [(.int (1 : Int32))]))
    refine OutW.retN X107 hx (t := .boolean) (z' := 1) Bd.returns (by simp) hlk (hb hby at_152) ?hz (by decide) (by decide) ?_
    case hz =>
      rfl
    show Q0 Z p1 p2 p3 p4 p5 p6 h0 n0 _ T107.heap _
    rw [e107]
    exact ⟨rfl, N107⟩
set_option maxRecDepth 65536 in
set_option maxHeartbeats 40000000 in
theorem comes_1 {Post : Tables → Env → Array Value → State → Outcome → State → Prop} (hpost : ∀ tb e args s v u, (limb_1_1.after args s (.returned v) u = true ∧ limb_1_2.after args s (.returned v) u = true ∧ True) → FrameEnd s (.returned v) u (Jvm.fieldLocs frame_1_writes args s ++ Jvm.arrayLocs frame_1_arrays args s ++ Jvm.staticLocs frame_1_statics s) 24 128 → Post tb e args s (.returned v) u) :
    ArmFor flags0 classFile x code maxLocals ret World_1 tables_1 room_1 Calls_1 rest_1 Pre_1 Post := by
  intro l hfl _ _ p e ha hc hk s m args below hf hA hF happ hP
  obtain ⟨hcalls, hrest, hpre⟩ := hP
  obtain ⟨-, -, -, hnamed, -, -, -, hat⟩ := (Spec.applies_iff hf).mp happ
  obtain ⟨hg, hn⟩ := and_e (Cond.before_iff.mp (show (Jvm.Cond.and given_1 narrow_1).before args s = true from hpre))
  obtain ⟨hcount, hg0⟩ := and_e hg
  obtain ⟨ga0, hg1⟩ := and_e hg0
  obtain ⟨ga1, hg2⟩ := and_e hg1
  obtain ⟨ga2, hg3⟩ := and_e hg2
  obtain ⟨ga3, hg4⟩ := and_e hg3
  obtain ⟨ga4, hg5⟩ := and_e hg4
  have ga5 := hg5
  obtain ⟨w0, w1, w2, w3, w4, w5, rfl⟩ : ∃ w0 w1 w2 w3 w4 w5 : Value, args = #[w0, w1, w2, w3, w4, w5] := by
    have hs : args.size = 6 := by simpa [Cond.value, given_1] using hcount
    obtain ⟨L⟩ := args
    match L, hs with
    | [w0, w1, w2, w3, w4, w5], _ => exact ⟨w0, w1, w2, w3, w4, w5, rfl⟩
  have hw := fun d (hd : d ∈ tables_1) => atoms_spec (ws := Jvm.Cond.code x code maxLocals ret :: tables_1) hat d (List.mem_cons_of_mem _ hd)
  obtain ⟨i0, ei0⟩ := is_v ga0
  obtain rfl : w0 = (.int i0) := Option.some.inj ei0
  obtain ⟨i1, ei1⟩ := is_v ga1
  obtain rfl : w1 = (.int i1) := Option.some.inj ei1
  obtain ⟨i2, ei2⟩ := is_v ga2
  obtain rfl : w2 = (.int i2) := Option.some.inj ei2
  obtain ⟨i3, ei3⟩ := is_v ga3
  obtain rfl : w3 = (.int i3) := Option.some.inj ei3
  obtain ⟨i4, ei4⟩ := is_v ga4
  obtain rfl : w4 = (.int i4) := Option.some.inj ei4
  obtain ⟨i5, ei5⟩ := is_v ga5
  obtain rfl : w5 = (.int i5) := Option.some.inj ei5
  obtain ⟨n, o, h1, h2, h3, _, L, rfl, ⟨rfl, N⟩, hq⟩ := rm0 l s _ hw tables_1 i0 i1 i2 i3 i4 i5  s.heap s.heap.size (Nat.le_refl _)  p e ha hc hk s m _ below hf ((Spec.applies_iff_loose hf).mp happ).1 ⟨rfl, State.Warmed39.refl s, rfl⟩ trivial
  refine ⟨n, _, h1, h2, h3, hpost _ _ _ _ _ _ ⟨Cond.after_iff.mpr rfl, Cond.after_iff.mpr (eq_i res_at (Term.int_eval (1)) rfl), trivial⟩ ⟨hq.1, hq.2.1, (hq.2.2.sift fun y hy => Or.inr (N y hy)).mono (by decide) (by decide)⟩⟩
theorem main_1_1 : Claimed_1_1 := comes_1 fun _ _ _ _ _ _ h hF => ⟨h.1, hF⟩
theorem main_1_2 : Claimed_1_2 := comes_1 fun _ _ _ _ _ _ h hF => ⟨h.2.1, hF⟩
end Jvm.Pilot.@@N@@
namespace Jvm.Pilot.@@N@@
open Jvm Jvm.ClassFile Sem Op Lib Jvm.Free Jvm.Stand Jvm.Pilot.@@N@@.Jvm.D
/-! MADE BY PROGRAM (witnessworld.py) out of the Statement's table words and the real class files: 13 classes; the members and pool entries that the words name. The judged class is class 1, her method 1. -/
namespace start1
open Jvm.ClassFile
def u (s : String) : CpInfo := .utf8 (stringToUtf16 s)
/-- a pool by its gaps: so many unusable entries, then the entry; so many at the end -/
def gap : Nat → List CpInfo → List CpInfo
  | 0, r => r
  | n + 1, r => .unusable :: gap n r
def poolList (es : List (Nat × CpInfo)) (last : Nat) : List CpInfo := es.foldr (fun e r => gap e.1 (e.2 :: r)) (gap last [])
def pool (es : List (Nat × CpInfo)) (last : Nat) : Array CpInfo := ⟨poolList es last⟩
def fileOf (pool : Array CpInfo) (this : Nat) (attrs : Array Attribute := #[]) (ms : Array MethodInfo := #[]) (fl : Nat := 33) (sup : Nat := 0) (ifs : Array Nat := #[]) (fds : Array FieldInfo := #[]) : ClassFile where
  minorVersion := 0
  majorVersion := 65
  constantPool := pool
  accessFlags := fl
  thisClass := this
  superClass := sup
  interfaces := ifs
  fields := fds
  methods := ms
  attributes := attrs
def plain (name : String) (sup : Option ClassId) : Class where
  name := name
  kind := .ordinary
  loader := none
  accessFlags := 33
  super := sup
  interfaces := #[]
  cf := none
  fields := #[]
  methods := #[]
  instanceTypes := #[]
  staticTypes := #[]
  resolved := #[]
  callSites := []
  init := .initialized
  statics := none
  mirror := none

def pool0 : Array CpInfo := pool [(5, u "<init>"), (0, u "()V"), (1, .class_ 10), (1, u "java/lang/Object")] 113

def k0c0 : Code := { maxStack := 0, maxLocals := 1, code := object_method_1_code, exceptionTable := #[], attributes := #[] }
def k0m0 : Method := { name := "<init>", desc := "()V", sig := { parameters := [], returnType := none }, accessFlags := 1, code := some k0c0 }
/-- java/lang/Object -/
def k0 : Class := { plain "java/lang/Object" none with
  accessFlags := 33
  interfaces := #[]
  cf := some (fileOf pool0 8 #[] #[{ accessFlags := 1, nameIndex := 5, descriptorIndex := 6, attributes := #[] }] 33 0 #[] #[])
  fields := #[]
  methods := #[k0m0]
  instanceTypes := #[]
  staticTypes := #[]
  resolved := Array.replicate 124 none
  statics := none }

def pool1 : Array CpInfo := pool [(2, .class_ 4), (1, u "java/lang/Object"), (0, u "<init>"), (0, u "()V"), (0, .class_ 8), (0, u "com/example/xml_document_query/xmldocumentquery/tree/IntColumn"), (0, .methodref 7 10), (0, .nameAndType 5 11), (0, u "(I)V"), (0, .methodref 7 13), (0, .nameAndType 14 11), (0, u "add"), (0, .methodref 7 16), (0, .nameAndType 17 11), (0, u "addFirst"), (0, .methodref 7 19), (0, .nameAndType 20 21), (0, u "set"), (0, u "(II)V"), (0, .methodref 7 23), (0, .nameAndType 24 25), (0, u "get"), (0, u "(I)I"), (0, .class_ 27), (0, u "com/example/xml_document_query/xmldocumentquery/tree/IntColumnSetPinLaw"), (2, u "law"), (0, u "(IIIIII)Z")] 3

def k1m0 : Method := { name := "<init>", desc := "()V", sig := { parameters := [], returnType := none }, accessFlags := 1, code := none }
def k1c1 : Code := { maxStack := 3, maxLocals := 9, code := code, exceptionTable := #[], attributes := #[] }
def k1m1 : Method := { name := "law", desc := "(IIIIII)Z", sig := { parameters := [.int, .int, .int, .int, .int, .int], returnType := some .boolean }, accessFlags := 9, code := some k1c1 }
/-- com/example/xml_document_query/xmldocumentquery/tree/IntColumnSetPinLaw -/
def k1 : Class := { plain "com/example/xml_document_query/xmldocumentquery/tree/IntColumnSetPinLaw" (some 0) with
  accessFlags := 49
  interfaces := #[]
  cf := some (fileOf pool1 26 #[] #[{ accessFlags := 1, nameIndex := 5, descriptorIndex := 6, attributes := #[] }, { accessFlags := 9, nameIndex := 30, descriptorIndex := 31, attributes := #[] }] 49 2 #[] #[])
  fields := #[]
  methods := #[k1m0, k1m1]
  instanceTypes := #[]
  staticTypes := #[]
  resolved := Array.replicate 35 none
  statics := none }

def pool2 : Array CpInfo := pool [(1, .methodref 2 3), (0, .class_ 4), (0, .nameAndType 5 6), (0, u "java/lang/Object"), (0, u "<init>"), (0, u "()V"), (0, .fieldref 8 9), (0, .class_ 10), (0, .nameAndType 11 12), (0, u "com/example/xml_document_query/xmldocumentquery/tree/BlockedArray"), (0, u "blockBits"), (0, u "I"), (0, .fieldref 8 14), (0, .nameAndType 15 12), (0, u "capacity"), (3, .methodref 20 21), (0, .class_ 22), (0, .nameAndType 23 24), (0, u "java/lang/Math"), (0, u "min"), (0, u "(II)I"), (0, .methodref 8 26), (0, .nameAndType 27 28), (0, u "resizeFirstBlock"), (0, u "(I)V"), (16, u "(II)V"), (2, u "()I"), (0, u "grow")] 18

def k2c0 : Code := { maxStack := 2, maxLocals := 3, code := prog_165_method_1_code, exceptionTable := #[], attributes := #[] }
def k2m0 : Method := { name := "<init>", desc := "(II)V", sig := { parameters := [.int, .int], returnType := none }, accessFlags := 0, code := some k2c0 }
def k2c1 : Code := { maxStack := 1, maxLocals := 1, code := prog_165_method_3_code, exceptionTable := #[], attributes := #[] }
def k2m1 : Method := { name := "capacity", desc := "()I", sig := { parameters := [], returnType := some .int }, accessFlags := 16, code := some k2c1 }
def k2c2 : Code := { maxStack := 4, maxLocals := 2, code := prog_165_method_4_code, exceptionTable := #[], attributes := #[] }
def k2m2 : Method := { name := "grow", desc := "()V", sig := { parameters := [], returnType := none }, accessFlags := 16, code := some k2c2 }
def k2m3 : Method := { name := "resizeFirstBlock", desc := "(I)V", sig := { parameters := [.int], returnType := none }, accessFlags := 1024, code := none }
/-- com/example/xml_document_query/xmldocumentquery/tree/BlockedArray -/
def k2 : Class := { plain "com/example/xml_document_query/xmldocumentquery/tree/BlockedArray" (some 0) with
  accessFlags := 1056
  interfaces := #[]
  cf := some (fileOf pool2 8 #[] #[{ accessFlags := 0, nameIndex := 5, descriptorIndex := 45, attributes := #[] }, { accessFlags := 16, nameIndex := 15, descriptorIndex := 48, attributes := #[] }, { accessFlags := 16, nameIndex := 49, descriptorIndex := 6, attributes := #[] }, { accessFlags := 1024, nameIndex := 27, descriptorIndex := 28, attributes := #[] }] 1056 2 #[] #[{ accessFlags := 18, nameIndex := 11, descriptorIndex := 12, attributes := #[] }, { accessFlags := 2, nameIndex := 15, descriptorIndex := 12, attributes := #[] }])
  fields := #[{ name := "blockBits", type := .int, accessFlags := 18, slot := 0, constantValue := 0 }, { name := "capacity", type := .int, accessFlags := 2, slot := 1, constantValue := 0 }]
  methods := #[k2m0, k2m1, k2m2, k2m3]
  instanceTypes := #[.int, .int]
  staticTypes := #[]
  resolved := Array.replicate 68 none
  statics := none }

def pool3 : Array CpInfo := pool [(1, .class_ 2), (0, u "com/example/xml_document_query/xmldocumentquery/tree/IntColumn"), (0, .methodref 4 5), (0, .class_ 6), (0, .nameAndType 7 8), (0, u "com/example/xml_document_query/xmldocumentquery/tree/BlockedArray"), (0, u "<init>"), (0, u "(II)V"), (0, .class_ 10), (0, u "[I"), (0, .fieldref 1 12), (0, .nameAndType 13 14), (0, u "blocks"), (0, u "[[I"), (0, .fieldref 1 16), (0, .nameAndType 17 18), (0, u "size"), (0, u "I"), (0, .methodref 1 20), (0, .nameAndType 21 22), (0, u "capacity"), (0, u "()I"), (0, .methodref 1 24), (0, .nameAndType 25 26), (0, u "grow"), (0, u "()V"), (0, .integer 65535), (0, .fieldref 1 29), (0, .nameAndType 30 31), (0, u "before"), (0, u "Lcom/example/xml_document_query/xmldocumentquery/tree/IntColumn;"), (0, .methodref 1 33), (0, .nameAndType 7 34), (0, u "(I)V"), (0, .methodref 1 36), (0, .nameAndType 37 34), (0, u "add"), (0, .methodref 1 39), (0, .nameAndType 40 41), (0, u "get"), (0, u "(I)I"), (0, .methodref 1 43), (0, .nameAndType 44 8), (0, u "set"), (0, .methodref 46 47), (0, .class_ 48), (0, .nameAndType 49 50), (0, u "java/util/Arrays"), (0, u "copyOf"), (0, u "([II)[I"), (9, u "MAX_SIZE"), (0, u "BLOCK_BITS"), (2, u "OFFSET_MASK"), (0, u "FIRST_CAPACITY"), (1, u "FIRST_CAPACITY_BEFORE"), (4, u "addFirst"), (2, u "resizeFirstBlock")] 4

def k3c0 : Code := { maxStack := 5, maxLocals := 2, code := prog_168_method_1_code, exceptionTable := #[], attributes := #[] }
def k3m0 : Method := { name := "<init>", desc := "(I)V", sig := { parameters := [.int], returnType := none }, accessFlags := 0, code := some k3c0 }
def k3c1 : Code := { maxStack := 3, maxLocals := 2, code := prog_168_method_2_code, exceptionTable := #[], attributes := #[] }
def k3m1 : Method := { name := "add", desc := "(I)V", sig := { parameters := [.int], returnType := none }, accessFlags := 0, code := some k3c1 }
def k3c2 : Code := { maxStack := 4, maxLocals := 2, code := prog_168_method_3_code, exceptionTable := #[], attributes := #[] }
def k3m2 : Method := { name := "addFirst", desc := "(I)V", sig := { parameters := [.int], returnType := none }, accessFlags := 0, code := some k3c2 }
def k3c3 : Code := { maxStack := 3, maxLocals := 2, code := prog_168_method_4_code, exceptionTable := #[], attributes := #[] }
def k3m3 : Method := { name := "get", desc := "(I)I", sig := { parameters := [.int], returnType := some .int }, accessFlags := 0, code := some k3c3 }
def k3c4 : Code := { maxStack := 3, maxLocals := 3, code := prog_168_method_5_code, exceptionTable := #[], attributes := #[] }
def k3m4 : Method := { name := "set", desc := "(II)V", sig := { parameters := [.int, .int], returnType := none }, accessFlags := 0, code := some k3c4 }
def k3c5 : Code := { maxStack := 4, maxLocals := 2, code := prog_168_method_8_code, exceptionTable := #[], attributes := #[] }
def k3m5 : Method := { name := "resizeFirstBlock", desc := "(I)V", sig := { parameters := [.int], returnType := none }, accessFlags := 0, code := some k3c5 }
/-- com/example/xml_document_query/xmldocumentquery/tree/IntColumn -/
def k3 : Class := { plain "com/example/xml_document_query/xmldocumentquery/tree/IntColumn" (some 2) with
  accessFlags := 48
  interfaces := #[]
  cf := some (fileOf pool3 1 #[] #[{ accessFlags := 0, nameIndex := 7, descriptorIndex := 34, attributes := #[] }, { accessFlags := 0, nameIndex := 37, descriptorIndex := 34, attributes := #[] }, { accessFlags := 0, nameIndex := 72, descriptorIndex := 34, attributes := #[] }, { accessFlags := 0, nameIndex := 40, descriptorIndex := 41, attributes := #[] }, { accessFlags := 0, nameIndex := 44, descriptorIndex := 8, attributes := #[] }, { accessFlags := 0, nameIndex := 75, descriptorIndex := 34, attributes := #[] }] 48 4 #[] #[{ accessFlags := 26, nameIndex := 61, descriptorIndex := 18, attributes := #[] }, { accessFlags := 26, nameIndex := 64, descriptorIndex := 18, attributes := #[] }, { accessFlags := 24, nameIndex := 65, descriptorIndex := 18, attributes := #[] }, { accessFlags := 26, nameIndex := 67, descriptorIndex := 18, attributes := #[] }, { accessFlags := 24, nameIndex := 60, descriptorIndex := 18, attributes := #[] }, { accessFlags := 2, nameIndex := 13, descriptorIndex := 14, attributes := #[] }, { accessFlags := 2, nameIndex := 17, descriptorIndex := 18, attributes := #[] }, { accessFlags := 2, nameIndex := 30, descriptorIndex := 31, attributes := #[] }])
  fields := #[{ name := "BLOCK_BITS", type := .int, accessFlags := 26, slot := 0, constantValue := 0 }, { name := "OFFSET_MASK", type := .int, accessFlags := 26, slot := 1, constantValue := 0 }, { name := "FIRST_CAPACITY", type := .int, accessFlags := 24, slot := 2, constantValue := 0 }, { name := "FIRST_CAPACITY_BEFORE", type := .int, accessFlags := 26, slot := 3, constantValue := 0 }, { name := "MAX_SIZE", type := .int, accessFlags := 24, slot := 4, constantValue := 0 }, { name := "blocks", type := (.array (.array .int)), accessFlags := 2, slot := 2, constantValue := 0 }, { name := "size", type := .int, accessFlags := 2, slot := 3, constantValue := 0 }, { name := "before", type := (.object "com/example/xml_document_query/xmldocumentquery/tree/IntColumn"), accessFlags := 2, slot := 4, constantValue := 0 }]
  methods := #[k3m0, k3m1, k3m2, k3m3, k3m4, k3m5]
  instanceTypes := #[.int, .int, (.array (.array .int)), .int, (.object "com/example/xml_document_query/xmldocumentquery/tree/IntColumn")]
  staticTypes := #[.int, .int, .int, .int, .int]
  resolved := Array.replicate 80 none
  statics := none }

def pool4 : Array CpInfo := pool [(1, .class_ 2), (0, u "java/lang/Math"), (1, .class_ 6), (1, u "java/lang/Object"), (0, u "<init>"), (0, u "()V"), (89, .class_ 100), (1, u "java/lang/Math$RandomNumberGeneratorHolder"), (71, u "negativeZeroFloatBits"), (0, u "J"), (2, u "negativeZeroDoubleBits"), (24, u "min"), (43, u "$assertionsDisabled"), (0, u "Z"), (88, u "(II)I"), (2, u "twoToTheDoubleScaleDown"), (0, u "D"), (4, u "twoToTheDoubleScaleUp"), (9, u "E"), (3, u "PI"), (2, u "TAU"), (2, u "DEGREES_TO_RADIANS"), (0, u "RADIANS_TO_DEGREES")] 94

def k4m0 : Method := { name := "<init>", desc := "()V", sig := { parameters := [], returnType := none }, accessFlags := 2, code := none }
def k4c1 : Code := { maxStack := 2, maxLocals := 2, code := jdk_29_method_69_code, exceptionTable := #[], attributes := #[] }
def k4m1 : Method := { name := "min", desc := "(II)I", sig := { parameters := [.int, .int], returnType := some .int }, accessFlags := 9, code := some k4c1 }
/-- java/lang/Math -/
def k4 : Class := { plain "java/lang/Math" (some 0) with
  accessFlags := 49
  interfaces := #[]
  cf := some (fileOf pool4 1 #[.nestMembers #[98]] #[{ accessFlags := 2, nameIndex := 7, descriptorIndex := 8, attributes := #[] }, { accessFlags := 9, nameIndex := 201, descriptorIndex := 335, attributes := #[] }] 49 4 #[] #[{ accessFlags := 25, nameIndex := 354, descriptorIndex := 339, attributes := #[] }, { accessFlags := 25, nameIndex := 358, descriptorIndex := 339, attributes := #[] }, { accessFlags := 25, nameIndex := 361, descriptorIndex := 339, attributes := #[] }, { accessFlags := 26, nameIndex := 364, descriptorIndex := 339, attributes := #[] }, { accessFlags := 26, nameIndex := 365, descriptorIndex := 339, attributes := #[] }, { accessFlags := 26, nameIndex := 172, descriptorIndex := 173, attributes := #[] }, { accessFlags := 26, nameIndex := 176, descriptorIndex := 173, attributes := #[] }, { accessFlags := 8, nameIndex := 344, descriptorIndex := 339, attributes := #[] }, { accessFlags := 8, nameIndex := 338, descriptorIndex := 339, attributes := #[] }, { accessFlags := 4120, nameIndex := 245, descriptorIndex := 246, attributes := #[] }])
  fields := #[{ name := "E", type := .double, accessFlags := 25, slot := 0, constantValue := 0 }, { name := "PI", type := .double, accessFlags := 25, slot := 1, constantValue := 0 }, { name := "TAU", type := .double, accessFlags := 25, slot := 2, constantValue := 0 }, { name := "DEGREES_TO_RADIANS", type := .double, accessFlags := 26, slot := 3, constantValue := 0 }, { name := "RADIANS_TO_DEGREES", type := .double, accessFlags := 26, slot := 4, constantValue := 0 }, { name := "negativeZeroFloatBits", type := .long, accessFlags := 26, slot := 5, constantValue := 0 }, { name := "negativeZeroDoubleBits", type := .long, accessFlags := 26, slot := 6, constantValue := 0 }, { name := "twoToTheDoubleScaleUp", type := .double, accessFlags := 8, slot := 7, constantValue := 0 }, { name := "twoToTheDoubleScaleDown", type := .double, accessFlags := 8, slot := 8, constantValue := 0 }, { name := "$assertionsDisabled", type := .boolean, accessFlags := 4120, slot := 9, constantValue := 0 }]
  methods := #[k4m0, k4m1]
  instanceTypes := #[]
  staticTypes := #[.double, .double, .double, .double, .double, .long, .long, .double, .double, .boolean]
  resolved := Array.replicate 460 none
  statics := none }

def pool5 : Array CpInfo := pool [(2, .class_ 4), (1, u "java/lang/Object"), (0, u "<init>"), (0, u "()V"), (7, .class_ 16), (1, u "java/util/Arrays"), (57, .class_ 76), (1, u "java/util/Arrays$NaturalOrder"), (36, .class_ 115), (1, u "java/util/Arrays$LegacyMergeSort"), (1, u "Z"), (32, .methodref 151 152), (0, .class_ 153), (0, .nameAndType 154 155), (0, u "java/lang/System"), (0, u "arraycopy"), (0, u "(Ljava/lang/Object;ILjava/lang/Object;II)V"), (146, u "copyOf"), (1, .methodref 305 306), (0, .class_ 307), (0, .nameAndType 308 309), (0, u "java/lang/Math"), (0, u "min"), (0, u "(II)I"), (65, .class_ 376), (0, u "java/util/Arrays$ArrayList"), (68, u "$assertionsDisabled"), (269, u "MIN_ARRAY_SORT_GRAN"), (0, u "I"), (2, u "INSERTIONSORT_THRESHOLD"), (151, u "([II)[I"), (103, .class_ 976), (0, u "java/util/Arrays$ArrayItr")] 52

def k5m0 : Method := { name := "<init>", desc := "()V", sig := { parameters := [], returnType := none }, accessFlags := 2, code := none }
def k5c1 : Code := { maxStack := 6, maxLocals := 3, code := jdk_65_method_123_code, exceptionTable := #[], attributes := #[] }
def k5m1 : Method := { name := "copyOf", desc := "([II)[I", sig := { parameters := [(.array .int), .int], returnType := some (.array .int) }, accessFlags := 9, code := some k5c1 }
/-- java/util/Arrays -/
def k5 : Class := { plain "java/util/Arrays" (some 0) with
  accessFlags := 49
  interfaces := #[]
  cf := some (fileOf pool5 14 #[.nestMembers #[975, 375, 113, 74]] #[{ accessFlags := 2, nameIndex := 5, descriptorIndex := 6, attributes := #[] }, { accessFlags := 9, nameIndex := 302, descriptorIndex := 871, attributes := #[] }] 49 2 #[] #[{ accessFlags := 26, nameIndex := 715, descriptorIndex := 716, attributes := #[] }, { accessFlags := 26, nameIndex := 719, descriptorIndex := 716, attributes := #[] }, { accessFlags := 4120, nameIndex := 445, descriptorIndex := 117, attributes := #[] }])
  fields := #[{ name := "MIN_ARRAY_SORT_GRAN", type := .int, accessFlags := 26, slot := 0, constantValue := 0 }, { name := "INSERTIONSORT_THRESHOLD", type := .int, accessFlags := 26, slot := 1, constantValue := 0 }, { name := "$assertionsDisabled", type := .boolean, accessFlags := 4120, slot := 2, constantValue := 0 }]
  methods := #[k5m0, k5m1]
  instanceTypes := #[]
  staticTypes := #[.int, .int, .boolean]
  resolved := Array.replicate 1029 none
  statics := none }

def pool6 : Array CpInfo := pool [(2, .class_ 4), (1, u "java/lang/Object"), (0, u "<init>"), (0, u "()V"), (1, .class_ 10), (1, u "java/lang/System"), (0, u "allowSecurityManager"), (0, u "I"), (16, u "cons"), (0, u "Ljava/io/Console;"), (77, .class_ 110), (1, u "java/lang/System$CallersHolder"), (43, u "initialErrStream"), (0, u "Ljava/io/PrintStream;"), (19, u "security"), (0, u "Ljava/lang/SecurityManager;"), (31, .class_ 209), (0, u "java/lang/System$1"), (7, u "props"), (0, u "Ljava/util/Properties;"), (2, u "lineSeparator"), (0, u "Ljava/lang/String;"), (96, .class_ 321), (1, u "java/lang/System$LoggerFinder"), (5, .class_ 328), (0, u "java/lang/System$Logger"), (67, u "err"), (2, u "out"), (91, u "notSupportedJnuEncoding"), (15, u "in"), (17, u "initialIn"), (0, u "Ljava/io/InputStream;"), (35, u "bootLayer"), (0, u "Ljava/lang/ModuleLayer;"), (99, .class_ 664), (0, u "java/lang/System$2"), (9, u "NEVER"), (2, u "MAYBE"), (49, u "arraycopy"), (0, u "(Ljava/lang/Object;ILjava/lang/Object;II)V"), (72, .class_ 802), (0, u "java/lang/System$Logger$Level")] 31

def k6m0 : Method := { name := "<init>", desc := "()V", sig := { parameters := [], returnType := none }, accessFlags := 2, code := none }
def k6m1 : Method := { name := "arraycopy", desc := "(Ljava/lang/Object;ILjava/lang/Object;II)V", sig := { parameters := [(.object "java/lang/Object"), .int, (.object "java/lang/Object"), .int, .int], returnType := none }, accessFlags := 265, code := none }
/-- java/lang/System -/
def k6 : Class := { plain "java/lang/System" (some 0) with
  accessFlags := 49
  interfaces := #[]
  cf := some (fileOf pool6 8 #[.nestMembers #[319, 327, 801, 108, 663, 208]] #[{ accessFlags := 2, nameIndex := 5, descriptorIndex := 6, attributes := #[] }, { accessFlags := 265, nameIndex := 727, descriptorIndex := 728, attributes := #[] }] 49 2 #[] #[{ accessFlags := 25, nameIndex := 507, descriptorIndex := 526, attributes := #[] }, { accessFlags := 25, nameIndex := 399, descriptorIndex := 155, attributes := #[] }, { accessFlags := 25, nameIndex := 396, descriptorIndex := 155, attributes := #[] }, { accessFlags := 10, nameIndex := 525, descriptorIndex := 526, attributes := #[] }, { accessFlags := 26, nameIndex := 674, descriptorIndex := 12, attributes := #[] }, { accessFlags := 26, nameIndex := 677, descriptorIndex := 12, attributes := #[] }, { accessFlags := 10, nameIndex := 11, descriptorIndex := 12, attributes := #[] }, { accessFlags := 74, nameIndex := 175, descriptorIndex := 176, attributes := #[] }, { accessFlags := 10, nameIndex := 491, descriptorIndex := 222, attributes := #[] }, { accessFlags := 74, nameIndex := 29, descriptorIndex := 30, attributes := #[] }, { accessFlags := 74, nameIndex := 154, descriptorIndex := 155, attributes := #[] }, { accessFlags := 10, nameIndex := 217, descriptorIndex := 218, attributes := #[] }, { accessFlags := 10, nameIndex := 221, descriptorIndex := 222, attributes := #[] }, { accessFlags := 8, nameIndex := 562, descriptorIndex := 563, attributes := #[] }])
  fields := #[{ name := "in", type := (.object "java/io/InputStream"), accessFlags := 25, slot := 0, constantValue := 0 }, { name := "out", type := (.object "java/io/PrintStream"), accessFlags := 25, slot := 1, constantValue := 0 }, { name := "err", type := (.object "java/io/PrintStream"), accessFlags := 25, slot := 2, constantValue := 0 }, { name := "initialIn", type := (.object "java/io/InputStream"), accessFlags := 10, slot := 3, constantValue := 0 }, { name := "NEVER", type := .int, accessFlags := 26, slot := 4, constantValue := 0 }, { name := "MAYBE", type := .int, accessFlags := 26, slot := 5, constantValue := 0 }, { name := "allowSecurityManager", type := .int, accessFlags := 10, slot := 6, constantValue := 0 }, { name := "security", type := (.object "java/lang/SecurityManager"), accessFlags := 74, slot := 7, constantValue := 0 }, { name := "notSupportedJnuEncoding", type := (.object "java/lang/String"), accessFlags := 10, slot := 8, constantValue := 0 }, { name := "cons", type := (.object "java/io/Console"), accessFlags := 74, slot := 9, constantValue := 0 }, { name := "initialErrStream", type := (.object "java/io/PrintStream"), accessFlags := 74, slot := 10, constantValue := 0 }, { name := "props", type := (.object "java/util/Properties"), accessFlags := 10, slot := 11, constantValue := 0 }, { name := "lineSeparator", type := (.object "java/lang/String"), accessFlags := 10, slot := 12, constantValue := 0 }, { name := "bootLayer", type := (.object "java/lang/ModuleLayer"), accessFlags := 8, slot := 13, constantValue := 0 }]
  methods := #[k6m0, k6m1]
  instanceTypes := #[]
  staticTypes := #[(.object "java/io/InputStream"), (.object "java/io/PrintStream"), (.object "java/io/PrintStream"), (.object "java/io/InputStream"), .int, .int, .int, (.object "java/lang/SecurityManager"), (.object "java/lang/String"), (.object "java/io/Console"), (.object "java/io/PrintStream"), (.object "java/util/Properties"), (.object "java/lang/String"), (.object "java/lang/ModuleLayer")]
  resolved := Array.replicate 834 none
  statics := none }

def pool7 : Array CpInfo := pool [(1, u "java/lang/Cloneable"), (0, .class_ 1), (0, u "java/lang/Object"), (0, .class_ 3)] 3

/-- java/lang/Cloneable -/
def k7 : Class := { plain "java/lang/Cloneable" (some 0) with
  accessFlags := 1537
  interfaces := #[]
  cf := some (fileOf pool7 2 #[] #[] 1537 4 #[] #[])
  fields := #[]
  methods := #[]
  instanceTypes := #[]
  staticTypes := #[]
  resolved := Array.replicate 8 none
  statics := none }

def pool8 : Array CpInfo := pool [(1, u "java/io/Serializable"), (0, .class_ 1), (0, u "java/lang/Object"), (0, .class_ 3)] 3

/-- java/io/Serializable -/
def k8 : Class := { plain "java/io/Serializable" (some 0) with
  accessFlags := 1537
  interfaces := #[]
  cf := some (fileOf pool8 2 #[] #[] 1537 4 #[] #[])
  fields := #[]
  methods := #[]
  instanceTypes := #[]
  staticTypes := #[]
  resolved := Array.replicate 8 none
  statics := none }

/-- the primitive byte -/
def k9 : Class := { plain "byte" none with kind := .primitive 'B', accessFlags := 0x411 }
/-- [B -/
def k10 : Class := { plain "[B" (some 0) with kind := .array 9 .byte, interfaces := #[7, 8], accessFlags := 1041 }

/-- the primitive int -/
def k11 : Class := { plain "int" none with kind := .primitive 'I', accessFlags := 0x411 }
/-- [I -/
def k12 : Class := { plain "[I" (some 0) with kind := .array 11 .int, interfaces := #[7, 8], accessFlags := 1041 }

def k13 : Class := { plain "[[I" (some 0) with kind := .array 12 (.array .int), interfaces := #[7, 8], accessFlags := 1041 }
def heap : Heap := #[]
def classes : Array Class := #[k0, k1, k2, k3, k4, k5, k6, k7, k8, k9, k10, k11, k12, k13]
def interned : List (Array UInt16 × Addr) := []
def slotsUsed : Nat := 0
def theMethod : MethodId := ⟨1, 1⟩
def args0 : Array Value := #[.int 5, .int 6, .int 7, .int 8, .int 9, .int 10]
def aboutOver (below : List Frame) : State where
  vm := { classes := classes, interned := interned.toArray }
  heap := heap
  slotsUsed := slotsUsed
  threads := #[{ frames := .invoking theMethod args0 :: below }]
def below0 : List Frame := [.native { method := ⟨0, 0⟩, args := #[] }]
def about1 : State := aboutOver below0
def p0 : Program := .bare "" "" ""
def e0 : Env := launch0.env 0 0 0
theorem w_frames : about1.frames = Frame.invoking theMethod args0 :: below0 := rfl
set_option maxRecDepth 65536 in
theorem w_args : argsFit about1.vm theMethod args0 = true := by decide +kernel
set_option maxRecDepth 65536 in
theorem w_heap : heapFits about1 = true := by decide +kernel
set_option maxRecDepth 65536 in
theorem w_runnable : about1.curStatus? = some .runnable := by decide +kernel
set_option maxRecDepth 65536 in
theorem w_alone : about1.alone = true := by decide +kernel
set_option maxRecDepth 65536 in
theorem w_named : about1.methodNamed? x = some theMethod := by decide +kernel
set_option maxRecDepth 65536 in
theorem w_hears : about1.hears theMethod below0 = true := by decide +kernel
set_option maxRecDepth 65536 in
theorem w_ripe : about1.ripe theMethod args0 below0 = true := by decide +kernel
theorem w_running : about1.status = .running := rfl
set_option maxRecDepth 65536 in
theorem w_room : about1.hasRoom e0.platform room_1 = true :=
  launch0.hasRoom_least _ room_1 (by decide +kernel) (by decide +kernel) (by decide +kernel) (by decide +kernel) (by decide +kernel) (by decide +kernel)
theorem allAtoms_all (ts : List Jvm.Cond) (a : Array Jvm.Value) (st : Jvm.State) : (allAtoms ts).before a st = ts.all (fun c => c.before a st) := by
  induction ts with
  | nil => rfl
  | cons c t ih =>
    show (Jvm.Cond.and c (allAtoms t)).before a st = _
    rw [Jvm.Cond.before_and, ih, List.all_cons]
def words1 : List Jvm.Cond := Jvm.Cond.code x code maxLocals ret :: tables_1
/-- a 'code' word, met by the world's own term for the bytes: nothing is compared byte by byte -/
theorem code_word {y : MethodName} {bytes : ByteArray} {mx : Nat} {rt : Option FieldType} {a : Array Value} {s : State} {m : MethodId} {meth : Method} {c : Code} (h1 : s.methodNamed? y = some m) (h2 : s.vm.method? m = some meth) (h3 : meth.code = some c) (h4 : c.code = bytes)
    (h5 : (c.maxLocals == mx && c.exceptionTable.isEmpty && decide (c.maxStack ≤ mostOperands) && decide (meth.sig.returnType = rt) && !meth.locks && decide (parseMethodDescriptor y.desc = some meth.sig)) = true) : (Jvm.Cond.code y bytes mx rt).before a s = true := by
  simp only [Bool.and_eq_true, beq_iff_eq, Bool.not_eq_true', decide_eq_true_eq] at h5
  obtain ⟨⟨⟨⟨⟨g1, g2⟩, g3⟩, g4⟩, g5⟩, g6⟩ := h5
  simp [Cond.before, Cond.holds, Cond.value, h1, h2, h3, h4, g1, g2, g3, g4, g5, g6]
def isCode : Jvm.Cond → Bool
  | .code _ _ _ _ => true
  | _ => false
theorem all_split {L : List Jvm.Cond} {P : Jvm.Cond → Bool} (h1 : L.all (fun c => isCode c || P c) = true) (h2 : ∀ c ∈ L.filter isCode, P c = true) : L.all P = true := by
  refine List.all_eq_true.mpr fun c hc => ?_
  have h := List.all_eq_true.mp h1 c hc
  rcases Bool.eq_false_or_eq_true (isCode c) with hi | hi
  · exact h2 c (List.mem_filter.mpr ⟨hc, hi⟩)
  · simpa [hi] using h
set_option maxRecDepth 65536 in
theorem w_c0 : (Jvm.Cond.code x code maxLocals ret).before args0 about1 = true := code_word (m := ⟨1, 1⟩) (meth := k1m1) (c := k1c1) (by decide +kernel) rfl rfl rfl (by decide +kernel)
set_option maxRecDepth 65536 in
theorem w_c1 : (Jvm.Cond.code ({ cls := "com/example/xml_document_query/xmldocumentquery/tree/IntColumn", name := "<init>", desc := "(I)V" } : Jvm.MethodName) prog_168_method_1_code (2 : Nat) (Option.none : Option Jvm.ClassFile.FieldType)).before args0 about1 = true := code_word (m := ⟨3, 0⟩) (meth := k3m0) (c := k3c0) (by decide +kernel) rfl rfl rfl (by decide +kernel)
set_option maxRecDepth 65536 in
theorem w_c2 : (Jvm.Cond.code ({ cls := "com/example/xml_document_query/xmldocumentquery/tree/BlockedArray", name := "<init>", desc := "(II)V" } : Jvm.MethodName) prog_165_method_1_code (3 : Nat) (Option.none : Option Jvm.ClassFile.FieldType)).before args0 about1 = true := code_word (m := ⟨2, 0⟩) (meth := k2m0) (c := k2c0) (by decide +kernel) rfl rfl rfl (by decide +kernel)
set_option maxRecDepth 65536 in
theorem w_c3 : (Jvm.Cond.code ({ cls := "java/lang/Object", name := "<init>", desc := "()V" } : Jvm.MethodName) object_method_1_code (1 : Nat) (Option.none : Option Jvm.ClassFile.FieldType)).before args0 about1 = true := code_word (m := ⟨0, 0⟩) (meth := k0m0) (c := k0c0) (by decide +kernel) rfl rfl rfl (by decide +kernel)
set_option maxRecDepth 65536 in
theorem w_c4 : (Jvm.Cond.code ({ cls := "com/example/xml_document_query/xmldocumentquery/tree/IntColumn", name := "add", desc := "(I)V" } : Jvm.MethodName) prog_168_method_2_code (2 : Nat) (Option.none : Option Jvm.ClassFile.FieldType)).before args0 about1 = true := code_word (m := ⟨3, 1⟩) (meth := k3m1) (c := k3c1) (by decide +kernel) rfl rfl rfl (by decide +kernel)
set_option maxRecDepth 65536 in
theorem w_c5 : (Jvm.Cond.code ({ cls := "com/example/xml_document_query/xmldocumentquery/tree/BlockedArray", name := "capacity", desc := "()I" } : Jvm.MethodName) prog_165_method_3_code (1 : Nat) (Option.some Jvm.ClassFile.FieldType.int)).before args0 about1 = true := code_word (m := ⟨2, 1⟩) (meth := k2m1) (c := k2c1) (by decide +kernel) rfl rfl rfl (by decide +kernel)
set_option maxRecDepth 65536 in
theorem w_c6 : (Jvm.Cond.code ({ cls := "com/example/xml_document_query/xmldocumentquery/tree/BlockedArray", name := "grow", desc := "()V" } : Jvm.MethodName) prog_165_method_4_code (2 : Nat) (Option.none : Option Jvm.ClassFile.FieldType)).before args0 about1 = true := code_word (m := ⟨2, 2⟩) (meth := k2m2) (c := k2c2) (by decide +kernel) rfl rfl rfl (by decide +kernel)
set_option maxRecDepth 65536 in
theorem w_c7 : (Jvm.Cond.code ({ cls := "java/lang/Math", name := "min", desc := "(II)I" } : Jvm.MethodName) jdk_29_method_69_code (2 : Nat) (Option.some Jvm.ClassFile.FieldType.int)).before args0 about1 = true := code_word (m := ⟨4, 1⟩) (meth := k4m1) (c := k4c1) (by decide +kernel) rfl rfl rfl (by decide +kernel)
set_option maxRecDepth 65536 in
theorem w_c8 : (Jvm.Cond.code ({ cls := "com/example/xml_document_query/xmldocumentquery/tree/IntColumn", name := "resizeFirstBlock", desc := "(I)V" } : Jvm.MethodName) prog_168_method_8_code (2 : Nat) (Option.none : Option Jvm.ClassFile.FieldType)).before args0 about1 = true := code_word (m := ⟨3, 5⟩) (meth := k3m5) (c := k3c5) (by decide +kernel) rfl rfl rfl (by decide +kernel)
set_option maxRecDepth 65536 in
theorem w_c9 : (Jvm.Cond.code ({ cls := "java/util/Arrays", name := "copyOf", desc := "([II)[I" } : Jvm.MethodName) jdk_65_method_123_code (3 : Nat) (Option.some (Jvm.ClassFile.FieldType.array Jvm.ClassFile.FieldType.int))).before args0 about1 = true := code_word (m := ⟨5, 1⟩) (meth := k5m1) (c := k5c1) (by decide +kernel) rfl rfl rfl (by decide +kernel)
set_option maxRecDepth 65536 in
theorem w_c10 : (Jvm.Cond.code ({ cls := "com/example/xml_document_query/xmldocumentquery/tree/IntColumn", name := "addFirst", desc := "(I)V" } : Jvm.MethodName) prog_168_method_3_code (2 : Nat) (Option.none : Option Jvm.ClassFile.FieldType)).before args0 about1 = true := code_word (m := ⟨3, 2⟩) (meth := k3m2) (c := k3c2) (by decide +kernel) rfl rfl rfl (by decide +kernel)
set_option maxRecDepth 65536 in
theorem w_c11 : (Jvm.Cond.code ({ cls := "com/example/xml_document_query/xmldocumentquery/tree/IntColumn", name := "set", desc := "(II)V" } : Jvm.MethodName) prog_168_method_5_code (3 : Nat) (Option.none : Option Jvm.ClassFile.FieldType)).before args0 about1 = true := code_word (m := ⟨3, 4⟩) (meth := k3m4) (c := k3c4) (by decide +kernel) rfl rfl rfl (by decide +kernel)
set_option maxRecDepth 65536 in
theorem w_c12 : (Jvm.Cond.code ({ cls := "com/example/xml_document_query/xmldocumentquery/tree/IntColumn", name := "get", desc := "(I)I" } : Jvm.MethodName) prog_168_method_4_code (2 : Nat) (Option.some Jvm.ClassFile.FieldType.int)).before args0 about1 = true := code_word (m := ⟨3, 3⟩) (meth := k3m3) (c := k3c3) (by decide +kernel) rfl rfl rfl (by decide +kernel)
def codes1 : List Jvm.Cond := [Jvm.Cond.code x code maxLocals ret, Jvm.Cond.code ({ cls := "com/example/xml_document_query/xmldocumentquery/tree/IntColumn", name := "<init>", desc := "(I)V" } : Jvm.MethodName) prog_168_method_1_code (2 : Nat) (Option.none : Option Jvm.ClassFile.FieldType), Jvm.Cond.code ({ cls := "com/example/xml_document_query/xmldocumentquery/tree/BlockedArray", name := "<init>", desc := "(II)V" } : Jvm.MethodName) prog_165_method_1_code (3 : Nat) (Option.none : Option Jvm.ClassFile.FieldType), Jvm.Cond.code ({ cls := "java/lang/Object", name := "<init>", desc := "()V" } : Jvm.MethodName) object_method_1_code (1 : Nat) (Option.none : Option Jvm.ClassFile.FieldType), Jvm.Cond.code ({ cls := "com/example/xml_document_query/xmldocumentquery/tree/IntColumn", name := "add", desc := "(I)V" } : Jvm.MethodName) prog_168_method_2_code (2 : Nat) (Option.none : Option Jvm.ClassFile.FieldType), Jvm.Cond.code ({ cls := "com/example/xml_document_query/xmldocumentquery/tree/BlockedArray", name := "capacity", desc := "()I" } : Jvm.MethodName) prog_165_method_3_code (1 : Nat) (Option.some Jvm.ClassFile.FieldType.int), Jvm.Cond.code ({ cls := "com/example/xml_document_query/xmldocumentquery/tree/BlockedArray", name := "grow", desc := "()V" } : Jvm.MethodName) prog_165_method_4_code (2 : Nat) (Option.none : Option Jvm.ClassFile.FieldType), Jvm.Cond.code ({ cls := "java/lang/Math", name := "min", desc := "(II)I" } : Jvm.MethodName) jdk_29_method_69_code (2 : Nat) (Option.some Jvm.ClassFile.FieldType.int), Jvm.Cond.code ({ cls := "com/example/xml_document_query/xmldocumentquery/tree/IntColumn", name := "resizeFirstBlock", desc := "(I)V" } : Jvm.MethodName) prog_168_method_8_code (2 : Nat) (Option.none : Option Jvm.ClassFile.FieldType), Jvm.Cond.code ({ cls := "java/util/Arrays", name := "copyOf", desc := "([II)[I" } : Jvm.MethodName) jdk_65_method_123_code (3 : Nat) (Option.some (Jvm.ClassFile.FieldType.array Jvm.ClassFile.FieldType.int)), Jvm.Cond.code ({ cls := "com/example/xml_document_query/xmldocumentquery/tree/IntColumn", name := "addFirst", desc := "(I)V" } : Jvm.MethodName) prog_168_method_3_code (2 : Nat) (Option.none : Option Jvm.ClassFile.FieldType), Jvm.Cond.code ({ cls := "com/example/xml_document_query/xmldocumentquery/tree/IntColumn", name := "set", desc := "(II)V" } : Jvm.MethodName) prog_168_method_5_code (3 : Nat) (Option.none : Option Jvm.ClassFile.FieldType), Jvm.Cond.code ({ cls := "com/example/xml_document_query/xmldocumentquery/tree/IntColumn", name := "get", desc := "(I)I" } : Jvm.MethodName) prog_168_method_4_code (2 : Nat) (Option.some Jvm.ClassFile.FieldType.int)]
set_option maxRecDepth 65536 in
theorem codes_eq : words1.filter isCode = codes1 := rfl
theorem w_codes : ∀ c ∈ words1.filter isCode, c.before args0 about1 = true := by
  rw [codes_eq]
  intro c hc
  simp only [codes1, List.mem_cons, List.not_mem_nil, or_false] at hc
  rcases hc with rfl | rfl | rfl | rfl | rfl | rfl | rfl | rfl | rfl | rfl | rfl | rfl | rfl
  · exact w_c0
  · exact w_c1
  · exact w_c2
  · exact w_c3
  · exact w_c4
  · exact w_c5
  · exact w_c6
  · exact w_c7
  · exact w_c8
  · exact w_c9
  · exact w_c10
  · exact w_c11
  · exact w_c12
set_option maxRecDepth 65536 in
theorem w_t1 : (words1.take 24).all (fun c => isCode c || c.before args0 about1) = true := by decide +kernel
set_option maxRecDepth 65536 in
theorem w_t2 : ((words1.drop 24).take 24).all (fun c => isCode c || c.before args0 about1) = true := by decide +kernel
set_option maxRecDepth 65536 in
theorem w_t3 : (((words1.drop 24).drop 24).take 24).all (fun c => isCode c || c.before args0 about1) = true := by decide +kernel
set_option maxRecDepth 65536 in
theorem w_t4 : (((words1.drop 24).drop 24).drop 24).all (fun c => isCode c || c.before args0 about1) = true := by decide +kernel
theorem w_tables : (allAtoms (Jvm.Cond.code x code maxLocals ret :: tables_1)).before args0 about1 = true := by
  rw [allAtoms_all]
  show words1.all (fun c => c.before args0 about1) = true
  refine all_split ?_ w_codes
  rw [← List.take_append_drop 24 words1, List.all_append, w_t1, ← List.take_append_drop 24 (words1.drop 24), List.all_append, w_t2, ← List.take_append_drop 24 ((words1.drop 24).drop 24), List.all_append, w_t3, w_t4]
  rfl
set_option maxRecDepth 65536 in
theorem w_case : (Jvm.Cond.and given_1 narrow_1).before args0 about1 = true := by decide +kernel
theorem w_applies : (headSpec (Jvm.Cond.code x code maxLocals ret :: tables_1) room_1).applies x e0.platform about1 = true :=
  (Spec.applies_iff w_frames).mpr ⟨w_running, w_runnable, w_alone, w_named, w_hears, w_ripe, w_room, w_tables⟩
theorem atStart : AtStart classFile x code maxLocals ret World_1 tables_1 room_1 Calls_1 rest_1 Pre_1 launch0 p0 e0 about1 theMethod args0 below0 :=
  ⟨lists_1, trivial, launch0.admits_env _ _ _, launch0.least_env, fairChoices_fair.cas, fairChoices_fair.clock, w_frames, w_args, w_heap, w_applies, trivial, trivial, w_case⟩
end start1
theorem witness_1 : WitnessClaimed_1 := ⟨start1.p0, start1.e0, start1.about1, start1.theMethod, start1.args0, start1.below0, start1.atStart⟩
end Jvm.Pilot.@@N@@
