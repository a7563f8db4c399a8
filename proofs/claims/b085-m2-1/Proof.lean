import JvmDerived
import JvmDerived.Pilot.@@N@@Statement
import JvmDerived.Pilot.@@N@@Code
set_option linter.unusedVariables false
set_option linter.unusedSimpArgs false
namespace Jvm.RoadKit
open Sem ClassFile Op Lib Jvm.Stand Jvm.Free Jvm.LawKit
section Own
variable {p : Program} {l : Launch} {e : Env} {R : Room} {s : State} {m : MethodId} {args : Array Value} {below : List Frame} {meth : Method} {c : Code} {T A B : State} {locs : List Loc} {cells slots K N : Nat} {Q : Option Value → Heap → List Loc → Prop}
/-- from A the walk comes to its end, and Q holds there -/
def OutW (p : Program) (e : Env) (below : List Frame) (s : State) (K N : Nat) (Q : Option Value → Heap → List Loc → Prop) (A : State) : Prop :=
  ∃ s₂ o, Steps p.tables e below A s₂ ∧ s₂.status = .running ∧ Ended s₂ below o ∧ ∃ v L, o = .returned v ∧ Q v s₂.heap L ∧ FrameEnd s o s₂ L K N
/-- a body that writes nothing: what it returns -/
def Qpure (h0 : Heap) (n0 : Nat) (r : Value) (v : Option Value) (h : Heap) (L : List Loc) : Prop := v = some r ∧ Fr n0 L ∧ h = h0
theorem OutW.back (h : ∀ t, Steps p.tables e below B t → Steps p.tables e below A t) (k : OutW p e below s K N Q B) : OutW p e below s K N Q A := by
  obtain ⟨t, o, h1, h2⟩ := k
  exact ⟨t, o, h t h1, h2⟩
theorem OutW.via (h : Steps p.tables e below A B) (k : OutW p e below s K N Q B) : OutW p e below s K N Q A := by
  obtain ⟨t, o, h1, h2⟩ := k
  exact ⟨t, o, h.trans h1, h2⟩
theorem OutW.retV (X : Stand p l e R s m args below meth c T locs cells slots) (hx : p.tables.exec = Jvm.exec) {pc : Nat} {Ls : Array Slot} (hret : meth.sig.returnType = none) (hlk : meth.locks = false) (hd : decode c.code pc = .ok (.return_, 1))
    (hK : cells ≤ K) (hN : slots ≤ N) (hq : Q none T.heap locs) : OutW p e below s K N Q (T.setTop (mkF m pc Ls [])) := by
  obtain ⟨fs, hr, hrun, hended, hW, hsame⟩ := X.leave (v := none) (fun _ => rfl) hlk
  exact ⟨_, _, X.returnOut hx hret hd hr, hrun, hended, _, _, rfl, hq, ⟨_, rfl⟩, hW, hsame.mono hK hN⟩
theorem OutW.retI (X : Stand p l e R s m args below meth c T locs cells slots) (hx : p.tables.exec = Jvm.exec) {pc : Nat} {Ls : Array Slot} {z : Int32} {rest : List Value} (hret : meth.sig.returnType = some .int) (hlk : meth.locks = false) (hd : decode c.code pc = .ok (.ireturn, 1))
    (hK : cells ≤ K) (hN : slots ≤ N) (hq : Q (some (.int z)) T.heap locs) : OutW p e below s K N Q (T.setTop (mkF m pc Ls (.int z :: rest))) := by
  obtain ⟨fs, hr, hrun, hended, hW, hsame⟩ := X.leave (v := some (.int z)) (fun h => by rw [hret] at h; cases h) hlk
  exact ⟨_, _, retOut X hx hret rfl (Or.inl ⟨rfl, Or.inl rfl, z, rfl⟩) hd hr, hrun, hended, _, _, rfl, hq, ⟨_, rfl⟩, hW, hsame.mono hK hN⟩
theorem OutW.retJ (X : Stand p l e R s m args below meth c T locs cells slots) (hx : p.tables.exec = Jvm.exec) {pc : Nat} {Ls : Array Slot} {z : Int64} {rest : List Value} (hret : meth.sig.returnType = some .long) (hlk : meth.locks = false) (hd : decode c.code pc = .ok (.lreturn, 1))
    (hK : cells ≤ K) (hN : slots ≤ N) (hq : Q (some (.long z)) T.heap locs) : OutW p e below s K N Q (T.setTop (mkF m pc Ls (.long z :: rest))) := by
  obtain ⟨fs, hr, hrun, hended, hW, hsame⟩ := X.leave (v := some (.long z)) (fun h => by rw [hret] at h; cases h) hlk
  exact ⟨_, _, retOut X hx hret rfl (Or.inr (Or.inl ⟨rfl, rfl, z, rfl⟩)) hd hr, hrun, hended, _, _, rfl, hq, ⟨_, rfl⟩, hW, hsame.mono hK hN⟩
theorem nar_ref {t : FieldType} {v : Value} (h : v.isRef = true) : narrow t v = v := by
  rcases ref_cases h with rfl | ⟨a, rfl⟩ <;> cases t <;> rfl
theorem cat_ref {v : Value} (h : v.isRef = true) : v.category = 1 := by
  rcases ref_cases h with rfl | ⟨a, rfl⟩ <;> rfl
theorem fit_ref {t : FieldType} {v : Value} (ht : refKind t = true) (h : v.isRef = true) : fits t v = true := by
  rcases ref_cases h with rfl | ⟨a, rfl⟩ <;> cases t <;> first | rfl | (simp [refKind] at ht)
theorem OutW.retA (X : Stand p l e R s m args below meth c T locs cells slots) (hx : p.tables.exec = Jvm.exec) {pc : Nat} {Ls : Array Slot} {w : Value} {t : FieldType} {rest : List Value} (hret : meth.sig.returnType = some t) (ht : t.isReference = true) (hw : w.isRef = true) (hlk : meth.locks = false) (hd : decode c.code pc = .ok (.areturn, 1))
    (hK : cells ≤ K) (hN : slots ≤ N) (hq : Q (some w) T.heap locs) : OutW p e below s K N Q (T.setTop (mkF m pc Ls (w :: rest))) := by
  obtain ⟨fs, hr, hrun, hended, hW, hsame⟩ := X.leave (v := some w) (fun h => by rw [hret] at h; cases h) hlk
  exact ⟨_, _, retOut X hx hret (nar_ref hw) (Or.inr (Or.inr (Or.inr (Or.inr ⟨rfl, ht, hw⟩)))) hd hr, hrun, hended, _, _, rfl, hq, ⟨_, rfl⟩, hW, hsame.mono hK hN⟩
theorem OutW.retN (X : Stand p l e R s m args below meth c T locs cells slots) (hx : p.tables.exec = Jvm.exec) {pc : Nat} {Ls : Array Slot} {z z' : Int32} {t : FieldType} {rest : List Value} (hret : meth.sig.returnType = some t) (ht : t = .boolean ∨ t = .byte ∨ t = .char ∨ t = .short) (hlk : meth.locks = false) (hd : decode c.code pc = .ok (.ireturn, 1)) (hz : nar t z = z')
    (hK : cells ≤ K) (hN : slots ≤ N) (hq : Q (some (.int z')) T.heap locs) : OutW p e below s K N Q (T.setTop (mkF m pc Ls (.int z :: rest))) := by
  subst hz
  obtain ⟨fs, hr, hrun, hended, hW, hsame⟩ := X.leave (v := some (.int (nar t z))) (fun h => by rw [hret] at h; cases h) hlk
  exact ⟨_, _, Jvm.RoadKit.retN X hx hret ht hd hr, hrun, hended, _, _, rfl, hq, ⟨_, rfl⟩, hW, hsame.mono hK hN⟩
theorem store1' {L L' : Array Slot} {i : Nat} {v : Value} {o : Slot} (hold : L[i]? = some o) (ho : One o) (hv : v.category = 1) (h : L.setIfInBounds i (.val v) = L') : storeLocals L i v = some L' := h ▸ XS.store1 hold ho hv
theorem own_lt_mono {x a b : Int32} (h : x < a) (q : a ≤ b) : x < b := by
  rw [Int32.lt_iff_toInt_lt] at *
  rw [Int32.le_iff_toInt_le] at q
  omega
theorem own_nlt_mono {x a b : Int32} (h : ¬ x < a) (q : b ≤ a) : ¬ x < b := by
  rw [Int32.lt_iff_toInt_lt] at *
  rw [Int32.le_iff_toInt_le] at q
  omega
/-- every element of the array's cell is an object of exactly that class -/
def Els (Z : State) (h : Heap) (cl : Cell) (C : String) : Prop := ∀ j : Int32, ¬ (j < 0 ∨ cl.slots.size ≤ j.toNatClampNeg) → ∃ y : Addr, cl.slots[j.toNatClampNeg]? = some (.ref y) ∧ Exa Z h y C
theorem own_Uext {Z : State} {h h' : Heap} {cl : Cell} {C : String} (U : Els Z h cl C) (E : Ext h h') : Els Z h' cl C := fun j hj => by
  obtain ⟨y, a, b⟩ := U j hj
  exact ⟨y, a, b.ext E⟩
theorem own_Uwr {Z : State} {h h' : Heap} {cl : Cell} {C : String} {a : Addr} {sl : Nat} {v : Value} (U : Els Z h cl C) (W : Wr h h' a sl v) : Els Z h' cl C := fun j hj => by
  obtain ⟨y, q, b⟩ := U j hj
  exact ⟨y, q, b.wr W⟩
theorem own_Ukeep {Z : State} {h h' : Heap} {cl : Cell} {C : String} {ws : List Addr} (U : Els Z h cl C) (K : Keep h h' ws) : Els Z h' cl C := fun j hj => by
  obtain ⟨y, a, b⟩ := U j hj
  exact ⟨y, a, b.keep K⟩
theorem own_Akeep {Z : State} {h h' : Heap} {a : Addr} {c : Cell} {ty : FieldType} {ws : List Addr} (A : Arr Z h a c ty) (K : Keep h h' ws) (q : a ∉ ws) : Arr Z h' a c ty := ⟨K.2.1 a c A.1 q, A.2⟩
theorem own_keepS {Z : State} {h h' : Heap} {C n d : String} {v : Value} {ws : List Addr} (F : Sta Z h C n d v) (K : Keep h h' ws) (q : ∀ x ∈ ws, ∃ C', Exa Z h x C') : Sta Z h' C n d v := by
  obtain ⟨cf, i, k, f, st, cell, h1, h2, h3, h4, h5, h6, h7⟩ := F
  have ne : st ∉ ws := fun hm => by
    obtain ⟨C', c', k', e1, -, -, e4, -⟩ := q st hm
    cases h5.symm.trans e1
    rw [h6] at e4; cases e4
  exact ⟨cf, i, k, f, st, cell, h1, h2, h3, h4, K.2.1 _ _ h5 ne, h6, h7⟩
end Own
end Jvm.RoadKit
namespace Jvm.Pilot.@@N@@
open Jvm Jvm.ClassFile Sem Op Lib Jvm.Free Jvm.Stand Jvm.LawKit Jvm.RoadKit Bundle Jvm.Pilot.@@N@@.Jvm.D
theorem d2_0 : decode prog_14_method_1_code 0 = .ok (.aload_n 0, 1) := by decide +kernel
theorem d2_1 : decode prog_14_method_1_code 1 = .ok (.invokespecial 1, 3) := by decide +kernel
theorem d2_4 : decode prog_14_method_1_code 4 = .ok (.aload_n 0, 1) := by decide +kernel
theorem d2_5 : decode prog_14_method_1_code 5 = .ok (.iload_n 1, 1) := by decide +kernel
theorem d2_6 : decode prog_14_method_1_code 6 = .ok (.putfield 7, 3) := by decide +kernel
theorem d2_9 : decode prog_14_method_1_code 9 = .ok (.aload_n 0, 1) := by decide +kernel
theorem d2_10 : decode prog_14_method_1_code 10 = .ok (.iload_n 2, 1) := by decide +kernel
theorem d2_11 : decode prog_14_method_1_code 11 = .ok (.putfield 13, 3) := by decide +kernel
theorem d2_14 : decode prog_14_method_1_code 14 = .ok (.aload_n 0, 1) := by decide +kernel
theorem d2_15 : decode prog_14_method_1_code 15 = .ok (.iload_n 3, 1) := by decide +kernel
theorem d2_16 : decode prog_14_method_1_code 16 = .ok (.putfield 16, 3) := by decide +kernel
theorem d2_19 : decode prog_14_method_1_code 19 = .ok (.aload_n 0, 1) := by decide +kernel
theorem d2_20 : decode prog_14_method_1_code 20 = .ok (.iload 4, 2) := by decide +kernel
theorem d2_22 : decode prog_14_method_1_code 22 = .ok (.putfield 19, 3) := by decide +kernel
theorem d2_25 : decode prog_14_method_1_code 25 = .ok (.return_, 1) := by decide +kernel
theorem pn_2 : plainName "com/example/canopy/canopy/model/Rect" = true := by first | (simp [plainName, overriddenIn]; done) | decide +kernel
theorem ef_2 (m : MethodId) (x0 : Addr) (x1 : Int32) (x2 : Int32) (x3 : Int32) (x4 : Int32) : entryFrame m #[(.ref x0), (.int x1), (.int x2), (.int x3), (.int x4)] 5 = mkF m 0 #[.val (.ref x0), .val (.int x1), .val (.int x2), .val (.int x3), .val (.int x4)] [] := by first | (simp [entryFrame, mkF, argsToLocals, Value.category]; done) | rfl
def Q2 (Z : State) (a1 : Addr) (p2 : Int32) (p3 : Int32) (p4 : Int32) (p5 : Int32)  (h0 : Heap) (n0 : Nat) (v : Option Value) (h : Heap) (L : List Loc) : Prop := v = none ∧ Fr n0 L ∧ Keep h0 h [a1] ∧ Fld Z h a1 "com/example/canopy/canopy/model/Rect" "left" "I" (.int p2) ∧ Fld Z h a1 "com/example/canopy/canopy/model/Rect" "top" "I" (.int p3) ∧ Fld Z h a1 "com/example/canopy/canopy/model/Rect" "right" "I" (.int p4) ∧ Fld Z h a1 "com/example/canopy/canopy/model/Rect" "bottom" "I" (.int p5)
set_option maxRecDepth 65536 in
set_option maxHeartbeats 40000000 in
theorem rm2 (l : Launch) (Z : State) (a0 : Array Value) (hw : ∀ d ∈ tables_1, d.before a0 Z = true) (ws : List Jvm.Cond) (a1 : Addr) (p2 : Int32) (p3 : Int32) (p4 : Int32) (p5 : Int32)  (h0 : Heap) (n0 : Nat) (Z0 : n0 ≤ h0.size) (E_a1 : Exa Z h0 a1 "com/example/canopy/canopy/model/Rect") (g_a1 : n0 ≤ a1) (F_left_a1 : Fld Z h0 a1 "com/example/canopy/canopy/model/Rect" "left" "I" (.int (0 : Int32))) (F_top_a1 : Fld Z h0 a1 "com/example/canopy/canopy/model/Rect" "top" "I" (.int (0 : Int32))) (F_right_a1 : Fld Z h0 a1 "com/example/canopy/canopy/model/Rect" "right" "I" (.int (0 : Int32))) (F_bottom_a1 : Fld Z h0 a1 "com/example/canopy/canopy/model/Rect" "bottom" "I" (.int (0 : Int32))) :
    MetFree l (⟨"com/example/canopy/canopy/model/Rect", "<init>", "(IIII)V"⟩ : MethodName) (head1 (Jvm.Cond.code (⟨"com/example/canopy/canopy/model/Rect", "<init>", "(IIII)V"⟩ : MethodName) prog_14_method_1_code 5 none :: ws) ({ frames := 1, cells := 0, slots := 0, locals := 12 } : Room)) (fun a U => a = #[(.ref a1), (.int p2), (.int p3), (.int p4), (.int p5)] ∧ Z.Warmed39 U.vm ∧ U.heap = h0) (fun _ _ _ _ _ => True) (fun _ U o U' => ∃ v L, o = .returned v ∧ Q2 Z a1 p2 p3 p4 p5 h0 n0 v U'.heap L ∧ FrameEnd U o U' L ({ frames := 1, cells := 0, slots := 0, locals := 12 } : Room).cells ({ frames := 1, cells := 0, slots := 0, locals := 12 } : Room).slots) := by
  refine MetFree.of_bodySF (plainFor_of_name pn_2) hisR ?_
  intro p e s m args below meth c s₁ Bd hml0 hP hK
  obtain ⟨rfl, hZ, hh⟩ := hP
  have hx := Bd.exec
  have hby := Bd.bytes
  have hlk := Bd.notSynchronized
  have hml : c.maxLocals = 5 := hml0
  have hown : s.vm.findClass "com/example/canopy/canopy/model/Rect" = some m.cls := findClass_of_methodNamed Bd.named
  have hnm := (name_of_methodNamed Bd.named Bd.method).1
  have X0 : Stand p l e ({ frames := 1, cells := 0, slots := 0, locals := 12 } : Room) s m #[(.ref a1), (.int p2), (.int p3), (.int p4), (.int p5)] below meth c s₁ [] 0 0 := Stand.of_body Bd
  have e0 : s₁.heap = h0 := by rw [← hh, Bd.state]; rfl
  have N0 := Fr.nil n0
  have K0 : Keep h0 h0 [a1] := Keep.refl h0 _
  show OutW p e below s ({ frames := 1, cells := 0, slots := 0, locals := 12 } : Room).cells ({ frames := 1, cells := 0, slots := 0, locals := 12 } : Room).slots (Q2 Z a1 p2 p3 p4 p5 h0 n0) _
  refine OutW.back (fun t k => castTop (ef_2 m a1 p2 p3 p4 p5) k) ?_
  show OutW _ _ _ _ _ _ _ (s₁.setTop (mkF m 0 #[.val (.ref a1), .val (.int p2), .val (.int p3), .val (.int p4), .val (.int p5)] []))
  refine OutW.back (fun t k => XS.aloadN X0.here hx rfl (hb hby d2_0) rfl rfl  k) ?_
  show OutW _ _ _ _ _ _ _ (s₁.setTop (mkF m 1 #[.val (.ref a1), .val (.int p2), .val (.int p3), .val (.int p4), .val (.int p5)] [(.ref a1)]))
  obtain ⟨T1, X1, e1, st1⟩ := initO X0 hx hZ hown (hw _ (List.mem_of_getElem? (i := 10) rfl)) (hw _ (List.mem_of_getElem? (i := 11) rfl)) (hw _ (List.mem_of_getElem? (i := 12) rfl)) e0 (g := (mkF m 1 #[.val (.ref a1), .val (.int p2), .val (.int p3), .val (.int p4), .val (.int p5)] [(.ref a1)])) rfl (by rw [hml]; rfl) rfl (hb hby d2_1) (by decide) (W := 0) (by show 2 * 0 + _ ≤ _; exact Nat.le_of_eq rfl) (by decide)
  refine OutW.back st1 ?_
  show OutW _ _ _ _ _ _ _ (T1.setTop (mkF m 4 #[.val (.ref a1), .val (.int p2), .val (.int p3), .val (.int p4), .val (.int p5)] []))
  refine OutW.back (fun t k => XS.aloadN X1.here hx rfl (hb hby d2_4) rfl rfl  k) ?_
  show OutW _ _ _ _ _ _ _ (T1.setTop (mkF m 5 #[.val (.ref a1), .val (.int p2), .val (.int p3), .val (.int p4), .val (.int p5)] [(.ref a1)]))
  refine OutW.back (fun t k => XS.iloadN X1.here hx rfl (hb hby d2_5) rfl  k) ?_
  show OutW _ _ _ _ _ _ _ (T1.setTop (mkF m 6 #[.val (.ref a1), .val (.int p2), .val (.int p3), .val (.int p4), .val (.int p5)] [(.int p2), (.ref a1)]))
  obtain ⟨T2, h2, X2, e2, W2, st2⟩ := putF X1 hx hZ hown (host := "") (Or.inl (hw _ (List.mem_of_getElem? (i := 13) rfl))) Via.refl e1 F_left_a1 E_a1 (Or.inr ⟨(hw _ (List.mem_of_getElem? (i := 14) rfl)), rfl, hnm⟩) (hw _ (List.mem_of_getElem? (i := 5) rfl)) (ty := .int) (by decide) rfl rfl (g := (mkF m 6 #[.val (.ref a1), .val (.int p2), .val (.int p3), .val (.int p4), .val (.int p5)] [(.int p2), (.ref a1)])) rfl rfl (hb hby d2_6)
  have E_a1 := E_a1.wr W2
  have F_left_a1 := F_left_a1.same W2
  have F_top_a1 := F_top_a1.other W2 (Or.inr (slot_ne (Or.inr (hw _ (List.mem_of_getElem? (i := 16) rfl))) (Or.inr (hw _ (List.mem_of_getElem? (i := 14) rfl))) (by decide) (t := .int) (t' := .int) (by decide) (by decide)))
  have F_right_a1 := F_right_a1.other W2 (Or.inr (slot_ne (Or.inr (hw _ (List.mem_of_getElem? (i := 18) rfl))) (Or.inr (hw _ (List.mem_of_getElem? (i := 14) rfl))) (by decide) (t := .int) (t' := .int) (by decide) (by decide)))
  have F_bottom_a1 := F_bottom_a1.other W2 (Or.inr (slot_ne (Or.inr (hw _ (List.mem_of_getElem? (i := 20) rfl))) (Or.inr (hw _ (List.mem_of_getElem? (i := 14) rfl))) (by decide) (t := .int) (t' := .int) (by decide) (by decide)))
  have N2 := Fr.snoc X2 N0 g_a1
  have Z2 : n0 ≤ h2.size := Nat.le_trans Z0 (Keep.of_wr W2).1
  have K2 := K0.wr W2 (Or.inl (List.mem_of_getElem? (i := 0) rfl))
  refine OutW.back st2 ?_
  show OutW _ _ _ _ _ _ _ (T2.setTop (mkF m 9 #[.val (.ref a1), .val (.int p2), .val (.int p3), .val (.int p4), .val (.int p5)] []))
  refine OutW.back (fun t k => XS.aloadN X2.here hx rfl (hb hby d2_9) rfl rfl  k) ?_
  show OutW _ _ _ _ _ _ _ (T2.setTop (mkF m 10 #[.val (.ref a1), .val (.int p2), .val (.int p3), .val (.int p4), .val (.int p5)] [(.ref a1)]))
  refine OutW.back (fun t k => XS.iloadN X2.here hx rfl (hb hby d2_10) rfl  k) ?_
  show OutW _ _ _ _ _ _ _ (T2.setTop (mkF m 11 #[.val (.ref a1), .val (.int p2), .val (.int p3), .val (.int p4), .val (.int p5)] [(.int p3), (.ref a1)]))
  obtain ⟨T3, h3, X3, e3, W3, st3⟩ := putF X2 hx hZ hown (host := "") (Or.inl (hw _ (List.mem_of_getElem? (i := 15) rfl))) Via.refl e2 F_top_a1 E_a1 (Or.inr ⟨(hw _ (List.mem_of_getElem? (i := 16) rfl)), rfl, hnm⟩) (hw _ (List.mem_of_getElem? (i := 5) rfl)) (ty := .int) (by decide) rfl rfl (g := (mkF m 11 #[.val (.ref a1), .val (.int p2), .val (.int p3), .val (.int p4), .val (.int p5)] [(.int p3), (.ref a1)])) rfl rfl (hb hby d2_11)
  have E_a1 := E_a1.wr W3
  have F_left_a1 := F_left_a1.other W3 (Or.inr (slot_ne (Or.inr (hw _ (List.mem_of_getElem? (i := 14) rfl))) (Or.inr (hw _ (List.mem_of_getElem? (i := 16) rfl))) (by decide) (t := .int) (t' := .int) (by decide) (by decide)))
  have F_top_a1 := F_top_a1.same W3
  have F_right_a1 := F_right_a1.other W3 (Or.inr (slot_ne (Or.inr (hw _ (List.mem_of_getElem? (i := 18) rfl))) (Or.inr (hw _ (List.mem_of_getElem? (i := 16) rfl))) (by decide) (t := .int) (t' := .int) (by decide) (by decide)))
  have F_bottom_a1 := F_bottom_a1.other W3 (Or.inr (slot_ne (Or.inr (hw _ (List.mem_of_getElem? (i := 20) rfl))) (Or.inr (hw _ (List.mem_of_getElem? (i := 16) rfl))) (by decide) (t := .int) (t' := .int) (by decide) (by decide)))
  have N3 := Fr.snoc X3 N2 g_a1
  have Z3 : n0 ≤ h3.size := Nat.le_trans Z2 (Keep.of_wr W3).1
  have K3 := K2.wr W3 (Or.inl (List.mem_of_getElem? (i := 0) rfl))
  refine OutW.back st3 ?_
  show OutW _ _ _ _ _ _ _ (T3.setTop (mkF m 14 #[.val (.ref a1), .val (.int p2), .val (.int p3), .val (.int p4), .val (.int p5)] []))
  refine OutW.back (fun t k => XS.aloadN X3.here hx rfl (hb hby d2_14) rfl rfl  k) ?_
  show OutW _ _ _ _ _ _ _ (T3.setTop (mkF m 15 #[.val (.ref a1), .val (.int p2), .val (.int p3), .val (.int p4), .val (.int p5)] [(.ref a1)]))
  refine OutW.back (fun t k => XS.iloadN X3.here hx rfl (hb hby d2_15) rfl  k) ?_
  show OutW _ _ _ _ _ _ _ (T3.setTop (mkF m 16 #[.val (.ref a1), .val (.int p2), .val (.int p3), .val (.int p4), .val (.int p5)] [(.int p4), (.ref a1)]))
  obtain ⟨T4, h4, X4, e4, W4, st4⟩ := putF X3 hx hZ hown (host := "") (Or.inl (hw _ (List.mem_of_getElem? (i := 17) rfl))) Via.refl e3 F_right_a1 E_a1 (Or.inr ⟨(hw _ (List.mem_of_getElem? (i := 18) rfl)), rfl, hnm⟩) (hw _ (List.mem_of_getElem? (i := 5) rfl)) (ty := .int) (by decide) rfl rfl (g := (mkF m 16 #[.val (.ref a1), .val (.int p2), .val (.int p3), .val (.int p4), .val (.int p5)] [(.int p4), (.ref a1)])) rfl rfl (hb hby d2_16)
  have E_a1 := E_a1.wr W4
  have F_left_a1 := F_left_a1.other W4 (Or.inr (slot_ne (Or.inr (hw _ (List.mem_of_getElem? (i := 14) rfl))) (Or.inr (hw _ (List.mem_of_getElem? (i := 18) rfl))) (by decide) (t := .int) (t' := .int) (by decide) (by decide)))
  have F_top_a1 := F_top_a1.other W4 (Or.inr (slot_ne (Or.inr (hw _ (List.mem_of_getElem? (i := 16) rfl))) (Or.inr (hw _ (List.mem_of_getElem? (i := 18) rfl))) (by decide) (t := .int) (t' := .int) (by decide) (by decide)))
  have F_right_a1 := F_right_a1.same W4
  have F_bottom_a1 := F_bottom_a1.other W4 (Or.inr (slot_ne (Or.inr (hw _ (List.mem_of_getElem? (i := 20) rfl))) (Or.inr (hw _ (List.mem_of_getElem? (i := 18) rfl))) (by decide) (t := .int) (t' := .int) (by decide) (by decide)))
  have N4 := Fr.snoc X4 N3 g_a1
  have Z4 : n0 ≤ h4.size := Nat.le_trans Z3 (Keep.of_wr W4).1
  have K4 := K3.wr W4 (Or.inl (List.mem_of_getElem? (i := 0) rfl))
  refine OutW.back st4 ?_
  show OutW _ _ _ _ _ _ _ (T4.setTop (mkF m 19 #[.val (.ref a1), .val (.int p2), .val (.int p3), .val (.int p4), .val (.int p5)] []))
  refine OutW.back (fun t k => XS.aloadN X4.here hx rfl (hb hby d2_19) rfl rfl  k) ?_
  show OutW _ _ _ _ _ _ _ (T4.setTop (mkF m 20 #[.val (.ref a1), .val (.int p2), .val (.int p3), .val (.int p4), .val (.int p5)] [(.ref a1)]))
  refine OutW.back (fun t k => XS.iload X4.here hx rfl (hb hby d2_20) rfl  k) ?_
  show OutW _ _ _ _ _ _ _ (T4.setTop (mkF m 22 #[.val (.ref a1), .val (.int p2), .val (.int p3), .val (.int p4), .val (.int p5)] [(.int p5), (.ref a1)]))
  obtain ⟨T5, h5, X5, e5, W5, st5⟩ := putF X4 hx hZ hown (host := "") (Or.inl (hw _ (List.mem_of_getElem? (i := 19) rfl))) Via.refl e4 F_bottom_a1 E_a1 (Or.inr ⟨(hw _ (List.mem_of_getElem? (i := 20) rfl)), rfl, hnm⟩) (hw _ (List.mem_of_getElem? (i := 5) rfl)) (ty := .int) (by decide) rfl rfl (g := (mkF m 22 #[.val (.ref a1), .val (.int p2), .val (.int p3), .val (.int p4), .val (.int p5)] [(.int p5), (.ref a1)])) rfl rfl (hb hby d2_22)
  have E_a1 := E_a1.wr W5
  have F_left_a1 := F_left_a1.other W5 (Or.inr (slot_ne (Or.inr (hw _ (List.mem_of_getElem? (i := 14) rfl))) (Or.inr (hw _ (List.mem_of_getElem? (i := 20) rfl))) (by decide) (t := .int) (t' := .int) (by decide) (by decide)))
  have F_top_a1 := F_top_a1.other W5 (Or.inr (slot_ne (Or.inr (hw _ (List.mem_of_getElem? (i := 16) rfl))) (Or.inr (hw _ (List.mem_of_getElem? (i := 20) rfl))) (by decide) (t := .int) (t' := .int) (by decide) (by decide)))
  have F_right_a1 := F_right_a1.other W5 (Or.inr (slot_ne (Or.inr (hw _ (List.mem_of_getElem? (i := 18) rfl))) (Or.inr (hw _ (List.mem_of_getElem? (i := 20) rfl))) (by decide) (t := .int) (t' := .int) (by decide) (by decide)))
  have F_bottom_a1 := F_bottom_a1.same W5
  have N5 := Fr.snoc X5 N4 g_a1
  have Z5 : n0 ≤ h5.size := Nat.le_trans Z4 (Keep.of_wr W5).1
  have K5 := K4.wr W5 (Or.inl (List.mem_of_getElem? (i := 0) rfl))
  refine OutW.back st5 ?_
  show OutW _ _ _ _ _ _ _ (T5.setTop (mkF m 25 #[.val (.ref a1), .val (.int p2), .val (.int p3), .val (.int p4), .val (.int p5)] []))
  refine OutW.retV X5 hx Bd.returns hlk (hb hby d2_25) (by decide) (by decide) ?_
  show Q2 Z a1 p2 p3 p4 p5 h0 n0 _ T5.heap _
  rw [e5]
  exact ⟨rfl, N5, K5, F_left_a1, F_top_a1, F_right_a1, F_bottom_a1⟩
def contF (w_left : Int32) (w_top : Int32) (w_right : Int32) (w_bottom : Int32) (u_left : Int32) (u_top : Int32) (u_right : Int32) (u_bottom : Int32) : Int32 := (if u_left < w_left then (0 : Int32) else (if u_top < w_top then (0 : Int32) else (if w_right < u_right then (0 : Int32) else (if w_bottom < u_bottom then (0 : Int32) else (1 : Int32)))))
theorem d4_0 : decode prog_14_method_11_code 0 = .ok (.aload_n 1, 1) := by decide +kernel
theorem d4_1 : decode prog_14_method_11_code 1 = .ok (.getfield 7, 3) := by decide +kernel
theorem d4_4 : decode prog_14_method_11_code 4 = .ok (.aload_n 0, 1) := by decide +kernel
theorem d4_5 : decode prog_14_method_11_code 5 = .ok (.getfield 7, 3) := by decide +kernel
theorem d4_8 : decode prog_14_method_11_code 8 = .ok (.if_icmp .lt 40, 3) := by decide +kernel
theorem d4_11 : decode prog_14_method_11_code 11 = .ok (.aload_n 1, 1) := by decide +kernel
theorem d4_12 : decode prog_14_method_11_code 12 = .ok (.getfield 13, 3) := by decide +kernel
theorem d4_15 : decode prog_14_method_11_code 15 = .ok (.aload_n 0, 1) := by decide +kernel
theorem d4_16 : decode prog_14_method_11_code 16 = .ok (.getfield 13, 3) := by decide +kernel
theorem d4_19 : decode prog_14_method_11_code 19 = .ok (.if_icmp .lt 29, 3) := by decide +kernel
theorem d4_22 : decode prog_14_method_11_code 22 = .ok (.aload_n 1, 1) := by decide +kernel
theorem d4_23 : decode prog_14_method_11_code 23 = .ok (.getfield 16, 3) := by decide +kernel
theorem d4_26 : decode prog_14_method_11_code 26 = .ok (.aload_n 0, 1) := by decide +kernel
theorem d4_27 : decode prog_14_method_11_code 27 = .ok (.getfield 16, 3) := by decide +kernel
theorem d4_30 : decode prog_14_method_11_code 30 = .ok (.if_icmp .gt 18, 3) := by decide +kernel
theorem d4_33 : decode prog_14_method_11_code 33 = .ok (.aload_n 1, 1) := by decide +kernel
theorem d4_34 : decode prog_14_method_11_code 34 = .ok (.getfield 19, 3) := by decide +kernel
theorem d4_37 : decode prog_14_method_11_code 37 = .ok (.aload_n 0, 1) := by decide +kernel
theorem d4_38 : decode prog_14_method_11_code 38 = .ok (.getfield 19, 3) := by decide +kernel
theorem d4_41 : decode prog_14_method_11_code 41 = .ok (.if_icmp .gt 7, 3) := by decide +kernel
theorem d4_44 : decode prog_14_method_11_code 44 = .ok (.iconst 1, 1) := by decide +kernel
theorem d4_45 : decode prog_14_method_11_code 45 = .ok (.goto 4, 3) := by decide +kernel
theorem d4_48 : decode prog_14_method_11_code 48 = .ok (.iconst 0, 1) := by decide +kernel
theorem d4_49 : decode prog_14_method_11_code 49 = .ok (.ireturn, 1) := by decide +kernel
theorem pn_4 : plainName "com/example/canopy/canopy/model/Rect" = true := by first | (simp [plainName, overriddenIn]; done) | decide +kernel
theorem ef_4 (m : MethodId) (x0 : Addr) (x1 : Addr) : entryFrame m #[(.ref x0), (.ref x1)] 2 = mkF m 0 #[.val (.ref x0), .val (.ref x1)] [] := by first | (simp [entryFrame, mkF, argsToLocals, Value.category]; done) | rfl
def Q4 (Z : State) (a1 : Addr) (a2 : Addr) (w_left : Int32) (w_top : Int32) (w_right : Int32) (w_bottom : Int32) (u_left : Int32) (u_top : Int32) (u_right : Int32) (u_bottom : Int32) (h0 : Heap) (n0 : Nat) (v : Option Value) (h : Heap) (L : List Loc) : Prop := v = some (.int (contF w_left w_top w_right w_bottom u_left u_top u_right u_bottom)) ∧ Fr n0 L ∧ h = h0
set_option maxRecDepth 65536 in
set_option maxHeartbeats 40000000 in
theorem rm4 (l : Launch) (Z : State) (a0 : Array Value) (hw : ∀ d ∈ tables_1, d.before a0 Z = true) (ws : List Jvm.Cond) (a1 : Addr) (a2 : Addr) (w_left : Int32) (w_top : Int32) (w_right : Int32) (w_bottom : Int32) (u_left : Int32) (u_top : Int32) (u_right : Int32) (u_bottom : Int32) (h0 : Heap) (n0 : Nat) (Z0 : n0 ≤ h0.size) (F_left_a1 : Fld Z h0 a1 "com/example/canopy/canopy/model/Rect" "left" "I" (.int w_left)) (F_top_a1 : Fld Z h0 a1 "com/example/canopy/canopy/model/Rect" "top" "I" (.int w_top)) (F_right_a1 : Fld Z h0 a1 "com/example/canopy/canopy/model/Rect" "right" "I" (.int w_right)) (F_bottom_a1 : Fld Z h0 a1 "com/example/canopy/canopy/model/Rect" "bottom" "I" (.int w_bottom)) (F_left_a2 : Fld Z h0 a2 "com/example/canopy/canopy/model/Rect" "left" "I" (.int u_left)) (F_top_a2 : Fld Z h0 a2 "com/example/canopy/canopy/model/Rect" "top" "I" (.int u_top)) (F_right_a2 : Fld Z h0 a2 "com/example/canopy/canopy/model/Rect" "right" "I" (.int u_right)) (F_bottom_a2 : Fld Z h0 a2 "com/example/canopy/canopy/model/Rect" "bottom" "I" (.int u_bottom)) :
    MetFree l (⟨"com/example/canopy/canopy/model/Rect", "contains", "(Lcom/example/canopy/canopy/model/Rect;)Z"⟩ : MethodName) (head1 (Jvm.Cond.code (⟨"com/example/canopy/canopy/model/Rect", "contains", "(Lcom/example/canopy/canopy/model/Rect;)Z"⟩ : MethodName) prog_14_method_11_code 2 (some .boolean) :: ws) ({ frames := 0, cells := 0, slots := 0, locals := 0 } : Room)) (fun a U => a = #[(.ref a1), (.ref a2)] ∧ Z.Warmed39 U.vm ∧ U.heap = h0) (fun _ _ _ _ _ => True) (fun _ U o U' => ∃ v L, o = .returned v ∧ Q4 Z a1 a2 w_left w_top w_right w_bottom u_left u_top u_right u_bottom h0 n0 v U'.heap L ∧ FrameEnd U o U' L ({ frames := 0, cells := 0, slots := 0, locals := 0 } : Room).cells ({ frames := 0, cells := 0, slots := 0, locals := 0 } : Room).slots) := by
  refine MetFree.of_bodySF (plainFor_of_name pn_4) hisR ?_
  intro p e s m args below meth c s₁ Bd hml0 hP hK
  obtain ⟨rfl, hZ, hh⟩ := hP
  have hx := Bd.exec
  have hby := Bd.bytes
  have hlk := Bd.notSynchronized
  have hml : c.maxLocals = 2 := hml0
  have hown : s.vm.findClass "com/example/canopy/canopy/model/Rect" = some m.cls := findClass_of_methodNamed Bd.named
  have hnm := (name_of_methodNamed Bd.named Bd.method).1
  have X0 : Stand p l e ({ frames := 0, cells := 0, slots := 0, locals := 0 } : Room) s m #[(.ref a1), (.ref a2)] below meth c s₁ [] 0 0 := Stand.of_body Bd
  have e0 : s₁.heap = h0 := by rw [← hh, Bd.state]; rfl
  have N0 := Fr.nil n0
  have K0 : Keep h0 h0 [] := Keep.refl h0 _
  show OutW p e below s ({ frames := 0, cells := 0, slots := 0, locals := 0 } : Room).cells ({ frames := 0, cells := 0, slots := 0, locals := 0 } : Room).slots (Q4 Z a1 a2 w_left w_top w_right w_bottom u_left u_top u_right u_bottom h0 n0) _
  refine OutW.back (fun t k => castTop (ef_4 m a1 a2) k) ?_
  show OutW _ _ _ _ _ _ _ (s₁.setTop (mkF m 0 #[.val (.ref a1), .val (.ref a2)] []))
  refine OutW.back (fun t k => XS.aloadN X0.here hx rfl (hb hby d4_0) rfl rfl  k) ?_
  show OutW _ _ _ _ _ _ _ (s₁.setTop (mkF m 1 #[.val (.ref a1), .val (.ref a2)] [(.ref a2)]))
  obtain ⟨T1, X1, e1, st1⟩ := getF X0 hx hZ hown (host := "") (Or.inl (hw _ (List.mem_of_getElem? (i := 13) rfl))) Via.refl e0 F_left_a2 (g := (mkF m 1 #[.val (.ref a1), .val (.ref a2)] [(.ref a2)])) rfl rfl (hb hby d4_1)
  refine OutW.back st1 ?_
  show OutW _ _ _ _ _ _ _ (T1.setTop (mkF m 4 #[.val (.ref a1), .val (.ref a2)] [(.int u_left)]))
  refine OutW.back (fun t k => XS.aloadN X1.here hx rfl (hb hby d4_4) rfl rfl  k) ?_
  show OutW _ _ _ _ _ _ _ (T1.setTop (mkF m 5 #[.val (.ref a1), .val (.ref a2)] [(.ref a1), (.int u_left)]))
  obtain ⟨T2, X2, e2, st2⟩ := getF X1 hx hZ hown (host := "") (Or.inl (hw _ (List.mem_of_getElem? (i := 13) rfl))) Via.refl e1 F_left_a1 (g := (mkF m 5 #[.val (.ref a1), .val (.ref a2)] [(.ref a1), (.int u_left)])) rfl rfl (hb hby d4_5)
  refine OutW.back st2 ?_
  show OutW _ _ _ _ _ _ _ (T2.setTop (mkF m 8 #[.val (.ref a1), .val (.ref a2)] [(.int w_left), (.int u_left)]))
  by_cases c8_3 : u_left < w_left
  · skip
    refine OutW.back (fun t k => XS.icmpYes X2.here hx rfl (pc0 := 8) (pc' := 48) rfl (hb hby d4_8) rfl (tlt c8_3).1 (by decide) (by decide) k) ?_
    show OutW _ _ _ _ _ _ _ (T2.setTop (mkF m 48 #[.val (.ref a1), .val (.ref a2)] []))
    refine OutW.back (fun t k => XS.iconst X2.here hx rfl (hb hby d4_48) k) ?_
    show OutW _ _ _ _ _ _ _ (T2.setTop (mkF m 49 #[.val (.ref a1), .val (.ref a2)] [(.int (0 : Int32))]))
    refine OutW.retN X2 hx (t := .boolean) (z' := (0 : Int32)) Bd.returns (by simp) hlk (hb hby d4_49) ?hz (by decide) (by decide) ?_
    case hz =>
      rfl
    show Q4 Z a1 a2 w_left w_top w_right w_bottom u_left u_top u_right u_bottom h0 n0 _ T2.heap _
    rw [e2]
    exact ⟨by rw [contF, if_pos c8_3], N0, rfl⟩
  · skip
    refine OutW.back (fun t k => XS.icmpNo X2.here hx rfl (hb hby d4_8) rfl (flt c8_3).1 k) ?_
    show OutW _ _ _ _ _ _ _ (T2.setTop (mkF m 11 #[.val (.ref a1), .val (.ref a2)] []))
    refine OutW.back (fun t k => XS.aloadN X2.here hx rfl (hb hby d4_11) rfl rfl  k) ?_
    show OutW _ _ _ _ _ _ _ (T2.setTop (mkF m 12 #[.val (.ref a1), .val (.ref a2)] [(.ref a2)]))
    obtain ⟨T4, X4, e4, st4⟩ := getF X2 hx hZ hown (host := "") (Or.inl (hw _ (List.mem_of_getElem? (i := 15) rfl))) Via.refl e2 F_top_a2 (g := (mkF m 12 #[.val (.ref a1), .val (.ref a2)] [(.ref a2)])) rfl rfl (hb hby d4_12)
    refine OutW.back st4 ?_
    show OutW _ _ _ _ _ _ _ (T4.setTop (mkF m 15 #[.val (.ref a1), .val (.ref a2)] [(.int u_top)]))
    refine OutW.back (fun t k => XS.aloadN X4.here hx rfl (hb hby d4_15) rfl rfl  k) ?_
    show OutW _ _ _ _ _ _ _ (T4.setTop (mkF m 16 #[.val (.ref a1), .val (.ref a2)] [(.ref a1), (.int u_top)]))
    obtain ⟨T5, X5, e5, st5⟩ := getF X4 hx hZ hown (host := "") (Or.inl (hw _ (List.mem_of_getElem? (i := 15) rfl))) Via.refl e4 F_top_a1 (g := (mkF m 16 #[.val (.ref a1), .val (.ref a2)] [(.ref a1), (.int u_top)])) rfl rfl (hb hby d4_16)
    refine OutW.back st5 ?_
    show OutW _ _ _ _ _ _ _ (T5.setTop (mkF m 19 #[.val (.ref a1), .val (.ref a2)] [(.int w_top), (.int u_top)]))
    by_cases c19_6 : u_top < w_top
    · skip
      refine OutW.back (fun t k => XS.icmpYes X5.here hx rfl (pc0 := 19) (pc' := 48) rfl (hb hby d4_19) rfl (tlt c19_6).1 (by decide) (by decide) k) ?_
      show OutW _ _ _ _ _ _ _ (T5.setTop (mkF m 48 #[.val (.ref a1), .val (.ref a2)] []))
      refine OutW.back (fun t k => XS.iconst X5.here hx rfl (hb hby d4_48) k) ?_
      show OutW _ _ _ _ _ _ _ (T5.setTop (mkF m 49 #[.val (.ref a1), .val (.ref a2)] [(.int (0 : Int32))]))
      refine OutW.retN X5 hx (t := .boolean) (z' := (0 : Int32)) Bd.returns (by simp) hlk (hb hby d4_49) ?hz (by decide) (by decide) ?_
      case hz =>
        rfl
      show Q4 Z a1 a2 w_left w_top w_right w_bottom u_left u_top u_right u_bottom h0 n0 _ T5.heap _
      rw [e5]
      exact ⟨by rw [contF, if_neg c8_3, if_pos c19_6], N0, rfl⟩
    · skip
      refine OutW.back (fun t k => XS.icmpNo X5.here hx rfl (hb hby d4_19) rfl (flt c19_6).1 k) ?_
      show OutW _ _ _ _ _ _ _ (T5.setTop (mkF m 22 #[.val (.ref a1), .val (.ref a2)] []))
      refine OutW.back (fun t k => XS.aloadN X5.here hx rfl (hb hby d4_22) rfl rfl  k) ?_
      show OutW _ _ _ _ _ _ _ (T5.setTop (mkF m 23 #[.val (.ref a1), .val (.ref a2)] [(.ref a2)]))
      obtain ⟨T7, X7, e7, st7⟩ := getF X5 hx hZ hown (host := "") (Or.inl (hw _ (List.mem_of_getElem? (i := 17) rfl))) Via.refl e5 F_right_a2 (g := (mkF m 23 #[.val (.ref a1), .val (.ref a2)] [(.ref a2)])) rfl rfl (hb hby d4_23)
      refine OutW.back st7 ?_
      show OutW _ _ _ _ _ _ _ (T7.setTop (mkF m 26 #[.val (.ref a1), .val (.ref a2)] [(.int u_right)]))
      refine OutW.back (fun t k => XS.aloadN X7.here hx rfl (hb hby d4_26) rfl rfl  k) ?_
      show OutW _ _ _ _ _ _ _ (T7.setTop (mkF m 27 #[.val (.ref a1), .val (.ref a2)] [(.ref a1), (.int u_right)]))
      obtain ⟨T8, X8, e8, st8⟩ := getF X7 hx hZ hown (host := "") (Or.inl (hw _ (List.mem_of_getElem? (i := 17) rfl))) Via.refl e7 F_right_a1 (g := (mkF m 27 #[.val (.ref a1), .val (.ref a2)] [(.ref a1), (.int u_right)])) rfl rfl (hb hby d4_27)
      refine OutW.back st8 ?_
      show OutW _ _ _ _ _ _ _ (T8.setTop (mkF m 30 #[.val (.ref a1), .val (.ref a2)] [(.int w_right), (.int u_right)]))
      by_cases c30_9 : w_right < u_right
      · skip
        refine OutW.back (fun t k => XS.icmpYes X8.here hx rfl (pc0 := 30) (pc' := 48) rfl (hb hby d4_30) rfl (tlt c30_9).2.2.1 (by decide) (by decide) k) ?_
        show OutW _ _ _ _ _ _ _ (T8.setTop (mkF m 48 #[.val (.ref a1), .val (.ref a2)] []))
        refine OutW.back (fun t k => XS.iconst X8.here hx rfl (hb hby d4_48) k) ?_
        show OutW _ _ _ _ _ _ _ (T8.setTop (mkF m 49 #[.val (.ref a1), .val (.ref a2)] [(.int (0 : Int32))]))
        refine OutW.retN X8 hx (t := .boolean) (z' := (0 : Int32)) Bd.returns (by simp) hlk (hb hby d4_49) ?hz (by decide) (by decide) ?_
        case hz =>
          rfl
        show Q4 Z a1 a2 w_left w_top w_right w_bottom u_left u_top u_right u_bottom h0 n0 _ T8.heap _
        rw [e8]
        exact ⟨by rw [contF, if_neg c8_3, if_neg c19_6, if_pos c30_9], N0, rfl⟩
      · skip
        refine OutW.back (fun t k => XS.icmpNo X8.here hx rfl (hb hby d4_30) rfl (flt c30_9).2.2.1 k) ?_
        show OutW _ _ _ _ _ _ _ (T8.setTop (mkF m 33 #[.val (.ref a1), .val (.ref a2)] []))
        refine OutW.back (fun t k => XS.aloadN X8.here hx rfl (hb hby d4_33) rfl rfl  k) ?_
        show OutW _ _ _ _ _ _ _ (T8.setTop (mkF m 34 #[.val (.ref a1), .val (.ref a2)] [(.ref a2)]))
        obtain ⟨T10, X10, e10, st10⟩ := getF X8 hx hZ hown (host := "") (Or.inl (hw _ (List.mem_of_getElem? (i := 19) rfl))) Via.refl e8 F_bottom_a2 (g := (mkF m 34 #[.val (.ref a1), .val (.ref a2)] [(.ref a2)])) rfl rfl (hb hby d4_34)
        refine OutW.back st10 ?_
        show OutW _ _ _ _ _ _ _ (T10.setTop (mkF m 37 #[.val (.ref a1), .val (.ref a2)] [(.int u_bottom)]))
        refine OutW.back (fun t k => XS.aloadN X10.here hx rfl (hb hby d4_37) rfl rfl  k) ?_
        show OutW _ _ _ _ _ _ _ (T10.setTop (mkF m 38 #[.val (.ref a1), .val (.ref a2)] [(.ref a1), (.int u_bottom)]))
        obtain ⟨T11, X11, e11, st11⟩ := getF X10 hx hZ hown (host := "") (Or.inl (hw _ (List.mem_of_getElem? (i := 19) rfl))) Via.refl e10 F_bottom_a1 (g := (mkF m 38 #[.val (.ref a1), .val (.ref a2)] [(.ref a1), (.int u_bottom)])) rfl rfl (hb hby d4_38)
        refine OutW.back st11 ?_
        show OutW _ _ _ _ _ _ _ (T11.setTop (mkF m 41 #[.val (.ref a1), .val (.ref a2)] [(.int w_bottom), (.int u_bottom)]))
        by_cases c41_12 : w_bottom < u_bottom
        · skip
          refine OutW.back (fun t k => XS.icmpYes X11.here hx rfl (pc0 := 41) (pc' := 48) rfl (hb hby d4_41) rfl (tlt c41_12).2.2.1 (by decide) (by decide) k) ?_
          show OutW _ _ _ _ _ _ _ (T11.setTop (mkF m 48 #[.val (.ref a1), .val (.ref a2)] []))
          refine OutW.back (fun t k => XS.iconst X11.here hx rfl (hb hby d4_48) k) ?_
          show OutW _ _ _ _ _ _ _ (T11.setTop (mkF m 49 #[.val (.ref a1), .val (.ref a2)] [(.int (0 : Int32))]))
          refine OutW.retN X11 hx (t := .boolean) (z' := (0 : Int32)) Bd.returns (by simp) hlk (hb hby d4_49) ?hz (by decide) (by decide) ?_
          case hz =>
            rfl
          show Q4 Z a1 a2 w_left w_top w_right w_bottom u_left u_top u_right u_bottom h0 n0 _ T11.heap _
          rw [e11]
          exact ⟨by rw [contF, if_neg c8_3, if_neg c19_6, if_neg c30_9, if_pos c41_12], N0, rfl⟩
        · skip
          refine OutW.back (fun t k => XS.icmpNo X11.here hx rfl (hb hby d4_41) rfl (flt c41_12).2.2.1 k) ?_
          show OutW _ _ _ _ _ _ _ (T11.setTop (mkF m 44 #[.val (.ref a1), .val (.ref a2)] []))
          refine OutW.back (fun t k => XS.iconst X11.here hx rfl (hb hby d4_44) k) ?_
          show OutW _ _ _ _ _ _ _ (T11.setTop (mkF m 45 #[.val (.ref a1), .val (.ref a2)] [(.int (1 : Int32))]))
          refine OutW.back (fun t k => XS.goto X11.here hx rfl (pc0 := 45) (pc' := 49) rfl (hb hby d4_45) (by decide) (by decide) k) ?_
          show OutW _ _ _ _ _ _ _ (T11.setTop (mkF m 49 #[.val (.ref a1), .val (.ref a2)] [(.int (1 : Int32))]))
          refine OutW.retN X11 hx (t := .boolean) (z' := (1 : Int32)) Bd.returns (by simp) hlk (hb hby d4_49) ?hz (by decide) (by decide) ?_
          case hz =>
            rfl
          show Q4 Z a1 a2 w_left w_top w_right w_bottom u_left u_top u_right u_bottom h0 n0 _ T11.heap _
          rw [e11]
          exact ⟨by rw [contF, if_neg c8_3, if_neg c19_6, if_neg c30_9, if_neg c41_12], N0, rfl⟩
def edgeF_0 (p1 : Int32) (p2 : Int32) (p3 : Int32) : Int32 := (if p1 = (0 : Int32) then p3 else (p2 + (p3 % (3 : Int32))))
theorem d1_0 : decode method_2_code 0 = .ok (.iload_n 0, 1) := by decide +kernel
theorem d1_1 : decode method_2_code 1 = .ok (.ifCond .eq 9, 3) := by decide +kernel
theorem d1_4 : decode method_2_code 4 = .ok (.iload_n 1, 1) := by decide +kernel
theorem d1_5 : decode method_2_code 5 = .ok (.iload_n 2, 1) := by decide +kernel
theorem d1_6 : decode method_2_code 6 = .ok (.iconst 3, 1) := by decide +kernel
theorem d1_7 : decode method_2_code 7 = .ok (.irem, 1) := by decide +kernel
theorem d1_8 : decode method_2_code 8 = .ok (.iadd, 1) := by decide +kernel
theorem d1_9 : decode method_2_code 9 = .ok (.ireturn, 1) := by decide +kernel
theorem d1_10 : decode method_2_code 10 = .ok (.iload_n 2, 1) := by decide +kernel
theorem d1_11 : decode method_2_code 11 = .ok (.ireturn, 1) := by decide +kernel
theorem pn_1 : plainName "com/example/canopy/canopy/model/RectContainsPinLaw" = true := by first | (simp [plainName, overriddenIn]; done) | decide +kernel
theorem ef_1 (m : MethodId) (x0 : Int32) (x1 : Int32) (x2 : Int32) : entryFrame m #[(.int x0), (.int x1), (.int x2)] 3 = mkF m 0 #[.val (.int x0), .val (.int x1), .val (.int x2)] [] := by first | (simp [entryFrame, mkF, argsToLocals, Value.category]; done) | rfl
def Q1 (Z : State) (p1 : Int32) (p2 : Int32) (p3 : Int32)  (h0 : Heap) (n0 : Nat) (v : Option Value) (h : Heap) (L : List Loc) : Prop := v = some (.int (edgeF_0 p1 p2 p3)) ∧ Fr n0 L ∧ h = h0
set_option maxRecDepth 65536 in
set_option maxHeartbeats 40000000 in
theorem rm1 (l : Launch) (Z : State) (a0 : Array Value) (hw : ∀ d ∈ tables_1, d.before a0 Z = true) (ws : List Jvm.Cond) (p1 : Int32) (p2 : Int32) (p3 : Int32)  (h0 : Heap) (n0 : Nat) (Z0 : n0 ≤ h0.size) :
    MetFree l (⟨"com/example/canopy/canopy/model/RectContainsPinLaw", "edge", "(ZII)I"⟩ : MethodName) (head1 (Jvm.Cond.code (⟨"com/example/canopy/canopy/model/RectContainsPinLaw", "edge", "(ZII)I"⟩ : MethodName) method_2_code 3 (some .int) :: ws) ({ frames := 0, cells := 0, slots := 0, locals := 0 } : Room)) (fun a U => a = #[(.int p1), (.int p2), (.int p3)] ∧ Z.Warmed39 U.vm ∧ U.heap = h0) (fun _ _ _ _ _ => True) (fun _ U o U' => ∃ v L, o = .returned v ∧ Q1 Z p1 p2 p3 h0 n0 v U'.heap L ∧ FrameEnd U o U' L ({ frames := 0, cells := 0, slots := 0, locals := 0 } : Room).cells ({ frames := 0, cells := 0, slots := 0, locals := 0 } : Room).slots) := by
  refine MetFree.of_bodySF (plainFor_of_name pn_1) hisR ?_
  intro p e s m args below meth c s₁ Bd hml0 hP hK
  obtain ⟨rfl, hZ, hh⟩ := hP
  have hx := Bd.exec
  have hby := Bd.bytes
  have hlk := Bd.notSynchronized
  have hml : c.maxLocals = 3 := hml0
  have hown : s.vm.findClass "com/example/canopy/canopy/model/RectContainsPinLaw" = some m.cls := findClass_of_methodNamed Bd.named
  have hnm := (name_of_methodNamed Bd.named Bd.method).1
  have X0 : Stand p l e ({ frames := 0, cells := 0, slots := 0, locals := 0 } : Room) s m #[(.int p1), (.int p2), (.int p3)] below meth c s₁ [] 0 0 := Stand.of_body Bd
  have e0 : s₁.heap = h0 := by rw [← hh, Bd.state]; rfl
  have N0 := Fr.nil n0
  have K0 : Keep h0 h0 [] := Keep.refl h0 _
  show OutW p e below s ({ frames := 0, cells := 0, slots := 0, locals := 0 } : Room).cells ({ frames := 0, cells := 0, slots := 0, locals := 0 } : Room).slots (Q1 Z p1 p2 p3 h0 n0) _
  refine OutW.back (fun t k => castTop (ef_1 m p1 p2 p3) k) ?_
  show OutW _ _ _ _ _ _ _ (s₁.setTop (mkF m 0 #[.val (.int p1), .val (.int p2), .val (.int p3)] []))
  refine OutW.back (fun t k => XS.iloadN X0.here hx rfl (hb hby d1_0) rfl  k) ?_
  show OutW _ _ _ _ _ _ _ (s₁.setTop (mkF m 1 #[.val (.int p1), .val (.int p2), .val (.int p3)] [(.int p1)]))
  by_cases c1_1 : p1 = (0 : Int32)
  · skip
    refine OutW.back (fun t k => XS.ifYes X0.here hx rfl (pc0 := 1) (pc' := 10) rfl (hb hby d1_1) rfl ((if0 _ _).trans (teq c1_1).1) (by decide) (by decide) k) ?_
    show OutW _ _ _ _ _ _ _ (s₁.setTop (mkF m 10 #[.val (.int p1), .val (.int p2), .val (.int p3)] []))
    refine OutW.back (fun t k => XS.iloadN X0.here hx rfl (hb hby d1_10) rfl  k) ?_
    show OutW _ _ _ _ _ _ _ (s₁.setTop (mkF m 11 #[.val (.int p1), .val (.int p2), .val (.int p3)] [(.int p3)]))
    refine OutW.retI X0 hx Bd.returns hlk (hb hby d1_11) (by decide) (by decide) ?_
    show Q1 Z p1 p2 p3 h0 n0 _ s₁.heap _
    rw [e0]
    exact ⟨by rw [edgeF_0, if_pos c1_1], N0, rfl⟩
  · skip
    refine OutW.back (fun t k => XS.ifNo X0.here hx rfl (hb hby d1_1) rfl ((if0 _ _).trans (feq c1_1).1) k) ?_
    show OutW _ _ _ _ _ _ _ (s₁.setTop (mkF m 4 #[.val (.int p1), .val (.int p2), .val (.int p3)] []))
    refine OutW.back (fun t k => XS.iloadN X0.here hx rfl (hb hby d1_4) rfl  k) ?_
    show OutW _ _ _ _ _ _ _ (s₁.setTop (mkF m 5 #[.val (.int p1), .val (.int p2), .val (.int p3)] [(.int p2)]))
    refine OutW.back (fun t k => XS.iloadN X0.here hx rfl (hb hby d1_5) rfl  k) ?_
    show OutW _ _ _ _ _ _ _ (s₁.setTop (mkF m 6 #[.val (.int p1), .val (.int p2), .val (.int p3)] [(.int p3), (.int p2)]))
    refine OutW.back (fun t k => XS.iconst X0.here hx rfl (hb hby d1_6) k) ?_
    show OutW _ _ _ _ _ _ _ (s₁.setTop (mkF m 7 #[.val (.int p1), .val (.int p2), .val (.int p3)] [(.int (3 : Int32)), (.int p3), (.int p2)]))
    refine OutW.back (fun t k => iremM X0 hx rfl (hb hby d1_7) rfl (by decide) k) ?_
    show OutW _ _ _ _ _ _ _ (s₁.setTop (mkF m 8 #[.val (.int p1), .val (.int p2), .val (.int p3)] [(.int (p3 % (3 : Int32))), (.int p2)]))
    refine OutW.back (fun t k => XS.iadd X0.here hx rfl (hb hby d1_8) rfl k) ?_
    show OutW _ _ _ _ _ _ _ (s₁.setTop (mkF m 9 #[.val (.int p1), .val (.int p2), .val (.int p3)] [(.int (p2 + (p3 % (3 : Int32))))]))
    refine OutW.retI X0 hx Bd.returns hlk (hb hby d1_9) (by decide) (by decide) ?_
    show Q1 Z p1 p2 p3 h0 n0 _ s₁.heap _
    rw [e0]
    exact ⟨by rw [edgeF_0, if_neg c1_1], N0, rfl⟩
def minF_0 (p1 : Int32) (p2 : Int32) : Int32 := (if p2 < p1 then p2 else p1)
theorem d5_0 : decode jdk_29_method_69_code 0 = .ok (.iload_n 0, 1) := by decide +kernel
theorem d5_1 : decode jdk_29_method_69_code 1 = .ok (.iload_n 1, 1) := by decide +kernel
theorem d5_2 : decode jdk_29_method_69_code 2 = .ok (.if_icmp .gt 7, 3) := by decide +kernel
theorem d5_5 : decode jdk_29_method_69_code 5 = .ok (.iload_n 0, 1) := by decide +kernel
theorem d5_6 : decode jdk_29_method_69_code 6 = .ok (.goto 4, 3) := by decide +kernel
theorem d5_9 : decode jdk_29_method_69_code 9 = .ok (.iload_n 1, 1) := by decide +kernel
theorem d5_10 : decode jdk_29_method_69_code 10 = .ok (.ireturn, 1) := by decide +kernel
theorem ef_5 (m : MethodId) (x0 : Int32) (x1 : Int32) : entryFrame m #[(.int x0), (.int x1)] 2 = mkF m 0 #[.val (.int x0), .val (.int x1)] [] := by first | (simp [entryFrame, mkF, argsToLocals, Value.category]; done) | rfl
def Q5 (Z : State) (p1 : Int32) (p2 : Int32)  (h0 : Heap) (n0 : Nat) (v : Option Value) (h : Heap) (L : List Loc) : Prop := v = some (.int (minF_0 p1 p2)) ∧ Fr n0 L ∧ h = h0
set_option maxRecDepth 65536 in
set_option maxHeartbeats 40000000 in
theorem rm5 (l : Launch) (Z : State) (a0 : Array Value) (hw : ∀ d ∈ tables_1, d.before a0 Z = true) (ws : List Jvm.Cond) (p1 : Int32) (p2 : Int32)  (h0 : Heap) (n0 : Nat) (Z0 : n0 ≤ h0.size) :
    MetFree l (⟨"java/lang/Math", "min", "(II)I"⟩ : MethodName) (head1 (Jvm.Cond.code (⟨"java/lang/Math", "min", "(II)I"⟩ : MethodName) jdk_29_method_69_code 2 (some .int) :: ws) ({ frames := 0, cells := 0, slots := 0, locals := 0 } : Room)) (fun a U => a = #[(.int p1), (.int p2)] ∧ Z.Warmed39 U.vm ∧ U.heap = h0) (fun _ _ _ _ _ => True) (fun _ U o U' => ∃ v L, o = .returned v ∧ Q5 Z p1 p2 h0 n0 v U'.heap L ∧ FrameEnd U o U' L ({ frames := 0, cells := 0, slots := 0, locals := 0 } : Room).cells ({ frames := 0, cells := 0, slots := 0, locals := 0 } : Room).slots) := by
  refine MetFree.of_bodySF (Jvm.Free.JP.mathPlain rfl (by decide +kernel)) hisR ?_
  intro p e s m args below meth c s₁ Bd hml0 hP hK
  obtain ⟨rfl, hZ, hh⟩ := hP
  have hx := Bd.exec
  have hby := Bd.bytes
  have hlk := Bd.notSynchronized
  have hml : c.maxLocals = 2 := hml0
  have hown : s.vm.findClass "java/lang/Math" = some m.cls := findClass_of_methodNamed Bd.named
  have hnm := (name_of_methodNamed Bd.named Bd.method).1
  have X0 : Stand p l e ({ frames := 0, cells := 0, slots := 0, locals := 0 } : Room) s m #[(.int p1), (.int p2)] below meth c s₁ [] 0 0 := Stand.of_body Bd
  have e0 : s₁.heap = h0 := by rw [← hh, Bd.state]; rfl
  have N0 := Fr.nil n0
  have K0 : Keep h0 h0 [] := Keep.refl h0 _
  show OutW p e below s ({ frames := 0, cells := 0, slots := 0, locals := 0 } : Room).cells ({ frames := 0, cells := 0, slots := 0, locals := 0 } : Room).slots (Q5 Z p1 p2 h0 n0) _
  refine OutW.back (fun t k => castTop (ef_5 m p1 p2) k) ?_
  show OutW _ _ _ _ _ _ _ (s₁.setTop (mkF m 0 #[.val (.int p1), .val (.int p2)] []))
  refine OutW.back (fun t k => XS.iloadN X0.here hx rfl (hb hby d5_0) rfl  k) ?_
  show OutW _ _ _ _ _ _ _ (s₁.setTop (mkF m 1 #[.val (.int p1), .val (.int p2)] [(.int p1)]))
  refine OutW.back (fun t k => XS.iloadN X0.here hx rfl (hb hby d5_1) rfl  k) ?_
  show OutW _ _ _ _ _ _ _ (s₁.setTop (mkF m 2 #[.val (.int p1), .val (.int p2)] [(.int p2), (.int p1)]))
  by_cases c2_1 : p2 < p1
  · skip
    refine OutW.back (fun t k => XS.icmpYes X0.here hx rfl (pc0 := 2) (pc' := 9) rfl (hb hby d5_2) rfl (tlt c2_1).2.2.1 (by decide) (by decide) k) ?_
    show OutW _ _ _ _ _ _ _ (s₁.setTop (mkF m 9 #[.val (.int p1), .val (.int p2)] []))
    refine OutW.back (fun t k => XS.iloadN X0.here hx rfl (hb hby d5_9) rfl  k) ?_
    show OutW _ _ _ _ _ _ _ (s₁.setTop (mkF m 10 #[.val (.int p1), .val (.int p2)] [(.int p2)]))
    refine OutW.retI X0 hx Bd.returns hlk (hb hby d5_10) (by decide) (by decide) ?_
    show Q5 Z p1 p2 h0 n0 _ s₁.heap _
    rw [e0]
    exact ⟨by rw [minF_0, if_pos c2_1], N0, rfl⟩
  · skip
    refine OutW.back (fun t k => XS.icmpNo X0.here hx rfl (hb hby d5_2) rfl (flt c2_1).2.2.1 k) ?_
    show OutW _ _ _ _ _ _ _ (s₁.setTop (mkF m 5 #[.val (.int p1), .val (.int p2)] []))
    refine OutW.back (fun t k => XS.iloadN X0.here hx rfl (hb hby d5_5) rfl  k) ?_
    show OutW _ _ _ _ _ _ _ (s₁.setTop (mkF m 6 #[.val (.int p1), .val (.int p2)] [(.int p1)]))
    refine OutW.back (fun t k => XS.goto X0.here hx rfl (pc0 := 6) (pc' := 10) rfl (hb hby d5_6) (by decide) (by decide) k) ?_
    show OutW _ _ _ _ _ _ _ (s₁.setTop (mkF m 10 #[.val (.int p1), .val (.int p2)] [(.int p1)]))
    refine OutW.retI X0 hx Bd.returns hlk (hb hby d5_10) (by decide) (by decide) ?_
    show Q5 Z p1 p2 h0 n0 _ s₁.heap _
    rw [e0]
    exact ⟨by rw [minF_0, if_neg c2_1], N0, rfl⟩
def maxF_0 (p1 : Int32) (p2 : Int32) : Int32 := (if p1 < p2 then p2 else p1)
theorem d6_0 : decode jdk_29_method_65_code 0 = .ok (.iload_n 0, 1) := by decide +kernel
theorem d6_1 : decode jdk_29_method_65_code 1 = .ok (.iload_n 1, 1) := by decide +kernel
theorem d6_2 : decode jdk_29_method_65_code 2 = .ok (.if_icmp .lt 7, 3) := by decide +kernel
theorem d6_5 : decode jdk_29_method_65_code 5 = .ok (.iload_n 0, 1) := by decide +kernel
theorem d6_6 : decode jdk_29_method_65_code 6 = .ok (.goto 4, 3) := by decide +kernel
theorem d6_9 : decode jdk_29_method_65_code 9 = .ok (.iload_n 1, 1) := by decide +kernel
theorem d6_10 : decode jdk_29_method_65_code 10 = .ok (.ireturn, 1) := by decide +kernel
theorem ef_6 (m : MethodId) (x0 : Int32) (x1 : Int32) : entryFrame m #[(.int x0), (.int x1)] 2 = mkF m 0 #[.val (.int x0), .val (.int x1)] [] := by first | (simp [entryFrame, mkF, argsToLocals, Value.category]; done) | rfl
def Q6 (Z : State) (p1 : Int32) (p2 : Int32)  (h0 : Heap) (n0 : Nat) (v : Option Value) (h : Heap) (L : List Loc) : Prop := v = some (.int (maxF_0 p1 p2)) ∧ Fr n0 L ∧ h = h0
set_option maxRecDepth 65536 in
set_option maxHeartbeats 40000000 in
theorem rm6 (l : Launch) (Z : State) (a0 : Array Value) (hw : ∀ d ∈ tables_1, d.before a0 Z = true) (ws : List Jvm.Cond) (p1 : Int32) (p2 : Int32)  (h0 : Heap) (n0 : Nat) (Z0 : n0 ≤ h0.size) :
    MetFree l (⟨"java/lang/Math", "max", "(II)I"⟩ : MethodName) (head1 (Jvm.Cond.code (⟨"java/lang/Math", "max", "(II)I"⟩ : MethodName) jdk_29_method_65_code 2 (some .int) :: ws) ({ frames := 0, cells := 0, slots := 0, locals := 0 } : Room)) (fun a U => a = #[(.int p1), (.int p2)] ∧ Z.Warmed39 U.vm ∧ U.heap = h0) (fun _ _ _ _ _ => True) (fun _ U o U' => ∃ v L, o = .returned v ∧ Q6 Z p1 p2 h0 n0 v U'.heap L ∧ FrameEnd U o U' L ({ frames := 0, cells := 0, slots := 0, locals := 0 } : Room).cells ({ frames := 0, cells := 0, slots := 0, locals := 0 } : Room).slots) := by
  refine MetFree.of_bodySF (Jvm.Free.JP.mathPlain rfl (by decide +kernel)) hisR ?_
  intro p e s m args below meth c s₁ Bd hml0 hP hK
  obtain ⟨rfl, hZ, hh⟩ := hP
  have hx := Bd.exec
  have hby := Bd.bytes
  have hlk := Bd.notSynchronized
  have hml : c.maxLocals = 2 := hml0
  have hown : s.vm.findClass "java/lang/Math" = some m.cls := findClass_of_methodNamed Bd.named
  have hnm := (name_of_methodNamed Bd.named Bd.method).1
  have X0 : Stand p l e ({ frames := 0, cells := 0, slots := 0, locals := 0 } : Room) s m #[(.int p1), (.int p2)] below meth c s₁ [] 0 0 := Stand.of_body Bd
  have e0 : s₁.heap = h0 := by rw [← hh, Bd.state]; rfl
  have N0 := Fr.nil n0
  have K0 : Keep h0 h0 [] := Keep.refl h0 _
  show OutW p e below s ({ frames := 0, cells := 0, slots := 0, locals := 0 } : Room).cells ({ frames := 0, cells := 0, slots := 0, locals := 0 } : Room).slots (Q6 Z p1 p2 h0 n0) _
  refine OutW.back (fun t k => castTop (ef_6 m p1 p2) k) ?_
  show OutW _ _ _ _ _ _ _ (s₁.setTop (mkF m 0 #[.val (.int p1), .val (.int p2)] []))
  refine OutW.back (fun t k => XS.iloadN X0.here hx rfl (hb hby d6_0) rfl  k) ?_
  show OutW _ _ _ _ _ _ _ (s₁.setTop (mkF m 1 #[.val (.int p1), .val (.int p2)] [(.int p1)]))
  refine OutW.back (fun t k => XS.iloadN X0.here hx rfl (hb hby d6_1) rfl  k) ?_
  show OutW _ _ _ _ _ _ _ (s₁.setTop (mkF m 2 #[.val (.int p1), .val (.int p2)] [(.int p2), (.int p1)]))
  by_cases c2_1 : p1 < p2
  · skip
    refine OutW.back (fun t k => XS.icmpYes X0.here hx rfl (pc0 := 2) (pc' := 9) rfl (hb hby d6_2) rfl (tlt c2_1).1 (by decide) (by decide) k) ?_
    show OutW _ _ _ _ _ _ _ (s₁.setTop (mkF m 9 #[.val (.int p1), .val (.int p2)] []))
    refine OutW.back (fun t k => XS.iloadN X0.here hx rfl (hb hby d6_9) rfl  k) ?_
    show OutW _ _ _ _ _ _ _ (s₁.setTop (mkF m 10 #[.val (.int p1), .val (.int p2)] [(.int p2)]))
    refine OutW.retI X0 hx Bd.returns hlk (hb hby d6_10) (by decide) (by decide) ?_
    show Q6 Z p1 p2 h0 n0 _ s₁.heap _
    rw [e0]
    exact ⟨by rw [maxF_0, if_pos c2_1], N0, rfl⟩
  · skip
    refine OutW.back (fun t k => XS.icmpNo X0.here hx rfl (hb hby d6_2) rfl (flt c2_1).1 k) ?_
    show OutW _ _ _ _ _ _ _ (s₁.setTop (mkF m 5 #[.val (.int p1), .val (.int p2)] []))
    refine OutW.back (fun t k => XS.iloadN X0.here hx rfl (hb hby d6_5) rfl  k) ?_
    show OutW _ _ _ _ _ _ _ (s₁.setTop (mkF m 6 #[.val (.int p1), .val (.int p2)] [(.int p1)]))
    refine OutW.back (fun t k => XS.goto X0.here hx rfl (pc0 := 6) (pc' := 10) rfl (hb hby d6_6) (by decide) (by decide) k) ?_
    show OutW _ _ _ _ _ _ _ (s₁.setTop (mkF m 10 #[.val (.int p1), .val (.int p2)] [(.int p1)]))
    refine OutW.retI X0 hx Bd.returns hlk (hb hby d6_10) (by decide) (by decide) ?_
    show Q6 Z p1 p2 h0 n0 _ s₁.heap _
    rw [e0]
    exact ⟨by rw [maxF_0, if_neg c2_1], N0, rfl⟩
theorem own_min (a b : Int32) : (minF_0 a b = b) = ¬ (a < b) := by
  unfold minF_0
  have e := Int32.toInt_inj (x := a) (y := b)
  split
  · rename_i q
    simp only [eq_iff_iff, true_iff, Int32.lt_iff_toInt_lt] at q ⊢
    omega
  · rename_i q
    rw [← e]
    simp only [eq_iff_iff, Int32.lt_iff_toInt_lt] at q ⊢
    omega
theorem own_max (a b : Int32) : (maxF_0 a b = b) = ¬ (b < a) := by
  unfold maxF_0
  have e := Int32.toInt_inj (x := a) (y := b)
  split
  · rename_i q
    simp only [eq_iff_iff, true_iff, Int32.lt_iff_toInt_lt] at q ⊢
    omega
  · rename_i q
    rw [← e]
    simp only [eq_iff_iff, Int32.lt_iff_toInt_lt] at q ⊢
    omega
theorem pd_0 : parseMethodDescriptor "(ZII)I" = some ⟨[.boolean, .int, .int], some .int⟩ := by decide +kernel
theorem pd_1 : parseMethodDescriptor "(IIII)V" = some ⟨[.int, .int, .int, .int], none⟩ := by decide +kernel
theorem pd_2 : parseMethodDescriptor "(Lcom/example/canopy/canopy/model/Rect;)Z" = some ⟨[(.object "com/example/canopy/canopy/model/Rect")], some .boolean⟩ := by decide +kernel
theorem pd_3 : parseMethodDescriptor "(II)I" = some ⟨[.int, .int], some .int⟩ := by decide +kernel
theorem pn_0 : plainName "com/example/canopy/canopy/model/RectContainsPinLaw" = true := by first | (simp [plainName, overriddenIn]; done) | decide +kernel
theorem ef_0 (m : MethodId) (x0 : Int64) (x1 : Int64) (x2 : Int64) (x3 : Int64) (x4 : Int32) : entryFrame m #[(.long x0), (.long x1), (.long x2), (.long x3), (.int x4)] maxLocals = mkF m 0 #[.val (.long x0), .second, .val (.long x1), .second, .val (.long x2), .second, .val (.long x3), .second, .val (.int x4), .unset, .unset, .unset, .unset, .unset, .unset, .unset, .unset, .unset, .unset, .unset, .unset, .unset, .unset, .unset, .unset, .unset] [] := by first | (simp [entryFrame, mkF, argsToLocals, Value.category, maxLocals]; done) | rfl
def Q0 (Z : State) (q1 : Int64) (q2 : Int64) (q3 : Int64) (q4 : Int64) (p5 : Int32)  (h0 : Heap) (n0 : Nat) (v : Option Value) (h : Heap) (L : List Loc) : Prop := v = some (.int 1) ∧ Fr n0 L
set_option maxRecDepth 65536 in
set_option maxHeartbeats 40000000 in
theorem rm0 (l : Launch) (Z : State) (a0 : Array Value) (hw : ∀ d ∈ tables_1, d.before a0 Z = true) (ws : List Jvm.Cond) (q1 : Int64) (q2 : Int64) (q3 : Int64) (q4 : Int64) (p5 : Int32)  (h0 : Heap) (n0 : Nat) (Z0 : n0 ≤ h0.size) :
    MetFree l x (head1 (Jvm.Cond.code x code maxLocals ret :: ws) room_1) (fun a U => a = #[(.long q1), (.long q2), (.long q3), (.long q4), (.int p5)] ∧ Z.Warmed39 U.vm ∧ U.heap = h0) (fun _ _ _ _ _ => True) (fun _ U o U' => ∃ v L, o = .returned v ∧ Q0 Z q1 q2 q3 q4 p5 h0 n0 v U'.heap L ∧ FrameEnd U o U' L room_1.cells room_1.slots) := by
  refine MetFree.of_bodySF (plainFor_of_name pn_0) hisR ?_
  intro p e s m args below meth c s₁ Bd hml0 hP hK
  obtain ⟨rfl, hZ, hh⟩ := hP
  have hx := Bd.exec
  have hby := Bd.bytes
  have hlk := Bd.notSynchronized
  have hml : c.maxLocals = 26 := hml0
  have hown : s.vm.findClass "com/example/canopy/canopy/model/RectContainsPinLaw" = some m.cls := findClass_of_methodNamed Bd.named
  have hnm := (name_of_methodNamed Bd.named Bd.method).1
  have X0 : Stand p l e room_1 s m #[(.long q1), (.long q2), (.long q3), (.long q4), (.int p5)] below meth c s₁ [] 0 0 := Stand.of_body Bd
  have e0 : s₁.heap = h0 := by rw [← hh, Bd.state]; rfl
  have N0 := Fr.nil n0
  have K0 : Keep h0 h0 [] := Keep.refl h0 _
  show OutW p e below s room_1.cells room_1.slots (Q0 Z q1 q2 q3 q4 p5 h0 n0) _
  refine OutW.back (fun t k => castTop (ef_0 m q1 q2 q3 q4 p5) k) ?_
  show OutW _ _ _ _ _ _ _ (s₁.setTop (mkF m 0 #[.val (.long q1), .second, .val (.long q2), .second, .val (.long q3), .second, .val (.long q4), .second, .val (.int p5), .unset, .unset, .unset, .unset, .unset, .unset, .unset, .unset, .unset, .unset, .unset, .unset, .unset, .unset, .unset, .unset, .unset] []))
  refine OutW.back (fun t k => XS.lloadN X0.here hx rfl (hb hby at_0) rfl  k) ?_
  show OutW _ _ _ _ _ _ _ (s₁.setTop (mkF m 1 #[.val (.long q1), .second, .val (.long q2), .second, .val (.long q3), .second, .val (.long q4), .second, .val (.int p5), .unset, .unset, .unset, .unset, .unset, .unset, .unset, .unset, .unset, .unset, .unset, .unset, .unset, .unset, .unset, .unset, .unset] [(.long q1)]))
  refine OutW.back (fun t k => XS.l2i X0.here hx rfl (hb hby at_1) rfl k) ?_
  show OutW _ _ _ _ _ _ _ (s₁.setTop (mkF m 2 #[.val (.long q1), .second, .val (.long q2), .second, .val (.long q3), .second, .val (.long q4), .second, .val (.int p5), .unset, .unset, .unset, .unset, .unset, .unset, .unset, .unset, .unset, .unset, .unset, .unset, .unset, .unset, .unset, .unset, .unset] [(.int q1.toInt32)]))
  generalize hv_v1 : q1.toInt32 = v1
  refine OutW.back (fun t k => XS.istore X0.here hx rfl (hb hby at_2) rfl (l' := #[.val (.long q1), .second, .val (.long q2), .second, .val (.long q3), .second, .val (.long q4), .second, .val (.int p5), .val (.int v1), .unset, .unset, .unset, .unset, .unset, .unset, .unset, .unset, .unset, .unset, .unset, .unset, .unset, .unset, .unset, .unset]) rfl k) ?_
  show OutW _ _ _ _ _ _ _ (s₁.setTop (mkF m 4 #[.val (.long q1), .second, .val (.long q2), .second, .val (.long q3), .second, .val (.long q4), .second, .val (.int p5), .val (.int v1), .unset, .unset, .unset, .unset, .unset, .unset, .unset, .unset, .unset, .unset, .unset, .unset, .unset, .unset, .unset, .unset] []))
  refine OutW.back (fun t k => XS.lloadN X0.here hx rfl (hb hby at_4) rfl  k) ?_
  show OutW _ _ _ _ _ _ _ (s₁.setTop (mkF m 5 #[.val (.long q1), .second, .val (.long q2), .second, .val (.long q3), .second, .val (.long q4), .second, .val (.int p5), .val (.int v1), .unset, .unset, .unset, .unset, .unset, .unset, .unset, .unset, .unset, .unset, .unset, .unset, .unset, .unset, .unset, .unset] [(.long q1)]))
  refine OutW.back (fun t k => XS.bipush X0.here hx rfl (hb hby at_5) k) ?_
  show OutW _ _ _ _ _ _ _ (s₁.setTop (mkF m 7 #[.val (.long q1), .second, .val (.long q2), .second, .val (.long q3), .second, .val (.long q4), .second, .val (.int p5), .val (.int v1), .unset, .unset, .unset, .unset, .unset, .unset, .unset, .unset, .unset, .unset, .unset, .unset, .unset, .unset, .unset, .unset] [(.int (32 : Int32)), (.long q1)]))
  refine OutW.back (fun t k => XS.lshr X0.here hx rfl (hb hby at_7) rfl k) ?_
  show OutW _ _ _ _ _ _ _ (s₁.setTop (mkF m 8 #[.val (.long q1), .second, .val (.long q2), .second, .val (.long q3), .second, .val (.long q4), .second, .val (.int p5), .val (.int v1), .unset, .unset, .unset, .unset, .unset, .unset, .unset, .unset, .unset, .unset, .unset, .unset, .unset, .unset, .unset, .unset] [(.long (q1 >>> ((32 : Int32) &&& 0x3f).toInt64))]))
  refine OutW.back (fun t k => XS.l2i X0.here hx rfl (hb hby at_8) rfl k) ?_
  show OutW _ _ _ _ _ _ _ (s₁.setTop (mkF m 9 #[.val (.long q1), .second, .val (.long q2), .second, .val (.long q3), .second, .val (.long q4), .second, .val (.int p5), .val (.int v1), .unset, .unset, .unset, .unset, .unset, .unset, .unset, .unset, .unset, .unset, .unset, .unset, .unset, .unset, .unset, .unset] [(.int (q1 >>> ((32 : Int32) &&& 0x3f).toInt64).toInt32)]))
  generalize hv_v2 : (q1 >>> ((32 : Int32) &&& 0x3f).toInt64).toInt32 = v2
  refine OutW.back (fun t k => XS.istore X0.here hx rfl (hb hby at_9) rfl (l' := #[.val (.long q1), .second, .val (.long q2), .second, .val (.long q3), .second, .val (.long q4), .second, .val (.int p5), .val (.int v1), .val (.int v2), .unset, .unset, .unset, .unset, .unset, .unset, .unset, .unset, .unset, .unset, .unset, .unset, .unset, .unset, .unset]) rfl k) ?_
  show OutW _ _ _ _ _ _ _ (s₁.setTop (mkF m 11 #[.val (.long q1), .second, .val (.long q2), .second, .val (.long q3), .second, .val (.long q4), .second, .val (.int p5), .val (.int v1), .val (.int v2), .unset, .unset, .unset, .unset, .unset, .unset, .unset, .unset, .unset, .unset, .unset, .unset, .unset, .unset, .unset] []))
  refine OutW.back (fun t k => XS.lloadN X0.here hx rfl (hb hby at_11) rfl  k) ?_
  show OutW _ _ _ _ _ _ _ (s₁.setTop (mkF m 12 #[.val (.long q1), .second, .val (.long q2), .second, .val (.long q3), .second, .val (.long q4), .second, .val (.int p5), .val (.int v1), .val (.int v2), .unset, .unset, .unset, .unset, .unset, .unset, .unset, .unset, .unset, .unset, .unset, .unset, .unset, .unset, .unset] [(.long q2)]))
  refine OutW.back (fun t k => XS.l2i X0.here hx rfl (hb hby at_12) rfl k) ?_
  show OutW _ _ _ _ _ _ _ (s₁.setTop (mkF m 13 #[.val (.long q1), .second, .val (.long q2), .second, .val (.long q3), .second, .val (.long q4), .second, .val (.int p5), .val (.int v1), .val (.int v2), .unset, .unset, .unset, .unset, .unset, .unset, .unset, .unset, .unset, .unset, .unset, .unset, .unset, .unset, .unset] [(.int q2.toInt32)]))
  generalize hv_v3 : q2.toInt32 = v3
  refine OutW.back (fun t k => XS.istore X0.here hx rfl (hb hby at_13) rfl (l' := #[.val (.long q1), .second, .val (.long q2), .second, .val (.long q3), .second, .val (.long q4), .second, .val (.int p5), .val (.int v1), .val (.int v2), .val (.int v3), .unset, .unset, .unset, .unset, .unset, .unset, .unset, .unset, .unset, .unset, .unset, .unset, .unset, .unset]) rfl k) ?_
  show OutW _ _ _ _ _ _ _ (s₁.setTop (mkF m 15 #[.val (.long q1), .second, .val (.long q2), .second, .val (.long q3), .second, .val (.long q4), .second, .val (.int p5), .val (.int v1), .val (.int v2), .val (.int v3), .unset, .unset, .unset, .unset, .unset, .unset, .unset, .unset, .unset, .unset, .unset, .unset, .unset, .unset] []))
  refine OutW.back (fun t k => XS.lloadN X0.here hx rfl (hb hby at_15) rfl  k) ?_
  show OutW _ _ _ _ _ _ _ (s₁.setTop (mkF m 16 #[.val (.long q1), .second, .val (.long q2), .second, .val (.long q3), .second, .val (.long q4), .second, .val (.int p5), .val (.int v1), .val (.int v2), .val (.int v3), .unset, .unset, .unset, .unset, .unset, .unset, .unset, .unset, .unset, .unset, .unset, .unset, .unset, .unset] [(.long q2)]))
  refine OutW.back (fun t k => XS.bipush X0.here hx rfl (hb hby at_16) k) ?_
  show OutW _ _ _ _ _ _ _ (s₁.setTop (mkF m 18 #[.val (.long q1), .second, .val (.long q2), .second, .val (.long q3), .second, .val (.long q4), .second, .val (.int p5), .val (.int v1), .val (.int v2), .val (.int v3), .unset, .unset, .unset, .unset, .unset, .unset, .unset, .unset, .unset, .unset, .unset, .unset, .unset, .unset] [(.int (32 : Int32)), (.long q2)]))
  refine OutW.back (fun t k => XS.lshr X0.here hx rfl (hb hby at_18) rfl k) ?_
  show OutW _ _ _ _ _ _ _ (s₁.setTop (mkF m 19 #[.val (.long q1), .second, .val (.long q2), .second, .val (.long q3), .second, .val (.long q4), .second, .val (.int p5), .val (.int v1), .val (.int v2), .val (.int v3), .unset, .unset, .unset, .unset, .unset, .unset, .unset, .unset, .unset, .unset, .unset, .unset, .unset, .unset] [(.long (q2 >>> ((32 : Int32) &&& 0x3f).toInt64))]))
  refine OutW.back (fun t k => XS.l2i X0.here hx rfl (hb hby at_19) rfl k) ?_
  show OutW _ _ _ _ _ _ _ (s₁.setTop (mkF m 20 #[.val (.long q1), .second, .val (.long q2), .second, .val (.long q3), .second, .val (.long q4), .second, .val (.int p5), .val (.int v1), .val (.int v2), .val (.int v3), .unset, .unset, .unset, .unset, .unset, .unset, .unset, .unset, .unset, .unset, .unset, .unset, .unset, .unset] [(.int (q2 >>> ((32 : Int32) &&& 0x3f).toInt64).toInt32)]))
  generalize hv_v4 : (q2 >>> ((32 : Int32) &&& 0x3f).toInt64).toInt32 = v4
  refine OutW.back (fun t k => XS.istore X0.here hx rfl (hb hby at_20) rfl (l' := #[.val (.long q1), .second, .val (.long q2), .second, .val (.long q3), .second, .val (.long q4), .second, .val (.int p5), .val (.int v1), .val (.int v2), .val (.int v3), .val (.int v4), .unset, .unset, .unset, .unset, .unset, .unset, .unset, .unset, .unset, .unset, .unset, .unset, .unset]) rfl k) ?_
  show OutW _ _ _ _ _ _ _ (s₁.setTop (mkF m 22 #[.val (.long q1), .second, .val (.long q2), .second, .val (.long q3), .second, .val (.long q4), .second, .val (.int p5), .val (.int v1), .val (.int v2), .val (.int v3), .val (.int v4), .unset, .unset, .unset, .unset, .unset, .unset, .unset, .unset, .unset, .unset, .unset, .unset, .unset] []))
  refine OutW.back (fun t k => XS.lload X0.here hx rfl (hb hby at_22) rfl  k) ?_
  show OutW _ _ _ _ _ _ _ (s₁.setTop (mkF m 24 #[.val (.long q1), .second, .val (.long q2), .second, .val (.long q3), .second, .val (.long q4), .second, .val (.int p5), .val (.int v1), .val (.int v2), .val (.int v3), .val (.int v4), .unset, .unset, .unset, .unset, .unset, .unset, .unset, .unset, .unset, .unset, .unset, .unset, .unset] [(.long q3)]))
  refine OutW.back (fun t k => XS.l2i X0.here hx rfl (hb hby at_24) rfl k) ?_
  show OutW _ _ _ _ _ _ _ (s₁.setTop (mkF m 25 #[.val (.long q1), .second, .val (.long q2), .second, .val (.long q3), .second, .val (.long q4), .second, .val (.int p5), .val (.int v1), .val (.int v2), .val (.int v3), .val (.int v4), .unset, .unset, .unset, .unset, .unset, .unset, .unset, .unset, .unset, .unset, .unset, .unset, .unset] [(.int q3.toInt32)]))
  generalize hv_v5 : q3.toInt32 = v5
  refine OutW.back (fun t k => XS.istore X0.here hx rfl (hb hby at_25) rfl (l' := #[.val (.long q1), .second, .val (.long q2), .second, .val (.long q3), .second, .val (.long q4), .second, .val (.int p5), .val (.int v1), .val (.int v2), .val (.int v3), .val (.int v4), .val (.int v5), .unset, .unset, .unset, .unset, .unset, .unset, .unset, .unset, .unset, .unset, .unset, .unset]) rfl k) ?_
  show OutW _ _ _ _ _ _ _ (s₁.setTop (mkF m 27 #[.val (.long q1), .second, .val (.long q2), .second, .val (.long q3), .second, .val (.long q4), .second, .val (.int p5), .val (.int v1), .val (.int v2), .val (.int v3), .val (.int v4), .val (.int v5), .unset, .unset, .unset, .unset, .unset, .unset, .unset, .unset, .unset, .unset, .unset, .unset] []))
  refine OutW.back (fun t k => XS.lload X0.here hx rfl (hb hby at_27) rfl  k) ?_
  show OutW _ _ _ _ _ _ _ (s₁.setTop (mkF m 29 #[.val (.long q1), .second, .val (.long q2), .second, .val (.long q3), .second, .val (.long q4), .second, .val (.int p5), .val (.int v1), .val (.int v2), .val (.int v3), .val (.int v4), .val (.int v5), .unset, .unset, .unset, .unset, .unset, .unset, .unset, .unset, .unset, .unset, .unset, .unset] [(.long q3)]))
  refine OutW.back (fun t k => XS.bipush X0.here hx rfl (hb hby at_29) k) ?_
  show OutW _ _ _ _ _ _ _ (s₁.setTop (mkF m 31 #[.val (.long q1), .second, .val (.long q2), .second, .val (.long q3), .second, .val (.long q4), .second, .val (.int p5), .val (.int v1), .val (.int v2), .val (.int v3), .val (.int v4), .val (.int v5), .unset, .unset, .unset, .unset, .unset, .unset, .unset, .unset, .unset, .unset, .unset, .unset] [(.int (32 : Int32)), (.long q3)]))
  refine OutW.back (fun t k => XS.lshr X0.here hx rfl (hb hby at_31) rfl k) ?_
  show OutW _ _ _ _ _ _ _ (s₁.setTop (mkF m 32 #[.val (.long q1), .second, .val (.long q2), .second, .val (.long q3), .second, .val (.long q4), .second, .val (.int p5), .val (.int v1), .val (.int v2), .val (.int v3), .val (.int v4), .val (.int v5), .unset, .unset, .unset, .unset, .unset, .unset, .unset, .unset, .unset, .unset, .unset, .unset] [(.long (q3 >>> ((32 : Int32) &&& 0x3f).toInt64))]))
  refine OutW.back (fun t k => XS.l2i X0.here hx rfl (hb hby at_32) rfl k) ?_
  show OutW _ _ _ _ _ _ _ (s₁.setTop (mkF m 33 #[.val (.long q1), .second, .val (.long q2), .second, .val (.long q3), .second, .val (.long q4), .second, .val (.int p5), .val (.int v1), .val (.int v2), .val (.int v3), .val (.int v4), .val (.int v5), .unset, .unset, .unset, .unset, .unset, .unset, .unset, .unset, .unset, .unset, .unset, .unset] [(.int (q3 >>> ((32 : Int32) &&& 0x3f).toInt64).toInt32)]))
  generalize hv_v6 : (q3 >>> ((32 : Int32) &&& 0x3f).toInt64).toInt32 = v6
  refine OutW.back (fun t k => XS.istore X0.here hx rfl (hb hby at_33) rfl (l' := #[.val (.long q1), .second, .val (.long q2), .second, .val (.long q3), .second, .val (.long q4), .second, .val (.int p5), .val (.int v1), .val (.int v2), .val (.int v3), .val (.int v4), .val (.int v5), .val (.int v6), .unset, .unset, .unset, .unset, .unset, .unset, .unset, .unset, .unset, .unset, .unset]) rfl k) ?_
  show OutW _ _ _ _ _ _ _ (s₁.setTop (mkF m 35 #[.val (.long q1), .second, .val (.long q2), .second, .val (.long q3), .second, .val (.long q4), .second, .val (.int p5), .val (.int v1), .val (.int v2), .val (.int v3), .val (.int v4), .val (.int v5), .val (.int v6), .unset, .unset, .unset, .unset, .unset, .unset, .unset, .unset, .unset, .unset, .unset] []))
  refine OutW.back (fun t k => XS.lload X0.here hx rfl (hb hby at_35) rfl  k) ?_
  show OutW _ _ _ _ _ _ _ (s₁.setTop (mkF m 37 #[.val (.long q1), .second, .val (.long q2), .second, .val (.long q3), .second, .val (.long q4), .second, .val (.int p5), .val (.int v1), .val (.int v2), .val (.int v3), .val (.int v4), .val (.int v5), .val (.int v6), .unset, .unset, .unset, .unset, .unset, .unset, .unset, .unset, .unset, .unset, .unset] [(.long q4)]))
  refine OutW.back (fun t k => XS.l2i X0.here hx rfl (hb hby at_37) rfl k) ?_
  show OutW _ _ _ _ _ _ _ (s₁.setTop (mkF m 38 #[.val (.long q1), .second, .val (.long q2), .second, .val (.long q3), .second, .val (.long q4), .second, .val (.int p5), .val (.int v1), .val (.int v2), .val (.int v3), .val (.int v4), .val (.int v5), .val (.int v6), .unset, .unset, .unset, .unset, .unset, .unset, .unset, .unset, .unset, .unset, .unset] [(.int q4.toInt32)]))
  generalize hv_v7 : q4.toInt32 = v7
  refine OutW.back (fun t k => XS.istore X0.here hx rfl (hb hby at_38) rfl (l' := #[.val (.long q1), .second, .val (.long q2), .second, .val (.long q3), .second, .val (.long q4), .second, .val (.int p5), .val (.int v1), .val (.int v2), .val (.int v3), .val (.int v4), .val (.int v5), .val (.int v6), .val (.int v7), .unset, .unset, .unset, .unset, .unset, .unset, .unset, .unset, .unset, .unset]) rfl k) ?_
  show OutW _ _ _ _ _ _ _ (s₁.setTop (mkF m 40 #[.val (.long q1), .second, .val (.long q2), .second, .val (.long q3), .second, .val (.long q4), .second, .val (.int p5), .val (.int v1), .val (.int v2), .val (.int v3), .val (.int v4), .val (.int v5), .val (.int v6), .val (.int v7), .unset, .unset, .unset, .unset, .unset, .unset, .unset, .unset, .unset, .unset] []))
  refine OutW.back (fun t k => XS.lload X0.here hx rfl (hb hby at_40) rfl  k) ?_
  show OutW _ _ _ _ _ _ _ (s₁.setTop (mkF m 42 #[.val (.long q1), .second, .val (.long q2), .second, .val (.long q3), .second, .val (.long q4), .second, .val (.int p5), .val (.int v1), .val (.int v2), .val (.int v3), .val (.int v4), .val (.int v5), .val (.int v6), .val (.int v7), .unset, .unset, .unset, .unset, .unset, .unset, .unset, .unset, .unset, .unset] [(.long q4)]))
  refine OutW.back (fun t k => XS.bipush X0.here hx rfl (hb hby at_42) k) ?_
  show OutW _ _ _ _ _ _ _ (s₁.setTop (mkF m 44 #[.val (.long q1), .second, .val (.long q2), .second, .val (.long q3), .second, .val (.long q4), .second, .val (.int p5), .val (.int v1), .val (.int v2), .val (.int v3), .val (.int v4), .val (.int v5), .val (.int v6), .val (.int v7), .unset, .unset, .unset, .unset, .unset, .unset, .unset, .unset, .unset, .unset] [(.int (32 : Int32)), (.long q4)]))
  refine OutW.back (fun t k => XS.lshr X0.here hx rfl (hb hby at_44) rfl k) ?_
  show OutW _ _ _ _ _ _ _ (s₁.setTop (mkF m 45 #[.val (.long q1), .second, .val (.long q2), .second, .val (.long q3), .second, .val (.long q4), .second, .val (.int p5), .val (.int v1), .val (.int v2), .val (.int v3), .val (.int v4), .val (.int v5), .val (.int v6), .val (.int v7), .unset, .unset, .unset, .unset, .unset, .unset, .unset, .unset, .unset, .unset] [(.long (q4 >>> ((32 : Int32) &&& 0x3f).toInt64))]))
  refine OutW.back (fun t k => XS.l2i X0.here hx rfl (hb hby at_45) rfl k) ?_
  show OutW _ _ _ _ _ _ _ (s₁.setTop (mkF m 46 #[.val (.long q1), .second, .val (.long q2), .second, .val (.long q3), .second, .val (.long q4), .second, .val (.int p5), .val (.int v1), .val (.int v2), .val (.int v3), .val (.int v4), .val (.int v5), .val (.int v6), .val (.int v7), .unset, .unset, .unset, .unset, .unset, .unset, .unset, .unset, .unset, .unset] [(.int (q4 >>> ((32 : Int32) &&& 0x3f).toInt64).toInt32)]))
  generalize hv_v8 : (q4 >>> ((32 : Int32) &&& 0x3f).toInt64).toInt32 = v8
  refine OutW.back (fun t k => XS.istore X0.here hx rfl (hb hby at_46) rfl (l' := #[.val (.long q1), .second, .val (.long q2), .second, .val (.long q3), .second, .val (.long q4), .second, .val (.int p5), .val (.int v1), .val (.int v2), .val (.int v3), .val (.int v4), .val (.int v5), .val (.int v6), .val (.int v7), .val (.int v8), .unset, .unset, .unset, .unset, .unset, .unset, .unset, .unset, .unset]) rfl k) ?_
  show OutW _ _ _ _ _ _ _ (s₁.setTop (mkF m 48 #[.val (.long q1), .second, .val (.long q2), .second, .val (.long q3), .second, .val (.long q4), .second, .val (.int p5), .val (.int v1), .val (.int v2), .val (.int v3), .val (.int v4), .val (.int v5), .val (.int v6), .val (.int v7), .val (.int v8), .unset, .unset, .unset, .unset, .unset, .unset, .unset, .unset, .unset] []))
  refine OutW.back (fun t k => XS.iload X0.here hx rfl (hb hby at_48) rfl  k) ?_
  show OutW _ _ _ _ _ _ _ (s₁.setTop (mkF m 50 #[.val (.long q1), .second, .val (.long q2), .second, .val (.long q3), .second, .val (.long q4), .second, .val (.int p5), .val (.int v1), .val (.int v2), .val (.int v3), .val (.int v4), .val (.int v5), .val (.int v6), .val (.int v7), .val (.int v8), .unset, .unset, .unset, .unset, .unset, .unset, .unset, .unset, .unset] [(.int p5)]))
  refine OutW.back (fun t k => XS.iconst X0.here hx rfl (hb hby at_50) k) ?_
  show OutW _ _ _ _ _ _ _ (s₁.setTop (mkF m 51 #[.val (.long q1), .second, .val (.long q2), .second, .val (.long q3), .second, .val (.long q4), .second, .val (.int p5), .val (.int v1), .val (.int v2), .val (.int v3), .val (.int v4), .val (.int v5), .val (.int v6), .val (.int v7), .val (.int v8), .unset, .unset, .unset, .unset, .unset, .unset, .unset, .unset, .unset] [(.int (1 : Int32)), (.int p5)]))
  refine OutW.back (fun t k => XS.iand X0.here hx rfl (hb hby at_51) rfl k) ?_
  show OutW _ _ _ _ _ _ _ (s₁.setTop (mkF m 52 #[.val (.long q1), .second, .val (.long q2), .second, .val (.long q3), .second, .val (.long q4), .second, .val (.int p5), .val (.int v1), .val (.int v2), .val (.int v3), .val (.int v4), .val (.int v5), .val (.int v6), .val (.int v7), .val (.int v8), .unset, .unset, .unset, .unset, .unset, .unset, .unset, .unset, .unset] [(.int (p5 &&& (1 : Int32)))]))
  obtain ⟨v10, hv_v10⟩ : ∃ z : Int32, z = (if (p5 &&& (1 : Int32)) = (0 : Int32) then (0 : Int32) else (1 : Int32)) := ⟨_, rfl⟩
  have j11 : ∀ t, Steps p.tables e below (s₁.setTop (mkF m 60 #[.val (.long q1), .second, .val (.long q2), .second, .val (.long q3), .second, .val (.long q4), .second, .val (.int p5), .val (.int v1), .val (.int v2), .val (.int v3), .val (.int v4), .val (.int v5), .val (.int v6), .val (.int v7), .val (.int v8), .unset, .unset, .unset, .unset, .unset, .unset, .unset, .unset, .unset] [(.int v10)])) t → Steps p.tables e below (s₁.setTop (mkF m 52 #[.val (.long q1), .second, .val (.long q2), .second, .val (.long q3), .second, .val (.long q4), .second, .val (.int p5), .val (.int v1), .val (.int v2), .val (.int v3), .val (.int v4), .val (.int v5), .val (.int v6), .val (.int v7), .val (.int v8), .unset, .unset, .unset, .unset, .unset, .unset, .unset, .unset, .unset] [(.int (p5 &&& (1 : Int32)))])) t := by
    intro t k
    by_cases c52_12 : (p5 &&& (1 : Int32)) = (0 : Int32)
    · skip
      refine XS.ifYes X0.here hx rfl (pc0 := 52) (pc' := 59) rfl (hb hby at_52) rfl ((if0 _ _).trans (teq c52_12).1) (by decide) (by decide) ?_
      show Steps p.tables e below (s₁.setTop (mkF m 59 #[.val (.long q1), .second, .val (.long q2), .second, .val (.long q3), .second, .val (.long q4), .second, .val (.int p5), .val (.int v1), .val (.int v2), .val (.int v3), .val (.int v4), .val (.int v5), .val (.int v6), .val (.int v7), .val (.int v8), .unset, .unset, .unset, .unset, .unset, .unset, .unset, .unset, .unset] [])) t
      refine XS.iconst X0.here hx rfl (hb hby at_59) ?_
      show Steps p.tables e below (s₁.setTop (mkF m 60 #[.val (.long q1), .second, .val (.long q2), .second, .val (.long q3), .second, .val (.long q4), .second, .val (.int p5), .val (.int v1), .val (.int v2), .val (.int v3), .val (.int v4), .val (.int v5), .val (.int v6), .val (.int v7), .val (.int v8), .unset, .unset, .unset, .unset, .unset, .unset, .unset, .unset, .unset] [(.int (0 : Int32))])) t
      have q_v10 : v10 = (0 : Int32) := by rw [hv_v10, if_pos c52_12]
      rw [q_v10] at k
      exact k
    · skip
      refine XS.ifNo X0.here hx rfl (hb hby at_52) rfl ((if0 _ _).trans (feq c52_12).1) ?_
      show Steps p.tables e below (s₁.setTop (mkF m 55 #[.val (.long q1), .second, .val (.long q2), .second, .val (.long q3), .second, .val (.long q4), .second, .val (.int p5), .val (.int v1), .val (.int v2), .val (.int v3), .val (.int v4), .val (.int v5), .val (.int v6), .val (.int v7), .val (.int v8), .unset, .unset, .unset, .unset, .unset, .unset, .unset, .unset, .unset] [])) t
      refine XS.iconst X0.here hx rfl (hb hby at_55) ?_
      show Steps p.tables e below (s₁.setTop (mkF m 56 #[.val (.long q1), .second, .val (.long q2), .second, .val (.long q3), .second, .val (.long q4), .second, .val (.int p5), .val (.int v1), .val (.int v2), .val (.int v3), .val (.int v4), .val (.int v5), .val (.int v6), .val (.int v7), .val (.int v8), .unset, .unset, .unset, .unset, .unset, .unset, .unset, .unset, .unset] [(.int (1 : Int32))])) t
      refine XS.goto X0.here hx rfl (pc0 := 56) (pc' := 60) rfl (hb hby at_56) (by decide) (by decide) ?_
      show Steps p.tables e below (s₁.setTop (mkF m 60 #[.val (.long q1), .second, .val (.long q2), .second, .val (.long q3), .second, .val (.long q4), .second, .val (.int p5), .val (.int v1), .val (.int v2), .val (.int v3), .val (.int v4), .val (.int v5), .val (.int v6), .val (.int v7), .val (.int v8), .unset, .unset, .unset, .unset, .unset, .unset, .unset, .unset, .unset] [(.int (1 : Int32))])) t
      have q_v10 : v10 = (1 : Int32) := by rw [hv_v10, if_neg c52_12]
      rw [q_v10] at k
      exact k
  refine OutW.back j11 ?_
  show OutW _ _ _ _ _ _ _ (s₁.setTop (mkF m 60 #[.val (.long q1), .second, .val (.long q2), .second, .val (.long q3), .second, .val (.long q4), .second, .val (.int p5), .val (.int v1), .val (.int v2), .val (.int v3), .val (.int v4), .val (.int v5), .val (.int v6), .val (.int v7), .val (.int v8), .unset, .unset, .unset, .unset, .unset, .unset, .unset, .unset, .unset] [(.int v10)]))
  refine OutW.back (fun t k => XS.istore X0.here hx rfl (hb hby at_60) rfl (l' := #[.val (.long q1), .second, .val (.long q2), .second, .val (.long q3), .second, .val (.long q4), .second, .val (.int p5), .val (.int v1), .val (.int v2), .val (.int v3), .val (.int v4), .val (.int v5), .val (.int v6), .val (.int v7), .val (.int v8), .val (.int v10), .unset, .unset, .unset, .unset, .unset, .unset, .unset, .unset]) rfl k) ?_
  show OutW _ _ _ _ _ _ _ (s₁.setTop (mkF m 62 #[.val (.long q1), .second, .val (.long q2), .second, .val (.long q3), .second, .val (.long q4), .second, .val (.int p5), .val (.int v1), .val (.int v2), .val (.int v3), .val (.int v4), .val (.int v5), .val (.int v6), .val (.int v7), .val (.int v8), .val (.int v10), .unset, .unset, .unset, .unset, .unset, .unset, .unset, .unset] []))
  refine OutW.back (fun t k => XS.iload X0.here hx rfl (hb hby at_62) rfl  k) ?_
  show OutW _ _ _ _ _ _ _ (s₁.setTop (mkF m 64 #[.val (.long q1), .second, .val (.long q2), .second, .val (.long q3), .second, .val (.long q4), .second, .val (.int p5), .val (.int v1), .val (.int v2), .val (.int v3), .val (.int v4), .val (.int v5), .val (.int v6), .val (.int v7), .val (.int v8), .val (.int v10), .unset, .unset, .unset, .unset, .unset, .unset, .unset, .unset] [(.int v10)]))
  refine OutW.back (fun t k => XS.iload X0.here hx rfl (hb hby at_64) rfl  k) ?_
  show OutW _ _ _ _ _ _ _ (s₁.setTop (mkF m 66 #[.val (.long q1), .second, .val (.long q2), .second, .val (.long q3), .second, .val (.long q4), .second, .val (.int p5), .val (.int v1), .val (.int v2), .val (.int v3), .val (.int v4), .val (.int v5), .val (.int v6), .val (.int v7), .val (.int v8), .val (.int v10), .unset, .unset, .unset, .unset, .unset, .unset, .unset, .unset] [(.int v1), (.int v10)]))
  refine OutW.back (fun t k => XS.iload X0.here hx rfl (hb hby at_66) rfl  k) ?_
  show OutW _ _ _ _ _ _ _ (s₁.setTop (mkF m 68 #[.val (.long q1), .second, .val (.long q2), .second, .val (.long q3), .second, .val (.long q4), .second, .val (.int p5), .val (.int v1), .val (.int v2), .val (.int v3), .val (.int v4), .val (.int v5), .val (.int v6), .val (.int v7), .val (.int v8), .val (.int v10), .unset, .unset, .unset, .unset, .unset, .unset, .unset, .unset] [(.int v5), (.int v1), (.int v10)]))
  obtain ⟨_, _, ⟨T13, L13, k13, n13⟩, -, X13, ⟨Lc13, hQ13, l13, y13, z13⟩, st13⟩ := Jvm.LawKit.callS X0 hx (y := (⟨"com/example/canopy/canopy/model/RectContainsPinLaw", "edge", "(ZII)I"⟩ : MethodName)) hown (mvT hZ (hw _ (List.mem_of_getElem? (i := 0) rfl))) (mvT hZ (hw _ (List.mem_of_getElem? (i := 1) rfl))) (mvT hZ (hw _ (List.mem_of_getElem? (i := 2) rfl))) (mvT hZ (hw _ (List.mem_of_getElem? (i := 3) rfl))) (by decide) (backOf (W := 0) (rm1 l Z a0 hw [] v10 v1 v5 h0 n0 Z0) hZ (hw _ (List.mem_of_getElem? (i := 3) rfl)) (hw _ (List.mem_of_getElem? (i := 2) rfl)) (by decide) (by decide)) (g := (mkF m 68 #[.val (.long q1), .second, .val (.long q2), .second, .val (.long q3), .second, .val (.long q4), .second, .val (.int p5), .val (.int v1), .val (.int v2), .val (.int v3), .val (.int v4), .val (.int v5), .val (.int v6), .val (.int v7), .val (.int v8), .val (.int v10), .unset, .unset, .unset, .unset, .unset, .unset, .unset, .unset] [(.int v5), (.int v1), (.int v10)])) rfl (by rw [hml]; rfl) (argsL := [(.int v10), (.int v1), (.int v5)]) (rest := []) (lenOf pd_0 rfl) rfl (by show 2 * 0 + _ ≤ _; exact Nat.le_of_eq rfl) (hb hby at_68) (fun _ _ => ⟨rfl, e0, (by decide : 0 + 0 ≤ _), (by decide : 0 + 0 ≤ _)⟩)
  dsimp only [Pt.U, Pt.locs, Pt.cells, Pt.slots] at X13 l13 y13 z13 st13 hQ13
  subst l13 y13 z13
  obtain ⟨rfl, Nq13, e13⟩ := hQ13
  have N13 := Fr.app N0 Nq13
  refine OutW.back st13 ?_
  show OutW _ _ _ _ _ _ _ (T13.setTop (mkF m 71 #[.val (.long q1), .second, .val (.long q2), .second, .val (.long q3), .second, .val (.long q4), .second, .val (.int p5), .val (.int v1), .val (.int v2), .val (.int v3), .val (.int v4), .val (.int v5), .val (.int v6), .val (.int v7), .val (.int v8), .val (.int v10), .unset, .unset, .unset, .unset, .unset, .unset, .unset, .unset] [(.int (edgeF_0 v10 v1 v5))]))
  generalize hv_v14 : (edgeF_0 v10 v1 v5) = v14
  refine OutW.back (fun t k => XS.istore X13.here hx rfl (hb hby at_71) rfl (l' := #[.val (.long q1), .second, .val (.long q2), .second, .val (.long q3), .second, .val (.long q4), .second, .val (.int p5), .val (.int v1), .val (.int v2), .val (.int v3), .val (.int v4), .val (.int v5), .val (.int v6), .val (.int v7), .val (.int v8), .val (.int v10), .val (.int v14), .unset, .unset, .unset, .unset, .unset, .unset, .unset]) rfl k) ?_
  show OutW _ _ _ _ _ _ _ (T13.setTop (mkF m 73 #[.val (.long q1), .second, .val (.long q2), .second, .val (.long q3), .second, .val (.long q4), .second, .val (.int p5), .val (.int v1), .val (.int v2), .val (.int v3), .val (.int v4), .val (.int v5), .val (.int v6), .val (.int v7), .val (.int v8), .val (.int v10), .val (.int v14), .unset, .unset, .unset, .unset, .unset, .unset, .unset] []))
  refine OutW.back (fun t k => XS.iload X13.here hx rfl (hb hby at_73) rfl  k) ?_
  show OutW _ _ _ _ _ _ _ (T13.setTop (mkF m 75 #[.val (.long q1), .second, .val (.long q2), .second, .val (.long q3), .second, .val (.long q4), .second, .val (.int p5), .val (.int v1), .val (.int v2), .val (.int v3), .val (.int v4), .val (.int v5), .val (.int v6), .val (.int v7), .val (.int v8), .val (.int v10), .val (.int v14), .unset, .unset, .unset, .unset, .unset, .unset, .unset] [(.int v10)]))
  refine OutW.back (fun t k => XS.iload X13.here hx rfl (hb hby at_75) rfl  k) ?_
  show OutW _ _ _ _ _ _ _ (T13.setTop (mkF m 77 #[.val (.long q1), .second, .val (.long q2), .second, .val (.long q3), .second, .val (.long q4), .second, .val (.int p5), .val (.int v1), .val (.int v2), .val (.int v3), .val (.int v4), .val (.int v5), .val (.int v6), .val (.int v7), .val (.int v8), .val (.int v10), .val (.int v14), .unset, .unset, .unset, .unset, .unset, .unset, .unset] [(.int v2), (.int v10)]))
  refine OutW.back (fun t k => XS.iload X13.here hx rfl (hb hby at_77) rfl  k) ?_
  show OutW _ _ _ _ _ _ _ (T13.setTop (mkF m 79 #[.val (.long q1), .second, .val (.long q2), .second, .val (.long q3), .second, .val (.long q4), .second, .val (.int p5), .val (.int v1), .val (.int v2), .val (.int v3), .val (.int v4), .val (.int v5), .val (.int v6), .val (.int v7), .val (.int v8), .val (.int v10), .val (.int v14), .unset, .unset, .unset, .unset, .unset, .unset, .unset] [(.int v6), (.int v2), (.int v10)]))
  obtain ⟨_, _, ⟨T15, L15, k15, n15⟩, -, X15, ⟨Lc15, hQ15, l15, y15, z15⟩, st15⟩ := Jvm.LawKit.callS X13 hx (y := (⟨"com/example/canopy/canopy/model/RectContainsPinLaw", "edge", "(ZII)I"⟩ : MethodName)) hown (mvT hZ (hw _ (List.mem_of_getElem? (i := 0) rfl))) (mvT hZ (hw _ (List.mem_of_getElem? (i := 1) rfl))) (mvT hZ (hw _ (List.mem_of_getElem? (i := 2) rfl))) (mvT hZ (hw _ (List.mem_of_getElem? (i := 3) rfl))) (by decide) (backOf (W := 0) (rm1 l Z a0 hw [] v10 v2 v6 h0 n0 Z0) hZ (hw _ (List.mem_of_getElem? (i := 3) rfl)) (hw _ (List.mem_of_getElem? (i := 2) rfl)) (by decide) (by decide)) (g := (mkF m 79 #[.val (.long q1), .second, .val (.long q2), .second, .val (.long q3), .second, .val (.long q4), .second, .val (.int p5), .val (.int v1), .val (.int v2), .val (.int v3), .val (.int v4), .val (.int v5), .val (.int v6), .val (.int v7), .val (.int v8), .val (.int v10), .val (.int v14), .unset, .unset, .unset, .unset, .unset, .unset, .unset] [(.int v6), (.int v2), (.int v10)])) rfl (by rw [hml]; rfl) (argsL := [(.int v10), (.int v2), (.int v6)]) (rest := []) (lenOf pd_0 rfl) rfl (by show 2 * 0 + _ ≤ _; exact Nat.le_of_eq rfl) (hb hby at_79) (fun _ _ => ⟨rfl, e13, (by decide : 0 + 0 ≤ _), (by decide : 0 + 0 ≤ _)⟩)
  dsimp only [Pt.U, Pt.locs, Pt.cells, Pt.slots] at X15 l15 y15 z15 st15 hQ15
  subst l15 y15 z15
  obtain ⟨rfl, Nq15, e15⟩ := hQ15
  have N15 := Fr.app N13 Nq15
  refine OutW.back st15 ?_
  show OutW _ _ _ _ _ _ _ (T15.setTop (mkF m 82 #[.val (.long q1), .second, .val (.long q2), .second, .val (.long q3), .second, .val (.long q4), .second, .val (.int p5), .val (.int v1), .val (.int v2), .val (.int v3), .val (.int v4), .val (.int v5), .val (.int v6), .val (.int v7), .val (.int v8), .val (.int v10), .val (.int v14), .unset, .unset, .unset, .unset, .unset, .unset, .unset] [(.int (edgeF_0 v10 v2 v6))]))
  generalize hv_v16 : (edgeF_0 v10 v2 v6) = v16
  refine OutW.back (fun t k => XS.istore X15.here hx rfl (hb hby at_82) rfl (l' := #[.val (.long q1), .second, .val (.long q2), .second, .val (.long q3), .second, .val (.long q4), .second, .val (.int p5), .val (.int v1), .val (.int v2), .val (.int v3), .val (.int v4), .val (.int v5), .val (.int v6), .val (.int v7), .val (.int v8), .val (.int v10), .val (.int v14), .val (.int v16), .unset, .unset, .unset, .unset, .unset, .unset]) rfl k) ?_
  show OutW _ _ _ _ _ _ _ (T15.setTop (mkF m 84 #[.val (.long q1), .second, .val (.long q2), .second, .val (.long q3), .second, .val (.long q4), .second, .val (.int p5), .val (.int v1), .val (.int v2), .val (.int v3), .val (.int v4), .val (.int v5), .val (.int v6), .val (.int v7), .val (.int v8), .val (.int v10), .val (.int v14), .val (.int v16), .unset, .unset, .unset, .unset, .unset, .unset] []))
  refine OutW.back (fun t k => XS.iload X15.here hx rfl (hb hby at_84) rfl  k) ?_
  show OutW _ _ _ _ _ _ _ (T15.setTop (mkF m 86 #[.val (.long q1), .second, .val (.long q2), .second, .val (.long q3), .second, .val (.long q4), .second, .val (.int p5), .val (.int v1), .val (.int v2), .val (.int v3), .val (.int v4), .val (.int v5), .val (.int v6), .val (.int v7), .val (.int v8), .val (.int v10), .val (.int v14), .val (.int v16), .unset, .unset, .unset, .unset, .unset, .unset] [(.int v10)]))
  refine OutW.back (fun t k => XS.iload X15.here hx rfl (hb hby at_86) rfl  k) ?_
  show OutW _ _ _ _ _ _ _ (T15.setTop (mkF m 88 #[.val (.long q1), .second, .val (.long q2), .second, .val (.long q3), .second, .val (.long q4), .second, .val (.int p5), .val (.int v1), .val (.int v2), .val (.int v3), .val (.int v4), .val (.int v5), .val (.int v6), .val (.int v7), .val (.int v8), .val (.int v10), .val (.int v14), .val (.int v16), .unset, .unset, .unset, .unset, .unset, .unset] [(.int v3), (.int v10)]))
  refine OutW.back (fun t k => XS.iload X15.here hx rfl (hb hby at_88) rfl  k) ?_
  show OutW _ _ _ _ _ _ _ (T15.setTop (mkF m 90 #[.val (.long q1), .second, .val (.long q2), .second, .val (.long q3), .second, .val (.long q4), .second, .val (.int p5), .val (.int v1), .val (.int v2), .val (.int v3), .val (.int v4), .val (.int v5), .val (.int v6), .val (.int v7), .val (.int v8), .val (.int v10), .val (.int v14), .val (.int v16), .unset, .unset, .unset, .unset, .unset, .unset] [(.int v7), (.int v3), (.int v10)]))
  obtain ⟨_, _, ⟨T17, L17, k17, n17⟩, -, X17, ⟨Lc17, hQ17, l17, y17, z17⟩, st17⟩ := Jvm.LawKit.callS X15 hx (y := (⟨"com/example/canopy/canopy/model/RectContainsPinLaw", "edge", "(ZII)I"⟩ : MethodName)) hown (mvT hZ (hw _ (List.mem_of_getElem? (i := 0) rfl))) (mvT hZ (hw _ (List.mem_of_getElem? (i := 1) rfl))) (mvT hZ (hw _ (List.mem_of_getElem? (i := 2) rfl))) (mvT hZ (hw _ (List.mem_of_getElem? (i := 3) rfl))) (by decide) (backOf (W := 0) (rm1 l Z a0 hw [] v10 v3 v7 h0 n0 Z0) hZ (hw _ (List.mem_of_getElem? (i := 3) rfl)) (hw _ (List.mem_of_getElem? (i := 2) rfl)) (by decide) (by decide)) (g := (mkF m 90 #[.val (.long q1), .second, .val (.long q2), .second, .val (.long q3), .second, .val (.long q4), .second, .val (.int p5), .val (.int v1), .val (.int v2), .val (.int v3), .val (.int v4), .val (.int v5), .val (.int v6), .val (.int v7), .val (.int v8), .val (.int v10), .val (.int v14), .val (.int v16), .unset, .unset, .unset, .unset, .unset, .unset] [(.int v7), (.int v3), (.int v10)])) rfl (by rw [hml]; rfl) (argsL := [(.int v10), (.int v3), (.int v7)]) (rest := []) (lenOf pd_0 rfl) rfl (by show 2 * 0 + _ ≤ _; exact Nat.le_of_eq rfl) (hb hby at_90) (fun _ _ => ⟨rfl, e15, (by decide : 0 + 0 ≤ _), (by decide : 0 + 0 ≤ _)⟩)
  dsimp only [Pt.U, Pt.locs, Pt.cells, Pt.slots] at X17 l17 y17 z17 st17 hQ17
  subst l17 y17 z17
  obtain ⟨rfl, Nq17, e17⟩ := hQ17
  have N17 := Fr.app N15 Nq17
  refine OutW.back st17 ?_
  show OutW _ _ _ _ _ _ _ (T17.setTop (mkF m 93 #[.val (.long q1), .second, .val (.long q2), .second, .val (.long q3), .second, .val (.long q4), .second, .val (.int p5), .val (.int v1), .val (.int v2), .val (.int v3), .val (.int v4), .val (.int v5), .val (.int v6), .val (.int v7), .val (.int v8), .val (.int v10), .val (.int v14), .val (.int v16), .unset, .unset, .unset, .unset, .unset, .unset] [(.int (edgeF_0 v10 v3 v7))]))
  generalize hv_v18 : (edgeF_0 v10 v3 v7) = v18
  refine OutW.back (fun t k => XS.istore X17.here hx rfl (hb hby at_93) rfl (l' := #[.val (.long q1), .second, .val (.long q2), .second, .val (.long q3), .second, .val (.long q4), .second, .val (.int p5), .val (.int v1), .val (.int v2), .val (.int v3), .val (.int v4), .val (.int v5), .val (.int v6), .val (.int v7), .val (.int v8), .val (.int v10), .val (.int v14), .val (.int v16), .val (.int v18), .unset, .unset, .unset, .unset, .unset]) rfl k) ?_
  show OutW _ _ _ _ _ _ _ (T17.setTop (mkF m 95 #[.val (.long q1), .second, .val (.long q2), .second, .val (.long q3), .second, .val (.long q4), .second, .val (.int p5), .val (.int v1), .val (.int v2), .val (.int v3), .val (.int v4), .val (.int v5), .val (.int v6), .val (.int v7), .val (.int v8), .val (.int v10), .val (.int v14), .val (.int v16), .val (.int v18), .unset, .unset, .unset, .unset, .unset] []))
  refine OutW.back (fun t k => XS.iload X17.here hx rfl (hb hby at_95) rfl  k) ?_
  show OutW _ _ _ _ _ _ _ (T17.setTop (mkF m 97 #[.val (.long q1), .second, .val (.long q2), .second, .val (.long q3), .second, .val (.long q4), .second, .val (.int p5), .val (.int v1), .val (.int v2), .val (.int v3), .val (.int v4), .val (.int v5), .val (.int v6), .val (.int v7), .val (.int v8), .val (.int v10), .val (.int v14), .val (.int v16), .val (.int v18), .unset, .unset, .unset, .unset, .unset] [(.int v10)]))
  refine OutW.back (fun t k => XS.iload X17.here hx rfl (hb hby at_97) rfl  k) ?_
  show OutW _ _ _ _ _ _ _ (T17.setTop (mkF m 99 #[.val (.long q1), .second, .val (.long q2), .second, .val (.long q3), .second, .val (.long q4), .second, .val (.int p5), .val (.int v1), .val (.int v2), .val (.int v3), .val (.int v4), .val (.int v5), .val (.int v6), .val (.int v7), .val (.int v8), .val (.int v10), .val (.int v14), .val (.int v16), .val (.int v18), .unset, .unset, .unset, .unset, .unset] [(.int v4), (.int v10)]))
  refine OutW.back (fun t k => XS.iload X17.here hx rfl (hb hby at_99) rfl  k) ?_
  show OutW _ _ _ _ _ _ _ (T17.setTop (mkF m 101 #[.val (.long q1), .second, .val (.long q2), .second, .val (.long q3), .second, .val (.long q4), .second, .val (.int p5), .val (.int v1), .val (.int v2), .val (.int v3), .val (.int v4), .val (.int v5), .val (.int v6), .val (.int v7), .val (.int v8), .val (.int v10), .val (.int v14), .val (.int v16), .val (.int v18), .unset, .unset, .unset, .unset, .unset] [(.int v8), (.int v4), (.int v10)]))
  obtain ⟨_, _, ⟨T19, L19, k19, n19⟩, -, X19, ⟨Lc19, hQ19, l19, y19, z19⟩, st19⟩ := Jvm.LawKit.callS X17 hx (y := (⟨"com/example/canopy/canopy/model/RectContainsPinLaw", "edge", "(ZII)I"⟩ : MethodName)) hown (mvT hZ (hw _ (List.mem_of_getElem? (i := 0) rfl))) (mvT hZ (hw _ (List.mem_of_getElem? (i := 1) rfl))) (mvT hZ (hw _ (List.mem_of_getElem? (i := 2) rfl))) (mvT hZ (hw _ (List.mem_of_getElem? (i := 3) rfl))) (by decide) (backOf (W := 0) (rm1 l Z a0 hw [] v10 v4 v8 h0 n0 Z0) hZ (hw _ (List.mem_of_getElem? (i := 3) rfl)) (hw _ (List.mem_of_getElem? (i := 2) rfl)) (by decide) (by decide)) (g := (mkF m 101 #[.val (.long q1), .second, .val (.long q2), .second, .val (.long q3), .second, .val (.long q4), .second, .val (.int p5), .val (.int v1), .val (.int v2), .val (.int v3), .val (.int v4), .val (.int v5), .val (.int v6), .val (.int v7), .val (.int v8), .val (.int v10), .val (.int v14), .val (.int v16), .val (.int v18), .unset, .unset, .unset, .unset, .unset] [(.int v8), (.int v4), (.int v10)])) rfl (by rw [hml]; rfl) (argsL := [(.int v10), (.int v4), (.int v8)]) (rest := []) (lenOf pd_0 rfl) rfl (by show 2 * 0 + _ ≤ _; exact Nat.le_of_eq rfl) (hb hby at_101) (fun _ _ => ⟨rfl, e17, (by decide : 0 + 0 ≤ _), (by decide : 0 + 0 ≤ _)⟩)
  dsimp only [Pt.U, Pt.locs, Pt.cells, Pt.slots] at X19 l19 y19 z19 st19 hQ19
  subst l19 y19 z19
  obtain ⟨rfl, Nq19, e19⟩ := hQ19
  have N19 := Fr.app N17 Nq19
  refine OutW.back st19 ?_
  show OutW _ _ _ _ _ _ _ (T19.setTop (mkF m 104 #[.val (.long q1), .second, .val (.long q2), .second, .val (.long q3), .second, .val (.long q4), .second, .val (.int p5), .val (.int v1), .val (.int v2), .val (.int v3), .val (.int v4), .val (.int v5), .val (.int v6), .val (.int v7), .val (.int v8), .val (.int v10), .val (.int v14), .val (.int v16), .val (.int v18), .unset, .unset, .unset, .unset, .unset] [(.int (edgeF_0 v10 v4 v8))]))
  generalize hv_v20 : (edgeF_0 v10 v4 v8) = v20
  refine OutW.back (fun t k => XS.istore X19.here hx rfl (hb hby at_104) rfl (l' := #[.val (.long q1), .second, .val (.long q2), .second, .val (.long q3), .second, .val (.long q4), .second, .val (.int p5), .val (.int v1), .val (.int v2), .val (.int v3), .val (.int v4), .val (.int v5), .val (.int v6), .val (.int v7), .val (.int v8), .val (.int v10), .val (.int v14), .val (.int v16), .val (.int v18), .val (.int v20), .unset, .unset, .unset, .unset]) rfl k) ?_
  show OutW _ _ _ _ _ _ _ (T19.setTop (mkF m 106 #[.val (.long q1), .second, .val (.long q2), .second, .val (.long q3), .second, .val (.long q4), .second, .val (.int p5), .val (.int v1), .val (.int v2), .val (.int v3), .val (.int v4), .val (.int v5), .val (.int v6), .val (.int v7), .val (.int v8), .val (.int v10), .val (.int v14), .val (.int v16), .val (.int v18), .val (.int v20), .unset, .unset, .unset, .unset] []))
  obtain ⟨T21, h21, X21, e21, E21, A21, D21, -, st21⟩ := newO X19 hx hZ hown (hw _ (List.mem_of_getElem? (i := 4) rfl)) (hw _ (List.mem_of_getElem? (i := 5) rfl)) (hw _ (List.mem_of_getElem? (i := 6) rfl)) e19 (g := (mkF m 106 #[.val (.long q1), .second, .val (.long q2), .second, .val (.long q3), .second, .val (.long q4), .second, .val (.int p5), .val (.int v1), .val (.int v2), .val (.int v3), .val (.int v4), .val (.int v5), .val (.int v6), .val (.int v7), .val (.int v8), .val (.int v10), .val (.int v14), .val (.int v16), .val (.int v18), .val (.int v20), .unset, .unset, .unset, .unset] [])) rfl (hb hby at_106) (by decide) (by decide)
  obtain ⟨b21, g21⟩ : ∃ z, z = h0.size := ⟨_, rfl⟩
  rw [← g21] at A21 D21 st21
  have g_b21 : n0 ≤ b21 := Nat.le_trans Z0 (Nat.le_of_eq g21.symm)
  have sz_b21 : h0.size ≤ b21 := Nat.le_trans K0.1 (Nat.le_of_eq g21.symm)
  have Z21 : n0 ≤ h21.size := Nat.le_trans Z0 E21.1
  have K21 := K0.ext E21
  have E_b21 := A21
  have F_left_b21 : Fld Z h21 b21 "com/example/canopy/canopy/model/Rect" "left" "I" (.int (0 : Int32)) := D21 (Or.inr (hw _ (List.mem_of_getElem? (i := 14) rfl))) (ty := .int) (by decide)
  have F_top_b21 : Fld Z h21 b21 "com/example/canopy/canopy/model/Rect" "top" "I" (.int (0 : Int32)) := D21 (Or.inr (hw _ (List.mem_of_getElem? (i := 16) rfl))) (ty := .int) (by decide)
  have F_right_b21 : Fld Z h21 b21 "com/example/canopy/canopy/model/Rect" "right" "I" (.int (0 : Int32)) := D21 (Or.inr (hw _ (List.mem_of_getElem? (i := 18) rfl))) (ty := .int) (by decide)
  have F_bottom_b21 : Fld Z h21 b21 "com/example/canopy/canopy/model/Rect" "bottom" "I" (.int (0 : Int32)) := D21 (Or.inr (hw _ (List.mem_of_getElem? (i := 20) rfl))) (ty := .int) (by decide)
  refine OutW.back st21 ?_
  show OutW _ _ _ _ _ _ _ (T21.setTop (mkF m 109 #[.val (.long q1), .second, .val (.long q2), .second, .val (.long q3), .second, .val (.long q4), .second, .val (.int p5), .val (.int v1), .val (.int v2), .val (.int v3), .val (.int v4), .val (.int v5), .val (.int v6), .val (.int v7), .val (.int v8), .val (.int v10), .val (.int v14), .val (.int v16), .val (.int v18), .val (.int v20), .unset, .unset, .unset, .unset] [(.ref b21)]))
  refine OutW.back (fun t k => XS.dup X21.here hx rfl (hb hby at_109) rfl rfl k) ?_
  show OutW _ _ _ _ _ _ _ (T21.setTop (mkF m 110 #[.val (.long q1), .second, .val (.long q2), .second, .val (.long q3), .second, .val (.long q4), .second, .val (.int p5), .val (.int v1), .val (.int v2), .val (.int v3), .val (.int v4), .val (.int v5), .val (.int v6), .val (.int v7), .val (.int v8), .val (.int v10), .val (.int v14), .val (.int v16), .val (.int v18), .val (.int v20), .unset, .unset, .unset, .unset] [(.ref b21), (.ref b21)]))
  refine OutW.back (fun t k => XS.iload X21.here hx rfl (hb hby at_110) rfl  k) ?_
  show OutW _ _ _ _ _ _ _ (T21.setTop (mkF m 112 #[.val (.long q1), .second, .val (.long q2), .second, .val (.long q3), .second, .val (.long q4), .second, .val (.int p5), .val (.int v1), .val (.int v2), .val (.int v3), .val (.int v4), .val (.int v5), .val (.int v6), .val (.int v7), .val (.int v8), .val (.int v10), .val (.int v14), .val (.int v16), .val (.int v18), .val (.int v20), .unset, .unset, .unset, .unset] [(.int v1), (.ref b21), (.ref b21)]))
  refine OutW.back (fun t k => XS.iload X21.here hx rfl (hb hby at_112) rfl  k) ?_
  show OutW _ _ _ _ _ _ _ (T21.setTop (mkF m 114 #[.val (.long q1), .second, .val (.long q2), .second, .val (.long q3), .second, .val (.long q4), .second, .val (.int p5), .val (.int v1), .val (.int v2), .val (.int v3), .val (.int v4), .val (.int v5), .val (.int v6), .val (.int v7), .val (.int v8), .val (.int v10), .val (.int v14), .val (.int v16), .val (.int v18), .val (.int v20), .unset, .unset, .unset, .unset] [(.int v2), (.int v1), (.ref b21), (.ref b21)]))
  refine OutW.back (fun t k => XS.iload X21.here hx rfl (hb hby at_114) rfl  k) ?_
  show OutW _ _ _ _ _ _ _ (T21.setTop (mkF m 116 #[.val (.long q1), .second, .val (.long q2), .second, .val (.long q3), .second, .val (.long q4), .second, .val (.int p5), .val (.int v1), .val (.int v2), .val (.int v3), .val (.int v4), .val (.int v5), .val (.int v6), .val (.int v7), .val (.int v8), .val (.int v10), .val (.int v14), .val (.int v16), .val (.int v18), .val (.int v20), .unset, .unset, .unset, .unset] [(.int v3), (.int v2), (.int v1), (.ref b21), (.ref b21)]))
  refine OutW.back (fun t k => XS.iload X21.here hx rfl (hb hby at_116) rfl  k) ?_
  show OutW _ _ _ _ _ _ _ (T21.setTop (mkF m 118 #[.val (.long q1), .second, .val (.long q2), .second, .val (.long q3), .second, .val (.long q4), .second, .val (.int p5), .val (.int v1), .val (.int v2), .val (.int v3), .val (.int v4), .val (.int v5), .val (.int v6), .val (.int v7), .val (.int v8), .val (.int v10), .val (.int v14), .val (.int v16), .val (.int v18), .val (.int v20), .unset, .unset, .unset, .unset] [(.int v4), (.int v3), (.int v2), (.int v1), (.ref b21), (.ref b21)]))
  obtain ⟨_, _, ⟨T22, L22, k22, n22⟩, -, X22, ⟨Lc22, hQ22, l22, y22, z22⟩, st22⟩ := X21.specialBack hx (y := (⟨"com/example/canopy/canopy/model/Rect", "<init>", "(IIII)V"⟩ : MethodName)) rfl hown (mvT hZ (hw _ (List.mem_of_getElem? (i := 7) rfl))) (mvT hZ (hw _ (List.mem_of_getElem? (i := 8) rfl))) (mvT hZ (hw _ (List.mem_of_getElem? (i := 9) rfl))) (by decide) (backOf (W := 1) (rm2 l Z a0 hw [] b21 v1 v2 v3 v4 h21 n0 Z21 E_b21 g_b21 F_left_b21 F_top_b21 F_right_b21 F_bottom_b21) hZ (hw _ (List.mem_of_getElem? (i := 9) rfl)) (hw _ (List.mem_of_getElem? (i := 6) rfl)) (by decide) (by decide)) (g := (mkF m 118 #[.val (.long q1), .second, .val (.long q2), .second, .val (.long q3), .second, .val (.long q4), .second, .val (.int p5), .val (.int v1), .val (.int v2), .val (.int v3), .val (.int v4), .val (.int v5), .val (.int v6), .val (.int v7), .val (.int v8), .val (.int v10), .val (.int v14), .val (.int v16), .val (.int v18), .val (.int v20), .unset, .unset, .unset, .unset] [(.int v4), (.int v3), (.int v2), (.int v1), (.ref b21), (.ref b21)])) rfl (by rw [hml]; rfl) (Steps.refl _) (a := b21) (argsL := [(.int v1), (.int v2), (.int v3), (.int v4)]) (rest := [(.ref b21)]) (lenOf pd_1 rfl) rfl (by show 2 * 0 + _ ≤ _; exact Nat.le_of_eq rfl) (hb hby at_118) (fun _ _ => ⟨rfl, e21, (by decide : 1 + 0 ≤ _), (by decide : 4 + 0 ≤ _)⟩)
  dsimp only [Pt.U, Pt.locs, Pt.cells, Pt.slots] at X22 l22 y22 z22 st22 hQ22
  subst l22 y22 z22
  obtain ⟨h22, eh22⟩ : ∃ z, z = T22.heap := ⟨_, rfl⟩
  rw [← eh22] at hQ22
  have e22 : T22.heap = h22 := eh22.symm
  obtain ⟨rfl, Nq22, Kq22, F_left_b21, F_top_b21, F_right_b21, F_bottom_b21⟩ := hQ22
  have E_b21 := E_b21.keep Kq22
  have Z22 : n0 ≤ h22.size := Nat.le_trans Z21 Kq22.1
  have K22 := K21.trans Kq22 (allS (Or.inr sz_b21) all0)
  have N22 := Fr.app N19 Nq22
  refine OutW.via st22 ?_
  show OutW _ _ _ _ _ _ _ (T22.setTop (mkF m 121 #[.val (.long q1), .second, .val (.long q2), .second, .val (.long q3), .second, .val (.long q4), .second, .val (.int p5), .val (.int v1), .val (.int v2), .val (.int v3), .val (.int v4), .val (.int v5), .val (.int v6), .val (.int v7), .val (.int v8), .val (.int v10), .val (.int v14), .val (.int v16), .val (.int v18), .val (.int v20), .unset, .unset, .unset, .unset] [(.ref b21)]))
  refine OutW.back (fun t k => XS.astore X22.here hx rfl (hb hby at_121) rfl rfl (l' := #[.val (.long q1), .second, .val (.long q2), .second, .val (.long q3), .second, .val (.long q4), .second, .val (.int p5), .val (.int v1), .val (.int v2), .val (.int v3), .val (.int v4), .val (.int v5), .val (.int v6), .val (.int v7), .val (.int v8), .val (.int v10), .val (.int v14), .val (.int v16), .val (.int v18), .val (.int v20), .val (.ref b21), .unset, .unset, .unset]) rfl k) ?_
  show OutW _ _ _ _ _ _ _ (T22.setTop (mkF m 123 #[.val (.long q1), .second, .val (.long q2), .second, .val (.long q3), .second, .val (.long q4), .second, .val (.int p5), .val (.int v1), .val (.int v2), .val (.int v3), .val (.int v4), .val (.int v5), .val (.int v6), .val (.int v7), .val (.int v8), .val (.int v10), .val (.int v14), .val (.int v16), .val (.int v18), .val (.int v20), .val (.ref b21), .unset, .unset, .unset] []))
  obtain ⟨T23, h23, X23, e23, E23, A23, D23, -, st23⟩ := newO X22 hx hZ hown (hw _ (List.mem_of_getElem? (i := 4) rfl)) (hw _ (List.mem_of_getElem? (i := 5) rfl)) (hw _ (List.mem_of_getElem? (i := 6) rfl)) e22 (g := (mkF m 123 #[.val (.long q1), .second, .val (.long q2), .second, .val (.long q3), .second, .val (.long q4), .second, .val (.int p5), .val (.int v1), .val (.int v2), .val (.int v3), .val (.int v4), .val (.int v5), .val (.int v6), .val (.int v7), .val (.int v8), .val (.int v10), .val (.int v14), .val (.int v16), .val (.int v18), .val (.int v20), .val (.ref b21), .unset, .unset, .unset] [])) rfl (hb hby at_123) (by decide) (by decide)
  obtain ⟨b23, g23⟩ : ∃ z, z = h22.size := ⟨_, rfl⟩
  rw [← g23] at A23 D23 st23
  have ne_b21_b23 : b21 ≠ b23 := Nat.ne_of_lt (Nat.lt_of_lt_of_le E_b21.lt (Nat.le_of_eq g23.symm))
  have g_b23 : n0 ≤ b23 := Nat.le_trans Z22 (Nat.le_of_eq g23.symm)
  have sz_b23 : h0.size ≤ b23 := Nat.le_trans K22.1 (Nat.le_of_eq g23.symm)
  have E_b21 := E_b21.ext E23
  have F_left_b21 := F_left_b21.ext E23
  have F_top_b21 := F_top_b21.ext E23
  have F_right_b21 := F_right_b21.ext E23
  have F_bottom_b21 := F_bottom_b21.ext E23
  have Z23 : n0 ≤ h23.size := Nat.le_trans Z22 E23.1
  have K23 := K22.ext E23
  have E_b23 := A23
  have F_left_b23 : Fld Z h23 b23 "com/example/canopy/canopy/model/Rect" "left" "I" (.int (0 : Int32)) := D23 (Or.inr (hw _ (List.mem_of_getElem? (i := 14) rfl))) (ty := .int) (by decide)
  have F_top_b23 : Fld Z h23 b23 "com/example/canopy/canopy/model/Rect" "top" "I" (.int (0 : Int32)) := D23 (Or.inr (hw _ (List.mem_of_getElem? (i := 16) rfl))) (ty := .int) (by decide)
  have F_right_b23 : Fld Z h23 b23 "com/example/canopy/canopy/model/Rect" "right" "I" (.int (0 : Int32)) := D23 (Or.inr (hw _ (List.mem_of_getElem? (i := 18) rfl))) (ty := .int) (by decide)
  have F_bottom_b23 : Fld Z h23 b23 "com/example/canopy/canopy/model/Rect" "bottom" "I" (.int (0 : Int32)) := D23 (Or.inr (hw _ (List.mem_of_getElem? (i := 20) rfl))) (ty := .int) (by decide)
  refine OutW.back st23 ?_
  show OutW _ _ _ _ _ _ _ (T23.setTop (mkF m 126 #[.val (.long q1), .second, .val (.long q2), .second, .val (.long q3), .second, .val (.long q4), .second, .val (.int p5), .val (.int v1), .val (.int v2), .val (.int v3), .val (.int v4), .val (.int v5), .val (.int v6), .val (.int v7), .val (.int v8), .val (.int v10), .val (.int v14), .val (.int v16), .val (.int v18), .val (.int v20), .val (.ref b21), .unset, .unset, .unset] [(.ref b23)]))
  refine OutW.back (fun t k => XS.dup X23.here hx rfl (hb hby at_126) rfl rfl k) ?_
  show OutW _ _ _ _ _ _ _ (T23.setTop (mkF m 127 #[.val (.long q1), .second, .val (.long q2), .second, .val (.long q3), .second, .val (.long q4), .second, .val (.int p5), .val (.int v1), .val (.int v2), .val (.int v3), .val (.int v4), .val (.int v5), .val (.int v6), .val (.int v7), .val (.int v8), .val (.int v10), .val (.int v14), .val (.int v16), .val (.int v18), .val (.int v20), .val (.ref b21), .unset, .unset, .unset] [(.ref b23), (.ref b23)]))
  refine OutW.back (fun t k => XS.iload X23.here hx rfl (hb hby at_127) rfl  k) ?_
  show OutW _ _ _ _ _ _ _ (T23.setTop (mkF m 129 #[.val (.long q1), .second, .val (.long q2), .second, .val (.long q3), .second, .val (.long q4), .second, .val (.int p5), .val (.int v1), .val (.int v2), .val (.int v3), .val (.int v4), .val (.int v5), .val (.int v6), .val (.int v7), .val (.int v8), .val (.int v10), .val (.int v14), .val (.int v16), .val (.int v18), .val (.int v20), .val (.ref b21), .unset, .unset, .unset] [(.int v14), (.ref b23), (.ref b23)]))
  refine OutW.back (fun t k => XS.iload X23.here hx rfl (hb hby at_129) rfl  k) ?_
  show OutW _ _ _ _ _ _ _ (T23.setTop (mkF m 131 #[.val (.long q1), .second, .val (.long q2), .second, .val (.long q3), .second, .val (.long q4), .second, .val (.int p5), .val (.int v1), .val (.int v2), .val (.int v3), .val (.int v4), .val (.int v5), .val (.int v6), .val (.int v7), .val (.int v8), .val (.int v10), .val (.int v14), .val (.int v16), .val (.int v18), .val (.int v20), .val (.ref b21), .unset, .unset, .unset] [(.int v16), (.int v14), (.ref b23), (.ref b23)]))
  refine OutW.back (fun t k => XS.iload X23.here hx rfl (hb hby at_131) rfl  k) ?_
  show OutW _ _ _ _ _ _ _ (T23.setTop (mkF m 133 #[.val (.long q1), .second, .val (.long q2), .second, .val (.long q3), .second, .val (.long q4), .second, .val (.int p5), .val (.int v1), .val (.int v2), .val (.int v3), .val (.int v4), .val (.int v5), .val (.int v6), .val (.int v7), .val (.int v8), .val (.int v10), .val (.int v14), .val (.int v16), .val (.int v18), .val (.int v20), .val (.ref b21), .unset, .unset, .unset] [(.int v18), (.int v16), (.int v14), (.ref b23), (.ref b23)]))
  refine OutW.back (fun t k => XS.iload X23.here hx rfl (hb hby at_133) rfl  k) ?_
  show OutW _ _ _ _ _ _ _ (T23.setTop (mkF m 135 #[.val (.long q1), .second, .val (.long q2), .second, .val (.long q3), .second, .val (.long q4), .second, .val (.int p5), .val (.int v1), .val (.int v2), .val (.int v3), .val (.int v4), .val (.int v5), .val (.int v6), .val (.int v7), .val (.int v8), .val (.int v10), .val (.int v14), .val (.int v16), .val (.int v18), .val (.int v20), .val (.ref b21), .unset, .unset, .unset] [(.int v20), (.int v18), (.int v16), (.int v14), (.ref b23), (.ref b23)]))
  obtain ⟨_, _, ⟨T24, L24, k24, n24⟩, -, X24, ⟨Lc24, hQ24, l24, y24, z24⟩, st24⟩ := X23.specialBack hx (y := (⟨"com/example/canopy/canopy/model/Rect", "<init>", "(IIII)V"⟩ : MethodName)) rfl hown (mvT hZ (hw _ (List.mem_of_getElem? (i := 7) rfl))) (mvT hZ (hw _ (List.mem_of_getElem? (i := 8) rfl))) (mvT hZ (hw _ (List.mem_of_getElem? (i := 9) rfl))) (by decide) (backOf (W := 1) (rm2 l Z a0 hw [] b23 v14 v16 v18 v20 h23 n0 Z23 E_b23 g_b23 F_left_b23 F_top_b23 F_right_b23 F_bottom_b23) hZ (hw _ (List.mem_of_getElem? (i := 9) rfl)) (hw _ (List.mem_of_getElem? (i := 6) rfl)) (by decide) (by decide)) (g := (mkF m 135 #[.val (.long q1), .second, .val (.long q2), .second, .val (.long q3), .second, .val (.long q4), .second, .val (.int p5), .val (.int v1), .val (.int v2), .val (.int v3), .val (.int v4), .val (.int v5), .val (.int v6), .val (.int v7), .val (.int v8), .val (.int v10), .val (.int v14), .val (.int v16), .val (.int v18), .val (.int v20), .val (.ref b21), .unset, .unset, .unset] [(.int v20), (.int v18), (.int v16), (.int v14), (.ref b23), (.ref b23)])) rfl (by rw [hml]; rfl) (Steps.refl _) (a := b23) (argsL := [(.int v14), (.int v16), (.int v18), (.int v20)]) (rest := [(.ref b23)]) (lenOf pd_1 rfl) rfl (by show 2 * 0 + _ ≤ _; exact Nat.le_of_eq rfl) (hb hby at_135) (fun _ _ => ⟨rfl, e23, (by decide : 2 + 0 ≤ _), (by decide : 8 + 0 ≤ _)⟩)
  dsimp only [Pt.U, Pt.locs, Pt.cells, Pt.slots] at X24 l24 y24 z24 st24 hQ24
  subst l24 y24 z24
  obtain ⟨h24, eh24⟩ : ∃ z, z = T24.heap := ⟨_, rfl⟩
  rw [← eh24] at hQ24
  have e24 : T24.heap = h24 := eh24.symm
  obtain ⟨rfl, Nq24, Kq24, F_left_b23, F_top_b23, F_right_b23, F_bottom_b23⟩ := hQ24
  have E_b21 := E_b21.keep Kq24
  have F_left_b21 := F_left_b21.keep Kq24 (ninS ne_b21_b23 nin0)
  have F_top_b21 := F_top_b21.keep Kq24 (ninS ne_b21_b23 nin0)
  have F_right_b21 := F_right_b21.keep Kq24 (ninS ne_b21_b23 nin0)
  have F_bottom_b21 := F_bottom_b21.keep Kq24 (ninS ne_b21_b23 nin0)
  have E_b23 := E_b23.keep Kq24
  have Z24 : n0 ≤ h24.size := Nat.le_trans Z23 Kq24.1
  have K24 := K23.trans Kq24 (allS (Or.inr sz_b23) all0)
  have N24 := Fr.app N22 Nq24
  refine OutW.via st24 ?_
  show OutW _ _ _ _ _ _ _ (T24.setTop (mkF m 138 #[.val (.long q1), .second, .val (.long q2), .second, .val (.long q3), .second, .val (.long q4), .second, .val (.int p5), .val (.int v1), .val (.int v2), .val (.int v3), .val (.int v4), .val (.int v5), .val (.int v6), .val (.int v7), .val (.int v8), .val (.int v10), .val (.int v14), .val (.int v16), .val (.int v18), .val (.int v20), .val (.ref b21), .unset, .unset, .unset] [(.ref b23)]))
  refine OutW.back (fun t k => XS.astore X24.here hx rfl (hb hby at_138) rfl rfl (l' := #[.val (.long q1), .second, .val (.long q2), .second, .val (.long q3), .second, .val (.long q4), .second, .val (.int p5), .val (.int v1), .val (.int v2), .val (.int v3), .val (.int v4), .val (.int v5), .val (.int v6), .val (.int v7), .val (.int v8), .val (.int v10), .val (.int v14), .val (.int v16), .val (.int v18), .val (.int v20), .val (.ref b21), .val (.ref b23), .unset, .unset]) rfl k) ?_
  show OutW _ _ _ _ _ _ _ (T24.setTop (mkF m 140 #[.val (.long q1), .second, .val (.long q2), .second, .val (.long q3), .second, .val (.long q4), .second, .val (.int p5), .val (.int v1), .val (.int v2), .val (.int v3), .val (.int v4), .val (.int v5), .val (.int v6), .val (.int v7), .val (.int v8), .val (.int v10), .val (.int v14), .val (.int v16), .val (.int v18), .val (.int v20), .val (.ref b21), .val (.ref b23), .unset, .unset] []))
  refine OutW.back (fun t k => XS.aload X24.here hx rfl (hb hby at_140) rfl rfl  k) ?_
  show OutW _ _ _ _ _ _ _ (T24.setTop (mkF m 142 #[.val (.long q1), .second, .val (.long q2), .second, .val (.long q3), .second, .val (.long q4), .second, .val (.int p5), .val (.int v1), .val (.int v2), .val (.int v3), .val (.int v4), .val (.int v5), .val (.int v6), .val (.int v7), .val (.int v8), .val (.int v10), .val (.int v14), .val (.int v16), .val (.int v18), .val (.int v20), .val (.ref b21), .val (.ref b23), .unset, .unset] [(.ref b21)]))
  refine OutW.back (fun t k => XS.aload X24.here hx rfl (hb hby at_142) rfl rfl  k) ?_
  show OutW _ _ _ _ _ _ _ (T24.setTop (mkF m 144 #[.val (.long q1), .second, .val (.long q2), .second, .val (.long q3), .second, .val (.long q4), .second, .val (.int p5), .val (.int v1), .val (.int v2), .val (.int v3), .val (.int v4), .val (.int v5), .val (.int v6), .val (.int v7), .val (.int v8), .val (.int v10), .val (.int v14), .val (.int v16), .val (.int v18), .val (.int v20), .val (.ref b21), .val (.ref b23), .unset, .unset] [(.ref b23), (.ref b21)]))
  obtain ⟨cq25, kq25, qa25, qb25, qc25⟩ := isOf hZ e24 E_b21
  obtain ⟨_, _, ⟨T25, L25, k25, n25⟩, -, X25, ⟨Lc25, hQ25, l25, y25, z25⟩, st25⟩ := X24.virtualBack hx (y := (⟨"com/example/canopy/canopy/model/Rect", "contains", "(Lcom/example/canopy/canopy/model/Rect;)Z"⟩ : MethodName)) (z := (⟨"com/example/canopy/canopy/model/Rect", "contains", "(Lcom/example/canopy/canopy/model/Rect;)Z"⟩ : MethodName)) hown (mvT hZ (hw _ (List.mem_of_getElem? (i := 21) rfl))) (mvT hZ (hw _ (List.mem_of_getElem? (i := 22) rfl))) (notFace_of_selects (args := #[]) (mvT hZ (hw _ (List.mem_of_getElem? (i := 24) rfl)))) (mvT hZ (hw _ (List.mem_of_getElem? (i := 24) rfl))) (mvT hZ (hw _ (List.mem_of_getElem? (i := 23) rfl))) (by decide) (backOf (W := 0) (rm4 l Z a0 hw [] b21 b23 v1 v2 v3 v4 v14 v16 v18 v20 h24 n0 Z24 F_left_b21 F_top_b21 F_right_b21 F_bottom_b21 F_left_b23 F_top_b23 F_right_b23 F_bottom_b23) hZ (hw _ (List.mem_of_getElem? (i := 25) rfl)) (hw _ (List.mem_of_getElem? (i := 6) rfl)) (by decide) (by decide)) qa25 qc25 (g := (mkF m 144 #[.val (.long q1), .second, .val (.long q2), .second, .val (.long q3), .second, .val (.long q4), .second, .val (.int p5), .val (.int v1), .val (.int v2), .val (.int v3), .val (.int v4), .val (.int v5), .val (.int v6), .val (.int v7), .val (.int v8), .val (.int v10), .val (.int v14), .val (.int v16), .val (.int v18), .val (.int v20), .val (.ref b21), .val (.ref b23), .unset, .unset] [(.ref b23), (.ref b21)])) rfl (by rw [hml]; rfl) (Steps.refl _) (argsL := [(.ref b23)]) (rest := []) (lenOf pd_2 rfl) rfl (by show 2 * 0 + _ ≤ _; exact Nat.le_of_eq rfl) (hb hby at_144) (fun _ _ => ⟨rfl, e24, (by decide : 2 + 0 ≤ _), (by decide : 8 + 0 ≤ _)⟩)
  dsimp only [Pt.U, Pt.locs, Pt.cells, Pt.slots] at X25 l25 y25 z25 st25 hQ25
  subst l25 y25 z25
  obtain ⟨rfl, Nq25, e25⟩ := hQ25
  have N25 := Fr.app N24 Nq25
  refine OutW.via st25 ?_
  show OutW _ _ _ _ _ _ _ (T25.setTop (mkF m 147 #[.val (.long q1), .second, .val (.long q2), .second, .val (.long q3), .second, .val (.long q4), .second, .val (.int p5), .val (.int v1), .val (.int v2), .val (.int v3), .val (.int v4), .val (.int v5), .val (.int v6), .val (.int v7), .val (.int v8), .val (.int v10), .val (.int v14), .val (.int v16), .val (.int v18), .val (.int v20), .val (.ref b21), .val (.ref b23), .unset, .unset] [(.int (contF v1 v2 v3 v4 v14 v16 v18 v20))]))
  generalize hv_v26 : (contF v1 v2 v3 v4 v14 v16 v18 v20) = v26
  refine OutW.back (fun t k => XS.istore X25.here hx rfl (hb hby at_147) rfl (l' := #[.val (.long q1), .second, .val (.long q2), .second, .val (.long q3), .second, .val (.long q4), .second, .val (.int p5), .val (.int v1), .val (.int v2), .val (.int v3), .val (.int v4), .val (.int v5), .val (.int v6), .val (.int v7), .val (.int v8), .val (.int v10), .val (.int v14), .val (.int v16), .val (.int v18), .val (.int v20), .val (.ref b21), .val (.ref b23), .val (.int v26), .unset]) rfl k) ?_
  show OutW _ _ _ _ _ _ _ (T25.setTop (mkF m 149 #[.val (.long q1), .second, .val (.long q2), .second, .val (.long q3), .second, .val (.long q4), .second, .val (.int p5), .val (.int v1), .val (.int v2), .val (.int v3), .val (.int v4), .val (.int v5), .val (.int v6), .val (.int v7), .val (.int v8), .val (.int v10), .val (.int v14), .val (.int v16), .val (.int v18), .val (.int v20), .val (.ref b21), .val (.ref b23), .val (.int v26), .unset] []))
  refine OutW.back (fun t k => XS.iload X25.here hx rfl (hb hby at_149) rfl  k) ?_
  show OutW _ _ _ _ _ _ _ (T25.setTop (mkF m 151 #[.val (.long q1), .second, .val (.long q2), .second, .val (.long q3), .second, .val (.long q4), .second, .val (.int p5), .val (.int v1), .val (.int v2), .val (.int v3), .val (.int v4), .val (.int v5), .val (.int v6), .val (.int v7), .val (.int v8), .val (.int v10), .val (.int v14), .val (.int v16), .val (.int v18), .val (.int v20), .val (.ref b21), .val (.ref b23), .val (.int v26), .unset] [(.int v14)]))
  refine OutW.back (fun t k => XS.iload X25.here hx rfl (hb hby at_151) rfl  k) ?_
  show OutW _ _ _ _ _ _ _ (T25.setTop (mkF m 153 #[.val (.long q1), .second, .val (.long q2), .second, .val (.long q3), .second, .val (.long q4), .second, .val (.int p5), .val (.int v1), .val (.int v2), .val (.int v3), .val (.int v4), .val (.int v5), .val (.int v6), .val (.int v7), .val (.int v8), .val (.int v10), .val (.int v14), .val (.int v16), .val (.int v18), .val (.int v20), .val (.ref b21), .val (.ref b23), .val (.int v26), .unset] [(.int v1), (.int v14)]))
  obtain ⟨_, _, ⟨T27, L27, k27, n27⟩, -, X27, ⟨Lc27, hQ27, l27, y27, z27⟩, st27⟩ := Jvm.LawKit.callS X25 hx (y := (⟨"java/lang/Math", "min", "(II)I"⟩ : MethodName)) hown (mvT hZ (hw _ (List.mem_of_getElem? (i := 26) rfl))) (mvT hZ (hw _ (List.mem_of_getElem? (i := 27) rfl))) (mvT hZ (hw _ (List.mem_of_getElem? (i := 28) rfl))) (mvT hZ (hw _ (List.mem_of_getElem? (i := 29) rfl))) (by decide) (backOf (W := 0) (rm5 l Z a0 hw [] v14 v1 h24 n0 Z24) hZ (hw _ (List.mem_of_getElem? (i := 29) rfl)) (hw _ (List.mem_of_getElem? (i := 28) rfl)) (by decide) (by decide)) (g := (mkF m 153 #[.val (.long q1), .second, .val (.long q2), .second, .val (.long q3), .second, .val (.long q4), .second, .val (.int p5), .val (.int v1), .val (.int v2), .val (.int v3), .val (.int v4), .val (.int v5), .val (.int v6), .val (.int v7), .val (.int v8), .val (.int v10), .val (.int v14), .val (.int v16), .val (.int v18), .val (.int v20), .val (.ref b21), .val (.ref b23), .val (.int v26), .unset] [(.int v1), (.int v14)])) rfl (by rw [hml]; rfl) (argsL := [(.int v14), (.int v1)]) (rest := []) (lenOf pd_3 rfl) rfl (by show 2 * 0 + _ ≤ _; exact Nat.le_of_eq rfl) (hb hby at_153) (fun _ _ => ⟨rfl, e25, (by decide : 2 + 0 ≤ _), (by decide : 8 + 0 ≤ _)⟩)
  dsimp only [Pt.U, Pt.locs, Pt.cells, Pt.slots] at X27 l27 y27 z27 st27 hQ27
  subst l27 y27 z27
  obtain ⟨rfl, Nq27, e27⟩ := hQ27
  have N27 := Fr.app N25 Nq27
  refine OutW.back st27 ?_
  show OutW _ _ _ _ _ _ _ (T27.setTop (mkF m 156 #[.val (.long q1), .second, .val (.long q2), .second, .val (.long q3), .second, .val (.long q4), .second, .val (.int p5), .val (.int v1), .val (.int v2), .val (.int v3), .val (.int v4), .val (.int v5), .val (.int v6), .val (.int v7), .val (.int v8), .val (.int v10), .val (.int v14), .val (.int v16), .val (.int v18), .val (.int v20), .val (.ref b21), .val (.ref b23), .val (.int v26), .unset] [(.int (minF_0 v14 v1))]))
  refine OutW.back (fun t k => XS.iload X27.here hx rfl (hb hby at_156) rfl  k) ?_
  show OutW _ _ _ _ _ _ _ (T27.setTop (mkF m 158 #[.val (.long q1), .second, .val (.long q2), .second, .val (.long q3), .second, .val (.long q4), .second, .val (.int p5), .val (.int v1), .val (.int v2), .val (.int v3), .val (.int v4), .val (.int v5), .val (.int v6), .val (.int v7), .val (.int v8), .val (.int v10), .val (.int v14), .val (.int v16), .val (.int v18), .val (.int v20), .val (.ref b21), .val (.ref b23), .val (.int v26), .unset] [(.int v1), (.int (minF_0 v14 v1))]))
  by_cases c158_28 : (minF_0 v14 v1) = v1
  · skip
    refine OutW.back (fun t k => XS.icmpNo X27.here hx rfl (hb hby at_158) rfl (teq c158_28).2 k) ?_
    show OutW _ _ _ _ _ _ _ (T27.setTop (mkF m 161 #[.val (.long q1), .second, .val (.long q2), .second, .val (.long q3), .second, .val (.long q4), .second, .val (.int p5), .val (.int v1), .val (.int v2), .val (.int v3), .val (.int v4), .val (.int v5), .val (.int v6), .val (.int v7), .val (.int v8), .val (.int v10), .val (.int v14), .val (.int v16), .val (.int v18), .val (.int v20), .val (.ref b21), .val (.ref b23), .val (.int v26), .unset] []))
    refine OutW.back (fun t k => XS.iload X27.here hx rfl (hb hby at_161) rfl  k) ?_
    show OutW _ _ _ _ _ _ _ (T27.setTop (mkF m 163 #[.val (.long q1), .second, .val (.long q2), .second, .val (.long q3), .second, .val (.long q4), .second, .val (.int p5), .val (.int v1), .val (.int v2), .val (.int v3), .val (.int v4), .val (.int v5), .val (.int v6), .val (.int v7), .val (.int v8), .val (.int v10), .val (.int v14), .val (.int v16), .val (.int v18), .val (.int v20), .val (.ref b21), .val (.ref b23), .val (.int v26), .unset] [(.int v16)]))
    refine OutW.back (fun t k => XS.iload X27.here hx rfl (hb hby at_163) rfl  k) ?_
    show OutW _ _ _ _ _ _ _ (T27.setTop (mkF m 165 #[.val (.long q1), .second, .val (.long q2), .second, .val (.long q3), .second, .val (.long q4), .second, .val (.int p5), .val (.int v1), .val (.int v2), .val (.int v3), .val (.int v4), .val (.int v5), .val (.int v6), .val (.int v7), .val (.int v8), .val (.int v10), .val (.int v14), .val (.int v16), .val (.int v18), .val (.int v20), .val (.ref b21), .val (.ref b23), .val (.int v26), .unset] [(.int v2), (.int v16)]))
    obtain ⟨_, _, ⟨T29, L29, k29, n29⟩, -, X29, ⟨Lc29, hQ29, l29, y29, z29⟩, st29⟩ := Jvm.LawKit.callS X27 hx (y := (⟨"java/lang/Math", "min", "(II)I"⟩ : MethodName)) hown (mvT hZ (hw _ (List.mem_of_getElem? (i := 26) rfl))) (mvT hZ (hw _ (List.mem_of_getElem? (i := 27) rfl))) (mvT hZ (hw _ (List.mem_of_getElem? (i := 28) rfl))) (mvT hZ (hw _ (List.mem_of_getElem? (i := 29) rfl))) (by decide) (backOf (W := 0) (rm5 l Z a0 hw [] v16 v2 h24 n0 Z24) hZ (hw _ (List.mem_of_getElem? (i := 29) rfl)) (hw _ (List.mem_of_getElem? (i := 28) rfl)) (by decide) (by decide)) (g := (mkF m 165 #[.val (.long q1), .second, .val (.long q2), .second, .val (.long q3), .second, .val (.long q4), .second, .val (.int p5), .val (.int v1), .val (.int v2), .val (.int v3), .val (.int v4), .val (.int v5), .val (.int v6), .val (.int v7), .val (.int v8), .val (.int v10), .val (.int v14), .val (.int v16), .val (.int v18), .val (.int v20), .val (.ref b21), .val (.ref b23), .val (.int v26), .unset] [(.int v2), (.int v16)])) rfl (by rw [hml]; rfl) (argsL := [(.int v16), (.int v2)]) (rest := []) (lenOf pd_3 rfl) rfl (by show 2 * 0 + _ ≤ _; exact Nat.le_of_eq rfl) (hb hby at_165) (fun _ _ => ⟨rfl, e27, (by decide : 2 + 0 ≤ _), (by decide : 8 + 0 ≤ _)⟩)
    dsimp only [Pt.U, Pt.locs, Pt.cells, Pt.slots] at X29 l29 y29 z29 st29 hQ29
    subst l29 y29 z29
    obtain ⟨rfl, Nq29, e29⟩ := hQ29
    have N29 := Fr.app N27 Nq29
    refine OutW.back st29 ?_
    show OutW _ _ _ _ _ _ _ (T29.setTop (mkF m 168 #[.val (.long q1), .second, .val (.long q2), .second, .val (.long q3), .second, .val (.long q4), .second, .val (.int p5), .val (.int v1), .val (.int v2), .val (.int v3), .val (.int v4), .val (.int v5), .val (.int v6), .val (.int v7), .val (.int v8), .val (.int v10), .val (.int v14), .val (.int v16), .val (.int v18), .val (.int v20), .val (.ref b21), .val (.ref b23), .val (.int v26), .unset] [(.int (minF_0 v16 v2))]))
    refine OutW.back (fun t k => XS.iload X29.here hx rfl (hb hby at_168) rfl  k) ?_
    show OutW _ _ _ _ _ _ _ (T29.setTop (mkF m 170 #[.val (.long q1), .second, .val (.long q2), .second, .val (.long q3), .second, .val (.long q4), .second, .val (.int p5), .val (.int v1), .val (.int v2), .val (.int v3), .val (.int v4), .val (.int v5), .val (.int v6), .val (.int v7), .val (.int v8), .val (.int v10), .val (.int v14), .val (.int v16), .val (.int v18), .val (.int v20), .val (.ref b21), .val (.ref b23), .val (.int v26), .unset] [(.int v2), (.int (minF_0 v16 v2))]))
    by_cases c170_30 : (minF_0 v16 v2) = v2
    · skip
      refine OutW.back (fun t k => XS.icmpNo X29.here hx rfl (hb hby at_170) rfl (teq c170_30).2 k) ?_
      show OutW _ _ _ _ _ _ _ (T29.setTop (mkF m 173 #[.val (.long q1), .second, .val (.long q2), .second, .val (.long q3), .second, .val (.long q4), .second, .val (.int p5), .val (.int v1), .val (.int v2), .val (.int v3), .val (.int v4), .val (.int v5), .val (.int v6), .val (.int v7), .val (.int v8), .val (.int v10), .val (.int v14), .val (.int v16), .val (.int v18), .val (.int v20), .val (.ref b21), .val (.ref b23), .val (.int v26), .unset] []))
      refine OutW.back (fun t k => XS.iload X29.here hx rfl (hb hby at_173) rfl  k) ?_
      show OutW _ _ _ _ _ _ _ (T29.setTop (mkF m 175 #[.val (.long q1), .second, .val (.long q2), .second, .val (.long q3), .second, .val (.long q4), .second, .val (.int p5), .val (.int v1), .val (.int v2), .val (.int v3), .val (.int v4), .val (.int v5), .val (.int v6), .val (.int v7), .val (.int v8), .val (.int v10), .val (.int v14), .val (.int v16), .val (.int v18), .val (.int v20), .val (.ref b21), .val (.ref b23), .val (.int v26), .unset] [(.int v18)]))
      refine OutW.back (fun t k => XS.iload X29.here hx rfl (hb hby at_175) rfl  k) ?_
      show OutW _ _ _ _ _ _ _ (T29.setTop (mkF m 177 #[.val (.long q1), .second, .val (.long q2), .second, .val (.long q3), .second, .val (.long q4), .second, .val (.int p5), .val (.int v1), .val (.int v2), .val (.int v3), .val (.int v4), .val (.int v5), .val (.int v6), .val (.int v7), .val (.int v8), .val (.int v10), .val (.int v14), .val (.int v16), .val (.int v18), .val (.int v20), .val (.ref b21), .val (.ref b23), .val (.int v26), .unset] [(.int v3), (.int v18)]))
      obtain ⟨_, _, ⟨T31, L31, k31, n31⟩, -, X31, ⟨Lc31, hQ31, l31, y31, z31⟩, st31⟩ := Jvm.LawKit.callS X29 hx (y := (⟨"java/lang/Math", "max", "(II)I"⟩ : MethodName)) hown (mvT hZ (hw _ (List.mem_of_getElem? (i := 30) rfl))) (mvT hZ (hw _ (List.mem_of_getElem? (i := 31) rfl))) (mvT hZ (hw _ (List.mem_of_getElem? (i := 28) rfl))) (mvT hZ (hw _ (List.mem_of_getElem? (i := 32) rfl))) (by decide) (backOf (W := 0) (rm6 l Z a0 hw [] v18 v3 h24 n0 Z24) hZ (hw _ (List.mem_of_getElem? (i := 32) rfl)) (hw _ (List.mem_of_getElem? (i := 28) rfl)) (by decide) (by decide)) (g := (mkF m 177 #[.val (.long q1), .second, .val (.long q2), .second, .val (.long q3), .second, .val (.long q4), .second, .val (.int p5), .val (.int v1), .val (.int v2), .val (.int v3), .val (.int v4), .val (.int v5), .val (.int v6), .val (.int v7), .val (.int v8), .val (.int v10), .val (.int v14), .val (.int v16), .val (.int v18), .val (.int v20), .val (.ref b21), .val (.ref b23), .val (.int v26), .unset] [(.int v3), (.int v18)])) rfl (by rw [hml]; rfl) (argsL := [(.int v18), (.int v3)]) (rest := []) (lenOf pd_3 rfl) rfl (by show 2 * 0 + _ ≤ _; exact Nat.le_of_eq rfl) (hb hby at_177) (fun _ _ => ⟨rfl, e29, (by decide : 2 + 0 ≤ _), (by decide : 8 + 0 ≤ _)⟩)
      dsimp only [Pt.U, Pt.locs, Pt.cells, Pt.slots] at X31 l31 y31 z31 st31 hQ31
      subst l31 y31 z31
      obtain ⟨rfl, Nq31, e31⟩ := hQ31
      have N31 := Fr.app N29 Nq31
      refine OutW.back st31 ?_
      show OutW _ _ _ _ _ _ _ (T31.setTop (mkF m 180 #[.val (.long q1), .second, .val (.long q2), .second, .val (.long q3), .second, .val (.long q4), .second, .val (.int p5), .val (.int v1), .val (.int v2), .val (.int v3), .val (.int v4), .val (.int v5), .val (.int v6), .val (.int v7), .val (.int v8), .val (.int v10), .val (.int v14), .val (.int v16), .val (.int v18), .val (.int v20), .val (.ref b21), .val (.ref b23), .val (.int v26), .unset] [(.int (maxF_0 v18 v3))]))
      refine OutW.back (fun t k => XS.iload X31.here hx rfl (hb hby at_180) rfl  k) ?_
      show OutW _ _ _ _ _ _ _ (T31.setTop (mkF m 182 #[.val (.long q1), .second, .val (.long q2), .second, .val (.long q3), .second, .val (.long q4), .second, .val (.int p5), .val (.int v1), .val (.int v2), .val (.int v3), .val (.int v4), .val (.int v5), .val (.int v6), .val (.int v7), .val (.int v8), .val (.int v10), .val (.int v14), .val (.int v16), .val (.int v18), .val (.int v20), .val (.ref b21), .val (.ref b23), .val (.int v26), .unset] [(.int v3), (.int (maxF_0 v18 v3))]))
      by_cases c182_32 : (maxF_0 v18 v3) = v3
      · skip
        refine OutW.back (fun t k => XS.icmpNo X31.here hx rfl (hb hby at_182) rfl (teq c182_32).2 k) ?_
        show OutW _ _ _ _ _ _ _ (T31.setTop (mkF m 185 #[.val (.long q1), .second, .val (.long q2), .second, .val (.long q3), .second, .val (.long q4), .second, .val (.int p5), .val (.int v1), .val (.int v2), .val (.int v3), .val (.int v4), .val (.int v5), .val (.int v6), .val (.int v7), .val (.int v8), .val (.int v10), .val (.int v14), .val (.int v16), .val (.int v18), .val (.int v20), .val (.ref b21), .val (.ref b23), .val (.int v26), .unset] []))
        refine OutW.back (fun t k => XS.iload X31.here hx rfl (hb hby at_185) rfl  k) ?_
        show OutW _ _ _ _ _ _ _ (T31.setTop (mkF m 187 #[.val (.long q1), .second, .val (.long q2), .second, .val (.long q3), .second, .val (.long q4), .second, .val (.int p5), .val (.int v1), .val (.int v2), .val (.int v3), .val (.int v4), .val (.int v5), .val (.int v6), .val (.int v7), .val (.int v8), .val (.int v10), .val (.int v14), .val (.int v16), .val (.int v18), .val (.int v20), .val (.ref b21), .val (.ref b23), .val (.int v26), .unset] [(.int v20)]))
        refine OutW.back (fun t k => XS.iload X31.here hx rfl (hb hby at_187) rfl  k) ?_
        show OutW _ _ _ _ _ _ _ (T31.setTop (mkF m 189 #[.val (.long q1), .second, .val (.long q2), .second, .val (.long q3), .second, .val (.long q4), .second, .val (.int p5), .val (.int v1), .val (.int v2), .val (.int v3), .val (.int v4), .val (.int v5), .val (.int v6), .val (.int v7), .val (.int v8), .val (.int v10), .val (.int v14), .val (.int v16), .val (.int v18), .val (.int v20), .val (.ref b21), .val (.ref b23), .val (.int v26), .unset] [(.int v4), (.int v20)]))
        obtain ⟨_, _, ⟨T33, L33, k33, n33⟩, -, X33, ⟨Lc33, hQ33, l33, y33, z33⟩, st33⟩ := Jvm.LawKit.callS X31 hx (y := (⟨"java/lang/Math", "max", "(II)I"⟩ : MethodName)) hown (mvT hZ (hw _ (List.mem_of_getElem? (i := 30) rfl))) (mvT hZ (hw _ (List.mem_of_getElem? (i := 31) rfl))) (mvT hZ (hw _ (List.mem_of_getElem? (i := 28) rfl))) (mvT hZ (hw _ (List.mem_of_getElem? (i := 32) rfl))) (by decide) (backOf (W := 0) (rm6 l Z a0 hw [] v20 v4 h24 n0 Z24) hZ (hw _ (List.mem_of_getElem? (i := 32) rfl)) (hw _ (List.mem_of_getElem? (i := 28) rfl)) (by decide) (by decide)) (g := (mkF m 189 #[.val (.long q1), .second, .val (.long q2), .second, .val (.long q3), .second, .val (.long q4), .second, .val (.int p5), .val (.int v1), .val (.int v2), .val (.int v3), .val (.int v4), .val (.int v5), .val (.int v6), .val (.int v7), .val (.int v8), .val (.int v10), .val (.int v14), .val (.int v16), .val (.int v18), .val (.int v20), .val (.ref b21), .val (.ref b23), .val (.int v26), .unset] [(.int v4), (.int v20)])) rfl (by rw [hml]; rfl) (argsL := [(.int v20), (.int v4)]) (rest := []) (lenOf pd_3 rfl) rfl (by show 2 * 0 + _ ≤ _; exact Nat.le_of_eq rfl) (hb hby at_189) (fun _ _ => ⟨rfl, e31, (by decide : 2 + 0 ≤ _), (by decide : 8 + 0 ≤ _)⟩)
        dsimp only [Pt.U, Pt.locs, Pt.cells, Pt.slots] at X33 l33 y33 z33 st33 hQ33
        subst l33 y33 z33
        obtain ⟨rfl, Nq33, e33⟩ := hQ33
        have N33 := Fr.app N31 Nq33
        refine OutW.back st33 ?_
        show OutW _ _ _ _ _ _ _ (T33.setTop (mkF m 192 #[.val (.long q1), .second, .val (.long q2), .second, .val (.long q3), .second, .val (.long q4), .second, .val (.int p5), .val (.int v1), .val (.int v2), .val (.int v3), .val (.int v4), .val (.int v5), .val (.int v6), .val (.int v7), .val (.int v8), .val (.int v10), .val (.int v14), .val (.int v16), .val (.int v18), .val (.int v20), .val (.ref b21), .val (.ref b23), .val (.int v26), .unset] [(.int (maxF_0 v20 v4))]))
        refine OutW.back (fun t k => XS.iload X33.here hx rfl (hb hby at_192) rfl  k) ?_
        show OutW _ _ _ _ _ _ _ (T33.setTop (mkF m 194 #[.val (.long q1), .second, .val (.long q2), .second, .val (.long q3), .second, .val (.long q4), .second, .val (.int p5), .val (.int v1), .val (.int v2), .val (.int v3), .val (.int v4), .val (.int v5), .val (.int v6), .val (.int v7), .val (.int v8), .val (.int v10), .val (.int v14), .val (.int v16), .val (.int v18), .val (.int v20), .val (.ref b21), .val (.ref b23), .val (.int v26), .unset] [(.int v4), (.int (maxF_0 v20 v4))]))
        by_cases c194_34 : (maxF_0 v20 v4) = v4
        · skip
          refine OutW.back (fun t k => XS.icmpNo X33.here hx rfl (hb hby at_194) rfl (teq c194_34).2 k) ?_
          show OutW _ _ _ _ _ _ _ (T33.setTop (mkF m 197 #[.val (.long q1), .second, .val (.long q2), .second, .val (.long q3), .second, .val (.long q4), .second, .val (.int p5), .val (.int v1), .val (.int v2), .val (.int v3), .val (.int v4), .val (.int v5), .val (.int v6), .val (.int v7), .val (.int v8), .val (.int v10), .val (.int v14), .val (.int v16), .val (.int v18), .val (.int v20), .val (.ref b21), .val (.ref b23), .val (.int v26), .unset] []))
          refine OutW.back (fun t k => XS.iconst X33.here hx rfl (hb hby at_197) k) ?_
          show OutW _ _ _ _ _ _ _ (T33.setTop (mkF m 198 #[.val (.long q1), .second, .val (.long q2), .second, .val (.long q3), .second, .val (.long q4), .second, .val (.int p5), .val (.int v1), .val (.int v2), .val (.int v3), .val (.int v4), .val (.int v5), .val (.int v6), .val (.int v7), .val (.int v8), .val (.int v10), .val (.int v14), .val (.int v16), .val (.int v18), .val (.int v20), .val (.ref b21), .val (.ref b23), .val (.int v26), .unset] [(.int (1 : Int32))]))
          refine OutW.back (fun t k => XS.goto X33.here hx rfl (pc0 := 198) (pc' := 202) rfl (hb hby at_198) (by decide) (by decide) k) ?_
          show OutW _ _ _ _ _ _ _ (T33.setTop (mkF m 202 #[.val (.long q1), .second, .val (.long q2), .second, .val (.long q3), .second, .val (.long q4), .second, .val (.int p5), .val (.int v1), .val (.int v2), .val (.int v3), .val (.int v4), .val (.int v5), .val (.int v6), .val (.int v7), .val (.int v8), .val (.int v10), .val (.int v14), .val (.int v16), .val (.int v18), .val (.int v20), .val (.ref b21), .val (.ref b23), .val (.int v26), .unset] [(.int (1 : Int32))]))
          refine OutW.back (fun t k => XS.istore X33.here hx rfl (hb hby at_202) rfl (l' := #[.val (.long q1), .second, .val (.long q2), .second, .val (.long q3), .second, .val (.long q4), .second, .val (.int p5), .val (.int v1), .val (.int v2), .val (.int v3), .val (.int v4), .val (.int v5), .val (.int v6), .val (.int v7), .val (.int v8), .val (.int v10), .val (.int v14), .val (.int v16), .val (.int v18), .val (.int v20), .val (.ref b21), .val (.ref b23), .val (.int v26), .val (.int (1 : Int32))]) rfl k) ?_
          show OutW _ _ _ _ _ _ _ (T33.setTop (mkF m 204 #[.val (.long q1), .second, .val (.long q2), .second, .val (.long q3), .second, .val (.long q4), .second, .val (.int p5), .val (.int v1), .val (.int v2), .val (.int v3), .val (.int v4), .val (.int v5), .val (.int v6), .val (.int v7), .val (.int v8), .val (.int v10), .val (.int v14), .val (.int v16), .val (.int v18), .val (.int v20), .val (.ref b21), .val (.ref b23), .val (.int v26), .val (.int (1 : Int32))] []))
          refine OutW.back (fun t k => XS.iload X33.here hx rfl (hb hby at_204) rfl  k) ?_
          show OutW _ _ _ _ _ _ _ (T33.setTop (mkF m 206 #[.val (.long q1), .second, .val (.long q2), .second, .val (.long q3), .second, .val (.long q4), .second, .val (.int p5), .val (.int v1), .val (.int v2), .val (.int v3), .val (.int v4), .val (.int v5), .val (.int v6), .val (.int v7), .val (.int v8), .val (.int v10), .val (.int v14), .val (.int v16), .val (.int v18), .val (.int v20), .val (.ref b21), .val (.ref b23), .val (.int v26), .val (.int (1 : Int32))] [(.int v26)]))
          refine OutW.back (fun t k => XS.iload X33.here hx rfl (hb hby at_206) rfl  k) ?_
          show OutW _ _ _ _ _ _ _ (T33.setTop (mkF m 208 #[.val (.long q1), .second, .val (.long q2), .second, .val (.long q3), .second, .val (.long q4), .second, .val (.int p5), .val (.int v1), .val (.int v2), .val (.int v3), .val (.int v4), .val (.int v5), .val (.int v6), .val (.int v7), .val (.int v8), .val (.int v10), .val (.int v14), .val (.int v16), .val (.int v18), .val (.int v20), .val (.ref b21), .val (.ref b23), .val (.int v26), .val (.int (1 : Int32))] [(.int (1 : Int32)), (.int v26)]))
          obtain ⟨v36, hv_v36⟩ : ∃ z : Int32, z = (if v26 = (1 : Int32) then (1 : Int32) else (0 : Int32)) := ⟨_, rfl⟩
          have j37 : ∀ t, Steps p.tables e below (T33.setTop (mkF m 216 #[.val (.long q1), .second, .val (.long q2), .second, .val (.long q3), .second, .val (.long q4), .second, .val (.int p5), .val (.int v1), .val (.int v2), .val (.int v3), .val (.int v4), .val (.int v5), .val (.int v6), .val (.int v7), .val (.int v8), .val (.int v10), .val (.int v14), .val (.int v16), .val (.int v18), .val (.int v20), .val (.ref b21), .val (.ref b23), .val (.int v26), .val (.int (1 : Int32))] [(.int v36)])) t → Steps p.tables e below (T33.setTop (mkF m 208 #[.val (.long q1), .second, .val (.long q2), .second, .val (.long q3), .second, .val (.long q4), .second, .val (.int p5), .val (.int v1), .val (.int v2), .val (.int v3), .val (.int v4), .val (.int v5), .val (.int v6), .val (.int v7), .val (.int v8), .val (.int v10), .val (.int v14), .val (.int v16), .val (.int v18), .val (.int v20), .val (.ref b21), .val (.ref b23), .val (.int v26), .val (.int (1 : Int32))] [(.int (1 : Int32)), (.int v26)])) t := by
            intro t k
            by_cases c208_38 : v26 = (1 : Int32)
            · skip
              refine XS.icmpNo X33.here hx rfl (hb hby at_208) rfl (teq c208_38).2 ?_
              show Steps p.tables e below (T33.setTop (mkF m 211 #[.val (.long q1), .second, .val (.long q2), .second, .val (.long q3), .second, .val (.long q4), .second, .val (.int p5), .val (.int v1), .val (.int v2), .val (.int v3), .val (.int v4), .val (.int v5), .val (.int v6), .val (.int v7), .val (.int v8), .val (.int v10), .val (.int v14), .val (.int v16), .val (.int v18), .val (.int v20), .val (.ref b21), .val (.ref b23), .val (.int v26), .val (.int (1 : Int32))] [])) t
              refine XS.iconst X33.here hx rfl (hb hby at_211) ?_
              show Steps p.tables e below (T33.setTop (mkF m 212 #[.val (.long q1), .second, .val (.long q2), .second, .val (.long q3), .second, .val (.long q4), .second, .val (.int p5), .val (.int v1), .val (.int v2), .val (.int v3), .val (.int v4), .val (.int v5), .val (.int v6), .val (.int v7), .val (.int v8), .val (.int v10), .val (.int v14), .val (.int v16), .val (.int v18), .val (.int v20), .val (.ref b21), .val (.ref b23), .val (.int v26), .val (.int (1 : Int32))] [(.int (1 : Int32))])) t
              refine XS.goto X33.here hx rfl (pc0 := 212) (pc' := 216) rfl (hb hby at_212) (by decide) (by decide) ?_
              show Steps p.tables e below (T33.setTop (mkF m 216 #[.val (.long q1), .second, .val (.long q2), .second, .val (.long q3), .second, .val (.long q4), .second, .val (.int p5), .val (.int v1), .val (.int v2), .val (.int v3), .val (.int v4), .val (.int v5), .val (.int v6), .val (.int v7), .val (.int v8), .val (.int v10), .val (.int v14), .val (.int v16), .val (.int v18), .val (.int v20), .val (.ref b21), .val (.ref b23), .val (.int v26), .val (.int (1 : Int32))] [(.int (1 : Int32))])) t
              have q_v36 : v36 = (1 : Int32) := by rw [hv_v36, if_pos c208_38]
              rw [q_v36] at k
              exact k
            · skip
              refine XS.icmpYes X33.here hx rfl (pc0 := 208) (pc' := 215) rfl (hb hby at_208) rfl (feq c208_38).2 (by decide) (by decide) ?_
              show Steps p.tables e below (T33.setTop (mkF m 215 #[.val (.long q1), .second, .val (.long q2), .second, .val (.long q3), .second, .val (.long q4), .second, .val (.int p5), .val (.int v1), .val (.int v2), .val (.int v3), .val (.int v4), .val (.int v5), .val (.int v6), .val (.int v7), .val (.int v8), .val (.int v10), .val (.int v14), .val (.int v16), .val (.int v18), .val (.int v20), .val (.ref b21), .val (.ref b23), .val (.int v26), .val (.int (1 : Int32))] [])) t
              refine XS.iconst X33.here hx rfl (hb hby at_215) ?_
              show Steps p.tables e below (T33.setTop (mkF m 216 #[.val (.long q1), .second, .val (.long q2), .second, .val (.long q3), .second, .val (.long q4), .second, .val (.int p5), .val (.int v1), .val (.int v2), .val (.int v3), .val (.int v4), .val (.int v5), .val (.int v6), .val (.int v7), .val (.int v8), .val (.int v10), .val (.int v14), .val (.int v16), .val (.int v18), .val (.int v20), .val (.ref b21), .val (.ref b23), .val (.int v26), .val (.int (1 : Int32))] [(.int (0 : Int32))])) t
              have q_v36 : v36 = (0 : Int32) := by rw [hv_v36, if_neg c208_38]
              rw [q_v36] at k
              exact k
          refine OutW.back j37 ?_
          show OutW _ _ _ _ _ _ _ (T33.setTop (mkF m 216 #[.val (.long q1), .second, .val (.long q2), .second, .val (.long q3), .second, .val (.long q4), .second, .val (.int p5), .val (.int v1), .val (.int v2), .val (.int v3), .val (.int v4), .val (.int v5), .val (.int v6), .val (.int v7), .val (.int v8), .val (.int v10), .val (.int v14), .val (.int v16), .val (.int v18), .val (.int v20), .val (.ref b21), .val (.ref b23), .val (.int v26), .val (.int (1 : Int32))] [(.int v36)]))
          refine OutW.retN X33 hx (t := .boolean) (z' := 1) Bd.returns (by simp) hlk (hb hby at_216) ?hz (by decide) (by decide) ?_
          case hz =>
            have hfin : v36 = (1 : Int32) := by
              simp only [own_min, own_max, Classical.not_not] at c158_28 c170_30 c182_32 c194_34
              rw [hv_v36, ← hv_v26, contF]
              simp [c158_28, c170_30, c182_32, c194_34]
            rw [hfin]; rfl
          show Q0 Z q1 q2 q3 q4 p5 h0 n0 _ T33.heap _
          rw [e33]
          exact ⟨rfl, N33⟩
        · skip
          refine OutW.back (fun t k => XS.icmpYes X33.here hx rfl (pc0 := 194) (pc' := 201) rfl (hb hby at_194) rfl (feq c194_34).2 (by decide) (by decide) k) ?_
          show OutW _ _ _ _ _ _ _ (T33.setTop (mkF m 201 #[.val (.long q1), .second, .val (.long q2), .second, .val (.long q3), .second, .val (.long q4), .second, .val (.int p5), .val (.int v1), .val (.int v2), .val (.int v3), .val (.int v4), .val (.int v5), .val (.int v6), .val (.int v7), .val (.int v8), .val (.int v10), .val (.int v14), .val (.int v16), .val (.int v18), .val (.int v20), .val (.ref b21), .val (.ref b23), .val (.int v26), .unset] []))
          refine OutW.back (fun t k => XS.iconst X33.here hx rfl (hb hby at_201) k) ?_
          show OutW _ _ _ _ _ _ _ (T33.setTop (mkF m 202 #[.val (.long q1), .second, .val (.long q2), .second, .val (.long q3), .second, .val (.long q4), .second, .val (.int p5), .val (.int v1), .val (.int v2), .val (.int v3), .val (.int v4), .val (.int v5), .val (.int v6), .val (.int v7), .val (.int v8), .val (.int v10), .val (.int v14), .val (.int v16), .val (.int v18), .val (.int v20), .val (.ref b21), .val (.ref b23), .val (.int v26), .unset] [(.int (0 : Int32))]))
          refine OutW.back (fun t k => XS.istore X33.here hx rfl (hb hby at_202) rfl (l' := #[.val (.long q1), .second, .val (.long q2), .second, .val (.long q3), .second, .val (.long q4), .second, .val (.int p5), .val (.int v1), .val (.int v2), .val (.int v3), .val (.int v4), .val (.int v5), .val (.int v6), .val (.int v7), .val (.int v8), .val (.int v10), .val (.int v14), .val (.int v16), .val (.int v18), .val (.int v20), .val (.ref b21), .val (.ref b23), .val (.int v26), .val (.int (0 : Int32))]) rfl k) ?_
          show OutW _ _ _ _ _ _ _ (T33.setTop (mkF m 204 #[.val (.long q1), .second, .val (.long q2), .second, .val (.long q3), .second, .val (.long q4), .second, .val (.int p5), .val (.int v1), .val (.int v2), .val (.int v3), .val (.int v4), .val (.int v5), .val (.int v6), .val (.int v7), .val (.int v8), .val (.int v10), .val (.int v14), .val (.int v16), .val (.int v18), .val (.int v20), .val (.ref b21), .val (.ref b23), .val (.int v26), .val (.int (0 : Int32))] []))
          refine OutW.back (fun t k => XS.iload X33.here hx rfl (hb hby at_204) rfl  k) ?_
          show OutW _ _ _ _ _ _ _ (T33.setTop (mkF m 206 #[.val (.long q1), .second, .val (.long q2), .second, .val (.long q3), .second, .val (.long q4), .second, .val (.int p5), .val (.int v1), .val (.int v2), .val (.int v3), .val (.int v4), .val (.int v5), .val (.int v6), .val (.int v7), .val (.int v8), .val (.int v10), .val (.int v14), .val (.int v16), .val (.int v18), .val (.int v20), .val (.ref b21), .val (.ref b23), .val (.int v26), .val (.int (0 : Int32))] [(.int v26)]))
          refine OutW.back (fun t k => XS.iload X33.here hx rfl (hb hby at_206) rfl  k) ?_
          show OutW _ _ _ _ _ _ _ (T33.setTop (mkF m 208 #[.val (.long q1), .second, .val (.long q2), .second, .val (.long q3), .second, .val (.long q4), .second, .val (.int p5), .val (.int v1), .val (.int v2), .val (.int v3), .val (.int v4), .val (.int v5), .val (.int v6), .val (.int v7), .val (.int v8), .val (.int v10), .val (.int v14), .val (.int v16), .val (.int v18), .val (.int v20), .val (.ref b21), .val (.ref b23), .val (.int v26), .val (.int (0 : Int32))] [(.int (0 : Int32)), (.int v26)]))
          obtain ⟨v40, hv_v40⟩ : ∃ z : Int32, z = (if v26 = (0 : Int32) then (1 : Int32) else (0 : Int32)) := ⟨_, rfl⟩
          have j41 : ∀ t, Steps p.tables e below (T33.setTop (mkF m 216 #[.val (.long q1), .second, .val (.long q2), .second, .val (.long q3), .second, .val (.long q4), .second, .val (.int p5), .val (.int v1), .val (.int v2), .val (.int v3), .val (.int v4), .val (.int v5), .val (.int v6), .val (.int v7), .val (.int v8), .val (.int v10), .val (.int v14), .val (.int v16), .val (.int v18), .val (.int v20), .val (.ref b21), .val (.ref b23), .val (.int v26), .val (.int (0 : Int32))] [(.int v40)])) t → Steps p.tables e below (T33.setTop (mkF m 208 #[.val (.long q1), .second, .val (.long q2), .second, .val (.long q3), .second, .val (.long q4), .second, .val (.int p5), .val (.int v1), .val (.int v2), .val (.int v3), .val (.int v4), .val (.int v5), .val (.int v6), .val (.int v7), .val (.int v8), .val (.int v10), .val (.int v14), .val (.int v16), .val (.int v18), .val (.int v20), .val (.ref b21), .val (.ref b23), .val (.int v26), .val (.int (0 : Int32))] [(.int (0 : Int32)), (.int v26)])) t := by
            intro t k
            by_cases c208_42 : v26 = (0 : Int32)
            · skip
              refine XS.icmpNo X33.here hx rfl (hb hby at_208) rfl (teq c208_42).2 ?_
              show Steps p.tables e below (T33.setTop (mkF m 211 #[.val (.long q1), .second, .val (.long q2), .second, .val (.long q3), .second, .val (.long q4), .second, .val (.int p5), .val (.int v1), .val (.int v2), .val (.int v3), .val (.int v4), .val (.int v5), .val (.int v6), .val (.int v7), .val (.int v8), .val (.int v10), .val (.int v14), .val (.int v16), .val (.int v18), .val (.int v20), .val (.ref b21), .val (.ref b23), .val (.int v26), .val (.int (0 : Int32))] [])) t
              refine XS.iconst X33.here hx rfl (hb hby at_211) ?_
              show Steps p.tables e below (T33.setTop (mkF m 212 #[.val (.long q1), .second, .val (.long q2), .second, .val (.long q3), .second, .val (.long q4), .second, .val (.int p5), .val (.int v1), .val (.int v2), .val (.int v3), .val (.int v4), .val (.int v5), .val (.int v6), .val (.int v7), .val (.int v8), .val (.int v10), .val (.int v14), .val (.int v16), .val (.int v18), .val (.int v20), .val (.ref b21), .val (.ref b23), .val (.int v26), .val (.int (0 : Int32))] [(.int (1 : Int32))])) t
              refine XS.goto X33.here hx rfl (pc0 := 212) (pc' := 216) rfl (hb hby at_212) (by decide) (by decide) ?_
              show Steps p.tables e below (T33.setTop (mkF m 216 #[.val (.long q1), .second, .val (.long q2), .second, .val (.long q3), .second, .val (.long q4), .second, .val (.int p5), .val (.int v1), .val (.int v2), .val (.int v3), .val (.int v4), .val (.int v5), .val (.int v6), .val (.int v7), .val (.int v8), .val (.int v10), .val (.int v14), .val (.int v16), .val (.int v18), .val (.int v20), .val (.ref b21), .val (.ref b23), .val (.int v26), .val (.int (0 : Int32))] [(.int (1 : Int32))])) t
              have q_v40 : v40 = (1 : Int32) := by rw [hv_v40, if_pos c208_42]
              rw [q_v40] at k
              exact k
            · skip
              refine XS.icmpYes X33.here hx rfl (pc0 := 208) (pc' := 215) rfl (hb hby at_208) rfl (feq c208_42).2 (by decide) (by decide) ?_
              show Steps p.tables e below (T33.setTop (mkF m 215 #[.val (.long q1), .second, .val (.long q2), .second, .val (.long q3), .second, .val (.long q4), .second, .val (.int p5), .val (.int v1), .val (.int v2), .val (.int v3), .val (.int v4), .val (.int v5), .val (.int v6), .val (.int v7), .val (.int v8), .val (.int v10), .val (.int v14), .val (.int v16), .val (.int v18), .val (.int v20), .val (.ref b21), .val (.ref b23), .val (.int v26), .val (.int (0 : Int32))] [])) t
              refine XS.iconst X33.here hx rfl (hb hby at_215) ?_
              show Steps p.tables e below (T33.setTop (mkF m 216 #[.val (.long q1), .second, .val (.long q2), .second, .val (.long q3), .second, .val (.long q4), .second, .val (.int p5), .val (.int v1), .val (.int v2), .val (.int v3), .val (.int v4), .val (.int v5), .val (.int v6), .val (.int v7), .val (.int v8), .val (.int v10), .val (.int v14), .val (.int v16), .val (.int v18), .val (.int v20), .val (.ref b21), .val (.ref b23), .val (.int v26), .val (.int (0 : Int32))] [(.int (0 : Int32))])) t
              have q_v40 : v40 = (0 : Int32) := by rw [hv_v40, if_neg c208_42]
              rw [q_v40] at k
              exact k
          refine OutW.back j41 ?_
          show OutW _ _ _ _ _ _ _ (T33.setTop (mkF m 216 #[.val (.long q1), .second, .val (.long q2), .second, .val (.long q3), .second, .val (.long q4), .second, .val (.int p5), .val (.int v1), .val (.int v2), .val (.int v3), .val (.int v4), .val (.int v5), .val (.int v6), .val (.int v7), .val (.int v8), .val (.int v10), .val (.int v14), .val (.int v16), .val (.int v18), .val (.int v20), .val (.ref b21), .val (.ref b23), .val (.int v26), .val (.int (0 : Int32))] [(.int v40)]))
          refine OutW.retN X33 hx (t := .boolean) (z' := 1) Bd.returns (by simp) hlk (hb hby at_216) ?hz (by decide) (by decide) ?_
          case hz =>
            have hfin : v40 = (1 : Int32) := by
              simp only [own_min, own_max, Classical.not_not] at c158_28 c170_30 c182_32 c194_34
              rw [hv_v40, ← hv_v26, contF]
              simp [c158_28, c170_30, c182_32, c194_34]
            rw [hfin]; rfl
          show Q0 Z q1 q2 q3 q4 p5 h0 n0 _ T33.heap _
          rw [e33]
          exact ⟨rfl, N33⟩
      · skip
        refine OutW.back (fun t k => XS.icmpYes X31.here hx rfl (pc0 := 182) (pc' := 201) rfl (hb hby at_182) rfl (feq c182_32).2 (by decide) (by decide) k) ?_
        show OutW _ _ _ _ _ _ _ (T31.setTop (mkF m 201 #[.val (.long q1), .second, .val (.long q2), .second, .val (.long q3), .second, .val (.long q4), .second, .val (.int p5), .val (.int v1), .val (.int v2), .val (.int v3), .val (.int v4), .val (.int v5), .val (.int v6), .val (.int v7), .val (.int v8), .val (.int v10), .val (.int v14), .val (.int v16), .val (.int v18), .val (.int v20), .val (.ref b21), .val (.ref b23), .val (.int v26), .unset] []))
        refine OutW.back (fun t k => XS.iconst X31.here hx rfl (hb hby at_201) k) ?_
        show OutW _ _ _ _ _ _ _ (T31.setTop (mkF m 202 #[.val (.long q1), .second, .val (.long q2), .second, .val (.long q3), .second, .val (.long q4), .second, .val (.int p5), .val (.int v1), .val (.int v2), .val (.int v3), .val (.int v4), .val (.int v5), .val (.int v6), .val (.int v7), .val (.int v8), .val (.int v10), .val (.int v14), .val (.int v16), .val (.int v18), .val (.int v20), .val (.ref b21), .val (.ref b23), .val (.int v26), .unset] [(.int (0 : Int32))]))
        refine OutW.back (fun t k => XS.istore X31.here hx rfl (hb hby at_202) rfl (l' := #[.val (.long q1), .second, .val (.long q2), .second, .val (.long q3), .second, .val (.long q4), .second, .val (.int p5), .val (.int v1), .val (.int v2), .val (.int v3), .val (.int v4), .val (.int v5), .val (.int v6), .val (.int v7), .val (.int v8), .val (.int v10), .val (.int v14), .val (.int v16), .val (.int v18), .val (.int v20), .val (.ref b21), .val (.ref b23), .val (.int v26), .val (.int (0 : Int32))]) rfl k) ?_
        show OutW _ _ _ _ _ _ _ (T31.setTop (mkF m 204 #[.val (.long q1), .second, .val (.long q2), .second, .val (.long q3), .second, .val (.long q4), .second, .val (.int p5), .val (.int v1), .val (.int v2), .val (.int v3), .val (.int v4), .val (.int v5), .val (.int v6), .val (.int v7), .val (.int v8), .val (.int v10), .val (.int v14), .val (.int v16), .val (.int v18), .val (.int v20), .val (.ref b21), .val (.ref b23), .val (.int v26), .val (.int (0 : Int32))] []))
        refine OutW.back (fun t k => XS.iload X31.here hx rfl (hb hby at_204) rfl  k) ?_
        show OutW _ _ _ _ _ _ _ (T31.setTop (mkF m 206 #[.val (.long q1), .second, .val (.long q2), .second, .val (.long q3), .second, .val (.long q4), .second, .val (.int p5), .val (.int v1), .val (.int v2), .val (.int v3), .val (.int v4), .val (.int v5), .val (.int v6), .val (.int v7), .val (.int v8), .val (.int v10), .val (.int v14), .val (.int v16), .val (.int v18), .val (.int v20), .val (.ref b21), .val (.ref b23), .val (.int v26), .val (.int (0 : Int32))] [(.int v26)]))
        refine OutW.back (fun t k => XS.iload X31.here hx rfl (hb hby at_206) rfl  k) ?_
        show OutW _ _ _ _ _ _ _ (T31.setTop (mkF m 208 #[.val (.long q1), .second, .val (.long q2), .second, .val (.long q3), .second, .val (.long q4), .second, .val (.int p5), .val (.int v1), .val (.int v2), .val (.int v3), .val (.int v4), .val (.int v5), .val (.int v6), .val (.int v7), .val (.int v8), .val (.int v10), .val (.int v14), .val (.int v16), .val (.int v18), .val (.int v20), .val (.ref b21), .val (.ref b23), .val (.int v26), .val (.int (0 : Int32))] [(.int (0 : Int32)), (.int v26)]))
        obtain ⟨v44, hv_v44⟩ : ∃ z : Int32, z = (if v26 = (0 : Int32) then (1 : Int32) else (0 : Int32)) := ⟨_, rfl⟩
        have j45 : ∀ t, Steps p.tables e below (T31.setTop (mkF m 216 #[.val (.long q1), .second, .val (.long q2), .second, .val (.long q3), .second, .val (.long q4), .second, .val (.int p5), .val (.int v1), .val (.int v2), .val (.int v3), .val (.int v4), .val (.int v5), .val (.int v6), .val (.int v7), .val (.int v8), .val (.int v10), .val (.int v14), .val (.int v16), .val (.int v18), .val (.int v20), .val (.ref b21), .val (.ref b23), .val (.int v26), .val (.int (0 : Int32))] [(.int v44)])) t → Steps p.tables e below (T31.setTop (mkF m 208 #[.val (.long q1), .second, .val (.long q2), .second, .val (.long q3), .second, .val (.long q4), .second, .val (.int p5), .val (.int v1), .val (.int v2), .val (.int v3), .val (.int v4), .val (.int v5), .val (.int v6), .val (.int v7), .val (.int v8), .val (.int v10), .val (.int v14), .val (.int v16), .val (.int v18), .val (.int v20), .val (.ref b21), .val (.ref b23), .val (.int v26), .val (.int (0 : Int32))] [(.int (0 : Int32)), (.int v26)])) t := by
          intro t k
          by_cases c208_46 : v26 = (0 : Int32)
          · skip
            refine XS.icmpNo X31.here hx rfl (hb hby at_208) rfl (teq c208_46).2 ?_
            show Steps p.tables e below (T31.setTop (mkF m 211 #[.val (.long q1), .second, .val (.long q2), .second, .val (.long q3), .second, .val (.long q4), .second, .val (.int p5), .val (.int v1), .val (.int v2), .val (.int v3), .val (.int v4), .val (.int v5), .val (.int v6), .val (.int v7), .val (.int v8), .val (.int v10), .val (.int v14), .val (.int v16), .val (.int v18), .val (.int v20), .val (.ref b21), .val (.ref b23), .val (.int v26), .val (.int (0 : Int32))] [])) t
            refine XS.iconst X31.here hx rfl (hb hby at_211) ?_
            show Steps p.tables e below (T31.setTop (mkF m 212 #[.val (.long q1), .second, .val (.long q2), .second, .val (.long q3), .second, .val (.long q4), .second, .val (.int p5), .val (.int v1), .val (.int v2), .val (.int v3), .val (.int v4), .val (.int v5), .val (.int v6), .val (.int v7), .val (.int v8), .val (.int v10), .val (.int v14), .val (.int v16), .val (.int v18), .val (.int v20), .val (.ref b21), .val (.ref b23), .val (.int v26), .val (.int (0 : Int32))] [(.int (1 : Int32))])) t
            refine XS.goto X31.here hx rfl (pc0 := 212) (pc' := 216) rfl (hb hby at_212) (by decide) (by decide) ?_
            show Steps p.tables e below (T31.setTop (mkF m 216 #[.val (.long q1), .second, .val (.long q2), .second, .val (.long q3), .second, .val (.long q4), .second, .val (.int p5), .val (.int v1), .val (.int v2), .val (.int v3), .val (.int v4), .val (.int v5), .val (.int v6), .val (.int v7), .val (.int v8), .val (.int v10), .val (.int v14), .val (.int v16), .val (.int v18), .val (.int v20), .val (.ref b21), .val (.ref b23), .val (.int v26), .val (.int (0 : Int32))] [(.int (1 : Int32))])) t
            have q_v44 : v44 = (1 : Int32) := by rw [hv_v44, if_pos c208_46]
            rw [q_v44] at k
            exact k
          · skip
            refine XS.icmpYes X31.here hx rfl (pc0 := 208) (pc' := 215) rfl (hb hby at_208) rfl (feq c208_46).2 (by decide) (by decide) ?_
            show Steps p.tables e below (T31.setTop (mkF m 215 #[.val (.long q1), .second, .val (.long q2), .second, .val (.long q3), .second, .val (.long q4), .second, .val (.int p5), .val (.int v1), .val (.int v2), .val (.int v3), .val (.int v4), .val (.int v5), .val (.int v6), .val (.int v7), .val (.int v8), .val (.int v10), .val (.int v14), .val (.int v16), .val (.int v18), .val (.int v20), .val (.ref b21), .val (.ref b23), .val (.int v26), .val (.int (0 : Int32))] [])) t
            refine XS.iconst X31.here hx rfl (hb hby at_215) ?_
            show Steps p.tables e below (T31.setTop (mkF m 216 #[.val (.long q1), .second, .val (.long q2), .second, .val (.long q3), .second, .val (.long q4), .second, .val (.int p5), .val (.int v1), .val (.int v2), .val (.int v3), .val (.int v4), .val (.int v5), .val (.int v6), .val (.int v7), .val (.int v8), .val (.int v10), .val (.int v14), .val (.int v16), .val (.int v18), .val (.int v20), .val (.ref b21), .val (.ref b23), .val (.int v26), .val (.int (0 : Int32))] [(.int (0 : Int32))])) t
            have q_v44 : v44 = (0 : Int32) := by rw [hv_v44, if_neg c208_46]
            rw [q_v44] at k
            exact k
        refine OutW.back j45 ?_
        show OutW _ _ _ _ _ _ _ (T31.setTop (mkF m 216 #[.val (.long q1), .second, .val (.long q2), .second, .val (.long q3), .second, .val (.long q4), .second, .val (.int p5), .val (.int v1), .val (.int v2), .val (.int v3), .val (.int v4), .val (.int v5), .val (.int v6), .val (.int v7), .val (.int v8), .val (.int v10), .val (.int v14), .val (.int v16), .val (.int v18), .val (.int v20), .val (.ref b21), .val (.ref b23), .val (.int v26), .val (.int (0 : Int32))] [(.int v44)]))
        refine OutW.retN X31 hx (t := .boolean) (z' := 1) Bd.returns (by simp) hlk (hb hby at_216) ?hz (by decide) (by decide) ?_
        case hz =>
          have hfin : v44 = (1 : Int32) := by
            simp only [own_min, own_max, Classical.not_not] at c158_28 c170_30 c182_32
            rw [hv_v44, ← hv_v26, contF]
            simp [c158_28, c170_30, c182_32]
          rw [hfin]; rfl
        show Q0 Z q1 q2 q3 q4 p5 h0 n0 _ T31.heap _
        rw [e31]
        exact ⟨rfl, N31⟩
    · skip
      refine OutW.back (fun t k => XS.icmpYes X29.here hx rfl (pc0 := 170) (pc' := 201) rfl (hb hby at_170) rfl (feq c170_30).2 (by decide) (by decide) k) ?_
      show OutW _ _ _ _ _ _ _ (T29.setTop (mkF m 201 #[.val (.long q1), .second, .val (.long q2), .second, .val (.long q3), .second, .val (.long q4), .second, .val (.int p5), .val (.int v1), .val (.int v2), .val (.int v3), .val (.int v4), .val (.int v5), .val (.int v6), .val (.int v7), .val (.int v8), .val (.int v10), .val (.int v14), .val (.int v16), .val (.int v18), .val (.int v20), .val (.ref b21), .val (.ref b23), .val (.int v26), .unset] []))
      refine OutW.back (fun t k => XS.iconst X29.here hx rfl (hb hby at_201) k) ?_
      show OutW _ _ _ _ _ _ _ (T29.setTop (mkF m 202 #[.val (.long q1), .second, .val (.long q2), .second, .val (.long q3), .second, .val (.long q4), .second, .val (.int p5), .val (.int v1), .val (.int v2), .val (.int v3), .val (.int v4), .val (.int v5), .val (.int v6), .val (.int v7), .val (.int v8), .val (.int v10), .val (.int v14), .val (.int v16), .val (.int v18), .val (.int v20), .val (.ref b21), .val (.ref b23), .val (.int v26), .unset] [(.int (0 : Int32))]))
      refine OutW.back (fun t k => XS.istore X29.here hx rfl (hb hby at_202) rfl (l' := #[.val (.long q1), .second, .val (.long q2), .second, .val (.long q3), .second, .val (.long q4), .second, .val (.int p5), .val (.int v1), .val (.int v2), .val (.int v3), .val (.int v4), .val (.int v5), .val (.int v6), .val (.int v7), .val (.int v8), .val (.int v10), .val (.int v14), .val (.int v16), .val (.int v18), .val (.int v20), .val (.ref b21), .val (.ref b23), .val (.int v26), .val (.int (0 : Int32))]) rfl k) ?_
      show OutW _ _ _ _ _ _ _ (T29.setTop (mkF m 204 #[.val (.long q1), .second, .val (.long q2), .second, .val (.long q3), .second, .val (.long q4), .second, .val (.int p5), .val (.int v1), .val (.int v2), .val (.int v3), .val (.int v4), .val (.int v5), .val (.int v6), .val (.int v7), .val (.int v8), .val (.int v10), .val (.int v14), .val (.int v16), .val (.int v18), .val (.int v20), .val (.ref b21), .val (.ref b23), .val (.int v26), .val (.int (0 : Int32))] []))
      refine OutW.back (fun t k => XS.iload X29.here hx rfl (hb hby at_204) rfl  k) ?_
      show OutW _ _ _ _ _ _ _ (T29.setTop (mkF m 206 #[.val (.long q1), .second, .val (.long q2), .second, .val (.long q3), .second, .val (.long q4), .second, .val (.int p5), .val (.int v1), .val (.int v2), .val (.int v3), .val (.int v4), .val (.int v5), .val (.int v6), .val (.int v7), .val (.int v8), .val (.int v10), .val (.int v14), .val (.int v16), .val (.int v18), .val (.int v20), .val (.ref b21), .val (.ref b23), .val (.int v26), .val (.int (0 : Int32))] [(.int v26)]))
      refine OutW.back (fun t k => XS.iload X29.here hx rfl (hb hby at_206) rfl  k) ?_
      show OutW _ _ _ _ _ _ _ (T29.setTop (mkF m 208 #[.val (.long q1), .second, .val (.long q2), .second, .val (.long q3), .second, .val (.long q4), .second, .val (.int p5), .val (.int v1), .val (.int v2), .val (.int v3), .val (.int v4), .val (.int v5), .val (.int v6), .val (.int v7), .val (.int v8), .val (.int v10), .val (.int v14), .val (.int v16), .val (.int v18), .val (.int v20), .val (.ref b21), .val (.ref b23), .val (.int v26), .val (.int (0 : Int32))] [(.int (0 : Int32)), (.int v26)]))
      obtain ⟨v48, hv_v48⟩ : ∃ z : Int32, z = (if v26 = (0 : Int32) then (1 : Int32) else (0 : Int32)) := ⟨_, rfl⟩
      have j49 : ∀ t, Steps p.tables e below (T29.setTop (mkF m 216 #[.val (.long q1), .second, .val (.long q2), .second, .val (.long q3), .second, .val (.long q4), .second, .val (.int p5), .val (.int v1), .val (.int v2), .val (.int v3), .val (.int v4), .val (.int v5), .val (.int v6), .val (.int v7), .val (.int v8), .val (.int v10), .val (.int v14), .val (.int v16), .val (.int v18), .val (.int v20), .val (.ref b21), .val (.ref b23), .val (.int v26), .val (.int (0 : Int32))] [(.int v48)])) t → Steps p.tables e below (T29.setTop (mkF m 208 #[.val (.long q1), .second, .val (.long q2), .second, .val (.long q3), .second, .val (.long q4), .second, .val (.int p5), .val (.int v1), .val (.int v2), .val (.int v3), .val (.int v4), .val (.int v5), .val (.int v6), .val (.int v7), .val (.int v8), .val (.int v10), .val (.int v14), .val (.int v16), .val (.int v18), .val (.int v20), .val (.ref b21), .val (.ref b23), .val (.int v26), .val (.int (0 : Int32))] [(.int (0 : Int32)), (.int v26)])) t := by
        intro t k
        by_cases c208_50 : v26 = (0 : Int32)
        · skip
          refine XS.icmpNo X29.here hx rfl (hb hby at_208) rfl (teq c208_50).2 ?_
          show Steps p.tables e below (T29.setTop (mkF m 211 #[.val (.long q1), .second, .val (.long q2), .second, .val (.long q3), .second, .val (.long q4), .second, .val (.int p5), .val (.int v1), .val (.int v2), .val (.int v3), .val (.int v4), .val (.int v5), .val (.int v6), .val (.int v7), .val (.int v8), .val (.int v10), .val (.int v14), .val (.int v16), .val (.int v18), .val (.int v20), .val (.ref b21), .val (.ref b23), .val (.int v26), .val (.int (0 : Int32))] [])) t
          refine XS.iconst X29.here hx rfl (hb hby at_211) ?_
          show Steps p.tables e below (T29.setTop (mkF m 212 #[.val (.long q1), .second, .val (.long q2), .second, .val (.long q3), .second, .val (.long q4), .second, .val (.int p5), .val (.int v1), .val (.int v2), .val (.int v3), .val (.int v4), .val (.int v5), .val (.int v6), .val (.int v7), .val (.int v8), .val (.int v10), .val (.int v14), .val (.int v16), .val (.int v18), .val (.int v20), .val (.ref b21), .val (.ref b23), .val (.int v26), .val (.int (0 : Int32))] [(.int (1 : Int32))])) t
          refine XS.goto X29.here hx rfl (pc0 := 212) (pc' := 216) rfl (hb hby at_212) (by decide) (by decide) ?_
          show Steps p.tables e below (T29.setTop (mkF m 216 #[.val (.long q1), .second, .val (.long q2), .second, .val (.long q3), .second, .val (.long q4), .second, .val (.int p5), .val (.int v1), .val (.int v2), .val (.int v3), .val (.int v4), .val (.int v5), .val (.int v6), .val (.int v7), .val (.int v8), .val (.int v10), .val (.int v14), .val (.int v16), .val (.int v18), .val (.int v20), .val (.ref b21), .val (.ref b23), .val (.int v26), .val (.int (0 : Int32))] [(.int (1 : Int32))])) t
          have q_v48 : v48 = (1 : Int32) := by rw [hv_v48, if_pos c208_50]
          rw [q_v48] at k
          exact k
        · skip
          refine XS.icmpYes X29.here hx rfl (pc0 := 208) (pc' := 215) rfl (hb hby at_208) rfl (feq c208_50).2 (by decide) (by decide) ?_
          show Steps p.tables e below (T29.setTop (mkF m 215 #[.val (.long q1), .second, .val (.long q2), .second, .val (.long q3), .second, .val (.long q4), .second, .val (.int p5), .val (.int v1), .val (.int v2), .val (.int v3), .val (.int v4), .val (.int v5), .val (.int v6), .val (.int v7), .val (.int v8), .val (.int v10), .val (.int v14), .val (.int v16), .val (.int v18), .val (.int v20), .val (.ref b21), .val (.ref b23), .val (.int v26), .val (.int (0 : Int32))] [])) t
          refine XS.iconst X29.here hx rfl (hb hby at_215) ?_
          show Steps p.tables e below (T29.setTop (mkF m 216 #[.val (.long q1), .second, .val (.long q2), .second, .val (.long q3), .second, .val (.long q4), .second, .val (.int p5), .val (.int v1), .val (.int v2), .val (.int v3), .val (.int v4), .val (.int v5), .val (.int v6), .val (.int v7), .val (.int v8), .val (.int v10), .val (.int v14), .val (.int v16), .val (.int v18), .val (.int v20), .val (.ref b21), .val (.ref b23), .val (.int v26), .val (.int (0 : Int32))] [(.int (0 : Int32))])) t
          have q_v48 : v48 = (0 : Int32) := by rw [hv_v48, if_neg c208_50]
          rw [q_v48] at k
          exact k
      refine OutW.back j49 ?_
      show OutW _ _ _ _ _ _ _ (T29.setTop (mkF m 216 #[.val (.long q1), .second, .val (.long q2), .second, .val (.long q3), .second, .val (.long q4), .second, .val (.int p5), .val (.int v1), .val (.int v2), .val (.int v3), .val (.int v4), .val (.int v5), .val (.int v6), .val (.int v7), .val (.int v8), .val (.int v10), .val (.int v14), .val (.int v16), .val (.int v18), .val (.int v20), .val (.ref b21), .val (.ref b23), .val (.int v26), .val (.int (0 : Int32))] [(.int v48)]))
      refine OutW.retN X29 hx (t := .boolean) (z' := 1) Bd.returns (by simp) hlk (hb hby at_216) ?hz (by decide) (by decide) ?_
      case hz =>
        have hfin : v48 = (1 : Int32) := by
          simp only [own_min, own_max, Classical.not_not] at c158_28 c170_30
          rw [hv_v48, ← hv_v26, contF]
          simp [c158_28, c170_30]
        rw [hfin]; rfl
      show Q0 Z q1 q2 q3 q4 p5 h0 n0 _ T29.heap _
      rw [e29]
      exact ⟨rfl, N29⟩
  · skip
    refine OutW.back (fun t k => XS.icmpYes X27.here hx rfl (pc0 := 158) (pc' := 201) rfl (hb hby at_158) rfl (feq c158_28).2 (by decide) (by decide) k) ?_
    show OutW _ _ _ _ _ _ _ (T27.setTop (mkF m 201 #[.val (.long q1), .second, .val (.long q2), .second, .val (.long q3), .second, .val (.long q4), .second, .val (.int p5), .val (.int v1), .val (.int v2), .val (.int v3), .val (.int v4), .val (.int v5), .val (.int v6), .val (.int v7), .val (.int v8), .val (.int v10), .val (.int v14), .val (.int v16), .val (.int v18), .val (.int v20), .val (.ref b21), .val (.ref b23), .val (.int v26), .unset] []))
    refine OutW.back (fun t k => XS.iconst X27.here hx rfl (hb hby at_201) k) ?_
    show OutW _ _ _ _ _ _ _ (T27.setTop (mkF m 202 #[.val (.long q1), .second, .val (.long q2), .second, .val (.long q3), .second, .val (.long q4), .second, .val (.int p5), .val (.int v1), .val (.int v2), .val (.int v3), .val (.int v4), .val (.int v5), .val (.int v6), .val (.int v7), .val (.int v8), .val (.int v10), .val (.int v14), .val (.int v16), .val (.int v18), .val (.int v20), .val (.ref b21), .val (.ref b23), .val (.int v26), .unset] [(.int (0 : Int32))]))
    refine OutW.back (fun t k => XS.istore X27.here hx rfl (hb hby at_202) rfl (l' := #[.val (.long q1), .second, .val (.long q2), .second, .val (.long q3), .second, .val (.long q4), .second, .val (.int p5), .val (.int v1), .val (.int v2), .val (.int v3), .val (.int v4), .val (.int v5), .val (.int v6), .val (.int v7), .val (.int v8), .val (.int v10), .val (.int v14), .val (.int v16), .val (.int v18), .val (.int v20), .val (.ref b21), .val (.ref b23), .val (.int v26), .val (.int (0 : Int32))]) rfl k) ?_
    show OutW _ _ _ _ _ _ _ (T27.setTop (mkF m 204 #[.val (.long q1), .second, .val (.long q2), .second, .val (.long q3), .second, .val (.long q4), .second, .val (.int p5), .val (.int v1), .val (.int v2), .val (.int v3), .val (.int v4), .val (.int v5), .val (.int v6), .val (.int v7), .val (.int v8), .val (.int v10), .val (.int v14), .val (.int v16), .val (.int v18), .val (.int v20), .val (.ref b21), .val (.ref b23), .val (.int v26), .val (.int (0 : Int32))] []))
    refine OutW.back (fun t k => XS.iload X27.here hx rfl (hb hby at_204) rfl  k) ?_
    show OutW _ _ _ _ _ _ _ (T27.setTop (mkF m 206 #[.val (.long q1), .second, .val (.long q2), .second, .val (.long q3), .second, .val (.long q4), .second, .val (.int p5), .val (.int v1), .val (.int v2), .val (.int v3), .val (.int v4), .val (.int v5), .val (.int v6), .val (.int v7), .val (.int v8), .val (.int v10), .val (.int v14), .val (.int v16), .val (.int v18), .val (.int v20), .val (.ref b21), .val (.ref b23), .val (.int v26), .val (.int (0 : Int32))] [(.int v26)]))
    refine OutW.back (fun t k => XS.iload X27.here hx rfl (hb hby at_206) rfl  k) ?_
    show OutW _ _ _ _ _ _ _ (T27.setTop (mkF m 208 #[.val (.long q1), .second, .val (.long q2), .second, .val (.long q3), .second, .val (.long q4), .second, .val (.int p5), .val (.int v1), .val (.int v2), .val (.int v3), .val (.int v4), .val (.int v5), .val (.int v6), .val (.int v7), .val (.int v8), .val (.int v10), .val (.int v14), .val (.int v16), .val (.int v18), .val (.int v20), .val (.ref b21), .val (.ref b23), .val (.int v26), .val (.int (0 : Int32))] [(.int (0 : Int32)), (.int v26)]))
    obtain ⟨v52, hv_v52⟩ : ∃ z : Int32, z = (if v26 = (0 : Int32) then (1 : Int32) else (0 : Int32)) := ⟨_, rfl⟩
    have j53 : ∀ t, Steps p.tables e below (T27.setTop (mkF m 216 #[.val (.long q1), .second, .val (.long q2), .second, .val (.long q3), .second, .val (.long q4), .second, .val (.int p5), .val (.int v1), .val (.int v2), .val (.int v3), .val (.int v4), .val (.int v5), .val (.int v6), .val (.int v7), .val (.int v8), .val (.int v10), .val (.int v14), .val (.int v16), .val (.int v18), .val (.int v20), .val (.ref b21), .val (.ref b23), .val (.int v26), .val (.int (0 : Int32))] [(.int v52)])) t → Steps p.tables e below (T27.setTop (mkF m 208 #[.val (.long q1), .second, .val (.long q2), .second, .val (.long q3), .second, .val (.long q4), .second, .val (.int p5), .val (.int v1), .val (.int v2), .val (.int v3), .val (.int v4), .val (.int v5), .val (.int v6), .val (.int v7), .val (.int v8), .val (.int v10), .val (.int v14), .val (.int v16), .val (.int v18), .val (.int v20), .val (.ref b21), .val (.ref b23), .val (.int v26), .val (.int (0 : Int32))] [(.int (0 : Int32)), (.int v26)])) t := by
      intro t k
      by_cases c208_54 : v26 = (0 : Int32)
      · skip
        refine XS.icmpNo X27.here hx rfl (hb hby at_208) rfl (teq c208_54).2 ?_
        show Steps p.tables e below (T27.setTop (mkF m 211 #[.val (.long q1), .second, .val (.long q2), .second, .val (.long q3), .second, .val (.long q4), .second, .val (.int p5), .val (.int v1), .val (.int v2), .val (.int v3), .val (.int v4), .val (.int v5), .val (.int v6), .val (.int v7), .val (.int v8), .val (.int v10), .val (.int v14), .val (.int v16), .val (.int v18), .val (.int v20), .val (.ref b21), .val (.ref b23), .val (.int v26), .val (.int (0 : Int32))] [])) t
        refine XS.iconst X27.here hx rfl (hb hby at_211) ?_
        show Steps p.tables e below (T27.setTop (mkF m 212 #[.val (.long q1), .second, .val (.long q2), .second, .val (.long q3), .second, .val (.long q4), .second, .val (.int p5), .val (.int v1), .val (.int v2), .val (.int v3), .val (.int v4), .val (.int v5), .val (.int v6), .val (.int v7), .val (.int v8), .val (.int v10), .val (.int v14), .val (.int v16), .val (.int v18), .val (.int v20), .val (.ref b21), .val (.ref b23), .val (.int v26), .val (.int (0 : Int32))] [(.int (1 : Int32))])) t
        refine XS.goto X27.here hx rfl (pc0 := 212) (pc' := 216) rfl (hb hby at_212) (by decide) (by decide) ?_
        show Steps p.tables e below (T27.setTop (mkF m 216 #[.val (.long q1), .second, .val (.long q2), .second, .val (.long q3), .second, .val (.long q4), .second, .val (.int p5), .val (.int v1), .val (.int v2), .val (.int v3), .val (.int v4), .val (.int v5), .val (.int v6), .val (.int v7), .val (.int v8), .val (.int v10), .val (.int v14), .val (.int v16), .val (.int v18), .val (.int v20), .val (.ref b21), .val (.ref b23), .val (.int v26), .val (.int (0 : Int32))] [(.int (1 : Int32))])) t
        have q_v52 : v52 = (1 : Int32) := by rw [hv_v52, if_pos c208_54]
        rw [q_v52] at k
        exact k
      · skip
        refine XS.icmpYes X27.here hx rfl (pc0 := 208) (pc' := 215) rfl (hb hby at_208) rfl (feq c208_54).2 (by decide) (by decide) ?_
        show Steps p.tables e below (T27.setTop (mkF m 215 #[.val (.long q1), .second, .val (.long q2), .second, .val (.long q3), .second, .val (.long q4), .second, .val (.int p5), .val (.int v1), .val (.int v2), .val (.int v3), .val (.int v4), .val (.int v5), .val (.int v6), .val (.int v7), .val (.int v8), .val (.int v10), .val (.int v14), .val (.int v16), .val (.int v18), .val (.int v20), .val (.ref b21), .val (.ref b23), .val (.int v26), .val (.int (0 : Int32))] [])) t
        refine XS.iconst X27.here hx rfl (hb hby at_215) ?_
        show Steps p.tables e below (T27.setTop (mkF m 216 #[.val (.long q1), .second, .val (.long q2), .second, .val (.long q3), .second, .val (.long q4), .second, .val (.int p5), .val (.int v1), .val (.int v2), .val (.int v3), .val (.int v4), .val (.int v5), .val (.int v6), .val (.int v7), .val (.int v8), .val (.int v10), .val (.int v14), .val (.int v16), .val (.int v18), .val (.int v20), .val (.ref b21), .val (.ref b23), .val (.int v26), .val (.int (0 : Int32))] [(.int (0 : Int32))])) t
        have q_v52 : v52 = (0 : Int32) := by rw [hv_v52, if_neg c208_54]
        rw [q_v52] at k
        exact k
    refine OutW.back j53 ?_
    show OutW _ _ _ _ _ _ _ (T27.setTop (mkF m 216 #[.val (.long q1), .second, .val (.long q2), .second, .val (.long q3), .second, .val (.long q4), .second, .val (.int p5), .val (.int v1), .val (.int v2), .val (.int v3), .val (.int v4), .val (.int v5), .val (.int v6), .val (.int v7), .val (.int v8), .val (.int v10), .val (.int v14), .val (.int v16), .val (.int v18), .val (.int v20), .val (.ref b21), .val (.ref b23), .val (.int v26), .val (.int (0 : Int32))] [(.int v52)]))
    refine OutW.retN X27 hx (t := .boolean) (z' := 1) Bd.returns (by simp) hlk (hb hby at_216) ?hz (by decide) (by decide) ?_
    case hz =>
      have hfin : v52 = (1 : Int32) := by
        simp only [own_min, own_max, Classical.not_not] at c158_28
        rw [hv_v52, ← hv_v26, contF]
        simp [c158_28]
      rw [hfin]; rfl
    show Q0 Z q1 q2 q3 q4 p5 h0 n0 _ T27.heap _
    rw [e27]
    exact ⟨rfl, N27⟩
set_option maxRecDepth 65536 in
set_option maxHeartbeats 40000000 in
theorem comes_1 {Post : Tables → Env → Array Value → State → Outcome → State → Prop} (hpost : ∀ tb e args s v u, (limb_1_1.after args s (.returned v) u = true ∧ limb_1_2.after args s (.returned v) u = true ∧ True) → FrameEnd s (.returned v) u (Jvm.fieldLocs frame_1_writes args s ++ Jvm.arrayLocs frame_1_arrays args s ++ Jvm.staticLocs frame_1_statics s) 16 128 → Post tb e args s (.returned v) u) :
    ArmFor flags0 classFile x code maxLocals ret World_1 tables_1 room_1 Calls_1 rest_1 Pre_1 Post := by
  intro l hfl _ _ p e ha hc hk s m args below hf hA hF happ hP
  obtain ⟨hcalls, hrest, hpre⟩ := hP
  obtain ⟨-, -, -, hnamed, -, -, -, hat⟩ := (Spec.applies_iff hf).mp happ
  obtain ⟨hg, hn⟩ := and_e (Cond.before_iff.mp (show (Jvm.Cond.and given_1 narrow_1).before args s = true from hpre))
  obtain ⟨hcount, hg0⟩ := and_e hg
  obtain ⟨ga0, hg1⟩ := and_e hg0
  obtain ⟨ga1, hg2⟩ := and_e hg1
  obtain ⟨ga2, hg3⟩ := and_e hg2
  obtain ⟨ga3, hg4⟩ := and_e hg3
  have ga4 := hg4
  obtain ⟨w0, w1, w2, w3, w4, rfl⟩ : ∃ w0 w1 w2 w3 w4 : Value, args = #[w0, w1, w2, w3, w4] := by
    have hs : args.size = 5 := by simpa [Cond.value, given_1] using hcount
    obtain ⟨L⟩ := args
    match L, hs with
    | [w0, w1, w2, w3, w4], _ => exact ⟨w0, w1, w2, w3, w4, rfl⟩
  have hw := fun d (hd : d ∈ tables_1) => atoms_spec (ws := Jvm.Cond.code x code maxLocals ret :: tables_1) hat d (List.mem_cons_of_mem _ hd)
  obtain ⟨i0, ei0⟩ := isL_v ga0
  obtain rfl : w0 = (.long i0) := Option.some.inj ei0
  obtain ⟨i1, ei1⟩ := isL_v ga1
  obtain rfl : w1 = (.long i1) := Option.some.inj ei1
  obtain ⟨i2, ei2⟩ := isL_v ga2
  obtain rfl : w2 = (.long i2) := Option.some.inj ei2
  obtain ⟨i3, ei3⟩ := isL_v ga3
  obtain rfl : w3 = (.long i3) := Option.some.inj ei3
  obtain ⟨i4, ei4⟩ := is_v ga4
  obtain rfl : w4 = (.int i4) := Option.some.inj ei4
  obtain ⟨n, o, h1, h2, h3, _, L, rfl, ⟨rfl, N⟩, hq⟩ := rm0 l s _ hw tables_1 i0 i1 i2 i3 i4  s.heap s.heap.size (Nat.le_refl _)  p e ha hc hk s m _ below hf ((Spec.applies_iff_loose hf).mp happ).1 ⟨rfl, State.Warmed39.refl s, rfl⟩ trivial
  refine ⟨n, _, h1, h2, h3, hpost _ _ _ _ _ _ ⟨Cond.after_iff.mpr rfl, Cond.after_iff.mpr (eq_i res_at (Term.int_eval (1)) rfl), trivial⟩ ⟨hq.1, hq.2.1, (hq.2.2.sift fun y hy => Or.inr (N y hy)).mono (by decide) (by decide)⟩⟩
theorem main_1_1 : Claimed_1_1 := comes_1 fun _ _ _ _ _ _ h hF => ⟨h.1, hF⟩
theorem main_1_2 : Claimed_1_2 := comes_1 fun _ _ _ _ _ _ h hF => ⟨h.2.1, hF⟩
end Jvm.Pilot.@@N@@
namespace Jvm.Pilot.@@N@@
open Jvm Jvm.ClassFile Sem Op Lib Jvm.Free Jvm.Stand Jvm.Pilot.@@N@@.Jvm.D
/-! MADE BY PROGRAM (witnessworld.py) out of the Statement's table words and the real class files: 10 classes; the members and pool entries that the words name. The judged class is class 1, her method 2. -/
namespace start1
open Jvm.ClassFile
def u (s : String) : CpInfo := .utf8 (stringToUtf16 s)
/-- a pool by its gaps: so many unusable entries, then the entry; so many at the end -/
def gap : Nat → List CpInfo → List CpInfo
  | 0, r => r
  | n + 1, r => .unusable :: gap n r
def poolList (es : List (Nat × CpInfo)) (last : Nat) : List CpInfo := es.foldr (fun e r => gap e.1 (e.2 :: r)) (gap last [])
def pool (es : List (Nat × CpInfo)) (last : Nat) : Array CpInfo := ⟨poolList es last⟩
def fileOf (pool : Array CpInfo) (this : Nat) (attrs : Array Attribute := #[]) (ms : Array MethodInfo := #[]) (fl : Nat := 33) (sup : Nat := 0) (ifs : Array Nat := #[]) (fds : Array FieldInfo := #[]) : ClassFile where
  minorVersion := 0
  majorVersion := 65
  constantPool := pool
  accessFlags := fl
  thisClass := this
  superClass := sup
  interfaces := ifs
  fields := fds
  methods := ms
  attributes := attrs
def plain (name : String) (sup : Option ClassId) : Class where
  name := name
  kind := .ordinary
  loader := none
  accessFlags := 33
  super := sup
  interfaces := #[]
  cf := none
  fields := #[]
  methods := #[]
  instanceTypes := #[]
  staticTypes := #[]
  resolved := #[]
  callSites := []
  init := .initialized
  statics := none
  mirror := none

def pool0 : Array CpInfo := pool [(5, u "<init>"), (0, u "()V"), (1, .class_ 10), (1, u "java/lang/Object")] 113

def k0c0 : Code := { maxStack := 0, maxLocals := 1, code := object_method_1_code, exceptionTable := #[], attributes := #[] }
def k0m0 : Method := { name := "<init>", desc := "()V", sig := { parameters := [], returnType := none }, accessFlags := 1, code := some k0c0 }
/-- java/lang/Object -/
def k0 : Class := { plain "java/lang/Object" none with
  accessFlags := 33
  interfaces := #[]
  cf := some (fileOf pool0 8 #[] #[{ accessFlags := 1, nameIndex := 5, descriptorIndex := 6, attributes := #[] }] 33 0 #[] #[])
  fields := #[]
  methods := #[k0m0]
  instanceTypes := #[]
  staticTypes := #[]
  resolved := Array.replicate 124 none
  statics := none }

def pool1 : Array CpInfo := pool [(2, .class_ 4), (1, u "java/lang/Object"), (0, u "<init>"), (0, u "()V"), (0, .methodref 8 9), (0, .class_ 10), (0, .nameAndType 11 12), (0, u "com/example/canopy/canopy/model/RectContainsPinLaw"), (0, u "edge"), (0, u "(ZII)I"), (0, .class_ 14), (0, u "com/example/canopy/canopy/model/Rect"), (0, .methodref 13 16), (0, .nameAndType 5 17), (0, u "(IIII)V"), (0, .methodref 13 19), (0, .nameAndType 20 21), (0, u "contains"), (0, u "(Lcom/example/canopy/canopy/model/Rect;)Z"), (0, .methodref 23 24), (0, .class_ 25), (0, .nameAndType 26 27), (0, u "java/lang/Math"), (0, u "min"), (0, u "(II)I"), (0, .methodref 23 29), (0, .nameAndType 30 27), (0, u "max"), (3, u "law"), (0, u "(JJJJI)Z")] 2

def k1m0 : Method := { name := "<init>", desc := "()V", sig := { parameters := [], returnType := none }, accessFlags := 2, code := none }
def k1c1 : Code := { maxStack := 3, maxLocals := 3, code := method_2_code, exceptionTable := #[], attributes := #[] }
def k1m1 : Method := { name := "edge", desc := "(ZII)I", sig := { parameters := [.boolean, .int, .int], returnType := some .int }, accessFlags := 10, code := some k1c1 }
def k1c2 : Code := { maxStack := 6, maxLocals := 26, code := code, exceptionTable := #[], attributes := #[] }
def k1m2 : Method := { name := "law", desc := "(JJJJI)Z", sig := { parameters := [.long, .long, .long, .long, .int], returnType := some .boolean }, accessFlags := 9, code := some k1c2 }
/-- com/example/canopy/canopy/model/RectContainsPinLaw -/
def k1 : Class := { plain "com/example/canopy/canopy/model/RectContainsPinLaw" (some 0) with
  accessFlags := 49
  interfaces := #[]
  cf := some (fileOf pool1 8 #[] #[{ accessFlags := 2, nameIndex := 5, descriptorIndex := 6, attributes := #[] }, { accessFlags := 10, nameIndex := 11, descriptorIndex := 12, attributes := #[] }, { accessFlags := 9, nameIndex := 34, descriptorIndex := 35, attributes := #[] }] 49 2 #[] #[])
  fields := #[]
  methods := #[k1m0, k1m1, k1m2]
  instanceTypes := #[]
  staticTypes := #[]
  resolved := Array.replicate 38 none
  statics := none }

def pool2 : Array CpInfo := pool [(1, .methodref 2 3), (0, .class_ 4), (0, .nameAndType 5 6), (0, u "java/lang/Object"), (0, u "<init>"), (0, u "()V"), (0, .fieldref 8 9), (0, .class_ 10), (0, .nameAndType 11 12), (0, u "com/example/canopy/canopy/model/Rect"), (0, u "left"), (0, u "I"), (0, .fieldref 8 14), (0, .nameAndType 15 12), (0, u "top"), (0, .fieldref 8 17), (0, .nameAndType 18 12), (0, u "right"), (0, .fieldref 8 20), (0, .nameAndType 21 12), (0, u "bottom"), (32, u "(IIII)V"), (30, u "contains"), (0, u "(Lcom/example/canopy/canopy/model/Rect;)Z")] 28

def k2c0 : Code := { maxStack := 2, maxLocals := 5, code := prog_14_method_1_code, exceptionTable := #[], attributes := #[] }
def k2m0 : Method := { name := "<init>", desc := "(IIII)V", sig := { parameters := [.int, .int, .int, .int], returnType := none }, accessFlags := 1, code := some k2c0 }
def k2c1 : Code := { maxStack := 2, maxLocals := 2, code := prog_14_method_11_code, exceptionTable := #[], attributes := #[] }
def k2m1 : Method := { name := "contains", desc := "(Lcom/example/canopy/canopy/model/Rect;)Z", sig := { parameters := [(.object "com/example/canopy/canopy/model/Rect")], returnType := some .boolean }, accessFlags := 1, code := some k2c1 }
/-- com/example/canopy/canopy/model/Rect -/
def k2 : Class := { plain "com/example/canopy/canopy/model/Rect" (some 0) with
  accessFlags := 33
  interfaces := #[]
  cf := some (fileOf pool2 8 #[] #[{ accessFlags := 1, nameIndex := 5, descriptorIndex := 54, attributes := #[] }, { accessFlags := 1, nameIndex := 85, descriptorIndex := 86, attributes := #[] }] 33 2 #[] #[{ accessFlags := 18, nameIndex := 11, descriptorIndex := 12, attributes := #[] }, { accessFlags := 18, nameIndex := 15, descriptorIndex := 12, attributes := #[] }, { accessFlags := 18, nameIndex := 18, descriptorIndex := 12, attributes := #[] }, { accessFlags := 18, nameIndex := 21, descriptorIndex := 12, attributes := #[] }])
  fields := #[{ name := "left", type := .int, accessFlags := 18, slot := 0, constantValue := 0 }, { name := "top", type := .int, accessFlags := 18, slot := 1, constantValue := 0 }, { name := "right", type := .int, accessFlags := 18, slot := 2, constantValue := 0 }, { name := "bottom", type := .int, accessFlags := 18, slot := 3, constantValue := 0 }]
  methods := #[k2m0, k2m1]
  instanceTypes := #[.int, .int, .int, .int]
  staticTypes := #[]
  resolved := Array.replicate 115 none
  statics := none }

def pool3 : Array CpInfo := pool [(1, .class_ 2), (0, u "java/lang/Math"), (1, .class_ 6), (1, u "java/lang/Object"), (0, u "<init>"), (0, u "()V"), (89, .class_ 100), (1, u "java/lang/Math$RandomNumberGeneratorHolder"), (71, u "negativeZeroFloatBits"), (0, u "J"), (2, u "negativeZeroDoubleBits"), (21, u "max"), (2, u "min"), (43, u "$assertionsDisabled"), (0, u "Z"), (88, u "(II)I"), (2, u "twoToTheDoubleScaleDown"), (0, u "D"), (4, u "twoToTheDoubleScaleUp"), (9, u "E"), (3, u "PI"), (2, u "TAU"), (2, u "DEGREES_TO_RADIANS"), (0, u "RADIANS_TO_DEGREES")] 94

def k3m0 : Method := { name := "<init>", desc := "()V", sig := { parameters := [], returnType := none }, accessFlags := 2, code := none }
def k3c1 : Code := { maxStack := 2, maxLocals := 2, code := jdk_29_method_65_code, exceptionTable := #[], attributes := #[] }
def k3m1 : Method := { name := "max", desc := "(II)I", sig := { parameters := [.int, .int], returnType := some .int }, accessFlags := 9, code := some k3c1 }
def k3c2 : Code := { maxStack := 2, maxLocals := 2, code := jdk_29_method_69_code, exceptionTable := #[], attributes := #[] }
def k3m2 : Method := { name := "min", desc := "(II)I", sig := { parameters := [.int, .int], returnType := some .int }, accessFlags := 9, code := some k3c2 }
/-- java/lang/Math -/
def k3 : Class := { plain "java/lang/Math" (some 0) with
  accessFlags := 49
  interfaces := #[]
  cf := some (fileOf pool3 1 #[.nestMembers #[98]] #[{ accessFlags := 2, nameIndex := 7, descriptorIndex := 8, attributes := #[] }, { accessFlags := 9, nameIndex := 198, descriptorIndex := 335, attributes := #[] }, { accessFlags := 9, nameIndex := 201, descriptorIndex := 335, attributes := #[] }] 49 4 #[] #[{ accessFlags := 25, nameIndex := 354, descriptorIndex := 339, attributes := #[] }, { accessFlags := 25, nameIndex := 358, descriptorIndex := 339, attributes := #[] }, { accessFlags := 25, nameIndex := 361, descriptorIndex := 339, attributes := #[] }, { accessFlags := 26, nameIndex := 364, descriptorIndex := 339, attributes := #[] }, { accessFlags := 26, nameIndex := 365, descriptorIndex := 339, attributes := #[] }, { accessFlags := 26, nameIndex := 172, descriptorIndex := 173, attributes := #[] }, { accessFlags := 26, nameIndex := 176, descriptorIndex := 173, attributes := #[] }, { accessFlags := 8, nameIndex := 344, descriptorIndex := 339, attributes := #[] }, { accessFlags := 8, nameIndex := 338, descriptorIndex := 339, attributes := #[] }, { accessFlags := 4120, nameIndex := 245, descriptorIndex := 246, attributes := #[] }])
  fields := #[{ name := "E", type := .double, accessFlags := 25, slot := 0, constantValue := 0 }, { name := "PI", type := .double, accessFlags := 25, slot := 1, constantValue := 0 }, { name := "TAU", type := .double, accessFlags := 25, slot := 2, constantValue := 0 }, { name := "DEGREES_TO_RADIANS", type := .double, accessFlags := 26, slot := 3, constantValue := 0 }, { name := "RADIANS_TO_DEGREES", type := .double, accessFlags := 26, slot := 4, constantValue := 0 }, { name := "negativeZeroFloatBits", type := .long, accessFlags := 26, slot := 5, constantValue := 0 }, { name := "negativeZeroDoubleBits", type := .long, accessFlags := 26, slot := 6, constantValue := 0 }, { name := "twoToTheDoubleScaleUp", type := .double, accessFlags := 8, slot := 7, constantValue := 0 }, { name := "twoToTheDoubleScaleDown", type := .double, accessFlags := 8, slot := 8, constantValue := 0 }, { name := "$assertionsDisabled", type := .boolean, accessFlags := 4120, slot := 9, constantValue := 0 }]
  methods := #[k3m0, k3m1, k3m2]
  instanceTypes := #[]
  staticTypes := #[.double, .double, .double, .double, .double, .long, .long, .double, .double, .boolean]
  resolved := Array.replicate 460 none
  statics := none }

def pool4 : Array CpInfo := pool [(1, u "java/lang/Cloneable"), (0, .class_ 1), (0, u "java/lang/Object"), (0, .class_ 3)] 3

/-- java/lang/Cloneable -/
def k4 : Class := { plain "java/lang/Cloneable" (some 0) with
  accessFlags := 1537
  interfaces := #[]
  cf := some (fileOf pool4 2 #[] #[] 1537 4 #[] #[])
  fields := #[]
  methods := #[]
  instanceTypes := #[]
  staticTypes := #[]
  resolved := Array.replicate 8 none
  statics := none }

def pool5 : Array CpInfo := pool [(1, u "java/io/Serializable"), (0, .class_ 1), (0, u "java/lang/Object"), (0, .class_ 3)] 3

/-- java/io/Serializable -/
def k5 : Class := { plain "java/io/Serializable" (some 0) with
  accessFlags := 1537
  interfaces := #[]
  cf := some (fileOf pool5 2 #[] #[] 1537 4 #[] #[])
  fields := #[]
  methods := #[]
  instanceTypes := #[]
  staticTypes := #[]
  resolved := Array.replicate 8 none
  statics := none }

/-- the primitive byte -/
def k6 : Class := { plain "byte" none with kind := .primitive 'B', accessFlags := 0x411 }
/-- [B -/
def k7 : Class := { plain "[B" (some 0) with kind := .array 6 .byte, interfaces := #[4, 5], accessFlags := 1041 }

/-- the primitive int -/
def k8 : Class := { plain "int" none with kind := .primitive 'I', accessFlags := 0x411 }
/-- [I -/
def k9 : Class := { plain "[I" (some 0) with kind := .array 8 .int, interfaces := #[4, 5], accessFlags := 1041 }

def heap : Heap := #[]
def classes : Array Class := #[k0, k1, k2, k3, k4, k5, k6, k7, k8, k9]
def interned : List (Array UInt16 × Addr) := []
def slotsUsed : Nat := 0
def theMethod : MethodId := ⟨1, 2⟩
def args0 : Array Value := #[.long 7, .long 8, .long 9, .long 10, .int 9]
def aboutOver (below : List Frame) : State where
  vm := { classes := classes, interned := interned.toArray }
  heap := heap
  slotsUsed := slotsUsed
  threads := #[{ frames := .invoking theMethod args0 :: below }]
def below0 : List Frame := [.native { method := ⟨0, 0⟩, args := #[] }]
def about1 : State := aboutOver below0
def p0 : Program := .bare "" "" ""
def e0 : Env := launch0.env 0 0 0
theorem w_frames : about1.frames = Frame.invoking theMethod args0 :: below0 := rfl
set_option maxRecDepth 65536 in
theorem w_args : argsFit about1.vm theMethod args0 = true := by decide +kernel
set_option maxRecDepth 65536 in
theorem w_heap : heapFits about1 = true := by decide +kernel
set_option maxRecDepth 65536 in
theorem w_runnable : about1.curStatus? = some .runnable := by decide +kernel
set_option maxRecDepth 65536 in
theorem w_alone : about1.alone = true := by decide +kernel
set_option maxRecDepth 65536 in
theorem w_named : about1.methodNamed? x = some theMethod := by decide +kernel
set_option maxRecDepth 65536 in
theorem w_hears : about1.hears theMethod below0 = true := by decide +kernel
set_option maxRecDepth 65536 in
theorem w_ripe : about1.ripe theMethod args0 below0 = true := by decide +kernel
theorem w_running : about1.status = .running := rfl
set_option maxRecDepth 65536 in
theorem w_room : about1.hasRoom e0.platform room_1 = true :=
  launch0.hasRoom_least _ room_1 (by decide +kernel) (by decide +kernel) (by decide +kernel) (by decide +kernel) (by decide +kernel) (by decide +kernel)
theorem allAtoms_all (ts : List Jvm.Cond) (a : Array Jvm.Value) (st : Jvm.State) : (allAtoms ts).before a st = ts.all (fun c => c.before a st) := by
  induction ts with
  | nil => rfl
  | cons c t ih =>
    show (Jvm.Cond.and c (allAtoms t)).before a st = _
    rw [Jvm.Cond.before_and, ih, List.all_cons]
def words1 : List Jvm.Cond := Jvm.Cond.code x code maxLocals ret :: tables_1
/-- a 'code' word, met by the world's own term for the bytes: nothing is compared byte by byte -/
theorem code_word {y : MethodName} {bytes : ByteArray} {mx : Nat} {rt : Option FieldType} {a : Array Value} {s : State} {m : MethodId} {meth : Method} {c : Code} (h1 : s.methodNamed? y = some m) (h2 : s.vm.method? m = some meth) (h3 : meth.code = some c) (h4 : c.code = bytes)
    (h5 : (c.maxLocals == mx && c.exceptionTable.isEmpty && decide (c.maxStack ≤ mostOperands) && decide (meth.sig.returnType = rt) && !meth.locks && decide (parseMethodDescriptor y.desc = some meth.sig)) = true) : (Jvm.Cond.code y bytes mx rt).before a s = true := by
  simp only [Bool.and_eq_true, beq_iff_eq, Bool.not_eq_true', decide_eq_true_eq] at h5
  obtain ⟨⟨⟨⟨⟨g1, g2⟩, g3⟩, g4⟩, g5⟩, g6⟩ := h5
  simp [Cond.before, Cond.holds, Cond.value, h1, h2, h3, h4, g1, g2, g3, g4, g5, g6]
def isCode : Jvm.Cond → Bool
  | .code _ _ _ _ => true
  | _ => false
theorem all_split {L : List Jvm.Cond} {P : Jvm.Cond → Bool} (h1 : L.all (fun c => isCode c || P c) = true) (h2 : ∀ c ∈ L.filter isCode, P c = true) : L.all P = true := by
  refine List.all_eq_true.mpr fun c hc => ?_
  have h := List.all_eq_true.mp h1 c hc
  rcases Bool.eq_false_or_eq_true (isCode c) with hi | hi
  · exact h2 c (List.mem_filter.mpr ⟨hc, hi⟩)
  · simpa [hi] using h
set_option maxRecDepth 65536 in
theorem w_c0 : (Jvm.Cond.code x code maxLocals ret).before args0 about1 = true := code_word (m := ⟨1, 2⟩) (meth := k1m2) (c := k1c2) (by decide +kernel) rfl rfl rfl (by decide +kernel)
set_option maxRecDepth 65536 in
theorem w_c1 : (Jvm.Cond.code ({ cls := "com/example/canopy/canopy/model/RectContainsPinLaw", name := "edge", desc := "(ZII)I" } : Jvm.MethodName) method_2_code (3 : Nat) (Option.some Jvm.ClassFile.FieldType.int)).before args0 about1 = true := code_word (m := ⟨1, 1⟩) (meth := k1m1) (c := k1c1) (by decide +kernel) rfl rfl rfl (by decide +kernel)
set_option maxRecDepth 65536 in
theorem w_c2 : (Jvm.Cond.code ({ cls := "com/example/canopy/canopy/model/Rect", name := "<init>", desc := "(IIII)V" } : Jvm.MethodName) prog_14_method_1_code (5 : Nat) (Option.none : Option Jvm.ClassFile.FieldType)).before args0 about1 = true := code_word (m := ⟨2, 0⟩) (meth := k2m0) (c := k2c0) (by decide +kernel) rfl rfl rfl (by decide +kernel)
set_option maxRecDepth 65536 in
theorem w_c3 : (Jvm.Cond.code ({ cls := "java/lang/Object", name := "<init>", desc := "()V" } : Jvm.MethodName) object_method_1_code (1 : Nat) (Option.none : Option Jvm.ClassFile.FieldType)).before args0 about1 = true := code_word (m := ⟨0, 0⟩) (meth := k0m0) (c := k0c0) (by decide +kernel) rfl rfl rfl (by decide +kernel)
set_option maxRecDepth 65536 in
theorem w_c4 : (Jvm.Cond.code ({ cls := "com/example/canopy/canopy/model/Rect", name := "contains", desc := "(Lcom/example/canopy/canopy/model/Rect;)Z" } : Jvm.MethodName) prog_14_method_11_code (2 : Nat) (Option.some Jvm.ClassFile.FieldType.boolean)).before args0 about1 = true := code_word (m := ⟨2, 1⟩) (meth := k2m1) (c := k2c1) (by decide +kernel) rfl rfl rfl (by decide +kernel)
set_option maxRecDepth 65536 in
theorem w_c5 : (Jvm.Cond.code ({ cls := "java/lang/Math", name := "min", desc := "(II)I" } : Jvm.MethodName) jdk_29_method_69_code (2 : Nat) (Option.some Jvm.ClassFile.FieldType.int)).before args0 about1 = true := code_word (m := ⟨3, 2⟩) (meth := k3m2) (c := k3c2) (by decide +kernel) rfl rfl rfl (by decide +kernel)
set_option maxRecDepth 65536 in
theorem w_c6 : (Jvm.Cond.code ({ cls := "java/lang/Math", name := "max", desc := "(II)I" } : Jvm.MethodName) jdk_29_method_65_code (2 : Nat) (Option.some Jvm.ClassFile.FieldType.int)).before args0 about1 = true := code_word (m := ⟨3, 1⟩) (meth := k3m1) (c := k3c1) (by decide +kernel) rfl rfl rfl (by decide +kernel)
def codes1 : List Jvm.Cond := [Jvm.Cond.code x code maxLocals ret, Jvm.Cond.code ({ cls := "com/example/canopy/canopy/model/RectContainsPinLaw", name := "edge", desc := "(ZII)I" } : Jvm.MethodName) method_2_code (3 : Nat) (Option.some Jvm.ClassFile.FieldType.int), Jvm.Cond.code ({ cls := "com/example/canopy/canopy/model/Rect", name := "<init>", desc := "(IIII)V" } : Jvm.MethodName) prog_14_method_1_code (5 : Nat) (Option.none : Option Jvm.ClassFile.FieldType), Jvm.Cond.code ({ cls := "java/lang/Object", name := "<init>", desc := "()V" } : Jvm.MethodName) object_method_1_code (1 : Nat) (Option.none : Option Jvm.ClassFile.FieldType), Jvm.Cond.code ({ cls := "com/example/canopy/canopy/model/Rect", name := "contains", desc := "(Lcom/example/canopy/canopy/model/Rect;)Z" } : Jvm.MethodName) prog_14_method_11_code (2 : Nat) (Option.some Jvm.ClassFile.FieldType.boolean), Jvm.Cond.code ({ cls := "java/lang/Math", name := "min", desc := "(II)I" } : Jvm.MethodName) jdk_29_method_69_code (2 : Nat) (Option.some Jvm.ClassFile.FieldType.int), Jvm.Cond.code ({ cls := "java/lang/Math", name := "max", desc := "(II)I" } : Jvm.MethodName) jdk_29_method_65_code (2 : Nat) (Option.some Jvm.ClassFile.FieldType.int)]
set_option maxRecDepth 65536 in
theorem codes_eq : words1.filter isCode = codes1 := rfl
theorem w_codes : ∀ c ∈ words1.filter isCode, c.before args0 about1 = true := by
  rw [codes_eq]
  intro c hc
  simp only [codes1, List.mem_cons, List.not_mem_nil, or_false] at hc
  rcases hc with rfl | rfl | rfl | rfl | rfl | rfl | rfl
  · exact w_c0
  · exact w_c1
  · exact w_c2
  · exact w_c3
  · exact w_c4
  · exact w_c5
  · exact w_c6
set_option maxRecDepth 65536 in
theorem w_t1 : (words1.take 24).all (fun c => isCode c || c.before args0 about1) = true := by decide +kernel
set_option maxRecDepth 65536 in
theorem w_t2 : (words1.drop 24).all (fun c => isCode c || c.before args0 about1) = true := by decide +kernel
theorem w_tables : (allAtoms (Jvm.Cond.code x code maxLocals ret :: tables_1)).before args0 about1 = true := by
  rw [allAtoms_all]
  show words1.all (fun c => c.before args0 about1) = true
  refine all_split ?_ w_codes
  rw [← List.take_append_drop 24 words1, List.all_append, w_t1, w_t2]
  rfl
set_option maxRecDepth 65536 in
theorem w_case : (Jvm.Cond.and given_1 narrow_1).before args0 about1 = true := by decide +kernel
theorem w_applies : (headSpec (Jvm.Cond.code x code maxLocals ret :: tables_1) room_1).applies x e0.platform about1 = true :=
  (Spec.applies_iff w_frames).mpr ⟨w_running, w_runnable, w_alone, w_named, w_hears, w_ripe, w_room, w_tables⟩
theorem atStart : AtStart classFile x code maxLocals ret World_1 tables_1 room_1 Calls_1 rest_1 Pre_1 launch0 p0 e0 about1 theMethod args0 below0 :=
  ⟨lists_1, trivial, launch0.admits_env _ _ _, launch0.least_env, fairChoices_fair.cas, fairChoices_fair.clock, w_frames, w_args, w_heap, w_applies, trivial, trivial, w_case⟩
end start1
theorem witness_1 : WitnessClaimed_1 := ⟨start1.p0, start1.e0, start1.about1, start1.theMethod, start1.args0, start1.below0, start1.atStart⟩
end Jvm.Pilot.@@N@@
