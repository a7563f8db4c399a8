import JvmDerived
import JvmDerived.Pilot.@@N@@Statement
import JvmDerived.Pilot.@@N@@Code
set_option linter.unusedVariables false
set_option linter.unusedSimpArgs false
namespace Jvm.RoadKit
open Sem ClassFile Op Lib Jvm.Stand Jvm.Free Jvm.LawKit
section Own
variable {p : Program} {l : Launch} {e : Env} {R : Room} {s : State} {m : MethodId} {args : Array Value} {below : List Frame} {meth : Method} {c : Code} {T A B : State} {locs : List Loc} {cells slots K N : Nat} {Q : Option Value → Heap → List Loc → Prop}
/-- from A the walk comes to its end, and Q holds there -/
def OutW (p : Program) (e : Env) (below : List Frame) (s : State) (K N : Nat) (Q : Option Value → Heap → List Loc → Prop) (A : State) : Prop :=
  ∃ s₂ o, Steps p.tables e below A s₂ ∧ s₂.status = .running ∧ Ended s₂ below o ∧ ∃ v L, o = .returned v ∧ Q v s₂.heap L ∧ FrameEnd s o s₂ L K N
/-- a body that writes nothing: what it returns -/
def Qpure (h0 : Heap) (n0 : Nat) (r : Value) (v : Option Value) (h : Heap) (L : List Loc) : Prop := v = some r ∧ Fr n0 L ∧ h = h0
theorem OutW.back (h : ∀ t, Steps p.tables e below B t → Steps p.tables e below A t) (k : OutW p e below s K N Q B) : OutW p e below s K N Q A := by
  obtain ⟨t, o, h1, h2⟩ := k
  exact ⟨t, o, h t h1, h2⟩
theorem OutW.via (h : Steps p.tables e below A B) (k : OutW p e below s K N Q B) : OutW p e below s K N Q A := by
  obtain ⟨t, o, h1, h2⟩ := k
  exact ⟨t, o, h.trans h1, h2⟩
theorem OutW.retV (X : Stand p l e R s m args below meth c T locs cells slots) (hx : p.tables.exec = Jvm.exec) {pc : Nat} {Ls : Array Slot} (hret : meth.sig.returnType = none) (hlk : meth.locks = false) (hd : decode c.code pc = .ok (.return_, 1))
    (hK : cells ≤ K) (hN : slots ≤ N) (hq : Q none T.heap locs) : OutW p e below s K N Q (T.setTop (mkF m pc Ls [])) := by
  obtain ⟨fs, hr, hrun, hended, hW, hsame⟩ := X.leave (v := none) (fun _ => rfl) hlk
  exact ⟨_, _, X.returnOut hx hret hd hr, hrun, hended, _, _, rfl, hq, ⟨_, rfl⟩, hW, hsame.mono hK hN⟩
theorem OutW.retI (X : Stand p l e R s m args below meth c T locs cells slots) (hx : p.tables.exec = Jvm.exec) {pc : Nat} {Ls : Array Slot} {z : Int32} {rest : List Value} (hret : meth.sig.returnType = some .int) (hlk : meth.locks = false) (hd : decode c.code pc = .ok (.ireturn, 1))
    (hK : cells ≤ K) (hN : slots ≤ N) (hq : Q (some (.int z)) T.heap locs) : OutW p e below s K N Q (T.setTop (mkF m pc Ls (.int z :: rest))) := by
  obtain ⟨fs, hr, hrun, hended, hW, hsame⟩ := X.leave (v := some (.int z)) (fun h => by rw [hret] at h; cases h) hlk
  exact ⟨_, _, retOut X hx hret rfl (Or.inl ⟨rfl, Or.inl rfl, z, rfl⟩) hd hr, hrun, hended, _, _, rfl, hq, ⟨_, rfl⟩, hW, hsame.mono hK hN⟩
theorem OutW.retJ (X : Stand p l e R s m args below meth c T locs cells slots) (hx : p.tables.exec = Jvm.exec) {pc : Nat} {Ls : Array Slot} {z : Int64} {rest : List Value} (hret : meth.sig.returnType = some .long) (hlk : meth.locks = false) (hd : decode c.code pc = .ok (.lreturn, 1))
    (hK : cells ≤ K) (hN : slots ≤ N) (hq : Q (some (.long z)) T.heap locs) : OutW p e below s K N Q (T.setTop (mkF m pc Ls (.long z :: rest))) := by
  obtain ⟨fs, hr, hrun, hended, hW, hsame⟩ := X.leave (v := some (.long z)) (fun h => by rw [hret] at h; cases h) hlk
  exact ⟨_, _, retOut X hx hret rfl (Or.inr (Or.inl ⟨rfl, rfl, z, rfl⟩)) hd hr, hrun, hended, _, _, rfl, hq, ⟨_, rfl⟩, hW, hsame.mono hK hN⟩
theorem nar_ref {t : FieldType} {v : Value} (h : v.isRef = true) : narrow t v = v := by
  rcases ref_cases h with rfl | ⟨a, rfl⟩ <;> cases t <;> rfl
theorem cat_ref {v : Value} (h : v.isRef = true) : v.category = 1 := by
  rcases ref_cases h with rfl | ⟨a, rfl⟩ <;> rfl
theorem fit_ref {t : FieldType} {v : Value} (ht : refKind t = true) (h : v.isRef = true) : fits t v = true := by
  rcases ref_cases h with rfl | ⟨a, rfl⟩ <;> cases t <;> first | rfl | (simp [refKind] at ht)
theorem OutW.retA (X : Stand p l e R s m args below meth c T locs cells slots) (hx : p.tables.exec = Jvm.exec) {pc : Nat} {Ls : Array Slot} {w : Value} {t : FieldType} {rest : List Value} (hret : meth.sig.returnType = some t) (ht : t.isReference = true) (hw : w.isRef = true) (hlk : meth.locks = false) (hd : decode c.code pc = .ok (.areturn, 1))
    (hK : cells ≤ K) (hN : slots ≤ N) (hq : Q (some w) T.heap locs) : OutW p e below s K N Q (T.setTop (mkF m pc Ls (w :: rest))) := by
  obtain ⟨fs, hr, hrun, hended, hW, hsame⟩ := X.leave (v := some w) (fun h => by rw [hret] at h; cases h) hlk
  exact ⟨_, _, retOut X hx hret (nar_ref hw) (Or.inr (Or.inr (Or.inr (Or.inr ⟨rfl, ht, hw⟩)))) hd hr, hrun, hended, _, _, rfl, hq, ⟨_, rfl⟩, hW, hsame.mono hK hN⟩
theorem OutW.retN (X : Stand p l e R s m args below meth c T locs cells slots) (hx : p.tables.exec = Jvm.exec) {pc : Nat} {Ls : Array Slot} {z z' : Int32} {t : FieldType} {rest : List Value} (hret : meth.sig.returnType = some t) (ht : t = .boolean ∨ t = .byte ∨ t = .char ∨ t = .short) (hlk : meth.locks = false) (hd : decode c.code pc = .ok (.ireturn, 1)) (hz : nar t z = z')
    (hK : cells ≤ K) (hN : slots ≤ N) (hq : Q (some (.int z')) T.heap locs) : OutW p e below s K N Q (T.setTop (mkF m pc Ls (.int z :: rest))) := by
  subst hz
  obtain ⟨fs, hr, hrun, hended, hW, hsame⟩ := X.leave (v := some (.int (nar t z))) (fun h => by rw [hret] at h; cases h) hlk
  exact ⟨_, _, Jvm.RoadKit.retN X hx hret ht hd hr, hrun, hended, _, _, rfl, hq, ⟨_, rfl⟩, hW, hsame.mono hK hN⟩
theorem store1' {L L' : Array Slot} {i : Nat} {v : Value} {o : Slot} (hold : L[i]? = some o) (ho : One o) (hv : v.category = 1) (h : L.setIfInBounds i (.val v) = L') : storeLocals L i v = some L' := h ▸ XS.store1 hold ho hv
theorem own_lt_mono {x a b : Int32} (h : x < a) (q : a ≤ b) : x < b := by
  rw [Int32.lt_iff_toInt_lt] at *
  rw [Int32.le_iff_toInt_le] at q
  omega
theorem own_nlt_mono {x a b : Int32} (h : ¬ x < a) (q : b ≤ a) : ¬ x < b := by
  rw [Int32.lt_iff_toInt_lt] at *
  rw [Int32.le_iff_toInt_le] at q
  omega
/-- every element of the array's cell is an object of exactly that class -/
def Els (Z : State) (h : Heap) (cl : Cell) (C : String) : Prop := ∀ j : Int32, ¬ (j < 0 ∨ cl.slots.size ≤ j.toNatClampNeg) → ∃ y : Addr, cl.slots[j.toNatClampNeg]? = some (.ref y) ∧ Exa Z h y C
theorem own_Uext {Z : State} {h h' : Heap} {cl : Cell} {C : String} (U : Els Z h cl C) (E : Ext h h') : Els Z h' cl C := fun j hj => by
  obtain ⟨y, a, b⟩ := U j hj
  exact ⟨y, a, b.ext E⟩
theorem own_Uwr {Z : State} {h h' : Heap} {cl : Cell} {C : String} {a : Addr} {sl : Nat} {v : Value} (U : Els Z h cl C) (W : Wr h h' a sl v) : Els Z h' cl C := fun j hj => by
  obtain ⟨y, q, b⟩ := U j hj
  exact ⟨y, q, b.wr W⟩
theorem own_Ukeep {Z : State} {h h' : Heap} {cl : Cell} {C : String} {ws : List Addr} (U : Els Z h cl C) (K : Keep h h' ws) : Els Z h' cl C := fun j hj => by
  obtain ⟨y, a, b⟩ := U j hj
  exact ⟨y, a, b.keep K⟩
theorem own_Akeep {Z : State} {h h' : Heap} {a : Addr} {c : Cell} {ty : FieldType} {ws : List Addr} (A : Arr Z h a c ty) (K : Keep h h' ws) (q : a ∉ ws) : Arr Z h' a c ty := ⟨K.2.1 a c A.1 q, A.2⟩
theorem own_keepS {Z : State} {h h' : Heap} {C n d : String} {v : Value} {ws : List Addr} (F : Sta Z h C n d v) (K : Keep h h' ws) (q : ∀ x ∈ ws, ∃ C', Exa Z h x C') : Sta Z h' C n d v := by
  obtain ⟨cf, i, k, f, st, cell, h1, h2, h3, h4, h5, h6, h7⟩ := F
  have ne : st ∉ ws := fun hm => by
    obtain ⟨C', c', k', e1, -, -, e4, -⟩ := q st hm
    cases h5.symm.trans e1
    rw [h6] at e4; cases e4
  exact ⟨cf, i, k, f, st, cell, h1, h2, h3, h4, K.2.1 _ _ h5 ne, h6, h7⟩
end Own
end Jvm.RoadKit
namespace Jvm.Pilot.@@N@@
open Jvm Jvm.ClassFile Sem Op Lib Jvm.Free Jvm.Stand Jvm.LawKit Jvm.RoadKit Bundle Jvm.Pilot.@@N@@.Jvm.D
theorem d1_0 : decode prog_14_method_1_code 0 = .ok (.aload_n 0, 1) := by decide +kernel
theorem d1_1 : decode prog_14_method_1_code 1 = .ok (.invokespecial 1, 3) := by decide +kernel
theorem d1_4 : decode prog_14_method_1_code 4 = .ok (.aload_n 0, 1) := by decide +kernel
theorem d1_5 : decode prog_14_method_1_code 5 = .ok (.iload_n 1, 1) := by decide +kernel
theorem d1_6 : decode prog_14_method_1_code 6 = .ok (.putfield 7, 3) := by decide +kernel
theorem d1_9 : decode prog_14_method_1_code 9 = .ok (.aload_n 0, 1) := by decide +kernel
theorem d1_10 : decode prog_14_method_1_code 10 = .ok (.iload_n 2, 1) := by decide +kernel
theorem d1_11 : decode prog_14_method_1_code 11 = .ok (.putfield 13, 3) := by decide +kernel
theorem d1_14 : decode prog_14_method_1_code 14 = .ok (.aload_n 0, 1) := by decide +kernel
theorem d1_15 : decode prog_14_method_1_code 15 = .ok (.iload_n 3, 1) := by decide +kernel
theorem d1_16 : decode prog_14_method_1_code 16 = .ok (.putfield 16, 3) := by decide +kernel
theorem d1_19 : decode prog_14_method_1_code 19 = .ok (.aload_n 0, 1) := by decide +kernel
theorem d1_20 : decode prog_14_method_1_code 20 = .ok (.iload 4, 2) := by decide +kernel
theorem d1_22 : decode prog_14_method_1_code 22 = .ok (.putfield 19, 3) := by decide +kernel
theorem d1_25 : decode prog_14_method_1_code 25 = .ok (.return_, 1) := by decide +kernel
theorem pn_1 : plainName "com/example/canopy/canopy/model/Rect" = true := by first | (simp [plainName, overriddenIn]; done) | decide +kernel
theorem ef_1 (m : MethodId) (x0 : Addr) (x1 : Int32) (x2 : Int32) (x3 : Int32) (x4 : Int32) : entryFrame m #[(.ref x0), (.int x1), (.int x2), (.int x3), (.int x4)] 5 = mkF m 0 #[.val (.ref x0), .val (.int x1), .val (.int x2), .val (.int x3), .val (.int x4)] [] := by first | (simp [entryFrame, mkF, argsToLocals, Value.category]; done) | rfl
def Q1 (Z : State) (a1 : Addr) (p2 : Int32) (p3 : Int32) (p4 : Int32) (p5 : Int32)  (h0 : Heap) (n0 : Nat) (v : Option Value) (h : Heap) (L : List Loc) : Prop := v = none ∧ Fr n0 L ∧ Keep h0 h [a1] ∧ Fld Z h a1 "com/example/canopy/canopy/model/Rect" "left" "I" (.int p2) ∧ Fld Z h a1 "com/example/canopy/canopy/model/Rect" "top" "I" (.int p3) ∧ Fld Z h a1 "com/example/canopy/canopy/model/Rect" "right" "I" (.int p4) ∧ Fld Z h a1 "com/example/canopy/canopy/model/Rect" "bottom" "I" (.int p5)
set_option maxRecDepth 65536 in
set_option maxHeartbeats 40000000 in
theorem rm1 (l : Launch) (Z : State) (a0 : Array Value) (hw : ∀ d ∈ tables_1, d.before a0 Z = true) (ws : List Jvm.Cond) (a1 : Addr) (p2 : Int32) (p3 : Int32) (p4 : Int32) (p5 : Int32)  (h0 : Heap) (n0 : Nat) (Z0 : n0 ≤ h0.size) (E_a1 : Exa Z h0 a1 "com/example/canopy/canopy/model/Rect") (g_a1 : n0 ≤ a1) (F_left_a1 : Fld Z h0 a1 "com/example/canopy/canopy/model/Rect" "left" "I" (.int (0 : Int32))) (F_top_a1 : Fld Z h0 a1 "com/example/canopy/canopy/model/Rect" "top" "I" (.int (0 : Int32))) (F_right_a1 : Fld Z h0 a1 "com/example/canopy/canopy/model/Rect" "right" "I" (.int (0 : Int32))) (F_bottom_a1 : Fld Z h0 a1 "com/example/canopy/canopy/model/Rect" "bottom" "I" (.int (0 : Int32))) :
    MetFree l (⟨"com/example/canopy/canopy/model/Rect", "<init>", "(IIII)V"⟩ : MethodName) (head1 (Jvm.Cond.code (⟨"com/example/canopy/canopy/model/Rect", "<init>", "(IIII)V"⟩ : MethodName) prog_14_method_1_code 5 none :: ws) ({ frames := 1, cells := 0, slots := 0, locals := 12 } : Room)) (fun a U => a = #[(.ref a1), (.int p2), (.int p3), (.int p4), (.int p5)] ∧ Z.Warmed39 U.vm ∧ U.heap = h0) (fun _ _ _ _ _ => True) (fun _ U o U' => ∃ v L, o = .returned v ∧ Q1 Z a1 p2 p3 p4 p5 h0 n0 v U'.heap L ∧ FrameEnd U o U' L ({ frames := 1, cells := 0, slots := 0, locals := 12 } : Room).cells ({ frames := 1, cells := 0, slots := 0, locals := 12 } : Room).slots) := by
  refine MetFree.of_bodySF (plainFor_of_name pn_1) hisR ?_
  intro p e s m args below meth c s₁ Bd hml0 hP hK
  obtain ⟨rfl, hZ, hh⟩ := hP
  have hx := Bd.exec
  have hby := Bd.bytes
  have hlk := Bd.notSynchronized
  have hml : c.maxLocals = 5 := hml0
  have hown : s.vm.findClass "com/example/canopy/canopy/model/Rect" = some m.cls := findClass_of_methodNamed Bd.named
  have hnm := (name_of_methodNamed Bd.named Bd.method).1
  have X0 : Stand p l e ({ frames := 1, cells := 0, slots := 0, locals := 12 } : Room) s m #[(.ref a1), (.int p2), (.int p3), (.int p4), (.int p5)] below meth c s₁ [] 0 0 := Stand.of_body Bd
  have e0 : s₁.heap = h0 := by rw [← hh, Bd.state]; rfl
  have N0 := Fr.nil n0
  have K0 : Keep h0 h0 [a1] := Keep.refl h0 _
  show OutW p e below s ({ frames := 1, cells := 0, slots := 0, locals := 12 } : Room).cells ({ frames := 1, cells := 0, slots := 0, locals := 12 } : Room).slots (Q1 Z a1 p2 p3 p4 p5 h0 n0) _
  refine OutW.back (fun t k => castTop (ef_1 m a1 p2 p3 p4 p5) k) ?_
  show OutW _ _ _ _ _ _ _ (s₁.setTop (mkF m 0 #[.val (.ref a1), .val (.int p2), .val (.int p3), .val (.int p4), .val (.int p5)] []))
  refine OutW.back (fun t k => XS.aloadN X0.here hx rfl (hb hby d1_0) rfl rfl  k) ?_
  show OutW _ _ _ _ _ _ _ (s₁.setTop (mkF m 1 #[.val (.ref a1), .val (.int p2), .val (.int p3), .val (.int p4), .val (.int p5)] [(.ref a1)]))
  obtain ⟨T1, X1, e1, st1⟩ := initO X0 hx hZ hown (hw _ (List.mem_of_getElem? (i := 6) rfl)) (hw _ (List.mem_of_getElem? (i := 7) rfl)) (hw _ (List.mem_of_getElem? (i := 8) rfl)) e0 (g := (mkF m 1 #[.val (.ref a1), .val (.int p2), .val (.int p3), .val (.int p4), .val (.int p5)] [(.ref a1)])) rfl (by rw [hml]; rfl) rfl (hb hby d1_1) (by decide) (W := 0) (by show 2 * 0 + _ ≤ _; exact Nat.le_of_eq rfl) (by decide)
  refine OutW.back st1 ?_
  show OutW _ _ _ _ _ _ _ (T1.setTop (mkF m 4 #[.val (.ref a1), .val (.int p2), .val (.int p3), .val (.int p4), .val (.int p5)] []))
  refine OutW.back (fun t k => XS.aloadN X1.here hx rfl (hb hby d1_4) rfl rfl  k) ?_
  show OutW _ _ _ _ _ _ _ (T1.setTop (mkF m 5 #[.val (.ref a1), .val (.int p2), .val (.int p3), .val (.int p4), .val (.int p5)] [(.ref a1)]))
  refine OutW.back (fun t k => XS.iloadN X1.here hx rfl (hb hby d1_5) rfl  k) ?_
  show OutW _ _ _ _ _ _ _ (T1.setTop (mkF m 6 #[.val (.ref a1), .val (.int p2), .val (.int p3), .val (.int p4), .val (.int p5)] [(.int p2), (.ref a1)]))
  obtain ⟨T2, h2, X2, e2, W2, st2⟩ := putF X1 hx hZ hown (host := "") (Or.inl (hw _ (List.mem_of_getElem? (i := 9) rfl))) Via.refl e1 F_left_a1 E_a1 (Or.inr ⟨(hw _ (List.mem_of_getElem? (i := 10) rfl)), rfl, hnm⟩) (hw _ (List.mem_of_getElem? (i := 1) rfl)) (ty := .int) (by decide) rfl rfl (g := (mkF m 6 #[.val (.ref a1), .val (.int p2), .val (.int p3), .val (.int p4), .val (.int p5)] [(.int p2), (.ref a1)])) rfl rfl (hb hby d1_6)
  have E_a1 := E_a1.wr W2
  have F_left_a1 := F_left_a1.same W2
  have F_top_a1 := F_top_a1.other W2 (Or.inr (slot_ne (Or.inr (hw _ (List.mem_of_getElem? (i := 12) rfl))) (Or.inr (hw _ (List.mem_of_getElem? (i := 10) rfl))) (by decide) (t := .int) (t' := .int) (by decide) (by decide)))
  have F_right_a1 := F_right_a1.other W2 (Or.inr (slot_ne (Or.inr (hw _ (List.mem_of_getElem? (i := 14) rfl))) (Or.inr (hw _ (List.mem_of_getElem? (i := 10) rfl))) (by decide) (t := .int) (t' := .int) (by decide) (by decide)))
  have F_bottom_a1 := F_bottom_a1.other W2 (Or.inr (slot_ne (Or.inr (hw _ (List.mem_of_getElem? (i := 16) rfl))) (Or.inr (hw _ (List.mem_of_getElem? (i := 10) rfl))) (by decide) (t := .int) (t' := .int) (by decide) (by decide)))
  have N2 := Fr.snoc X2 N0 g_a1
  have Z2 : n0 ≤ h2.size := Nat.le_trans Z0 (Keep.of_wr W2).1
  have K2 := K0.wr W2 (Or.inl (List.mem_of_getElem? (i := 0) rfl))
  refine OutW.back st2 ?_
  show OutW _ _ _ _ _ _ _ (T2.setTop (mkF m 9 #[.val (.ref a1), .val (.int p2), .val (.int p3), .val (.int p4), .val (.int p5)] []))
  refine OutW.back (fun t k => XS.aloadN X2.here hx rfl (hb hby d1_9) rfl rfl  k) ?_
  show OutW _ _ _ _ _ _ _ (T2.setTop (mkF m 10 #[.val (.ref a1), .val (.int p2), .val (.int p3), .val (.int p4), .val (.int p5)] [(.ref a1)]))
  refine OutW.back (fun t k => XS.iloadN X2.here hx rfl (hb hby d1_10) rfl  k) ?_
  show OutW _ _ _ _ _ _ _ (T2.setTop (mkF m 11 #[.val (.ref a1), .val (.int p2), .val (.int p3), .val (.int p4), .val (.int p5)] [(.int p3), (.ref a1)]))
  obtain ⟨T3, h3, X3, e3, W3, st3⟩ := putF X2 hx hZ hown (host := "") (Or.inl (hw _ (List.mem_of_getElem? (i := 11) rfl))) Via.refl e2 F_top_a1 E_a1 (Or.inr ⟨(hw _ (List.mem_of_getElem? (i := 12) rfl)), rfl, hnm⟩) (hw _ (List.mem_of_getElem? (i := 1) rfl)) (ty := .int) (by decide) rfl rfl (g := (mkF m 11 #[.val (.ref a1), .val (.int p2), .val (.int p3), .val (.int p4), .val (.int p5)] [(.int p3), (.ref a1)])) rfl rfl (hb hby d1_11)
  have E_a1 := E_a1.wr W3
  have F_left_a1 := F_left_a1.other W3 (Or.inr (slot_ne (Or.inr (hw _ (List.mem_of_getElem? (i := 10) rfl))) (Or.inr (hw _ (List.mem_of_getElem? (i := 12) rfl))) (by decide) (t := .int) (t' := .int) (by decide) (by decide)))
  have F_top_a1 := F_top_a1.same W3
  have F_right_a1 := F_right_a1.other W3 (Or.inr (slot_ne (Or.inr (hw _ (List.mem_of_getElem? (i := 14) rfl))) (Or.inr (hw _ (List.mem_of_getElem? (i := 12) rfl))) (by decide) (t := .int) (t' := .int) (by decide) (by decide)))
  have F_bottom_a1 := F_bottom_a1.other W3 (Or.inr (slot_ne (Or.inr (hw _ (List.mem_of_getElem? (i := 16) rfl))) (Or.inr (hw _ (List.mem_of_getElem? (i := 12) rfl))) (by decide) (t := .int) (t' := .int) (by decide) (by decide)))
  have N3 := Fr.snoc X3 N2 g_a1
  have Z3 : n0 ≤ h3.size := Nat.le_trans Z2 (Keep.of_wr W3).1
  have K3 := K2.wr W3 (Or.inl (List.mem_of_getElem? (i := 0) rfl))
  refine OutW.back st3 ?_
  show OutW _ _ _ _ _ _ _ (T3.setTop (mkF m 14 #[.val (.ref a1), .val (.int p2), .val (.int p3), .val (.int p4), .val (.int p5)] []))
  refine OutW.back (fun t k => XS.aloadN X3.here hx rfl (hb hby d1_14) rfl rfl  k) ?_
  show OutW _ _ _ _ _ _ _ (T3.setTop (mkF m 15 #[.val (.ref a1), .val (.int p2), .val (.int p3), .val (.int p4), .val (.int p5)] [(.ref a1)]))
  refine OutW.back (fun t k => XS.iloadN X3.here hx rfl (hb hby d1_15) rfl  k) ?_
  show OutW _ _ _ _ _ _ _ (T3.setTop (mkF m 16 #[.val (.ref a1), .val (.int p2), .val (.int p3), .val (.int p4), .val (.int p5)] [(.int p4), (.ref a1)]))
  obtain ⟨T4, h4, X4, e4, W4, st4⟩ := putF X3 hx hZ hown (host := "") (Or.inl (hw _ (List.mem_of_getElem? (i := 13) rfl))) Via.refl e3 F_right_a1 E_a1 (Or.inr ⟨(hw _ (List.mem_of_getElem? (i := 14) rfl)), rfl, hnm⟩) (hw _ (List.mem_of_getElem? (i := 1) rfl)) (ty := .int) (by decide) rfl rfl (g := (mkF m 16 #[.val (.ref a1), .val (.int p2), .val (.int p3), .val (.int p4), .val (.int p5)] [(.int p4), (.ref a1)])) rfl rfl (hb hby d1_16)
  have E_a1 := E_a1.wr W4
  have F_left_a1 := F_left_a1.other W4 (Or.inr (slot_ne (Or.inr (hw _ (List.mem_of_getElem? (i := 10) rfl))) (Or.inr (hw _ (List.mem_of_getElem? (i := 14) rfl))) (by decide) (t := .int) (t' := .int) (by decide) (by decide)))
  have F_top_a1 := F_top_a1.other W4 (Or.inr (slot_ne (Or.inr (hw _ (List.mem_of_getElem? (i := 12) rfl))) (Or.inr (hw _ (List.mem_of_getElem? (i := 14) rfl))) (by decide) (t := .int) (t' := .int) (by decide) (by decide)))
  have F_right_a1 := F_right_a1.same W4
  have F_bottom_a1 := F_bottom_a1.other W4 (Or.inr (slot_ne (Or.inr (hw _ (List.mem_of_getElem? (i := 16) rfl))) (Or.inr (hw _ (List.mem_of_getElem? (i := 14) rfl))) (by decide) (t := .int) (t' := .int) (by decide) (by decide)))
  have N4 := Fr.snoc X4 N3 g_a1
  have Z4 : n0 ≤ h4.size := Nat.le_trans Z3 (Keep.of_wr W4).1
  have K4 := K3.wr W4 (Or.inl (List.mem_of_getElem? (i := 0) rfl))
  refine OutW.back st4 ?_
  show OutW _ _ _ _ _ _ _ (T4.setTop (mkF m 19 #[.val (.ref a1), .val (.int p2), .val (.int p3), .val (.int p4), .val (.int p5)] []))
  refine OutW.back (fun t k => XS.aloadN X4.here hx rfl (hb hby d1_19) rfl rfl  k) ?_
  show OutW _ _ _ _ _ _ _ (T4.setTop (mkF m 20 #[.val (.ref a1), .val (.int p2), .val (.int p3), .val (.int p4), .val (.int p5)] [(.ref a1)]))
  refine OutW.back (fun t k => XS.iload X4.here hx rfl (hb hby d1_20) rfl  k) ?_
  show OutW _ _ _ _ _ _ _ (T4.setTop (mkF m 22 #[.val (.ref a1), .val (.int p2), .val (.int p3), .val (.int p4), .val (.int p5)] [(.int p5), (.ref a1)]))
  obtain ⟨T5, h5, X5, e5, W5, st5⟩ := putF X4 hx hZ hown (host := "") (Or.inl (hw _ (List.mem_of_getElem? (i := 15) rfl))) Via.refl e4 F_bottom_a1 E_a1 (Or.inr ⟨(hw _ (List.mem_of_getElem? (i := 16) rfl)), rfl, hnm⟩) (hw _ (List.mem_of_getElem? (i := 1) rfl)) (ty := .int) (by decide) rfl rfl (g := (mkF m 22 #[.val (.ref a1), .val (.int p2), .val (.int p3), .val (.int p4), .val (.int p5)] [(.int p5), (.ref a1)])) rfl rfl (hb hby d1_22)
  have E_a1 := E_a1.wr W5
  have F_left_a1 := F_left_a1.other W5 (Or.inr (slot_ne (Or.inr (hw _ (List.mem_of_getElem? (i := 10) rfl))) (Or.inr (hw _ (List.mem_of_getElem? (i := 16) rfl))) (by decide) (t := .int) (t' := .int) (by decide) (by decide)))
  have F_top_a1 := F_top_a1.other W5 (Or.inr (slot_ne (Or.inr (hw _ (List.mem_of_getElem? (i := 12) rfl))) (Or.inr (hw _ (List.mem_of_getElem? (i := 16) rfl))) (by decide) (t := .int) (t' := .int) (by decide) (by decide)))
  have F_right_a1 := F_right_a1.other W5 (Or.inr (slot_ne (Or.inr (hw _ (List.mem_of_getElem? (i := 14) rfl))) (Or.inr (hw _ (List.mem_of_getElem? (i := 16) rfl))) (by decide) (t := .int) (t' := .int) (by decide) (by decide)))
  have F_bottom_a1 := F_bottom_a1.same W5
  have N5 := Fr.snoc X5 N4 g_a1
  have Z5 : n0 ≤ h5.size := Nat.le_trans Z4 (Keep.of_wr W5).1
  have K5 := K4.wr W5 (Or.inl (List.mem_of_getElem? (i := 0) rfl))
  refine OutW.back st5 ?_
  show OutW _ _ _ _ _ _ _ (T5.setTop (mkF m 25 #[.val (.ref a1), .val (.int p2), .val (.int p3), .val (.int p4), .val (.int p5)] []))
  refine OutW.retV X5 hx Bd.returns hlk (hb hby d1_25) (by decide) (by decide) ?_
  show Q1 Z a1 p2 p3 p4 p5 h0 n0 _ T5.heap _
  rw [e5]
  exact ⟨rfl, N5, K5, F_left_a1, F_top_a1, F_right_a1, F_bottom_a1⟩
def isE (w_left : Int32) (w_top : Int32) (w_right : Int32) (w_bottom : Int32) : Int32 := (if w_left < w_right then (if w_top < w_bottom then (0 : Int32) else (1 : Int32)) else (1 : Int32))
theorem d3_0 : decode prog_14_method_8_code 0 = .ok (.aload_n 0, 1) := by decide +kernel
theorem d3_1 : decode prog_14_method_8_code 1 = .ok (.getfield 16, 3) := by decide +kernel
theorem d3_4 : decode prog_14_method_8_code 4 = .ok (.aload_n 0, 1) := by decide +kernel
theorem d3_5 : decode prog_14_method_8_code 5 = .ok (.getfield 7, 3) := by decide +kernel
theorem d3_8 : decode prog_14_method_8_code 8 = .ok (.if_icmp .le 14, 3) := by decide +kernel
theorem d3_11 : decode prog_14_method_8_code 11 = .ok (.aload_n 0, 1) := by decide +kernel
theorem d3_12 : decode prog_14_method_8_code 12 = .ok (.getfield 19, 3) := by decide +kernel
theorem d3_15 : decode prog_14_method_8_code 15 = .ok (.aload_n 0, 1) := by decide +kernel
theorem d3_16 : decode prog_14_method_8_code 16 = .ok (.getfield 13, 3) := by decide +kernel
theorem d3_19 : decode prog_14_method_8_code 19 = .ok (.if_icmp .gt 7, 3) := by decide +kernel
theorem d3_22 : decode prog_14_method_8_code 22 = .ok (.iconst 1, 1) := by decide +kernel
theorem d3_23 : decode prog_14_method_8_code 23 = .ok (.goto 4, 3) := by decide +kernel
theorem d3_26 : decode prog_14_method_8_code 26 = .ok (.iconst 0, 1) := by decide +kernel
theorem d3_27 : decode prog_14_method_8_code 27 = .ok (.ireturn, 1) := by decide +kernel
theorem pn_3 : plainName "com/example/canopy/canopy/model/Rect" = true := by first | (simp [plainName, overriddenIn]; done) | decide +kernel
theorem ef_3 (m : MethodId) (x0 : Addr) : entryFrame m #[(.ref x0)] 1 = mkF m 0 #[.val (.ref x0)] [] := by first | (simp [entryFrame, mkF, argsToLocals, Value.category]; done) | rfl
def Q3 (Z : State) (a1 : Addr) (w_left : Int32) (w_top : Int32) (w_right : Int32) (w_bottom : Int32) (h0 : Heap) (n0 : Nat) (v : Option Value) (h : Heap) (L : List Loc) : Prop := v = some (.int (isE w_left w_top w_right w_bottom)) ∧ Fr n0 L ∧ h = h0
set_option maxRecDepth 65536 in
set_option maxHeartbeats 40000000 in
theorem rm3 (l : Launch) (Z : State) (a0 : Array Value) (hw : ∀ d ∈ tables_1, d.before a0 Z = true) (ws : List Jvm.Cond) (a1 : Addr) (w_left : Int32) (w_top : Int32) (w_right : Int32) (w_bottom : Int32) (h0 : Heap) (n0 : Nat) (Z0 : n0 ≤ h0.size) (F_left_a1 : Fld Z h0 a1 "com/example/canopy/canopy/model/Rect" "left" "I" (.int w_left)) (F_top_a1 : Fld Z h0 a1 "com/example/canopy/canopy/model/Rect" "top" "I" (.int w_top)) (F_right_a1 : Fld Z h0 a1 "com/example/canopy/canopy/model/Rect" "right" "I" (.int w_right)) (F_bottom_a1 : Fld Z h0 a1 "com/example/canopy/canopy/model/Rect" "bottom" "I" (.int w_bottom)) :
    MetFree l (⟨"com/example/canopy/canopy/model/Rect", "isEmpty", "()Z"⟩ : MethodName) (head1 (Jvm.Cond.code (⟨"com/example/canopy/canopy/model/Rect", "isEmpty", "()Z"⟩ : MethodName) prog_14_method_8_code 1 (some .boolean) :: ws) ({ frames := 0, cells := 0, slots := 0, locals := 0 } : Room)) (fun a U => a = #[(.ref a1)] ∧ Z.Warmed39 U.vm ∧ U.heap = h0) (fun _ _ _ _ _ => True) (fun _ U o U' => ∃ v L, o = .returned v ∧ Q3 Z a1 w_left w_top w_right w_bottom h0 n0 v U'.heap L ∧ FrameEnd U o U' L ({ frames := 0, cells := 0, slots := 0, locals := 0 } : Room).cells ({ frames := 0, cells := 0, slots := 0, locals := 0 } : Room).slots) := by
  refine MetFree.of_bodySF (plainFor_of_name pn_3) hisR ?_
  intro p e s m args below meth c s₁ Bd hml0 hP hK
  obtain ⟨rfl, hZ, hh⟩ := hP
  have hx := Bd.exec
  have hby := Bd.bytes
  have hlk := Bd.notSynchronized
  have hml : c.maxLocals = 1 := hml0
  have hown : s.vm.findClass "com/example/canopy/canopy/model/Rect" = some m.cls := findClass_of_methodNamed Bd.named
  have hnm := (name_of_methodNamed Bd.named Bd.method).1
  have X0 : Stand p l e ({ frames := 0, cells := 0, slots := 0, locals := 0 } : Room) s m #[(.ref a1)] below meth c s₁ [] 0 0 := Stand.of_body Bd
  have e0 : s₁.heap = h0 := by rw [← hh, Bd.state]; rfl
  have N0 := Fr.nil n0
  have K0 : Keep h0 h0 [] := Keep.refl h0 _
  show OutW p e below s ({ frames := 0, cells := 0, slots := 0, locals := 0 } : Room).cells ({ frames := 0, cells := 0, slots := 0, locals := 0 } : Room).slots (Q3 Z a1 w_left w_top w_right w_bottom h0 n0) _
  refine OutW.back (fun t k => castTop (ef_3 m a1) k) ?_
  show OutW _ _ _ _ _ _ _ (s₁.setTop (mkF m 0 #[.val (.ref a1)] []))
  refine OutW.back (fun t k => XS.aloadN X0.here hx rfl (hb hby d3_0) rfl rfl  k) ?_
  show OutW _ _ _ _ _ _ _ (s₁.setTop (mkF m 1 #[.val (.ref a1)] [(.ref a1)]))
  obtain ⟨T1, X1, e1, st1⟩ := getF X0 hx hZ hown (host := "") (Or.inl (hw _ (List.mem_of_getElem? (i := 13) rfl))) Via.refl e0 F_right_a1 (g := (mkF m 1 #[.val (.ref a1)] [(.ref a1)])) rfl rfl (hb hby d3_1)
  refine OutW.back st1 ?_
  show OutW _ _ _ _ _ _ _ (T1.setTop (mkF m 4 #[.val (.ref a1)] [(.int w_right)]))
  refine OutW.back (fun t k => XS.aloadN X1.here hx rfl (hb hby d3_4) rfl rfl  k) ?_
  show OutW _ _ _ _ _ _ _ (T1.setTop (mkF m 5 #[.val (.ref a1)] [(.ref a1), (.int w_right)]))
  obtain ⟨T2, X2, e2, st2⟩ := getF X1 hx hZ hown (host := "") (Or.inl (hw _ (List.mem_of_getElem? (i := 9) rfl))) Via.refl e1 F_left_a1 (g := (mkF m 5 #[.val (.ref a1)] [(.ref a1), (.int w_right)])) rfl rfl (hb hby d3_5)
  refine OutW.back st2 ?_
  show OutW _ _ _ _ _ _ _ (T2.setTop (mkF m 8 #[.val (.ref a1)] [(.int w_left), (.int w_right)]))
  by_cases c8_3 : w_left < w_right
  · skip
    refine OutW.back (fun t k => XS.icmpNo X2.here hx rfl (hb hby d3_8) rfl (tlt c8_3).2.2.2 k) ?_
    show OutW _ _ _ _ _ _ _ (T2.setTop (mkF m 11 #[.val (.ref a1)] []))
    refine OutW.back (fun t k => XS.aloadN X2.here hx rfl (hb hby d3_11) rfl rfl  k) ?_
    show OutW _ _ _ _ _ _ _ (T2.setTop (mkF m 12 #[.val (.ref a1)] [(.ref a1)]))
    obtain ⟨T4, X4, e4, st4⟩ := getF X2 hx hZ hown (host := "") (Or.inl (hw _ (List.mem_of_getElem? (i := 15) rfl))) Via.refl e2 F_bottom_a1 (g := (mkF m 12 #[.val (.ref a1)] [(.ref a1)])) rfl rfl (hb hby d3_12)
    refine OutW.back st4 ?_
    show OutW _ _ _ _ _ _ _ (T4.setTop (mkF m 15 #[.val (.ref a1)] [(.int w_bottom)]))
    refine OutW.back (fun t k => XS.aloadN X4.here hx rfl (hb hby d3_15) rfl rfl  k) ?_
    show OutW _ _ _ _ _ _ _ (T4.setTop (mkF m 16 #[.val (.ref a1)] [(.ref a1), (.int w_bottom)]))
    obtain ⟨T5, X5, e5, st5⟩ := getF X4 hx hZ hown (host := "") (Or.inl (hw _ (List.mem_of_getElem? (i := 11) rfl))) Via.refl e4 F_top_a1 (g := (mkF m 16 #[.val (.ref a1)] [(.ref a1), (.int w_bottom)])) rfl rfl (hb hby d3_16)
    refine OutW.back st5 ?_
    show OutW _ _ _ _ _ _ _ (T5.setTop (mkF m 19 #[.val (.ref a1)] [(.int w_top), (.int w_bottom)]))
    by_cases c19_6 : w_top < w_bottom
    · skip
      refine OutW.back (fun t k => XS.icmpYes X5.here hx rfl (pc0 := 19) (pc' := 26) rfl (hb hby d3_19) rfl (tlt c19_6).2.2.1 (by decide) (by decide) k) ?_
      show OutW _ _ _ _ _ _ _ (T5.setTop (mkF m 26 #[.val (.ref a1)] []))
      refine OutW.back (fun t k => XS.iconst X5.here hx rfl (hb hby d3_26) k) ?_
      show OutW _ _ _ _ _ _ _ (T5.setTop (mkF m 27 #[.val (.ref a1)] [(.int (0 : Int32))]))
      refine OutW.retN X5 hx (t := .boolean) (z' := (0 : Int32)) Bd.returns (by simp) hlk (hb hby d3_27) ?hz (by decide) (by decide) ?_
      case hz =>
        rfl
      show Q3 Z a1 w_left w_top w_right w_bottom h0 n0 _ T5.heap _
      rw [e5]
      exact ⟨by rw [isE, if_pos c8_3, if_pos c19_6], N0, rfl⟩
    · skip
      refine OutW.back (fun t k => XS.icmpNo X5.here hx rfl (hb hby d3_19) rfl (flt c19_6).2.2.1 k) ?_
      show OutW _ _ _ _ _ _ _ (T5.setTop (mkF m 22 #[.val (.ref a1)] []))
      refine OutW.back (fun t k => XS.iconst X5.here hx rfl (hb hby d3_22) k) ?_
      show OutW _ _ _ _ _ _ _ (T5.setTop (mkF m 23 #[.val (.ref a1)] [(.int (1 : Int32))]))
      refine OutW.back (fun t k => XS.goto X5.here hx rfl (pc0 := 23) (pc' := 27) rfl (hb hby d3_23) (by decide) (by decide) k) ?_
      show OutW _ _ _ _ _ _ _ (T5.setTop (mkF m 27 #[.val (.ref a1)] [(.int (1 : Int32))]))
      refine OutW.retN X5 hx (t := .boolean) (z' := (1 : Int32)) Bd.returns (by simp) hlk (hb hby d3_27) ?hz (by decide) (by decide) ?_
      case hz =>
        rfl
      show Q3 Z a1 w_left w_top w_right w_bottom h0 n0 _ T5.heap _
      rw [e5]
      exact ⟨by rw [isE, if_pos c8_3, if_neg c19_6], N0, rfl⟩
  · skip
    refine OutW.back (fun t k => XS.icmpYes X2.here hx rfl (pc0 := 8) (pc' := 22) rfl (hb hby d3_8) rfl (flt c8_3).2.2.2 (by decide) (by decide) k) ?_
    show OutW _ _ _ _ _ _ _ (T2.setTop (mkF m 22 #[.val (.ref a1)] []))
    refine OutW.back (fun t k => XS.iconst X2.here hx rfl (hb hby d3_22) k) ?_
    show OutW _ _ _ _ _ _ _ (T2.setTop (mkF m 23 #[.val (.ref a1)] [(.int (1 : Int32))]))
    refine OutW.back (fun t k => XS.goto X2.here hx rfl (pc0 := 23) (pc' := 27) rfl (hb hby d3_23) (by decide) (by decide) k) ?_
    show OutW _ _ _ _ _ _ _ (T2.setTop (mkF m 27 #[.val (.ref a1)] [(.int (1 : Int32))]))
    refine OutW.retN X2 hx (t := .boolean) (z' := (1 : Int32)) Bd.returns (by simp) hlk (hb hby d3_27) ?hz (by decide) (by decide) ?_
    case hz =>
      rfl
    show Q3 Z a1 w_left w_top w_right w_bottom h0 n0 _ T2.heap _
    rw [e2]
    exact ⟨by rw [isE, if_neg c8_3], N0, rfl⟩
theorem own_plain (l t r b v12 v15 : Int32) (w h : Int64) (hw : r.toInt64 - l.toInt64 = w) (hh : b.toInt64 - t.toInt64 = h) (h12 : v12 = (if (0 : Int64) < w then (if (0 : Int64) < h then (0 : Int32) else (1 : Int32)) else (1 : Int32))) (h15 : v15 = (if isE l t r b = v12 then (1 : Int32) else (0 : Int32))) : v15 = 1 := by
  have a1 := c_lsub r.toInt64 l.toInt64
  have a2 := c_lsub b.toInt64 t.toInt64
  have g1 := rng32 l; have g2 := rng32 t; have g3 := rng32 r; have g4 := rng32 b
  have g5 := rng64 w; have g6 := rng64 h
  rw [hw, c_i2l, c_i2l] at a1
  rw [hh, c_i2l, c_i2l] at a2
  have z : (0 : Int64).toInt = 0 := by decide
  have e : isE l t r b = v12 := by
    rw [h12, isE]
    simp only [Int32.lt_iff_toInt_lt, Int64.lt_iff_toInt_lt, z]
    repeat' split
    all_goals first | rfl | (exfalso; omega)
  rw [h15, if_pos e]

theorem pd_0 : parseMethodDescriptor "(IIII)V" = some ⟨[.int, .int, .int, .int], none⟩ := by decide +kernel
theorem pd_1 : parseMethodDescriptor "()Z" = some ⟨[], some .boolean⟩ := by decide +kernel
theorem pn_0 : plainName "com/example/canopy/canopy/model/RectIsEmptyPinLaw" = true := by first | (simp [plainName, overriddenIn]; done) | decide +kernel
theorem ef_0 (m : MethodId) (x0 : Int32) (x1 : Int32) (x2 : Int32) (x3 : Int32) (x4 : Int32) : entryFrame m #[(.int x0), (.int x1), (.int x2), (.int x3), (.int x4)] maxLocals = mkF m 0 #[.val (.int x0), .val (.int x1), .val (.int x2), .val (.int x3), .val (.int x4), .unset, .unset, .unset, .unset, .unset, .unset, .unset, .unset] [] := by first | (simp [entryFrame, mkF, argsToLocals, Value.category, maxLocals]; done) | rfl
def Q0 (Z : State) (p1 : Int32) (p2 : Int32) (p3 : Int32) (p4 : Int32) (p5 : Int32)  (h0 : Heap) (n0 : Nat) (v : Option Value) (h : Heap) (L : List Loc) : Prop := v = some (.int 1) ∧ Fr n0 L
set_option maxRecDepth 65536 in
set_option maxHeartbeats 40000000 in
theorem rm0 (l : Launch) (Z : State) (a0 : Array Value) (hw : ∀ d ∈ tables_1, d.before a0 Z = true) (ws : List Jvm.Cond) (p1 : Int32) (p2 : Int32) (p3 : Int32) (p4 : Int32) (p5 : Int32)  (h0 : Heap) (n0 : Nat) (Z0 : n0 ≤ h0.size) :
    MetFree l x (head1 (Jvm.Cond.code x code maxLocals ret :: ws) room_1) (fun a U => a = #[(.int p1), (.int p2), (.int p3), (.int p4), (.int p5)] ∧ Z.Warmed39 U.vm ∧ U.heap = h0) (fun _ _ _ _ _ => True) (fun _ U o U' => ∃ v L, o = .returned v ∧ Q0 Z p1 p2 p3 p4 p5 h0 n0 v U'.heap L ∧ FrameEnd U o U' L room_1.cells room_1.slots) := by
  refine MetFree.of_bodySF (plainFor_of_name pn_0) hisR ?_
  intro p e s m args below meth c s₁ Bd hml0 hP hK
  obtain ⟨rfl, hZ, hh⟩ := hP
  have hx := Bd.exec
  have hby := Bd.bytes
  have hlk := Bd.notSynchronized
  have hml : c.maxLocals = 13 := hml0
  have hown : s.vm.findClass "com/example/canopy/canopy/model/RectIsEmptyPinLaw" = some m.cls := findClass_of_methodNamed Bd.named
  have hnm := (name_of_methodNamed Bd.named Bd.method).1
  have X0 : Stand p l e room_1 s m #[(.int p1), (.int p2), (.int p3), (.int p4), (.int p5)] below meth c s₁ [] 0 0 := Stand.of_body Bd
  have e0 : s₁.heap = h0 := by rw [← hh, Bd.state]; rfl
  have N0 := Fr.nil n0
  have K0 : Keep h0 h0 [] := Keep.refl h0 _
  show OutW p e below s room_1.cells room_1.slots (Q0 Z p1 p2 p3 p4 p5 h0 n0) _
  refine OutW.back (fun t k => castTop (ef_0 m p1 p2 p3 p4 p5) k) ?_
  show OutW _ _ _ _ _ _ _ (s₁.setTop (mkF m 0 #[.val (.int p1), .val (.int p2), .val (.int p3), .val (.int p4), .val (.int p5), .unset, .unset, .unset, .unset, .unset, .unset, .unset, .unset] []))
  refine OutW.back (fun t k => XS.iloadN X0.here hx rfl (hb hby at_0) rfl  k) ?_
  show OutW _ _ _ _ _ _ _ (s₁.setTop (mkF m 1 #[.val (.int p1), .val (.int p2), .val (.int p3), .val (.int p4), .val (.int p5), .unset, .unset, .unset, .unset, .unset, .unset, .unset, .unset] [(.int p3)]))
  refine OutW.back (fun t k => XS.istore X0.here hx rfl (hb hby at_1) rfl (l' := #[.val (.int p1), .val (.int p2), .val (.int p3), .val (.int p4), .val (.int p5), .val (.int p3), .unset, .unset, .unset, .unset, .unset, .unset, .unset]) rfl k) ?_
  show OutW _ _ _ _ _ _ _ (s₁.setTop (mkF m 3 #[.val (.int p1), .val (.int p2), .val (.int p3), .val (.int p4), .val (.int p5), .val (.int p3), .unset, .unset, .unset, .unset, .unset, .unset, .unset] []))
  refine OutW.back (fun t k => XS.iload X0.here hx rfl (hb hby at_3) rfl  k) ?_
  show OutW _ _ _ _ _ _ _ (s₁.setTop (mkF m 5 #[.val (.int p1), .val (.int p2), .val (.int p3), .val (.int p4), .val (.int p5), .val (.int p3), .unset, .unset, .unset, .unset, .unset, .unset, .unset] [(.int p5)]))
  refine OutW.back (fun t k => XS.iconst X0.here hx rfl (hb hby at_5) k) ?_
  show OutW _ _ _ _ _ _ _ (s₁.setTop (mkF m 6 #[.val (.int p1), .val (.int p2), .val (.int p3), .val (.int p4), .val (.int p5), .val (.int p3), .unset, .unset, .unset, .unset, .unset, .unset, .unset] [(.int (1 : Int32)), (.int p5)]))
  refine OutW.back (fun t k => XS.iand X0.here hx rfl (hb hby at_6) rfl k) ?_
  show OutW _ _ _ _ _ _ _ (s₁.setTop (mkF m 7 #[.val (.int p1), .val (.int p2), .val (.int p3), .val (.int p4), .val (.int p5), .val (.int p3), .unset, .unset, .unset, .unset, .unset, .unset, .unset] [(.int (p5 &&& (1 : Int32)))]))
  obtain ⟨v2, hv_v2⟩ : ∃ z : Int32, z = (if (p5 &&& (1 : Int32)) = (0 : Int32) then p3 else ((p1 + ((p5 >>> ((1 : Int32) &&& 31)) &&& (3 : Int32))) - (1 : Int32))) := ⟨_, rfl⟩
  have j3 : ∀ t, Steps p.tables e below (s₁.setTop (mkF m 22 #[.val (.int p1), .val (.int p2), .val (.int p3), .val (.int p4), .val (.int p5), .val (.int v2), .unset, .unset, .unset, .unset, .unset, .unset, .unset] [])) t → Steps p.tables e below (s₁.setTop (mkF m 7 #[.val (.int p1), .val (.int p2), .val (.int p3), .val (.int p4), .val (.int p5), .val (.int p3), .unset, .unset, .unset, .unset, .unset, .unset, .unset] [(.int (p5 &&& (1 : Int32)))])) t := by
    intro t k
    by_cases c7_4 : (p5 &&& (1 : Int32)) = (0 : Int32)
    · skip
      refine XS.ifYes X0.here hx rfl (pc0 := 7) (pc' := 22) rfl (hb hby at_7) rfl ((if0 _ _).trans (teq c7_4).1) (by decide) (by decide) ?_
      show Steps p.tables e below (s₁.setTop (mkF m 22 #[.val (.int p1), .val (.int p2), .val (.int p3), .val (.int p4), .val (.int p5), .val (.int p3), .unset, .unset, .unset, .unset, .unset, .unset, .unset] [])) t
      have q_v2 : v2 = p3 := by rw [hv_v2, if_pos c7_4]
      rw [q_v2] at k
      exact k
    · skip
      refine XS.ifNo X0.here hx rfl (hb hby at_7) rfl ((if0 _ _).trans (feq c7_4).1) ?_
      show Steps p.tables e below (s₁.setTop (mkF m 10 #[.val (.int p1), .val (.int p2), .val (.int p3), .val (.int p4), .val (.int p5), .val (.int p3), .unset, .unset, .unset, .unset, .unset, .unset, .unset] [])) t
      refine XS.iloadN X0.here hx rfl (hb hby at_10) rfl  ?_
      show Steps p.tables e below (s₁.setTop (mkF m 11 #[.val (.int p1), .val (.int p2), .val (.int p3), .val (.int p4), .val (.int p5), .val (.int p3), .unset, .unset, .unset, .unset, .unset, .unset, .unset] [(.int p1)])) t
      refine XS.iload X0.here hx rfl (hb hby at_11) rfl  ?_
      show Steps p.tables e below (s₁.setTop (mkF m 13 #[.val (.int p1), .val (.int p2), .val (.int p3), .val (.int p4), .val (.int p5), .val (.int p3), .unset, .unset, .unset, .unset, .unset, .unset, .unset] [(.int p5), (.int p1)])) t
      refine XS.iconst X0.here hx rfl (hb hby at_13) ?_
      show Steps p.tables e below (s₁.setTop (mkF m 14 #[.val (.int p1), .val (.int p2), .val (.int p3), .val (.int p4), .val (.int p5), .val (.int p3), .unset, .unset, .unset, .unset, .unset, .unset, .unset] [(.int (1 : Int32)), (.int p5), (.int p1)])) t
      refine XS.ishr X0.here hx rfl (hb hby at_14) rfl ?_
      show Steps p.tables e below (s₁.setTop (mkF m 15 #[.val (.int p1), .val (.int p2), .val (.int p3), .val (.int p4), .val (.int p5), .val (.int p3), .unset, .unset, .unset, .unset, .unset, .unset, .unset] [(.int (p5 >>> ((1 : Int32) &&& 31))), (.int p1)])) t
      refine XS.iconst X0.here hx rfl (hb hby at_15) ?_
      show Steps p.tables e below (s₁.setTop (mkF m 16 #[.val (.int p1), .val (.int p2), .val (.int p3), .val (.int p4), .val (.int p5), .val (.int p3), .unset, .unset, .unset, .unset, .unset, .unset, .unset] [(.int (3 : Int32)), (.int (p5 >>> ((1 : Int32) &&& 31))), (.int p1)])) t
      refine XS.iand X0.here hx rfl (hb hby at_16) rfl ?_
      show Steps p.tables e below (s₁.setTop (mkF m 17 #[.val (.int p1), .val (.int p2), .val (.int p3), .val (.int p4), .val (.int p5), .val (.int p3), .unset, .unset, .unset, .unset, .unset, .unset, .unset] [(.int ((p5 >>> ((1 : Int32) &&& 31)) &&& (3 : Int32))), (.int p1)])) t
      refine XS.iadd X0.here hx rfl (hb hby at_17) rfl ?_
      show Steps p.tables e below (s₁.setTop (mkF m 18 #[.val (.int p1), .val (.int p2), .val (.int p3), .val (.int p4), .val (.int p5), .val (.int p3), .unset, .unset, .unset, .unset, .unset, .unset, .unset] [(.int (p1 + ((p5 >>> ((1 : Int32) &&& 31)) &&& (3 : Int32))))])) t
      refine XS.iconst X0.here hx rfl (hb hby at_18) ?_
      show Steps p.tables e below (s₁.setTop (mkF m 19 #[.val (.int p1), .val (.int p2), .val (.int p3), .val (.int p4), .val (.int p5), .val (.int p3), .unset, .unset, .unset, .unset, .unset, .unset, .unset] [(.int (1 : Int32)), (.int (p1 + ((p5 >>> ((1 : Int32) &&& 31)) &&& (3 : Int32))))])) t
      refine XS.isub X0.here hx rfl (hb hby at_19) rfl ?_
      show Steps p.tables e below (s₁.setTop (mkF m 20 #[.val (.int p1), .val (.int p2), .val (.int p3), .val (.int p4), .val (.int p5), .val (.int p3), .unset, .unset, .unset, .unset, .unset, .unset, .unset] [(.int ((p1 + ((p5 >>> ((1 : Int32) &&& 31)) &&& (3 : Int32))) - (1 : Int32)))])) t
      refine XS.istore X0.here hx rfl (hb hby at_20) rfl (l' := #[.val (.int p1), .val (.int p2), .val (.int p3), .val (.int p4), .val (.int p5), .val (.int ((p1 + ((p5 >>> ((1 : Int32) &&& 31)) &&& (3 : Int32))) - (1 : Int32))), .unset, .unset, .unset, .unset, .unset, .unset, .unset]) rfl ?_
      show Steps p.tables e below (s₁.setTop (mkF m 22 #[.val (.int p1), .val (.int p2), .val (.int p3), .val (.int p4), .val (.int p5), .val (.int ((p1 + ((p5 >>> ((1 : Int32) &&& 31)) &&& (3 : Int32))) - (1 : Int32))), .unset, .unset, .unset, .unset, .unset, .unset, .unset] [])) t
      have q_v2 : v2 = ((p1 + ((p5 >>> ((1 : Int32) &&& 31)) &&& (3 : Int32))) - (1 : Int32)) := by rw [hv_v2, if_neg c7_4]
      rw [q_v2] at k
      exact k
  refine OutW.back j3 ?_
  show OutW _ _ _ _ _ _ _ (s₁.setTop (mkF m 22 #[.val (.int p1), .val (.int p2), .val (.int p3), .val (.int p4), .val (.int p5), .val (.int v2), .unset, .unset, .unset, .unset, .unset, .unset, .unset] []))
  refine OutW.back (fun t k => XS.iloadN X0.here hx rfl (hb hby at_22) rfl  k) ?_
  show OutW _ _ _ _ _ _ _ (s₁.setTop (mkF m 23 #[.val (.int p1), .val (.int p2), .val (.int p3), .val (.int p4), .val (.int p5), .val (.int v2), .unset, .unset, .unset, .unset, .unset, .unset, .unset] [(.int p4)]))
  refine OutW.back (fun t k => XS.istore X0.here hx rfl (hb hby at_23) rfl (l' := #[.val (.int p1), .val (.int p2), .val (.int p3), .val (.int p4), .val (.int p5), .val (.int v2), .val (.int p4), .unset, .unset, .unset, .unset, .unset, .unset]) rfl k) ?_
  show OutW _ _ _ _ _ _ _ (s₁.setTop (mkF m 25 #[.val (.int p1), .val (.int p2), .val (.int p3), .val (.int p4), .val (.int p5), .val (.int v2), .val (.int p4), .unset, .unset, .unset, .unset, .unset, .unset] []))
  refine OutW.back (fun t k => XS.iload X0.here hx rfl (hb hby at_25) rfl  k) ?_
  show OutW _ _ _ _ _ _ _ (s₁.setTop (mkF m 27 #[.val (.int p1), .val (.int p2), .val (.int p3), .val (.int p4), .val (.int p5), .val (.int v2), .val (.int p4), .unset, .unset, .unset, .unset, .unset, .unset] [(.int p5)]))
  refine OutW.back (fun t k => XS.bipush X0.here hx rfl (hb hby at_27) k) ?_
  show OutW _ _ _ _ _ _ _ (s₁.setTop (mkF m 29 #[.val (.int p1), .val (.int p2), .val (.int p3), .val (.int p4), .val (.int p5), .val (.int v2), .val (.int p4), .unset, .unset, .unset, .unset, .unset, .unset] [(.int (8 : Int32)), (.int p5)]))
  refine OutW.back (fun t k => XS.iand X0.here hx rfl (hb hby at_29) rfl k) ?_
  show OutW _ _ _ _ _ _ _ (s₁.setTop (mkF m 30 #[.val (.int p1), .val (.int p2), .val (.int p3), .val (.int p4), .val (.int p5), .val (.int v2), .val (.int p4), .unset, .unset, .unset, .unset, .unset, .unset] [(.int (p5 &&& (8 : Int32)))]))
  obtain ⟨v6, hv_v6⟩ : ∃ z : Int32, z = (if (p5 &&& (8 : Int32)) = (0 : Int32) then p4 else ((p2 + ((p5 >>> ((4 : Int32) &&& 31)) &&& (3 : Int32))) - (1 : Int32))) := ⟨_, rfl⟩
  have j7 : ∀ t, Steps p.tables e below (s₁.setTop (mkF m 45 #[.val (.int p1), .val (.int p2), .val (.int p3), .val (.int p4), .val (.int p5), .val (.int v2), .val (.int v6), .unset, .unset, .unset, .unset, .unset, .unset] [])) t → Steps p.tables e below (s₁.setTop (mkF m 30 #[.val (.int p1), .val (.int p2), .val (.int p3), .val (.int p4), .val (.int p5), .val (.int v2), .val (.int p4), .unset, .unset, .unset, .unset, .unset, .unset] [(.int (p5 &&& (8 : Int32)))])) t := by
    intro t k
    by_cases c30_8 : (p5 &&& (8 : Int32)) = (0 : Int32)
    · skip
      refine XS.ifYes X0.here hx rfl (pc0 := 30) (pc' := 45) rfl (hb hby at_30) rfl ((if0 _ _).trans (teq c30_8).1) (by decide) (by decide) ?_
      show Steps p.tables e below (s₁.setTop (mkF m 45 #[.val (.int p1), .val (.int p2), .val (.int p3), .val (.int p4), .val (.int p5), .val (.int v2), .val (.int p4), .unset, .unset, .unset, .unset, .unset, .unset] [])) t
      have q_v6 : v6 = p4 := by rw [hv_v6, if_pos c30_8]
      rw [q_v6] at k
      exact k
    · skip
      refine XS.ifNo X0.here hx rfl (hb hby at_30) rfl ((if0 _ _).trans (feq c30_8).1) ?_
      show Steps p.tables e below (s₁.setTop (mkF m 33 #[.val (.int p1), .val (.int p2), .val (.int p3), .val (.int p4), .val (.int p5), .val (.int v2), .val (.int p4), .unset, .unset, .unset, .unset, .unset, .unset] [])) t
      refine XS.iloadN X0.here hx rfl (hb hby at_33) rfl  ?_
      show Steps p.tables e below (s₁.setTop (mkF m 34 #[.val (.int p1), .val (.int p2), .val (.int p3), .val (.int p4), .val (.int p5), .val (.int v2), .val (.int p4), .unset, .unset, .unset, .unset, .unset, .unset] [(.int p2)])) t
      refine XS.iload X0.here hx rfl (hb hby at_34) rfl  ?_
      show Steps p.tables e below (s₁.setTop (mkF m 36 #[.val (.int p1), .val (.int p2), .val (.int p3), .val (.int p4), .val (.int p5), .val (.int v2), .val (.int p4), .unset, .unset, .unset, .unset, .unset, .unset] [(.int p5), (.int p2)])) t
      refine XS.iconst X0.here hx rfl (hb hby at_36) ?_
      show Steps p.tables e below (s₁.setTop (mkF m 37 #[.val (.int p1), .val (.int p2), .val (.int p3), .val (.int p4), .val (.int p5), .val (.int v2), .val (.int p4), .unset, .unset, .unset, .unset, .unset, .unset] [(.int (4 : Int32)), (.int p5), (.int p2)])) t
      refine XS.ishr X0.here hx rfl (hb hby at_37) rfl ?_
      show Steps p.tables e below (s₁.setTop (mkF m 38 #[.val (.int p1), .val (.int p2), .val (.int p3), .val (.int p4), .val (.int p5), .val (.int v2), .val (.int p4), .unset, .unset, .unset, .unset, .unset, .unset] [(.int (p5 >>> ((4 : Int32) &&& 31))), (.int p2)])) t
      refine XS.iconst X0.here hx rfl (hb hby at_38) ?_
      show Steps p.tables e below (s₁.setTop (mkF m 39 #[.val (.int p1), .val (.int p2), .val (.int p3), .val (.int p4), .val (.int p5), .val (.int v2), .val (.int p4), .unset, .unset, .unset, .unset, .unset, .unset] [(.int (3 : Int32)), (.int (p5 >>> ((4 : Int32) &&& 31))), (.int p2)])) t
      refine XS.iand X0.here hx rfl (hb hby at_39) rfl ?_
      show Steps p.tables e below (s₁.setTop (mkF m 40 #[.val (.int p1), .val (.int p2), .val (.int p3), .val (.int p4), .val (.int p5), .val (.int v2), .val (.int p4), .unset, .unset, .unset, .unset, .unset, .unset] [(.int ((p5 >>> ((4 : Int32) &&& 31)) &&& (3 : Int32))), (.int p2)])) t
      refine XS.iadd X0.here hx rfl (hb hby at_40) rfl ?_
      show Steps p.tables e below (s₁.setTop (mkF m 41 #[.val (.int p1), .val (.int p2), .val (.int p3), .val (.int p4), .val (.int p5), .val (.int v2), .val (.int p4), .unset, .unset, .unset, .unset, .unset, .unset] [(.int (p2 + ((p5 >>> ((4 : Int32) &&& 31)) &&& (3 : Int32))))])) t
      refine XS.iconst X0.here hx rfl (hb hby at_41) ?_
      show Steps p.tables e below (s₁.setTop (mkF m 42 #[.val (.int p1), .val (.int p2), .val (.int p3), .val (.int p4), .val (.int p5), .val (.int v2), .val (.int p4), .unset, .unset, .unset, .unset, .unset, .unset] [(.int (1 : Int32)), (.int (p2 + ((p5 >>> ((4 : Int32) &&& 31)) &&& (3 : Int32))))])) t
      refine XS.isub X0.here hx rfl (hb hby at_42) rfl ?_
      show Steps p.tables e below (s₁.setTop (mkF m 43 #[.val (.int p1), .val (.int p2), .val (.int p3), .val (.int p4), .val (.int p5), .val (.int v2), .val (.int p4), .unset, .unset, .unset, .unset, .unset, .unset] [(.int ((p2 + ((p5 >>> ((4 : Int32) &&& 31)) &&& (3 : Int32))) - (1 : Int32)))])) t
      refine XS.istore X0.here hx rfl (hb hby at_43) rfl (l' := #[.val (.int p1), .val (.int p2), .val (.int p3), .val (.int p4), .val (.int p5), .val (.int v2), .val (.int ((p2 + ((p5 >>> ((4 : Int32) &&& 31)) &&& (3 : Int32))) - (1 : Int32))), .unset, .unset, .unset, .unset, .unset, .unset]) rfl ?_
      show Steps p.tables e below (s₁.setTop (mkF m 45 #[.val (.int p1), .val (.int p2), .val (.int p3), .val (.int p4), .val (.int p5), .val (.int v2), .val (.int ((p2 + ((p5 >>> ((4 : Int32) &&& 31)) &&& (3 : Int32))) - (1 : Int32))), .unset, .unset, .unset, .unset, .unset, .unset] [])) t
      have q_v6 : v6 = ((p2 + ((p5 >>> ((4 : Int32) &&& 31)) &&& (3 : Int32))) - (1 : Int32)) := by rw [hv_v6, if_neg c30_8]
      rw [q_v6] at k
      exact k
  refine OutW.back j7 ?_
  show OutW _ _ _ _ _ _ _ (s₁.setTop (mkF m 45 #[.val (.int p1), .val (.int p2), .val (.int p3), .val (.int p4), .val (.int p5), .val (.int v2), .val (.int v6), .unset, .unset, .unset, .unset, .unset, .unset] []))
  obtain ⟨T9, h9, X9, e9, E9, A9, D9, -, st9⟩ := newO X0 hx hZ hown (hw _ (List.mem_of_getElem? (i := 0) rfl)) (hw _ (List.mem_of_getElem? (i := 1) rfl)) (hw _ (List.mem_of_getElem? (i := 2) rfl)) e0 (g := (mkF m 45 #[.val (.int p1), .val (.int p2), .val (.int p3), .val (.int p4), .val (.int p5), .val (.int v2), .val (.int v6), .unset, .unset, .unset, .unset, .unset, .unset] [])) rfl (hb hby at_45) (by decide) (by decide)
  obtain ⟨b9, g9⟩ : ∃ z, z = h0.size := ⟨_, rfl⟩
  rw [← g9] at A9 D9 st9
  have g_b9 : n0 ≤ b9 := Nat.le_trans Z0 (Nat.le_of_eq g9.symm)
  have sz_b9 : h0.size ≤ b9 := Nat.le_trans K0.1 (Nat.le_of_eq g9.symm)
  have Z9 : n0 ≤ h9.size := Nat.le_trans Z0 E9.1
  have K9 := K0.ext E9
  have E_b9 := A9
  have F_left_b9 : Fld Z h9 b9 "com/example/canopy/canopy/model/Rect" "left" "I" (.int (0 : Int32)) := D9 (Or.inr (hw _ (List.mem_of_getElem? (i := 10) rfl))) (ty := .int) (by decide)
  have F_top_b9 : Fld Z h9 b9 "com/example/canopy/canopy/model/Rect" "top" "I" (.int (0 : Int32)) := D9 (Or.inr (hw _ (List.mem_of_getElem? (i := 12) rfl))) (ty := .int) (by decide)
  have F_right_b9 : Fld Z h9 b9 "com/example/canopy/canopy/model/Rect" "right" "I" (.int (0 : Int32)) := D9 (Or.inr (hw _ (List.mem_of_getElem? (i := 14) rfl))) (ty := .int) (by decide)
  have F_bottom_b9 : Fld Z h9 b9 "com/example/canopy/canopy/model/Rect" "bottom" "I" (.int (0 : Int32)) := D9 (Or.inr (hw _ (List.mem_of_getElem? (i := 16) rfl))) (ty := .int) (by decide)
  refine OutW.back st9 ?_
  show OutW _ _ _ _ _ _ _ (T9.setTop (mkF m 48 #[.val (.int p1), .val (.int p2), .val (.int p3), .val (.int p4), .val (.int p5), .val (.int v2), .val (.int v6), .unset, .unset, .unset, .unset, .unset, .unset] [(.ref b9)]))
  refine OutW.back (fun t k => XS.dup X9.here hx rfl (hb hby at_48) rfl rfl k) ?_
  show OutW _ _ _ _ _ _ _ (T9.setTop (mkF m 49 #[.val (.int p1), .val (.int p2), .val (.int p3), .val (.int p4), .val (.int p5), .val (.int v2), .val (.int v6), .unset, .unset, .unset, .unset, .unset, .unset] [(.ref b9), (.ref b9)]))
  refine OutW.back (fun t k => XS.iloadN X9.here hx rfl (hb hby at_49) rfl  k) ?_
  show OutW _ _ _ _ _ _ _ (T9.setTop (mkF m 50 #[.val (.int p1), .val (.int p2), .val (.int p3), .val (.int p4), .val (.int p5), .val (.int v2), .val (.int v6), .unset, .unset, .unset, .unset, .unset, .unset] [(.int p1), (.ref b9), (.ref b9)]))
  refine OutW.back (fun t k => XS.iloadN X9.here hx rfl (hb hby at_50) rfl  k) ?_
  show OutW _ _ _ _ _ _ _ (T9.setTop (mkF m 51 #[.val (.int p1), .val (.int p2), .val (.int p3), .val (.int p4), .val (.int p5), .val (.int v2), .val (.int v6), .unset, .unset, .unset, .unset, .unset, .unset] [(.int p2), (.int p1), (.ref b9), (.ref b9)]))
  refine OutW.back (fun t k => XS.iload X9.here hx rfl (hb hby at_51) rfl  k) ?_
  show OutW _ _ _ _ _ _ _ (T9.setTop (mkF m 53 #[.val (.int p1), .val (.int p2), .val (.int p3), .val (.int p4), .val (.int p5), .val (.int v2), .val (.int v6), .unset, .unset, .unset, .unset, .unset, .unset] [(.int v2), (.int p2), (.int p1), (.ref b9), (.ref b9)]))
  refine OutW.back (fun t k => XS.iload X9.here hx rfl (hb hby at_53) rfl  k) ?_
  show OutW _ _ _ _ _ _ _ (T9.setTop (mkF m 55 #[.val (.int p1), .val (.int p2), .val (.int p3), .val (.int p4), .val (.int p5), .val (.int v2), .val (.int v6), .unset, .unset, .unset, .unset, .unset, .unset] [(.int v6), (.int v2), (.int p2), (.int p1), (.ref b9), (.ref b9)]))
  obtain ⟨_, _, ⟨T10, L10, k10, n10⟩, -, X10, ⟨Lc10, hQ10, l10, y10, z10⟩, st10⟩ := X9.specialBack hx (y := (⟨"com/example/canopy/canopy/model/Rect", "<init>", "(IIII)V"⟩ : MethodName)) rfl hown (mvT hZ (hw _ (List.mem_of_getElem? (i := 3) rfl))) (mvT hZ (hw _ (List.mem_of_getElem? (i := 4) rfl))) (mvT hZ (hw _ (List.mem_of_getElem? (i := 5) rfl))) (by decide) (backOf (W := 1) (rm1 l Z a0 hw [] b9 p1 p2 v2 v6 h9 n0 Z9 E_b9 g_b9 F_left_b9 F_top_b9 F_right_b9 F_bottom_b9) hZ (hw _ (List.mem_of_getElem? (i := 5) rfl)) (hw _ (List.mem_of_getElem? (i := 2) rfl)) (by decide) (by decide)) (g := (mkF m 55 #[.val (.int p1), .val (.int p2), .val (.int p3), .val (.int p4), .val (.int p5), .val (.int v2), .val (.int v6), .unset, .unset, .unset, .unset, .unset, .unset] [(.int v6), (.int v2), (.int p2), (.int p1), (.ref b9), (.ref b9)])) rfl (by rw [hml]; rfl) (Steps.refl _) (a := b9) (argsL := [(.int p1), (.int p2), (.int v2), (.int v6)]) (rest := [(.ref b9)]) (lenOf pd_0 rfl) rfl (by show 2 * 0 + _ ≤ _; exact Nat.le_of_eq rfl) (hb hby at_55) (fun _ _ => ⟨rfl, e9, (by decide : 1 + 0 ≤ _), (by decide : 4 + 0 ≤ _)⟩)
  dsimp only [Pt.U, Pt.locs, Pt.cells, Pt.slots] at X10 l10 y10 z10 st10 hQ10
  subst l10 y10 z10
  obtain ⟨h10, eh10⟩ : ∃ z, z = T10.heap := ⟨_, rfl⟩
  rw [← eh10] at hQ10
  have e10 : T10.heap = h10 := eh10.symm
  obtain ⟨rfl, Nq10, Kq10, F_left_b9, F_top_b9, F_right_b9, F_bottom_b9⟩ := hQ10
  have E_b9 := E_b9.keep Kq10
  have Z10 : n0 ≤ h10.size := Nat.le_trans Z9 Kq10.1
  have K10 := K9.trans Kq10 (allS (Or.inr sz_b9) all0)
  have N10 := Fr.app N0 Nq10
  refine OutW.via st10 ?_
  show OutW _ _ _ _ _ _ _ (T10.setTop (mkF m 58 #[.val (.int p1), .val (.int p2), .val (.int p3), .val (.int p4), .val (.int p5), .val (.int v2), .val (.int v6), .unset, .unset, .unset, .unset, .unset, .unset] [(.ref b9)]))
  refine OutW.back (fun t k => XS.astore X10.here hx rfl (hb hby at_58) rfl rfl (l' := #[.val (.int p1), .val (.int p2), .val (.int p3), .val (.int p4), .val (.int p5), .val (.int v2), .val (.int v6), .val (.ref b9), .unset, .unset, .unset, .unset, .unset]) rfl k) ?_
  show OutW _ _ _ _ _ _ _ (T10.setTop (mkF m 60 #[.val (.int p1), .val (.int p2), .val (.int p3), .val (.int p4), .val (.int p5), .val (.int v2), .val (.int v6), .val (.ref b9), .unset, .unset, .unset, .unset, .unset] []))
  refine OutW.back (fun t k => XS.iload X10.here hx rfl (hb hby at_60) rfl  k) ?_
  show OutW _ _ _ _ _ _ _ (T10.setTop (mkF m 62 #[.val (.int p1), .val (.int p2), .val (.int p3), .val (.int p4), .val (.int p5), .val (.int v2), .val (.int v6), .val (.ref b9), .unset, .unset, .unset, .unset, .unset] [(.int v2)]))
  refine OutW.back (fun t k => XS.i2l X10.here hx rfl (hb hby at_62) rfl k) ?_
  show OutW _ _ _ _ _ _ _ (T10.setTop (mkF m 63 #[.val (.int p1), .val (.int p2), .val (.int p3), .val (.int p4), .val (.int p5), .val (.int v2), .val (.int v6), .val (.ref b9), .unset, .unset, .unset, .unset, .unset] [(.long v2.toInt64)]))
  refine OutW.back (fun t k => XS.iloadN X10.here hx rfl (hb hby at_63) rfl  k) ?_
  show OutW _ _ _ _ _ _ _ (T10.setTop (mkF m 64 #[.val (.int p1), .val (.int p2), .val (.int p3), .val (.int p4), .val (.int p5), .val (.int v2), .val (.int v6), .val (.ref b9), .unset, .unset, .unset, .unset, .unset] [(.int p1), (.long v2.toInt64)]))
  refine OutW.back (fun t k => XS.i2l X10.here hx rfl (hb hby at_64) rfl k) ?_
  show OutW _ _ _ _ _ _ _ (T10.setTop (mkF m 65 #[.val (.int p1), .val (.int p2), .val (.int p3), .val (.int p4), .val (.int p5), .val (.int v2), .val (.int v6), .val (.ref b9), .unset, .unset, .unset, .unset, .unset] [(.long p1.toInt64), (.long v2.toInt64)]))
  refine OutW.back (fun t k => XS.lsub X10.here hx rfl (hb hby at_65) rfl k) ?_
  show OutW _ _ _ _ _ _ _ (T10.setTop (mkF m 66 #[.val (.int p1), .val (.int p2), .val (.int p3), .val (.int p4), .val (.int p5), .val (.int v2), .val (.int v6), .val (.ref b9), .unset, .unset, .unset, .unset, .unset] [(.long (v2.toInt64 - p1.toInt64))]))
  generalize hv_v11 : (v2.toInt64 - p1.toInt64) = v11
  refine OutW.back (fun t k => XS.lstore X10.here hx rfl (hb hby at_66) rfl (l' := #[.val (.int p1), .val (.int p2), .val (.int p3), .val (.int p4), .val (.int p5), .val (.int v2), .val (.int v6), .val (.ref b9), .val (.long v11), .second, .unset, .unset, .unset]) rfl k) ?_
  show OutW _ _ _ _ _ _ _ (T10.setTop (mkF m 68 #[.val (.int p1), .val (.int p2), .val (.int p3), .val (.int p4), .val (.int p5), .val (.int v2), .val (.int v6), .val (.ref b9), .val (.long v11), .second, .unset, .unset, .unset] []))
  refine OutW.back (fun t k => XS.iload X10.here hx rfl (hb hby at_68) rfl  k) ?_
  show OutW _ _ _ _ _ _ _ (T10.setTop (mkF m 70 #[.val (.int p1), .val (.int p2), .val (.int p3), .val (.int p4), .val (.int p5), .val (.int v2), .val (.int v6), .val (.ref b9), .val (.long v11), .second, .unset, .unset, .unset] [(.int v6)]))
  refine OutW.back (fun t k => XS.i2l X10.here hx rfl (hb hby at_70) rfl k) ?_
  show OutW _ _ _ _ _ _ _ (T10.setTop (mkF m 71 #[.val (.int p1), .val (.int p2), .val (.int p3), .val (.int p4), .val (.int p5), .val (.int v2), .val (.int v6), .val (.ref b9), .val (.long v11), .second, .unset, .unset, .unset] [(.long v6.toInt64)]))
  refine OutW.back (fun t k => XS.iloadN X10.here hx rfl (hb hby at_71) rfl  k) ?_
  show OutW _ _ _ _ _ _ _ (T10.setTop (mkF m 72 #[.val (.int p1), .val (.int p2), .val (.int p3), .val (.int p4), .val (.int p5), .val (.int v2), .val (.int v6), .val (.ref b9), .val (.long v11), .second, .unset, .unset, .unset] [(.int p2), (.long v6.toInt64)]))
  refine OutW.back (fun t k => XS.i2l X10.here hx rfl (hb hby at_72) rfl k) ?_
  show OutW _ _ _ _ _ _ _ (T10.setTop (mkF m 73 #[.val (.int p1), .val (.int p2), .val (.int p3), .val (.int p4), .val (.int p5), .val (.int v2), .val (.int v6), .val (.ref b9), .val (.long v11), .second, .unset, .unset, .unset] [(.long p2.toInt64), (.long v6.toInt64)]))
  refine OutW.back (fun t k => XS.lsub X10.here hx rfl (hb hby at_73) rfl k) ?_
  show OutW _ _ _ _ _ _ _ (T10.setTop (mkF m 74 #[.val (.int p1), .val (.int p2), .val (.int p3), .val (.int p4), .val (.int p5), .val (.int v2), .val (.int v6), .val (.ref b9), .val (.long v11), .second, .unset, .unset, .unset] [(.long (v6.toInt64 - p2.toInt64))]))
  generalize hv_v12 : (v6.toInt64 - p2.toInt64) = v12
  refine OutW.back (fun t k => XS.lstore X10.here hx rfl (hb hby at_74) rfl (l' := #[.val (.int p1), .val (.int p2), .val (.int p3), .val (.int p4), .val (.int p5), .val (.int v2), .val (.int v6), .val (.ref b9), .val (.long v11), .second, .val (.long v12), .second, .unset]) rfl k) ?_
  show OutW _ _ _ _ _ _ _ (T10.setTop (mkF m 76 #[.val (.int p1), .val (.int p2), .val (.int p3), .val (.int p4), .val (.int p5), .val (.int v2), .val (.int v6), .val (.ref b9), .val (.long v11), .second, .val (.long v12), .second, .unset] []))
  refine OutW.back (fun t k => XS.lload X10.here hx rfl (hb hby at_76) rfl  k) ?_
  show OutW _ _ _ _ _ _ _ (T10.setTop (mkF m 78 #[.val (.int p1), .val (.int p2), .val (.int p3), .val (.int p4), .val (.int p5), .val (.int v2), .val (.int v6), .val (.ref b9), .val (.long v11), .second, .val (.long v12), .second, .unset] [(.long v11)]))
  refine OutW.back (fun t k => XS.lconst X10.here hx rfl (hb hby at_78) k) ?_
  show OutW _ _ _ _ _ _ _ (T10.setTop (mkF m 79 #[.val (.int p1), .val (.int p2), .val (.int p3), .val (.int p4), .val (.int p5), .val (.int v2), .val (.int v6), .val (.ref b9), .val (.long v11), .second, .val (.long v12), .second, .unset] [(.long (0 : Int64)), (.long v11)]))
  refine OutW.back (fun t k => XS.lcmp X10.here hx rfl (hb hby at_79) rfl k) ?_
  show OutW _ _ _ _ _ _ _ (T10.setTop (mkF m 80 #[.val (.int p1), .val (.int p2), .val (.int p3), .val (.int p4), .val (.int p5), .val (.int v2), .val (.int v6), .val (.ref b9), .val (.long v11), .second, .val (.long v12), .second, .unset] [(.int (lcmpW v11 (0 : Int64)))]))
  obtain ⟨v15, hv_v15⟩ : ∃ z : Int32, z = (if (0 : Int64) < v11 then (if (0 : Int64) < v12 then (0 : Int32) else (1 : Int32)) else (1 : Int32)) := ⟨_, rfl⟩
  have j16 : ∀ t, Steps p.tables e below (T10.setTop (mkF m 95 #[.val (.int p1), .val (.int p2), .val (.int p3), .val (.int p4), .val (.int p5), .val (.int v2), .val (.int v6), .val (.ref b9), .val (.long v11), .second, .val (.long v12), .second, .unset] [(.int v15)])) t → Steps p.tables e below (T10.setTop (mkF m 80 #[.val (.int p1), .val (.int p2), .val (.int p3), .val (.int p4), .val (.int p5), .val (.int v2), .val (.int v6), .val (.ref b9), .val (.long v11), .second, .val (.long v12), .second, .unset] [(.int (lcmpW v11 (0 : Int64)))])) t := by
    intro t k
    by_cases c80_17 : (0 : Int64) < v11
    · skip
      refine XS.ifNo X10.here hx rfl (hb hby at_80) rfl ((if0 _ _).trans (tlt ((lw_gt _ _).mpr c80_17)).2.2.2) ?_
      show Steps p.tables e below (T10.setTop (mkF m 83 #[.val (.int p1), .val (.int p2), .val (.int p3), .val (.int p4), .val (.int p5), .val (.int v2), .val (.int v6), .val (.ref b9), .val (.long v11), .second, .val (.long v12), .second, .unset] [])) t
      refine XS.lload X10.here hx rfl (hb hby at_83) rfl  ?_
      show Steps p.tables e below (T10.setTop (mkF m 85 #[.val (.int p1), .val (.int p2), .val (.int p3), .val (.int p4), .val (.int p5), .val (.int v2), .val (.int v6), .val (.ref b9), .val (.long v11), .second, .val (.long v12), .second, .unset] [(.long v12)])) t
      refine XS.lconst X10.here hx rfl (hb hby at_85) ?_
      show Steps p.tables e below (T10.setTop (mkF m 86 #[.val (.int p1), .val (.int p2), .val (.int p3), .val (.int p4), .val (.int p5), .val (.int v2), .val (.int v6), .val (.ref b9), .val (.long v11), .second, .val (.long v12), .second, .unset] [(.long (0 : Int64)), (.long v12)])) t
      refine XS.lcmp X10.here hx rfl (hb hby at_86) rfl ?_
      show Steps p.tables e below (T10.setTop (mkF m 87 #[.val (.int p1), .val (.int p2), .val (.int p3), .val (.int p4), .val (.int p5), .val (.int v2), .val (.int v6), .val (.ref b9), .val (.long v11), .second, .val (.long v12), .second, .unset] [(.int (lcmpW v12 (0 : Int64)))])) t
      by_cases c87_18 : (0 : Int64) < v12
      · skip
        refine XS.ifYes X10.here hx rfl (pc0 := 87) (pc' := 94) rfl (hb hby at_87) rfl ((if0 _ _).trans (tlt ((lw_gt _ _).mpr c87_18)).2.2.1) (by decide) (by decide) ?_
        show Steps p.tables e below (T10.setTop (mkF m 94 #[.val (.int p1), .val (.int p2), .val (.int p3), .val (.int p4), .val (.int p5), .val (.int v2), .val (.int v6), .val (.ref b9), .val (.long v11), .second, .val (.long v12), .second, .unset] [])) t
        refine XS.iconst X10.here hx rfl (hb hby at_94) ?_
        show Steps p.tables e below (T10.setTop (mkF m 95 #[.val (.int p1), .val (.int p2), .val (.int p3), .val (.int p4), .val (.int p5), .val (.int v2), .val (.int v6), .val (.ref b9), .val (.long v11), .second, .val (.long v12), .second, .unset] [(.int (0 : Int32))])) t
        have q_v15 : v15 = (0 : Int32) := by rw [hv_v15, if_pos c80_17, if_pos c87_18]
        rw [q_v15] at k
        exact k
      · skip
        refine XS.ifNo X10.here hx rfl (hb hby at_87) rfl ((if0 _ _).trans (flt (fun q => c87_18 ((lw_gt _ _).mp q))).2.2.1) ?_
        show Steps p.tables e below (T10.setTop (mkF m 90 #[.val (.int p1), .val (.int p2), .val (.int p3), .val (.int p4), .val (.int p5), .val (.int v2), .val (.int v6), .val (.ref b9), .val (.long v11), .second, .val (.long v12), .second, .unset] [])) t
        refine XS.iconst X10.here hx rfl (hb hby at_90) ?_
        show Steps p.tables e below (T10.setTop (mkF m 91 #[.val (.int p1), .val (.int p2), .val (.int p3), .val (.int p4), .val (.int p5), .val (.int v2), .val (.int v6), .val (.ref b9), .val (.long v11), .second, .val (.long v12), .second, .unset] [(.int (1 : Int32))])) t
        refine XS.goto X10.here hx rfl (pc0 := 91) (pc' := 95) rfl (hb hby at_91) (by decide) (by decide) ?_
        show Steps p.tables e below (T10.setTop (mkF m 95 #[.val (.int p1), .val (.int p2), .val (.int p3), .val (.int p4), .val (.int p5), .val (.int v2), .val (.int v6), .val (.ref b9), .val (.long v11), .second, .val (.long v12), .second, .unset] [(.int (1 : Int32))])) t
        have q_v15 : v15 = (1 : Int32) := by rw [hv_v15, if_pos c80_17, if_neg c87_18]
        rw [q_v15] at k
        exact k
    · skip
      refine XS.ifYes X10.here hx rfl (pc0 := 80) (pc' := 90) rfl (hb hby at_80) rfl ((if0 _ _).trans (flt (fun q => c80_17 ((lw_gt _ _).mp q))).2.2.2) (by decide) (by decide) ?_
      show Steps p.tables e below (T10.setTop (mkF m 90 #[.val (.int p1), .val (.int p2), .val (.int p3), .val (.int p4), .val (.int p5), .val (.int v2), .val (.int v6), .val (.ref b9), .val (.long v11), .second, .val (.long v12), .second, .unset] [])) t
      refine XS.iconst X10.here hx rfl (hb hby at_90) ?_
      show Steps p.tables e below (T10.setTop (mkF m 91 #[.val (.int p1), .val (.int p2), .val (.int p3), .val (.int p4), .val (.int p5), .val (.int v2), .val (.int v6), .val (.ref b9), .val (.long v11), .second, .val (.long v12), .second, .unset] [(.int (1 : Int32))])) t
      refine XS.goto X10.here hx rfl (pc0 := 91) (pc' := 95) rfl (hb hby at_91) (by decide) (by decide) ?_
      show Steps p.tables e below (T10.setTop (mkF m 95 #[.val (.int p1), .val (.int p2), .val (.int p3), .val (.int p4), .val (.int p5), .val (.int v2), .val (.int v6), .val (.ref b9), .val (.long v11), .second, .val (.long v12), .second, .unset] [(.int (1 : Int32))])) t
      have q_v15 : v15 = (1 : Int32) := by rw [hv_v15, if_neg c80_17]
      rw [q_v15] at k
      exact k
  refine OutW.back j16 ?_
  show OutW _ _ _ _ _ _ _ (T10.setTop (mkF m 95 #[.val (.int p1), .val (.int p2), .val (.int p3), .val (.int p4), .val (.int p5), .val (.int v2), .val (.int v6), .val (.ref b9), .val (.long v11), .second, .val (.long v12), .second, .unset] [(.int v15)]))
  refine OutW.back (fun t k => XS.istore X10.here hx rfl (hb hby at_95) rfl (l' := #[.val (.int p1), .val (.int p2), .val (.int p3), .val (.int p4), .val (.int p5), .val (.int v2), .val (.int v6), .val (.ref b9), .val (.long v11), .second, .val (.long v12), .second, .val (.int v15)]) rfl k) ?_
  show OutW _ _ _ _ _ _ _ (T10.setTop (mkF m 97 #[.val (.int p1), .val (.int p2), .val (.int p3), .val (.int p4), .val (.int p5), .val (.int v2), .val (.int v6), .val (.ref b9), .val (.long v11), .second, .val (.long v12), .second, .val (.int v15)] []))
  refine OutW.back (fun t k => XS.aload X10.here hx rfl (hb hby at_97) rfl rfl  k) ?_
  show OutW _ _ _ _ _ _ _ (T10.setTop (mkF m 99 #[.val (.int p1), .val (.int p2), .val (.int p3), .val (.int p4), .val (.int p5), .val (.int v2), .val (.int v6), .val (.ref b9), .val (.long v11), .second, .val (.long v12), .second, .val (.int v15)] [(.ref b9)]))
  obtain ⟨cq19, kq19, qa19, qb19, qc19⟩ := isOf hZ e10 E_b9
  obtain ⟨_, _, ⟨T19, L19, k19, n19⟩, -, X19, ⟨Lc19, hQ19, l19, y19, z19⟩, st19⟩ := X10.virtualBack hx (y := (⟨"com/example/canopy/canopy/model/Rect", "isEmpty", "()Z"⟩ : MethodName)) (z := (⟨"com/example/canopy/canopy/model/Rect", "isEmpty", "()Z"⟩ : MethodName)) hown (mvT hZ (hw _ (List.mem_of_getElem? (i := 17) rfl))) (mvT hZ (hw _ (List.mem_of_getElem? (i := 18) rfl))) (notFace_of_selects (args := #[]) (mvT hZ (hw _ (List.mem_of_getElem? (i := 20) rfl)))) (mvT hZ (hw _ (List.mem_of_getElem? (i := 20) rfl))) (mvT hZ (hw _ (List.mem_of_getElem? (i := 19) rfl))) (by decide) (backOf (W := 0) (rm3 l Z a0 hw [] b9 p1 p2 v2 v6 h10 n0 Z10 F_left_b9 F_top_b9 F_right_b9 F_bottom_b9) hZ (hw _ (List.mem_of_getElem? (i := 21) rfl)) (hw _ (List.mem_of_getElem? (i := 2) rfl)) (by decide) (by decide)) qa19 qc19 (g := (mkF m 99 #[.val (.int p1), .val (.int p2), .val (.int p3), .val (.int p4), .val (.int p5), .val (.int v2), .val (.int v6), .val (.ref b9), .val (.long v11), .second, .val (.long v12), .second, .val (.int v15)] [(.ref b9)])) rfl (by rw [hml]; rfl) (Steps.refl _) (argsL := []) (rest := []) (lenOf pd_1 rfl) rfl (by show 2 * 0 + _ ≤ _; exact Nat.le_of_eq rfl) (hb hby at_99) (fun _ _ => ⟨rfl, e10, (by decide : 1 + 0 ≤ _), (by decide : 4 + 0 ≤ _)⟩)
  dsimp only [Pt.U, Pt.locs, Pt.cells, Pt.slots] at X19 l19 y19 z19 st19 hQ19
  subst l19 y19 z19
  obtain ⟨rfl, Nq19, e19⟩ := hQ19
  have N19 := Fr.app N10 Nq19
  refine OutW.via st19 ?_
  show OutW _ _ _ _ _ _ _ (T19.setTop (mkF m 102 #[.val (.int p1), .val (.int p2), .val (.int p3), .val (.int p4), .val (.int p5), .val (.int v2), .val (.int v6), .val (.ref b9), .val (.long v11), .second, .val (.long v12), .second, .val (.int v15)] [(.int (isE p1 p2 v2 v6))]))
  refine OutW.back (fun t k => XS.iload X19.here hx rfl (hb hby at_102) rfl  k) ?_
  show OutW _ _ _ _ _ _ _ (T19.setTop (mkF m 104 #[.val (.int p1), .val (.int p2), .val (.int p3), .val (.int p4), .val (.int p5), .val (.int v2), .val (.int v6), .val (.ref b9), .val (.long v11), .second, .val (.long v12), .second, .val (.int v15)] [(.int v15), (.int (isE p1 p2 v2 v6))]))
  obtain ⟨v21, hv_v21⟩ : ∃ z : Int32, z = (if (isE p1 p2 v2 v6) = v15 then (1 : Int32) else (0 : Int32)) := ⟨_, rfl⟩
  have j22 : ∀ t, Steps p.tables e below (T19.setTop (mkF m 112 #[.val (.int p1), .val (.int p2), .val (.int p3), .val (.int p4), .val (.int p5), .val (.int v2), .val (.int v6), .val (.ref b9), .val (.long v11), .second, .val (.long v12), .second, .val (.int v15)] [(.int v21)])) t → Steps p.tables e below (T19.setTop (mkF m 104 #[.val (.int p1), .val (.int p2), .val (.int p3), .val (.int p4), .val (.int p5), .val (.int v2), .val (.int v6), .val (.ref b9), .val (.long v11), .second, .val (.long v12), .second, .val (.int v15)] [(.int v15), (.int (isE p1 p2 v2 v6))])) t := by
    intro t k
    by_cases c104_23 : (isE p1 p2 v2 v6) = v15
    · skip
      refine XS.icmpNo X19.here hx rfl (hb hby at_104) rfl (teq c104_23).2 ?_
      show Steps p.tables e below (T19.setTop (mkF m 107 #[.val (.int p1), .val (.int p2), .val (.int p3), .val (.int p4), .val (.int p5), .val (.int v2), .val (.int v6), .val (.ref b9), .val (.long v11), .second, .val (.long v12), .second, .val (.int v15)] [])) t
      refine XS.iconst X19.here hx rfl (hb hby at_107) ?_
      show Steps p.tables e below (T19.setTop (mkF m 108 #[.val (.int p1), .val (.int p2), .val (.int p3), .val (.int p4), .val (.int p5), .val (.int v2), .val (.int v6), .val (.ref b9), .val (.long v11), .second, .val (.long v12), .second, .val (.int v15)] [(.int (1 : Int32))])) t
      refine XS.goto X19.here hx rfl (pc0 := 108) (pc' := 112) rfl (hb hby at_108) (by decide) (by decide) ?_
      show Steps p.tables e below (T19.setTop (mkF m 112 #[.val (.int p1), .val (.int p2), .val (.int p3), .val (.int p4), .val (.int p5), .val (.int v2), .val (.int v6), .val (.ref b9), .val (.long v11), .second, .val (.long v12), .second, .val (.int v15)] [(.int (1 : Int32))])) t
      have q_v21 : v21 = (1 : Int32) := by rw [hv_v21, if_pos c104_23]
      rw [q_v21] at k
      exact k
    · skip
      refine XS.icmpYes X19.here hx rfl (pc0 := 104) (pc' := 111) rfl (hb hby at_104) rfl (feq c104_23).2 (by decide) (by decide) ?_
      show Steps p.tables e below (T19.setTop (mkF m 111 #[.val (.int p1), .val (.int p2), .val (.int p3), .val (.int p4), .val (.int p5), .val (.int v2), .val (.int v6), .val (.ref b9), .val (.long v11), .second, .val (.long v12), .second, .val (.int v15)] [])) t
      refine XS.iconst X19.here hx rfl (hb hby at_111) ?_
      show Steps p.tables e below (T19.setTop (mkF m 112 #[.val (.int p1), .val (.int p2), .val (.int p3), .val (.int p4), .val (.int p5), .val (.int v2), .val (.int v6), .val (.ref b9), .val (.long v11), .second, .val (.long v12), .second, .val (.int v15)] [(.int (0 : Int32))])) t
      have q_v21 : v21 = (0 : Int32) := by rw [hv_v21, if_neg c104_23]
      rw [q_v21] at k
      exact k
  refine OutW.back j22 ?_
  show OutW _ _ _ _ _ _ _ (T19.setTop (mkF m 112 #[.val (.int p1), .val (.int p2), .val (.int p3), .val (.int p4), .val (.int p5), .val (.int v2), .val (.int v6), .val (.ref b9), .val (.long v11), .second, .val (.long v12), .second, .val (.int v15)] [(.int v21)]))
  refine OutW.retN X19 hx (t := .boolean) (z' := 1) Bd.returns (by simp) hlk (hb hby at_112) ?hz (by decide) (by decide) ?_
  case hz =>
    have hfin : v21 = (1 : Int32) := by
      exact own_plain p1 p2 v2 v6 v15 v21 v11 v12 hv_v11 hv_v12 hv_v15 hv_v21
    rw [hfin]; rfl
  show Q0 Z p1 p2 p3 p4 p5 h0 n0 _ T19.heap _
  rw [e19]
  exact ⟨rfl, N19⟩
set_option maxRecDepth 65536 in
set_option maxHeartbeats 40000000 in
theorem comes_1 {Post : Tables → Env → Array Value → State → Outcome → State → Prop} (hpost : ∀ tb e args s v u, (limb_1_1.after args s (.returned v) u = true ∧ limb_1_2.after args s (.returned v) u = true ∧ True) → FrameEnd s (.returned v) u (Jvm.fieldLocs frame_1_writes args s ++ Jvm.arrayLocs frame_1_arrays args s ++ Jvm.staticLocs frame_1_statics s) 16 128 → Post tb e args s (.returned v) u) :
    ArmFor flags0 classFile x code maxLocals ret World_1 tables_1 room_1 Calls_1 rest_1 Pre_1 Post := by
  intro l hfl _ _ p e ha hc hk s m args below hf hA hF happ hP
  obtain ⟨hcalls, hrest, hpre⟩ := hP
  obtain ⟨-, -, -, hnamed, -, -, -, hat⟩ := (Spec.applies_iff hf).mp happ
  obtain ⟨hg, hn⟩ := and_e (Cond.before_iff.mp (show (Jvm.Cond.and given_1 narrow_1).before args s = true from hpre))
  obtain ⟨hcount, hg0⟩ := and_e hg
  obtain ⟨ga0, hg1⟩ := and_e hg0
  obtain ⟨ga1, hg2⟩ := and_e hg1
  obtain ⟨ga2, hg3⟩ := and_e hg2
  obtain ⟨ga3, hg4⟩ := and_e hg3
  have ga4 := hg4
  obtain ⟨w0, w1, w2, w3, w4, rfl⟩ : ∃ w0 w1 w2 w3 w4 : Value, args = #[w0, w1, w2, w3, w4] := by
    have hs : args.size = 5 := by simpa [Cond.value, given_1] using hcount
    obtain ⟨L⟩ := args
    match L, hs with
    | [w0, w1, w2, w3, w4], _ => exact ⟨w0, w1, w2, w3, w4, rfl⟩
  have hw := fun d (hd : d ∈ tables_1) => atoms_spec (ws := Jvm.Cond.code x code maxLocals ret :: tables_1) hat d (List.mem_cons_of_mem _ hd)
  obtain ⟨i0, ei0⟩ := is_v ga0
  obtain rfl : w0 = (.int i0) := Option.some.inj ei0
  obtain ⟨i1, ei1⟩ := is_v ga1
  obtain rfl : w1 = (.int i1) := Option.some.inj ei1
  obtain ⟨i2, ei2⟩ := is_v ga2
  obtain rfl : w2 = (.int i2) := Option.some.inj ei2
  obtain ⟨i3, ei3⟩ := is_v ga3
  obtain rfl : w3 = (.int i3) := Option.some.inj ei3
  obtain ⟨i4, ei4⟩ := is_v ga4
  obtain rfl : w4 = (.int i4) := Option.some.inj ei4
  obtain ⟨n, o, h1, h2, h3, _, L, rfl, ⟨rfl, N⟩, hq⟩ := rm0 l s _ hw tables_1 i0 i1 i2 i3 i4  s.heap s.heap.size (Nat.le_refl _)  p e ha hc hk s m _ below hf ((Spec.applies_iff_loose hf).mp happ).1 ⟨rfl, State.Warmed39.refl s, rfl⟩ trivial
  refine ⟨n, _, h1, h2, h3, hpost _ _ _ _ _ _ ⟨Cond.after_iff.mpr rfl, Cond.after_iff.mpr (eq_i res_at (Term.int_eval (1)) rfl), trivial⟩ ⟨hq.1, hq.2.1, (hq.2.2.sift fun y hy => Or.inr (N y hy)).mono (by decide) (by decide)⟩⟩
theorem main_1_1 : Claimed_1_1 := comes_1 fun _ _ _ _ _ _ h hF => ⟨h.1, hF⟩
theorem main_1_2 : Claimed_1_2 := comes_1 fun _ _ _ _ _ _ h hF => ⟨h.2.1, hF⟩
end Jvm.Pilot.@@N@@
namespace Jvm.Pilot.@@N@@
open Jvm Jvm.ClassFile Sem Op Lib Jvm.Free Jvm.Stand Jvm.Pilot.@@N@@.Jvm.D
/-! MADE BY PROGRAM (witnessworld.py) out of the Statement's table words and the real class files: 9 classes; the members and pool entries that the words name. The judged class is class 1, her method 1. -/
namespace start1
open Jvm.ClassFile
def u (s : String) : CpInfo := .utf8 (stringToUtf16 s)
/-- a pool by its gaps: so many unusable entries, then the entry; so many at the end -/
def gap : Nat → List CpInfo → List CpInfo
  | 0, r => r
  | n + 1, r => .unusable :: gap n r
def poolList (es : List (Nat × CpInfo)) (last : Nat) : List CpInfo := es.foldr (fun e r => gap e.1 (e.2 :: r)) (gap last [])
def pool (es : List (Nat × CpInfo)) (last : Nat) : Array CpInfo := ⟨poolList es last⟩
def fileOf (pool : Array CpInfo) (this : Nat) (attrs : Array Attribute := #[]) (ms : Array MethodInfo := #[]) (fl : Nat := 33) (sup : Nat := 0) (ifs : Array Nat := #[]) (fds : Array FieldInfo := #[]) : ClassFile where
  minorVersion := 0
  majorVersion := 65
  constantPool := pool
  accessFlags := fl
  thisClass := this
  superClass := sup
  interfaces := ifs
  fields := fds
  methods := ms
  attributes := attrs
def plain (name : String) (sup : Option ClassId) : Class where
  name := name
  kind := .ordinary
  loader := none
  accessFlags := 33
  super := sup
  interfaces := #[]
  cf := none
  fields := #[]
  methods := #[]
  instanceTypes := #[]
  staticTypes := #[]
  resolved := #[]
  callSites := []
  init := .initialized
  statics := none
  mirror := none

def pool0 : Array CpInfo := pool [(5, u "<init>"), (0, u "()V"), (1, .class_ 10), (1, u "java/lang/Object")] 113

def k0c0 : Code := { maxStack := 0, maxLocals := 1, code := object_method_1_code, exceptionTable := #[], attributes := #[] }
def k0m0 : Method := { name := "<init>", desc := "()V", sig := { parameters := [], returnType := none }, accessFlags := 1, code := some k0c0 }
/-- java/lang/Object -/
def k0 : Class := { plain "java/lang/Object" none with
  accessFlags := 33
  interfaces := #[]
  cf := some (fileOf pool0 8 #[] #[{ accessFlags := 1, nameIndex := 5, descriptorIndex := 6, attributes := #[] }] 33 0 #[] #[])
  fields := #[]
  methods := #[k0m0]
  instanceTypes := #[]
  staticTypes := #[]
  resolved := Array.replicate 124 none
  statics := none }

def pool1 : Array CpInfo := pool [(2, .class_ 4), (1, u "java/lang/Object"), (0, u "<init>"), (0, u "()V"), (0, .class_ 8), (0, u "com/example/canopy/canopy/model/Rect"), (0, .methodref 7 10), (0, .nameAndType 5 11), (0, u "(IIII)V"), (0, .methodref 7 13), (0, .nameAndType 14 15), (0, u "isEmpty"), (0, u "()Z"), (0, .class_ 17), (0, u "com/example/canopy/canopy/model/RectIsEmptyPinLaw"), (2, u "law"), (0, u "(IIIII)Z")] 3

def k1m0 : Method := { name := "<init>", desc := "()V", sig := { parameters := [], returnType := none }, accessFlags := 1, code := none }
def k1c1 : Code := { maxStack := 6, maxLocals := 13, code := code, exceptionTable := #[], attributes := #[] }
def k1m1 : Method := { name := "law", desc := "(IIIII)Z", sig := { parameters := [.int, .int, .int, .int, .int], returnType := some .boolean }, accessFlags := 9, code := some k1c1 }
/-- com/example/canopy/canopy/model/RectIsEmptyPinLaw -/
def k1 : Class := { plain "com/example/canopy/canopy/model/RectIsEmptyPinLaw" (some 0) with
  accessFlags := 49
  interfaces := #[]
  cf := some (fileOf pool1 16 #[] #[{ accessFlags := 1, nameIndex := 5, descriptorIndex := 6, attributes := #[] }, { accessFlags := 9, nameIndex := 20, descriptorIndex := 21, attributes := #[] }] 49 2 #[] #[])
  fields := #[]
  methods := #[k1m0, k1m1]
  instanceTypes := #[]
  staticTypes := #[]
  resolved := Array.replicate 25 none
  statics := none }

def pool2 : Array CpInfo := pool [(1, .methodref 2 3), (0, .class_ 4), (0, .nameAndType 5 6), (0, u "java/lang/Object"), (0, u "<init>"), (0, u "()V"), (0, .fieldref 8 9), (0, .class_ 10), (0, .nameAndType 11 12), (0, u "com/example/canopy/canopy/model/Rect"), (0, u "left"), (0, u "I"), (0, .fieldref 8 14), (0, .nameAndType 15 12), (0, u "top"), (0, .fieldref 8 17), (0, .nameAndType 18 12), (0, u "right"), (0, .fieldref 8 20), (0, .nameAndType 21 12), (0, u "bottom"), (2, u "isEmpty"), (0, u "()Z"), (28, u "(IIII)V")] 60

def k2c0 : Code := { maxStack := 2, maxLocals := 5, code := prog_14_method_1_code, exceptionTable := #[], attributes := #[] }
def k2m0 : Method := { name := "<init>", desc := "(IIII)V", sig := { parameters := [.int, .int, .int, .int], returnType := none }, accessFlags := 1, code := some k2c0 }
def k2c1 : Code := { maxStack := 2, maxLocals := 1, code := prog_14_method_8_code, exceptionTable := #[], attributes := #[] }
def k2m1 : Method := { name := "isEmpty", desc := "()Z", sig := { parameters := [], returnType := some .boolean }, accessFlags := 1, code := some k2c1 }
/-- com/example/canopy/canopy/model/Rect -/
def k2 : Class := { plain "com/example/canopy/canopy/model/Rect" (some 0) with
  accessFlags := 33
  interfaces := #[]
  cf := some (fileOf pool2 8 #[] #[{ accessFlags := 1, nameIndex := 5, descriptorIndex := 54, attributes := #[] }, { accessFlags := 1, nameIndex := 24, descriptorIndex := 25, attributes := #[] }] 33 2 #[] #[{ accessFlags := 18, nameIndex := 11, descriptorIndex := 12, attributes := #[] }, { accessFlags := 18, nameIndex := 15, descriptorIndex := 12, attributes := #[] }, { accessFlags := 18, nameIndex := 18, descriptorIndex := 12, attributes := #[] }, { accessFlags := 18, nameIndex := 21, descriptorIndex := 12, attributes := #[] }])
  fields := #[{ name := "left", type := .int, accessFlags := 18, slot := 0, constantValue := 0 }, { name := "top", type := .int, accessFlags := 18, slot := 1, constantValue := 0 }, { name := "right", type := .int, accessFlags := 18, slot := 2, constantValue := 0 }, { name := "bottom", type := .int, accessFlags := 18, slot := 3, constantValue := 0 }]
  methods := #[k2m0, k2m1]
  instanceTypes := #[.int, .int, .int, .int]
  staticTypes := #[]
  resolved := Array.replicate 115 none
  statics := none }

def pool3 : Array CpInfo := pool [(1, u "java/lang/Cloneable"), (0, .class_ 1), (0, u "java/lang/Object"), (0, .class_ 3)] 3

/-- java/lang/Cloneable -/
def k3 : Class := { plain "java/lang/Cloneable" (some 0) with
  accessFlags := 1537
  interfaces := #[]
  cf := some (fileOf pool3 2 #[] #[] 1537 4 #[] #[])
  fields := #[]
  methods := #[]
  instanceTypes := #[]
  staticTypes := #[]
  resolved := Array.replicate 8 none
  statics := none }

def pool4 : Array CpInfo := pool [(1, u "java/io/Serializable"), (0, .class_ 1), (0, u "java/lang/Object"), (0, .class_ 3)] 3

/-- java/io/Serializable -/
def k4 : Class := { plain "java/io/Serializable" (some 0) with
  accessFlags := 1537
  interfaces := #[]
  cf := some (fileOf pool4 2 #[] #[] 1537 4 #[] #[])
  fields := #[]
  methods := #[]
  instanceTypes := #[]
  staticTypes := #[]
  resolved := Array.replicate 8 none
  statics := none }

/-- the primitive byte -/
def k5 : Class := { plain "byte" none with kind := .primitive 'B', accessFlags := 0x411 }
/-- [B -/
def k6 : Class := { plain "[B" (some 0) with kind := .array 5 .byte, interfaces := #[3, 4], accessFlags := 1041 }

/-- the primitive int -/
def k7 : Class := { plain "int" none with kind := .primitive 'I', accessFlags := 0x411 }
/-- [I -/
def k8 : Class := { plain "[I" (some 0) with kind := .array 7 .int, interfaces := #[3, 4], accessFlags := 1041 }

def heap : Heap := #[]
def classes : Array Class := #[k0, k1, k2, k3, k4, k5, k6, k7, k8]
def interned : List (Array UInt16 × Addr) := []
def slotsUsed : Nat := 0
def theMethod : MethodId := ⟨1, 1⟩
def args0 : Array Value := #[.int 5, .int 6, .int 7, .int 8, .int 9]
def aboutOver (below : List Frame) : State where
  vm := { classes := classes, interned := interned.toArray }
  heap := heap
  slotsUsed := slotsUsed
  threads := #[{ frames := .invoking theMethod args0 :: below }]
def below0 : List Frame := [.native { method := ⟨0, 0⟩, args := #[] }]
def about1 : State := aboutOver below0
def p0 : Program := .bare "" "" ""
def e0 : Env := launch0.env 0 0 0
theorem w_frames : about1.frames = Frame.invoking theMethod args0 :: below0 := rfl
set_option maxRecDepth 65536 in
theorem w_args : argsFit about1.vm theMethod args0 = true := by decide +kernel
set_option maxRecDepth 65536 in
theorem w_heap : heapFits about1 = true := by decide +kernel
set_option maxRecDepth 65536 in
theorem w_runnable : about1.curStatus? = some .runnable := by decide +kernel
set_option maxRecDepth 65536 in
theorem w_alone : about1.alone = true := by decide +kernel
set_option maxRecDepth 65536 in
theorem w_named : about1.methodNamed? x = some theMethod := by decide +kernel
set_option maxRecDepth 65536 in
theorem w_hears : about1.hears theMethod below0 = true := by decide +kernel
set_option maxRecDepth 65536 in
theorem w_ripe : about1.ripe theMethod args0 below0 = true := by decide +kernel
theorem w_running : about1.status = .running := rfl
set_option maxRecDepth 65536 in
theorem w_room : about1.hasRoom e0.platform room_1 = true :=
  launch0.hasRoom_least _ room_1 (by decide +kernel) (by decide +kernel) (by decide +kernel) (by decide +kernel) (by decide +kernel) (by decide +kernel)
theorem allAtoms_all (ts : List Jvm.Cond) (a : Array Jvm.Value) (st : Jvm.State) : (allAtoms ts).before a st = ts.all (fun c => c.before a st) := by
  induction ts with
  | nil => rfl
  | cons c t ih =>
    show (Jvm.Cond.and c (allAtoms t)).before a st = _
    rw [Jvm.Cond.before_and, ih, List.all_cons]
def words1 : List Jvm.Cond := Jvm.Cond.code x code maxLocals ret :: tables_1
/-- a 'code' word, met by the world's own term for the bytes: nothing is compared byte by byte -/
theorem code_word {y : MethodName} {bytes : ByteArray} {mx : Nat} {rt : Option FieldType} {a : Array Value} {s : State} {m : MethodId} {meth : Method} {c : Code} (h1 : s.methodNamed? y = some m) (h2 : s.vm.method? m = some meth) (h3 : meth.code = some c) (h4 : c.code = bytes)
    (h5 : (c.maxLocals == mx && c.exceptionTable.isEmpty && decide (c.maxStack ≤ mostOperands) && decide (meth.sig.returnType = rt) && !meth.locks && decide (parseMethodDescriptor y.desc = some meth.sig)) = true) : (Jvm.Cond.code y bytes mx rt).before a s = true := by
  simp only [Bool.and_eq_true, beq_iff_eq, Bool.not_eq_true', decide_eq_true_eq] at h5
  obtain ⟨⟨⟨⟨⟨g1, g2⟩, g3⟩, g4⟩, g5⟩, g6⟩ := h5
  simp [Cond.before, Cond.holds, Cond.value, h1, h2, h3, h4, g1, g2, g3, g4, g5, g6]
def isCode : Jvm.Cond → Bool
  | .code _ _ _ _ => true
  | _ => false
theorem all_split {L : List Jvm.Cond} {P : Jvm.Cond → Bool} (h1 : L.all (fun c => isCode c || P c) = true) (h2 : ∀ c ∈ L.filter isCode, P c = true) : L.all P = true := by
  refine List.all_eq_true.mpr fun c hc => ?_
  have h := List.all_eq_true.mp h1 c hc
  rcases Bool.eq_false_or_eq_true (isCode c) with hi | hi
  · exact h2 c (List.mem_filter.mpr ⟨hc, hi⟩)
  · simpa [hi] using h
set_option maxRecDepth 65536 in
theorem w_c0 : (Jvm.Cond.code x code maxLocals ret).before args0 about1 = true := code_word (m := ⟨1, 1⟩) (meth := k1m1) (c := k1c1) (by decide +kernel) rfl rfl rfl (by decide +kernel)
set_option maxRecDepth 65536 in
theorem w_c1 : (Jvm.Cond.code ({ cls := "com/example/canopy/canopy/model/Rect", name := "<init>", desc := "(IIII)V" } : Jvm.MethodName) prog_14_method_1_code (5 : Nat) (Option.none : Option Jvm.ClassFile.FieldType)).before args0 about1 = true := code_word (m := ⟨2, 0⟩) (meth := k2m0) (c := k2c0) (by decide +kernel) rfl rfl rfl (by decide +kernel)
set_option maxRecDepth 65536 in
theorem w_c2 : (Jvm.Cond.code ({ cls := "java/lang/Object", name := "<init>", desc := "()V" } : Jvm.MethodName) object_method_1_code (1 : Nat) (Option.none : Option Jvm.ClassFile.FieldType)).before args0 about1 = true := code_word (m := ⟨0, 0⟩) (meth := k0m0) (c := k0c0) (by decide +kernel) rfl rfl rfl (by decide +kernel)
set_option maxRecDepth 65536 in
theorem w_c3 : (Jvm.Cond.code ({ cls := "com/example/canopy/canopy/model/Rect", name := "isEmpty", desc := "()Z" } : Jvm.MethodName) prog_14_method_8_code (1 : Nat) (Option.some Jvm.ClassFile.FieldType.boolean)).before args0 about1 = true := code_word (m := ⟨2, 1⟩) (meth := k2m1) (c := k2c1) (by decide +kernel) rfl rfl rfl (by decide +kernel)
def codes1 : List Jvm.Cond := [Jvm.Cond.code x code maxLocals ret, Jvm.Cond.code ({ cls := "com/example/canopy/canopy/model/Rect", name := "<init>", desc := "(IIII)V" } : Jvm.MethodName) prog_14_method_1_code (5 : Nat) (Option.none : Option Jvm.ClassFile.FieldType), Jvm.Cond.code ({ cls := "java/lang/Object", name := "<init>", desc := "()V" } : Jvm.MethodName) object_method_1_code (1 : Nat) (Option.none : Option Jvm.ClassFile.FieldType), Jvm.Cond.code ({ cls := "com/example/canopy/canopy/model/Rect", name := "isEmpty", desc := "()Z" } : Jvm.MethodName) prog_14_method_8_code (1 : Nat) (Option.some Jvm.ClassFile.FieldType.boolean)]
set_option maxRecDepth 65536 in
theorem codes_eq : words1.filter isCode = codes1 := rfl
theorem w_codes : ∀ c ∈ words1.filter isCode, c.before args0 about1 = true := by
  rw [codes_eq]
  intro c hc
  simp only [codes1, List.mem_cons, List.not_mem_nil, or_false] at hc
  rcases hc with rfl | rfl | rfl | rfl
  · exact w_c0
  · exact w_c1
  · exact w_c2
  · exact w_c3
set_option maxRecDepth 65536 in
theorem w_t1 : words1.all (fun c => isCode c || c.before args0 about1) = true := by decide +kernel
theorem w_tables : (allAtoms (Jvm.Cond.code x code maxLocals ret :: tables_1)).before args0 about1 = true := by
  rw [allAtoms_all]
  show words1.all (fun c => c.before args0 about1) = true
  refine all_split ?_ w_codes
  rw [w_t1]
set_option maxRecDepth 65536 in
theorem w_case : (Jvm.Cond.and given_1 narrow_1).before args0 about1 = true := by decide +kernel
theorem w_applies : (headSpec (Jvm.Cond.code x code maxLocals ret :: tables_1) room_1).applies x e0.platform about1 = true :=
  (Spec.applies_iff w_frames).mpr ⟨w_running, w_runnable, w_alone, w_named, w_hears, w_ripe, w_room, w_tables⟩
theorem atStart : AtStart classFile x code maxLocals ret World_1 tables_1 room_1 Calls_1 rest_1 Pre_1 launch0 p0 e0 about1 theMethod args0 below0 :=
  ⟨lists_1, trivial, launch0.admits_env _ _ _, launch0.least_env, fairChoices_fair.cas, fairChoices_fair.clock, w_frames, w_args, w_heap, w_applies, trivial, trivial, w_case⟩
end start1
theorem witness_1 : WitnessClaimed_1 := ⟨start1.p0, start1.e0, start1.about1, start1.theMethod, start1.args0, start1.below0, start1.atStart⟩
end Jvm.Pilot.@@N@@
