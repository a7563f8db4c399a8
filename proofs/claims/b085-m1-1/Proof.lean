import JvmDerived
import JvmDerived.Pilot.@@N@@Statement
import JvmDerived.Pilot.@@N@@Code
set_option linter.unusedVariables false
set_option linter.unusedSimpArgs false
namespace Jvm.RoadKit
open Sem ClassFile Op Lib Jvm.Stand Jvm.Free Jvm.LawKit
section Own
variable {p : Program} {l : Launch} {e : Env} {R : Room} {s : State} {m : MethodId} {args : Array Value} {below : List Frame} {meth : Method} {c : Code} {T A B : State} {locs : List Loc} {cells slots K N : Nat} {Q : Option Value → Heap → List Loc → Prop}
/-- from A the walk comes to its end, and Q holds there -/
def OutW (p : Program) (e : Env) (below : List Frame) (s : State) (K N : Nat) (Q : Option Value → Heap → List Loc → Prop) (A : State) : Prop :=
  ∃ s₂ o, Steps p.tables e below A s₂ ∧ s₂.status = .running ∧ Ended s₂ below o ∧ ∃ v L, o = .returned v ∧ Q v s₂.heap L ∧ FrameEnd s o s₂ L K N
/-- a body that writes nothing: what it returns -/
def Qpure (h0 : Heap) (n0 : Nat) (r : Value) (v : Option Value) (h : Heap) (L : List Loc) : Prop := v = some r ∧ Fr n0 L ∧ h = h0
theorem OutW.back (h : ∀ t, Steps p.tables e below B t → Steps p.tables e below A t) (k : OutW p e below s K N Q B) : OutW p e below s K N Q A := by
  obtain ⟨t, o, h1, h2⟩ := k
  exact ⟨t, o, h t h1, h2⟩
theorem OutW.via (h : Steps p.tables e below A B) (k : OutW p e below s K N Q B) : OutW p e below s K N Q A := by
  obtain ⟨t, o, h1, h2⟩ := k
  exact ⟨t, o, h.trans h1, h2⟩
theorem OutW.retV (X : Stand p l e R s m args below meth c T locs cells slots) (hx : p.tables.exec = Jvm.exec) {pc : Nat} {Ls : Array Slot} (hret : meth.sig.returnType = none) (hlk : meth.locks = false) (hd : decode c.code pc = .ok (.return_, 1))
    (hK : cells ≤ K) (hN : slots ≤ N) (hq : Q none T.heap locs) : OutW p e below s K N Q (T.setTop (mkF m pc Ls [])) := by
  obtain ⟨fs, hr, hrun, hended, hW, hsame⟩ := X.leave (v := none) (fun _ => rfl) hlk
  exact ⟨_, _, X.returnOut hx hret hd hr, hrun, hended, _, _, rfl, hq, ⟨_, rfl⟩, hW, hsame.mono hK hN⟩
theorem OutW.retI (X : Stand p l e R s m args below meth c T locs cells slots) (hx : p.tables.exec = Jvm.exec) {pc : Nat} {Ls : Array Slot} {z : Int32} {rest : List Value} (hret : meth.sig.returnType = some .int) (hlk : meth.locks = false) (hd : decode c.code pc = .ok (.ireturn, 1))
    (hK : cells ≤ K) (hN : slots ≤ N) (hq : Q (some (.int z)) T.heap locs) : OutW p e below s K N Q (T.setTop (mkF m pc Ls (.int z :: rest))) := by
  obtain ⟨fs, hr, hrun, hended, hW, hsame⟩ := X.leave (v := some (.int z)) (fun h => by rw [hret] at h; cases h) hlk
  exact ⟨_, _, retOut X hx hret rfl (Or.inl ⟨rfl, Or.inl rfl, z, rfl⟩) hd hr, hrun, hended, _, _, rfl, hq, ⟨_, rfl⟩, hW, hsame.mono hK hN⟩
theorem OutW.retJ (X : Stand p l e R s m args below meth c T locs cells slots) (hx : p.tables.exec = Jvm.exec) {pc : Nat} {Ls : Array Slot} {z : Int64} {rest : List Value} (hret : meth.sig.returnType = some .long) (hlk : meth.locks = false) (hd : decode c.code pc = .ok (.lreturn, 1))
    (hK : cells ≤ K) (hN : slots ≤ N) (hq : Q (some (.long z)) T.heap locs) : OutW p e below s K N Q (T.setTop (mkF m pc Ls (.long z :: rest))) := by
  obtain ⟨fs, hr, hrun, hended, hW, hsame⟩ := X.leave (v := some (.long z)) (fun h => by rw [hret] at h; cases h) hlk
  exact ⟨_, _, retOut X hx hret rfl (Or.inr (Or.inl ⟨rfl, rfl, z, rfl⟩)) hd hr, hrun, hended, _, _, rfl, hq, ⟨_, rfl⟩, hW, hsame.mono hK hN⟩
theorem nar_ref {t : FieldType} {v : Value} (h : v.isRef = true) : narrow t v = v := by
  rcases ref_cases h with rfl | ⟨a, rfl⟩ <;> cases t <;> rfl
theorem cat_ref {v : Value} (h : v.isRef = true) : v.category = 1 := by
  rcases ref_cases h with rfl | ⟨a, rfl⟩ <;> rfl
theorem fit_ref {t : FieldType} {v : Value} (ht : refKind t = true) (h : v.isRef = true) : fits t v = true := by
  rcases ref_cases h with rfl | ⟨a, rfl⟩ <;> cases t <;> first | rfl | (simp [refKind] at ht)
theorem OutW.retA (X : Stand p l e R s m args below meth c T locs cells slots) (hx : p.tables.exec = Jvm.exec) {pc : Nat} {Ls : Array Slot} {w : Value} {t : FieldType} {rest : List Value} (hret : meth.sig.returnType = some t) (ht : t.isReference = true) (hw : w.isRef = true) (hlk : meth.locks = false) (hd : decode c.code pc = .ok (.areturn, 1))
    (hK : cells ≤ K) (hN : slots ≤ N) (hq : Q (some w) T.heap locs) : OutW p e below s K N Q (T.setTop (mkF m pc Ls (w :: rest))) := by
  obtain ⟨fs, hr, hrun, hended, hW, hsame⟩ := X.leave (v := some w) (fun h => by rw [hret] at h; cases h) hlk
  exact ⟨_, _, retOut X hx hret (nar_ref hw) (Or.inr (Or.inr (Or.inr (Or.inr ⟨rfl, ht, hw⟩)))) hd hr, hrun, hended, _, _, rfl, hq, ⟨_, rfl⟩, hW, hsame.mono hK hN⟩
theorem OutW.retN (X : Stand p l e R s m args below meth c T locs cells slots) (hx : p.tables.exec = Jvm.exec) {pc : Nat} {Ls : Array Slot} {z z' : Int32} {t : FieldType} {rest : List Value} (hret : meth.sig.returnType = some t) (ht : t = .boolean ∨ t = .byte ∨ t = .char ∨ t = .short) (hlk : meth.locks = false) (hd : decode c.code pc = .ok (.ireturn, 1)) (hz : nar t z = z')
    (hK : cells ≤ K) (hN : slots ≤ N) (hq : Q (some (.int z')) T.heap locs) : OutW p e below s K N Q (T.setTop (mkF m pc Ls (.int z :: rest))) := by
  subst hz
  obtain ⟨fs, hr, hrun, hended, hW, hsame⟩ := X.leave (v := some (.int (nar t z))) (fun h => by rw [hret] at h; cases h) hlk
  exact ⟨_, _, Jvm.RoadKit.retN X hx hret ht hd hr, hrun, hended, _, _, rfl, hq, ⟨_, rfl⟩, hW, hsame.mono hK hN⟩
theorem store1' {L L' : Array Slot} {i : Nat} {v : Value} {o : Slot} (hold : L[i]? = some o) (ho : One o) (hv : v.category = 1) (h : L.setIfInBounds i (.val v) = L') : storeLocals L i v = some L' := h ▸ XS.store1 hold ho hv
theorem own_lt_mono {x a b : Int32} (h : x < a) (q : a ≤ b) : x < b := by
  rw [Int32.lt_iff_toInt_lt] at *
  rw [Int32.le_iff_toInt_le] at q
  omega
theorem own_nlt_mono {x a b : Int32} (h : ¬ x < a) (q : b ≤ a) : ¬ x < b := by
  rw [Int32.lt_iff_toInt_lt] at *
  rw [Int32.le_iff_toInt_le] at q
  omega
/-- every element of the array's cell is an object of exactly that class -/
def Els (Z : State) (h : Heap) (cl : Cell) (C : String) : Prop := ∀ j : Int32, ¬ (j < 0 ∨ cl.slots.size ≤ j.toNatClampNeg) → ∃ y : Addr, cl.slots[j.toNatClampNeg]? = some (.ref y) ∧ Exa Z h y C
theorem own_Uext {Z : State} {h h' : Heap} {cl : Cell} {C : String} (U : Els Z h cl C) (E : Ext h h') : Els Z h' cl C := fun j hj => by
  obtain ⟨y, a, b⟩ := U j hj
  exact ⟨y, a, b.ext E⟩
theorem own_Uwr {Z : State} {h h' : Heap} {cl : Cell} {C : String} {a : Addr} {sl : Nat} {v : Value} (U : Els Z h cl C) (W : Wr h h' a sl v) : Els Z h' cl C := fun j hj => by
  obtain ⟨y, q, b⟩ := U j hj
  exact ⟨y, q, b.wr W⟩
theorem own_Ukeep {Z : State} {h h' : Heap} {cl : Cell} {C : String} {ws : List Addr} (U : Els Z h cl C) (K : Keep h h' ws) : Els Z h' cl C := fun j hj => by
  obtain ⟨y, a, b⟩ := U j hj
  exact ⟨y, a, b.keep K⟩
theorem own_Akeep {Z : State} {h h' : Heap} {a : Addr} {c : Cell} {ty : FieldType} {ws : List Addr} (A : Arr Z h a c ty) (K : Keep h h' ws) (q : a ∉ ws) : Arr Z h' a c ty := ⟨K.2.1 a c A.1 q, A.2⟩
theorem own_keepS {Z : State} {h h' : Heap} {C n d : String} {v : Value} {ws : List Addr} (F : Sta Z h C n d v) (K : Keep h h' ws) (q : ∀ x ∈ ws, ∃ C', Exa Z h x C') : Sta Z h' C n d v := by
  obtain ⟨cf, i, k, f, st, cell, h1, h2, h3, h4, h5, h6, h7⟩ := F
  have ne : st ∉ ws := fun hm => by
    obtain ⟨C', c', k', e1, -, -, e4, -⟩ := q st hm
    cases h5.symm.trans e1
    rw [h6] at e4; cases e4
  exact ⟨cf, i, k, f, st, cell, h1, h2, h3, h4, K.2.1 _ _ h5 ne, h6, h7⟩
end Own
end Jvm.RoadKit
namespace Jvm.Pilot.@@N@@
open Jvm Jvm.ClassFile Sem Op Lib Jvm.Free Jvm.Stand Jvm.LawKit Jvm.RoadKit Bundle Jvm.Pilot.@@N@@.Jvm.D
theorem d3_7 : decode prog_14_method_15_code 7 = .ok (.aload_n 1, 1) := by decide +kernel
theorem d3_8 : decode prog_14_method_15_code 8 = .ok (.checkcast 8, 3) := by decide +kernel
theorem d3_11 : decode prog_14_method_15_code 11 = .ok (.astore_n 2, 1) := by decide +kernel
theorem d3_12 : decode prog_14_method_15_code 12 = .ok (.aload_n 0, 1) := by decide +kernel
theorem d3_13 : decode prog_14_method_15_code 13 = .ok (.getfield 7, 3) := by decide +kernel
theorem d3_16 : decode prog_14_method_15_code 16 = .ok (.aload_n 2, 1) := by decide +kernel
theorem d3_17 : decode prog_14_method_15_code 17 = .ok (.getfield 7, 3) := by decide +kernel
theorem d3_20 : decode prog_14_method_15_code 20 = .ok (.if_icmp .ne 40, 3) := by decide +kernel
theorem d3_23 : decode prog_14_method_15_code 23 = .ok (.aload_n 0, 1) := by decide +kernel
theorem d3_24 : decode prog_14_method_15_code 24 = .ok (.getfield 13, 3) := by decide +kernel
theorem d3_27 : decode prog_14_method_15_code 27 = .ok (.aload_n 2, 1) := by decide +kernel
theorem d3_28 : decode prog_14_method_15_code 28 = .ok (.getfield 13, 3) := by decide +kernel
theorem d3_31 : decode prog_14_method_15_code 31 = .ok (.if_icmp .ne 29, 3) := by decide +kernel
theorem d3_34 : decode prog_14_method_15_code 34 = .ok (.aload_n 0, 1) := by decide +kernel
theorem d3_35 : decode prog_14_method_15_code 35 = .ok (.getfield 16, 3) := by decide +kernel
theorem d3_38 : decode prog_14_method_15_code 38 = .ok (.aload_n 2, 1) := by decide +kernel
theorem d3_39 : decode prog_14_method_15_code 39 = .ok (.getfield 16, 3) := by decide +kernel
theorem d3_42 : decode prog_14_method_15_code 42 = .ok (.if_icmp .ne 18, 3) := by decide +kernel
theorem d3_45 : decode prog_14_method_15_code 45 = .ok (.aload_n 0, 1) := by decide +kernel
theorem d3_46 : decode prog_14_method_15_code 46 = .ok (.getfield 19, 3) := by decide +kernel
theorem d3_49 : decode prog_14_method_15_code 49 = .ok (.aload_n 2, 1) := by decide +kernel
theorem d3_50 : decode prog_14_method_15_code 50 = .ok (.getfield 19, 3) := by decide +kernel
theorem d3_53 : decode prog_14_method_15_code 53 = .ok (.if_icmp .ne 7, 3) := by decide +kernel
theorem d3_56 : decode prog_14_method_15_code 56 = .ok (.iconst 1, 1) := by decide +kernel
theorem d3_57 : decode prog_14_method_15_code 57 = .ok (.goto 4, 3) := by decide +kernel
theorem own_fifteen (s : Int32) : ((s &&& (15 : Int32)) = (0 : Int32)) ↔ ((s &&& (1 : Int32)) = (0 : Int32) ∧ (s &&& (2 : Int32)) = (0 : Int32) ∧ (s &&& (4 : Int32)) = (0 : Int32) ∧ (s &&& (8 : Int32)) = (0 : Int32)) := by
  have t : ∀ k : Fin 16, ((Int32.ofInt ((k.1 : Nat) : Int)) = (0 : Int32)) ↔ (((Int32.ofInt ((k.1 : Nat) : Int)) &&& (1 : Int32)) = (0 : Int32) ∧ ((Int32.ofInt ((k.1 : Nat) : Int)) &&& (2 : Int32)) = (0 : Int32) ∧ ((Int32.ofInt ((k.1 : Nat) : Int)) &&& (4 : Int32)) = (0 : Int32) ∧ ((Int32.ofInt ((k.1 : Nat) : Int)) &&& (8 : Int32)) = (0 : Int32)) := by decide +kernel
  have q := c_and s (15 : Int32) (by decide)
  simp only [Int32.reduceToInt] at q
  obtain ⟨k, hk⟩ : ∃ k : Fin 16, (s &&& (15 : Int32)) = Int32.ofInt ((k.1 : Nat) : Int) := ⟨⟨(s &&& (15 : Int32)).toInt.toNat, by omega⟩, by
    have e : (((s &&& (15 : Int32)).toInt.toNat : Nat) : Int) = (s &&& (15 : Int32)).toInt := by omega
    show (s &&& (15 : Int32)) = Int32.ofInt (((s &&& (15 : Int32)).toInt.toNat : Nat) : Int)
    rw [e, Int32.ofInt_toInt]⟩
  have w := t k
  rw [← hk] at w
  have a : ∀ m : Int32, ((15 : Int32) &&& m) = m → ((s &&& (15 : Int32)) &&& m) = (s &&& m) := fun m hm => by rw [Int32.and_assoc, hm]
  rw [a 1 (by decide), a 2 (by decide), a 4 (by decide), a 8 (by decide)] at w
  exact w
theorem own_place (w : Int32) (h1 : ¬ w < (-128 : Int32)) (h2 : ¬ (127 : Int32) < w) {n : Nat} (hn : n = 256) : ¬ ((w + (128 : Int32)) < 0 ∨ n ≤ (w + (128 : Int32)).toNatClampNeg) := by
  subst hn
  have a := c_iadd w (128 : Int32)
  have r := rng32 (w + (128 : Int32))
  simp only [Int32.lt_iff_toInt_lt, Int32.reduceToInt, Int32.toNatClampNeg] at *
  omega

theorem d1_0 : decode prog_14_method_1_code 0 = .ok (.aload_n 0, 1) := by decide +kernel
theorem d1_1 : decode prog_14_method_1_code 1 = .ok (.invokespecial 1, 3) := by decide +kernel
theorem d1_4 : decode prog_14_method_1_code 4 = .ok (.aload_n 0, 1) := by decide +kernel
theorem d1_5 : decode prog_14_method_1_code 5 = .ok (.iload_n 1, 1) := by decide +kernel
theorem d1_6 : decode prog_14_method_1_code 6 = .ok (.putfield 7, 3) := by decide +kernel
theorem d1_9 : decode prog_14_method_1_code 9 = .ok (.aload_n 0, 1) := by decide +kernel
theorem d1_10 : decode prog_14_method_1_code 10 = .ok (.iload_n 2, 1) := by decide +kernel
theorem d1_11 : decode prog_14_method_1_code 11 = .ok (.putfield 13, 3) := by decide +kernel
theorem d1_14 : decode prog_14_method_1_code 14 = .ok (.aload_n 0, 1) := by decide +kernel
theorem d1_15 : decode prog_14_method_1_code 15 = .ok (.iload_n 3, 1) := by decide +kernel
theorem d1_16 : decode prog_14_method_1_code 16 = .ok (.putfield 16, 3) := by decide +kernel
theorem d1_19 : decode prog_14_method_1_code 19 = .ok (.aload_n 0, 1) := by decide +kernel
theorem d1_20 : decode prog_14_method_1_code 20 = .ok (.iload 4, 2) := by decide +kernel
theorem d1_22 : decode prog_14_method_1_code 22 = .ok (.putfield 19, 3) := by decide +kernel
theorem d1_25 : decode prog_14_method_1_code 25 = .ok (.return_, 1) := by decide +kernel
theorem pn_1 : plainName "com/example/canopy/canopy/model/Rect" = true := by first | (simp [plainName, overriddenIn]; done) | decide +kernel
theorem ef_1 (m : MethodId) (x0 : Addr) (x1 : Int32) (x2 : Int32) (x3 : Int32) (x4 : Int32) : entryFrame m #[(.ref x0), (.int x1), (.int x2), (.int x3), (.int x4)] 5 = mkF m 0 #[.val (.ref x0), .val (.int x1), .val (.int x2), .val (.int x3), .val (.int x4)] [] := by first | (simp [entryFrame, mkF, argsToLocals, Value.category]; done) | rfl
def Q1 (Z : State) (a1 : Addr) (p2 : Int32) (p3 : Int32) (p4 : Int32) (p5 : Int32)  (h0 : Heap) (n0 : Nat) (v : Option Value) (h : Heap) (L : List Loc) : Prop := v = none ∧ Fr n0 L ∧ Keep h0 h [a1] ∧ Fld Z h a1 "com/example/canopy/canopy/model/Rect" "left" "I" (.int p2) ∧ Fld Z h a1 "com/example/canopy/canopy/model/Rect" "top" "I" (.int p3) ∧ Fld Z h a1 "com/example/canopy/canopy/model/Rect" "right" "I" (.int p4) ∧ Fld Z h a1 "com/example/canopy/canopy/model/Rect" "bottom" "I" (.int p5)
set_option maxRecDepth 65536 in
set_option maxHeartbeats 40000000 in
theorem rm1 (l : Launch) (Z : State) (a0 : Array Value) (hw : ∀ d ∈ tables_1, d.before a0 Z = true) (ws : List Jvm.Cond) (a1 : Addr) (p2 : Int32) (p3 : Int32) (p4 : Int32) (p5 : Int32)  (h0 : Heap) (n0 : Nat) (Z0 : n0 ≤ h0.size) (E_a1 : Exa Z h0 a1 "com/example/canopy/canopy/model/Rect") (g_a1 : n0 ≤ a1) (F_left_a1 : Fld Z h0 a1 "com/example/canopy/canopy/model/Rect" "left" "I" (.int (0 : Int32))) (F_top_a1 : Fld Z h0 a1 "com/example/canopy/canopy/model/Rect" "top" "I" (.int (0 : Int32))) (F_right_a1 : Fld Z h0 a1 "com/example/canopy/canopy/model/Rect" "right" "I" (.int (0 : Int32))) (F_bottom_a1 : Fld Z h0 a1 "com/example/canopy/canopy/model/Rect" "bottom" "I" (.int (0 : Int32))) :
    MetFree l (⟨"com/example/canopy/canopy/model/Rect", "<init>", "(IIII)V"⟩ : MethodName) (head1 (Jvm.Cond.code (⟨"com/example/canopy/canopy/model/Rect", "<init>", "(IIII)V"⟩ : MethodName) prog_14_method_1_code 5 none :: ws) ({ frames := 1, cells := 0, slots := 0, locals := 12 } : Room)) (fun a U => a = #[(.ref a1), (.int p2), (.int p3), (.int p4), (.int p5)] ∧ Z.Warmed39 U.vm ∧ U.heap = h0) (fun _ _ _ _ _ => True) (fun _ U o U' => ∃ v L, o = .returned v ∧ Q1 Z a1 p2 p3 p4 p5 h0 n0 v U'.heap L ∧ FrameEnd U o U' L ({ frames := 1, cells := 0, slots := 0, locals := 12 } : Room).cells ({ frames := 1, cells := 0, slots := 0, locals := 12 } : Room).slots) := by
  refine MetFree.of_bodySF (plainFor_of_name pn_1) hisR ?_
  intro p e s m args below meth c s₁ Bd hml0 hP hK
  obtain ⟨rfl, hZ, hh⟩ := hP
  have hx := Bd.exec
  have hby := Bd.bytes
  have hlk := Bd.notSynchronized
  have hml : c.maxLocals = 5 := hml0
  have hown : s.vm.findClass "com/example/canopy/canopy/model/Rect" = some m.cls := findClass_of_methodNamed Bd.named
  have hnm := (name_of_methodNamed Bd.named Bd.method).1
  have X0 : Stand p l e ({ frames := 1, cells := 0, slots := 0, locals := 12 } : Room) s m #[(.ref a1), (.int p2), (.int p3), (.int p4), (.int p5)] below meth c s₁ [] 0 0 := Stand.of_body Bd
  have e0 : s₁.heap = h0 := by rw [← hh, Bd.state]; rfl
  have N0 := Fr.nil n0
  have K0 : Keep h0 h0 [a1] := Keep.refl h0 _
  show OutW p e below s ({ frames := 1, cells := 0, slots := 0, locals := 12 } : Room).cells ({ frames := 1, cells := 0, slots := 0, locals := 12 } : Room).slots (Q1 Z a1 p2 p3 p4 p5 h0 n0) _
  refine OutW.back (fun t k => castTop (ef_1 m a1 p2 p3 p4 p5) k) ?_
  show OutW _ _ _ _ _ _ _ (s₁.setTop (mkF m 0 #[.val (.ref a1), .val (.int p2), .val (.int p3), .val (.int p4), .val (.int p5)] []))
  refine OutW.back (fun t k => XS.aloadN X0.here hx rfl (hb hby d1_0) rfl rfl  k) ?_
  show OutW _ _ _ _ _ _ _ (s₁.setTop (mkF m 1 #[.val (.ref a1), .val (.int p2), .val (.int p3), .val (.int p4), .val (.int p5)] [(.ref a1)]))
  obtain ⟨T1, X1, e1, st1⟩ := initO X0 hx hZ hown (hw _ (List.mem_of_getElem? (i := 6) rfl)) (hw _ (List.mem_of_getElem? (i := 7) rfl)) (hw _ (List.mem_of_getElem? (i := 8) rfl)) e0 (g := (mkF m 1 #[.val (.ref a1), .val (.int p2), .val (.int p3), .val (.int p4), .val (.int p5)] [(.ref a1)])) rfl (by rw [hml]; rfl) rfl (hb hby d1_1) (by decide) (W := 0) (by show 2 * 0 + _ ≤ _; exact Nat.le_of_eq rfl) (by decide)
  refine OutW.back st1 ?_
  show OutW _ _ _ _ _ _ _ (T1.setTop (mkF m 4 #[.val (.ref a1), .val (.int p2), .val (.int p3), .val (.int p4), .val (.int p5)] []))
  refine OutW.back (fun t k => XS.aloadN X1.here hx rfl (hb hby d1_4) rfl rfl  k) ?_
  show OutW _ _ _ _ _ _ _ (T1.setTop (mkF m 5 #[.val (.ref a1), .val (.int p2), .val (.int p3), .val (.int p4), .val (.int p5)] [(.ref a1)]))
  refine OutW.back (fun t k => XS.iloadN X1.here hx rfl (hb hby d1_5) rfl  k) ?_
  show OutW _ _ _ _ _ _ _ (T1.setTop (mkF m 6 #[.val (.ref a1), .val (.int p2), .val (.int p3), .val (.int p4), .val (.int p5)] [(.int p2), (.ref a1)]))
  obtain ⟨T2, h2, X2, e2, W2, st2⟩ := putF X1 hx hZ hown (host := "") (Or.inl (hw _ (List.mem_of_getElem? (i := 9) rfl))) Via.refl e1 F_left_a1 E_a1 (Or.inr ⟨(hw _ (List.mem_of_getElem? (i := 10) rfl)), rfl, hnm⟩) (hw _ (List.mem_of_getElem? (i := 1) rfl)) (ty := .int) (by decide) rfl rfl (g := (mkF m 6 #[.val (.ref a1), .val (.int p2), .val (.int p3), .val (.int p4), .val (.int p5)] [(.int p2), (.ref a1)])) rfl rfl (hb hby d1_6)
  have E_a1 := E_a1.wr W2
  have F_left_a1 := F_left_a1.same W2
  have F_top_a1 := F_top_a1.other W2 (Or.inr (slot_ne (Or.inr (hw _ (List.mem_of_getElem? (i := 12) rfl))) (Or.inr (hw _ (List.mem_of_getElem? (i := 10) rfl))) (by decide) (t := .int) (t' := .int) (by decide) (by decide)))
  have F_right_a1 := F_right_a1.other W2 (Or.inr (slot_ne (Or.inr (hw _ (List.mem_of_getElem? (i := 14) rfl))) (Or.inr (hw _ (List.mem_of_getElem? (i := 10) rfl))) (by decide) (t := .int) (t' := .int) (by decide) (by decide)))
  have F_bottom_a1 := F_bottom_a1.other W2 (Or.inr (slot_ne (Or.inr (hw _ (List.mem_of_getElem? (i := 16) rfl))) (Or.inr (hw _ (List.mem_of_getElem? (i := 10) rfl))) (by decide) (t := .int) (t' := .int) (by decide) (by decide)))
  have N2 := Fr.snoc X2 N0 g_a1
  have Z2 : n0 ≤ h2.size := Nat.le_trans Z0 (Keep.of_wr W2).1
  have K2 := K0.wr W2 (Or.inl (List.mem_of_getElem? (i := 0) rfl))
  refine OutW.back st2 ?_
  show OutW _ _ _ _ _ _ _ (T2.setTop (mkF m 9 #[.val (.ref a1), .val (.int p2), .val (.int p3), .val (.int p4), .val (.int p5)] []))
  refine OutW.back (fun t k => XS.aloadN X2.here hx rfl (hb hby d1_9) rfl rfl  k) ?_
  show OutW _ _ _ _ _ _ _ (T2.setTop (mkF m 10 #[.val (.ref a1), .val (.int p2), .val (.int p3), .val (.int p4), .val (.int p5)] [(.ref a1)]))
  refine OutW.back (fun t k => XS.iloadN X2.here hx rfl (hb hby d1_10) rfl  k) ?_
  show OutW _ _ _ _ _ _ _ (T2.setTop (mkF m 11 #[.val (.ref a1), .val (.int p2), .val (.int p3), .val (.int p4), .val (.int p5)] [(.int p3), (.ref a1)]))
  obtain ⟨T3, h3, X3, e3, W3, st3⟩ := putF X2 hx hZ hown (host := "") (Or.inl (hw _ (List.mem_of_getElem? (i := 11) rfl))) Via.refl e2 F_top_a1 E_a1 (Or.inr ⟨(hw _ (List.mem_of_getElem? (i := 12) rfl)), rfl, hnm⟩) (hw _ (List.mem_of_getElem? (i := 1) rfl)) (ty := .int) (by decide) rfl rfl (g := (mkF m 11 #[.val (.ref a1), .val (.int p2), .val (.int p3), .val (.int p4), .val (.int p5)] [(.int p3), (.ref a1)])) rfl rfl (hb hby d1_11)
  have E_a1 := E_a1.wr W3
  have F_left_a1 := F_left_a1.other W3 (Or.inr (slot_ne (Or.inr (hw _ (List.mem_of_getElem? (i := 10) rfl))) (Or.inr (hw _ (List.mem_of_getElem? (i := 12) rfl))) (by decide) (t := .int) (t' := .int) (by decide) (by decide)))
  have F_top_a1 := F_top_a1.same W3
  have F_right_a1 := F_right_a1.other W3 (Or.inr (slot_ne (Or.inr (hw _ (List.mem_of_getElem? (i := 14) rfl))) (Or.inr (hw _ (List.mem_of_getElem? (i := 12) rfl))) (by decide) (t := .int) (t' := .int) (by decide) (by decide)))
  have F_bottom_a1 := F_bottom_a1.other W3 (Or.inr (slot_ne (Or.inr (hw _ (List.mem_of_getElem? (i := 16) rfl))) (Or.inr (hw _ (List.mem_of_getElem? (i := 12) rfl))) (by decide) (t := .int) (t' := .int) (by decide) (by decide)))
  have N3 := Fr.snoc X3 N2 g_a1
  have Z3 : n0 ≤ h3.size := Nat.le_trans Z2 (Keep.of_wr W3).1
  have K3 := K2.wr W3 (Or.inl (List.mem_of_getElem? (i := 0) rfl))
  refine OutW.back st3 ?_
  show OutW _ _ _ _ _ _ _ (T3.setTop (mkF m 14 #[.val (.ref a1), .val (.int p2), .val (.int p3), .val (.int p4), .val (.int p5)] []))
  refine OutW.back (fun t k => XS.aloadN X3.here hx rfl (hb hby d1_14) rfl rfl  k) ?_
  show OutW _ _ _ _ _ _ _ (T3.setTop (mkF m 15 #[.val (.ref a1), .val (.int p2), .val (.int p3), .val (.int p4), .val (.int p5)] [(.ref a1)]))
  refine OutW.back (fun t k => XS.iloadN X3.here hx rfl (hb hby d1_15) rfl  k) ?_
  show OutW _ _ _ _ _ _ _ (T3.setTop (mkF m 16 #[.val (.ref a1), .val (.int p2), .val (.int p3), .val (.int p4), .val (.int p5)] [(.int p4), (.ref a1)]))
  obtain ⟨T4, h4, X4, e4, W4, st4⟩ := putF X3 hx hZ hown (host := "") (Or.inl (hw _ (List.mem_of_getElem? (i := 13) rfl))) Via.refl e3 F_right_a1 E_a1 (Or.inr ⟨(hw _ (List.mem_of_getElem? (i := 14) rfl)), rfl, hnm⟩) (hw _ (List.mem_of_getElem? (i := 1) rfl)) (ty := .int) (by decide) rfl rfl (g := (mkF m 16 #[.val (.ref a1), .val (.int p2), .val (.int p3), .val (.int p4), .val (.int p5)] [(.int p4), (.ref a1)])) rfl rfl (hb hby d1_16)
  have E_a1 := E_a1.wr W4
  have F_left_a1 := F_left_a1.other W4 (Or.inr (slot_ne (Or.inr (hw _ (List.mem_of_getElem? (i := 10) rfl))) (Or.inr (hw _ (List.mem_of_getElem? (i := 14) rfl))) (by decide) (t := .int) (t' := .int) (by decide) (by decide)))
  have F_top_a1 := F_top_a1.other W4 (Or.inr (slot_ne (Or.inr (hw _ (List.mem_of_getElem? (i := 12) rfl))) (Or.inr (hw _ (List.mem_of_getElem? (i := 14) rfl))) (by decide) (t := .int) (t' := .int) (by decide) (by decide)))
  have F_right_a1 := F_right_a1.same W4
  have F_bottom_a1 := F_bottom_a1.other W4 (Or.inr (slot_ne (Or.inr (hw _ (List.mem_of_getElem? (i := 16) rfl))) (Or.inr (hw _ (List.mem_of_getElem? (i := 14) rfl))) (by decide) (t := .int) (t' := .int) (by decide) (by decide)))
  have N4 := Fr.snoc X4 N3 g_a1
  have Z4 : n0 ≤ h4.size := Nat.le_trans Z3 (Keep.of_wr W4).1
  have K4 := K3.wr W4 (Or.inl (List.mem_of_getElem? (i := 0) rfl))
  refine OutW.back st4 ?_
  show OutW _ _ _ _ _ _ _ (T4.setTop (mkF m 19 #[.val (.ref a1), .val (.int p2), .val (.int p3), .val (.int p4), .val (.int p5)] []))
  refine OutW.back (fun t k => XS.aloadN X4.here hx rfl (hb hby d1_19) rfl rfl  k) ?_
  show OutW _ _ _ _ _ _ _ (T4.setTop (mkF m 20 #[.val (.ref a1), .val (.int p2), .val (.int p3), .val (.int p4), .val (.int p5)] [(.ref a1)]))
  refine OutW.back (fun t k => XS.iload X4.here hx rfl (hb hby d1_20) rfl  k) ?_
  show OutW _ _ _ _ _ _ _ (T4.setTop (mkF m 22 #[.val (.ref a1), .val (.int p2), .val (.int p3), .val (.int p4), .val (.int p5)] [(.int p5), (.ref a1)]))
  obtain ⟨T5, h5, X5, e5, W5, st5⟩ := putF X4 hx hZ hown (host := "") (Or.inl (hw _ (List.mem_of_getElem? (i := 15) rfl))) Via.refl e4 F_bottom_a1 E_a1 (Or.inr ⟨(hw _ (List.mem_of_getElem? (i := 16) rfl)), rfl, hnm⟩) (hw _ (List.mem_of_getElem? (i := 1) rfl)) (ty := .int) (by decide) rfl rfl (g := (mkF m 22 #[.val (.ref a1), .val (.int p2), .val (.int p3), .val (.int p4), .val (.int p5)] [(.int p5), (.ref a1)])) rfl rfl (hb hby d1_22)
  have E_a1 := E_a1.wr W5
  have F_left_a1 := F_left_a1.other W5 (Or.inr (slot_ne (Or.inr (hw _ (List.mem_of_getElem? (i := 10) rfl))) (Or.inr (hw _ (List.mem_of_getElem? (i := 16) rfl))) (by decide) (t := .int) (t' := .int) (by decide) (by decide)))
  have F_top_a1 := F_top_a1.other W5 (Or.inr (slot_ne (Or.inr (hw _ (List.mem_of_getElem? (i := 12) rfl))) (Or.inr (hw _ (List.mem_of_getElem? (i := 16) rfl))) (by decide) (t := .int) (t' := .int) (by decide) (by decide)))
  have F_right_a1 := F_right_a1.other W5 (Or.inr (slot_ne (Or.inr (hw _ (List.mem_of_getElem? (i := 14) rfl))) (Or.inr (hw _ (List.mem_of_getElem? (i := 16) rfl))) (by decide) (t := .int) (t' := .int) (by decide) (by decide)))
  have F_bottom_a1 := F_bottom_a1.same W5
  have N5 := Fr.snoc X5 N4 g_a1
  have Z5 : n0 ≤ h5.size := Nat.le_trans Z4 (Keep.of_wr W5).1
  have K5 := K4.wr W5 (Or.inl (List.mem_of_getElem? (i := 0) rfl))
  refine OutW.back st5 ?_
  show OutW _ _ _ _ _ _ _ (T5.setTop (mkF m 25 #[.val (.ref a1), .val (.int p2), .val (.int p3), .val (.int p4), .val (.int p5)] []))
  refine OutW.retV X5 hx Bd.returns hlk (hb hby d1_25) (by decide) (by decide) ?_
  show Q1 Z a1 p2 p3 p4 p5 h0 n0 _ T5.heap _
  rw [e5]
  exact ⟨rfl, N5, K5, F_left_a1, F_top_a1, F_right_a1, F_bottom_a1⟩
theorem d3_0 : decode prog_14_method_15_code 0 = .ok (.aload_n 1, 1) := by decide +kernel
theorem d3_1 : decode prog_14_method_15_code 1 = .ok (.instanceof 8, 3) := by decide +kernel
theorem d3_4 : decode prog_14_method_15_code 4 = .ok (.ifCond .eq 56, 3) := by decide +kernel
theorem d3_60 : decode prog_14_method_15_code 60 = .ok (.iconst 0, 1) := by decide +kernel
theorem d3_61 : decode prog_14_method_15_code 61 = .ok (.ireturn, 1) := by decide +kernel
theorem pn_3 : plainName "com/example/canopy/canopy/model/Rect" = true := by first | (simp [plainName, overriddenIn]; done) | decide +kernel
theorem ef_3n (m : MethodId) (x0 : Addr) : entryFrame m #[(.ref x0), .null] 3 = mkF m 0 #[.val (.ref x0), .val .null, .unset] [] := by first | (simp [entryFrame, mkF, argsToLocals, Value.category]; done) | rfl
def Q3n (Z : State) (a1 : Addr)  (h0 : Heap) (n0 : Nat) (v : Option Value) (h : Heap) (L : List Loc) : Prop := v = some (.int (0 : Int32)) ∧ Fr n0 L ∧ h = h0
set_option maxRecDepth 65536 in
set_option maxHeartbeats 40000000 in
theorem rm3n (l : Launch) (Z : State) (a0 : Array Value) (hw : ∀ d ∈ tables_1, d.before a0 Z = true) (ws : List Jvm.Cond) (a1 : Addr)  (h0 : Heap) (n0 : Nat) (Z0 : n0 ≤ h0.size) :
    MetFree l (⟨"com/example/canopy/canopy/model/Rect", "equals", "(Ljava/lang/Object;)Z"⟩ : MethodName) (head1 (Jvm.Cond.code (⟨"com/example/canopy/canopy/model/Rect", "equals", "(Ljava/lang/Object;)Z"⟩ : MethodName) prog_14_method_15_code 3 (some .boolean) :: ws) ({ frames := 0, cells := 0, slots := 0, locals := 0 } : Room)) (fun a U => a = #[(.ref a1), .null] ∧ Z.Warmed39 U.vm ∧ U.heap = h0) (fun _ _ _ _ _ => True) (fun _ U o U' => ∃ v L, o = .returned v ∧ Q3n Z a1 h0 n0 v U'.heap L ∧ FrameEnd U o U' L ({ frames := 0, cells := 0, slots := 0, locals := 0 } : Room).cells ({ frames := 0, cells := 0, slots := 0, locals := 0 } : Room).slots) := by
  refine MetFree.of_bodySF (plainFor_of_name pn_3) hisR ?_
  intro p e s m args below meth c s₁ Bd hml0 hP hK
  obtain ⟨rfl, hZ, hh⟩ := hP
  have hx := Bd.exec
  have hby := Bd.bytes
  have hlk := Bd.notSynchronized
  have hml : c.maxLocals = 3 := hml0
  have hown : s.vm.findClass "com/example/canopy/canopy/model/Rect" = some m.cls := findClass_of_methodNamed Bd.named
  have hnm := (name_of_methodNamed Bd.named Bd.method).1
  have X0 : Stand p l e ({ frames := 0, cells := 0, slots := 0, locals := 0 } : Room) s m #[(.ref a1), .null] below meth c s₁ [] 0 0 := Stand.of_body Bd
  have e0 : s₁.heap = h0 := by rw [← hh, Bd.state]; rfl
  have N0 := Fr.nil n0
  have K0 : Keep h0 h0 [] := Keep.refl h0 _
  show OutW p e below s ({ frames := 0, cells := 0, slots := 0, locals := 0 } : Room).cells ({ frames := 0, cells := 0, slots := 0, locals := 0 } : Room).slots (Q3n Z a1 h0 n0) _
  refine OutW.back (fun t k => castTop (ef_3n m a1) k) ?_
  show OutW _ _ _ _ _ _ _ (s₁.setTop (mkF m 0 #[.val (.ref a1), .val .null, .unset] []))
  refine OutW.back (fun t k => XS.aloadN X0.here hx rfl (hb hby d3_0) rfl rfl  k) ?_
  show OutW _ _ _ _ _ _ _ (s₁.setTop (mkF m 1 #[.val (.ref a1), .val .null, .unset] [.null]))
  refine OutW.back (X0.instanceofNull hx (g := (mkF m 1 #[.val (.ref a1), .val .null, .unset] [.null])) rfl rfl (hb hby d3_1)) ?_
  show OutW _ _ _ _ _ _ _ (s₁.setTop (mkF m 4 #[.val (.ref a1), .val .null, .unset] [(.int (0 : Int32))]))
  refine OutW.back (fun t k => XS.ifYes X0.here hx rfl (pc0 := 4) (pc' := 60) rfl (hb hby d3_4) rfl ((if0 _ _).trans (teq (by decide : (0 : Int32) = (0 : Int32))).1) (by decide) (by decide) k) ?_
  show OutW _ _ _ _ _ _ _ (s₁.setTop (mkF m 60 #[.val (.ref a1), .val .null, .unset] []))
  refine OutW.back (fun t k => XS.iconst X0.here hx rfl (hb hby d3_60) k) ?_
  show OutW _ _ _ _ _ _ _ (s₁.setTop (mkF m 61 #[.val (.ref a1), .val .null, .unset] [(.int (0 : Int32))]))
  refine OutW.retN X0 hx (t := .boolean) (z' := (0 : Int32)) Bd.returns (by simp) hlk (hb hby d3_61) ?hz (by decide) (by decide) ?_
  case hz =>
    rfl
  show Q3n Z a1 h0 n0 _ s₁.heap _
  rw [e0]
  exact ⟨rfl, N0, rfl⟩
theorem ef_3i (m : MethodId) (x0 : Addr) (x1 : Addr) : entryFrame m #[(.ref x0), (.ref x1)] 3 = mkF m 0 #[.val (.ref x0), .val (.ref x1), .unset] [] := by first | (simp [entryFrame, mkF, argsToLocals, Value.category]; done) | rfl
def Q3i (Z : State) (a1 : Addr) (a2 : Addr)  (h0 : Heap) (n0 : Nat) (v : Option Value) (h : Heap) (L : List Loc) : Prop := v = some (.int (0 : Int32)) ∧ Fr n0 L ∧ h = h0
set_option maxRecDepth 65536 in
set_option maxHeartbeats 40000000 in
theorem rm3i (l : Launch) (Z : State) (a0 : Array Value) (hw : ∀ d ∈ tables_1, d.before a0 Z = true) (ws : List Jvm.Cond) (a1 : Addr) (a2 : Addr)  (h0 : Heap) (n0 : Nat) (Z0 : n0 ≤ h0.size) (E_a2 : Exa Z h0 a2 "java/lang/Integer") (hna : ∃ c t, Z.vm.findClass "java/lang/Integer" = some c ∧ Z.vm.findClass "com/example/canopy/canopy/model/Rect" = some t ∧ Z.vm.assignable c t = false) :
    MetFree l (⟨"com/example/canopy/canopy/model/Rect", "equals", "(Ljava/lang/Object;)Z"⟩ : MethodName) (head1 (Jvm.Cond.code (⟨"com/example/canopy/canopy/model/Rect", "equals", "(Ljava/lang/Object;)Z"⟩ : MethodName) prog_14_method_15_code 3 (some .boolean) :: ws) ({ frames := 0, cells := 0, slots := 0, locals := 0 } : Room)) (fun a U => a = #[(.ref a1), (.ref a2)] ∧ Z.Warmed39 U.vm ∧ U.heap = h0) (fun _ _ _ _ _ => True) (fun _ U o U' => ∃ v L, o = .returned v ∧ Q3i Z a1 a2 h0 n0 v U'.heap L ∧ FrameEnd U o U' L ({ frames := 0, cells := 0, slots := 0, locals := 0 } : Room).cells ({ frames := 0, cells := 0, slots := 0, locals := 0 } : Room).slots) := by
  refine MetFree.of_bodySF (plainFor_of_name pn_3) hisR ?_
  intro p e s m args below meth c s₁ Bd hml0 hP hK
  obtain ⟨rfl, hZ, hh⟩ := hP
  have hx := Bd.exec
  have hby := Bd.bytes
  have hlk := Bd.notSynchronized
  have hml : c.maxLocals = 3 := hml0
  have hown : s.vm.findClass "com/example/canopy/canopy/model/Rect" = some m.cls := findClass_of_methodNamed Bd.named
  have hnm := (name_of_methodNamed Bd.named Bd.method).1
  have X0 : Stand p l e ({ frames := 0, cells := 0, slots := 0, locals := 0 } : Room) s m #[(.ref a1), (.ref a2)] below meth c s₁ [] 0 0 := Stand.of_body Bd
  have e0 : s₁.heap = h0 := by rw [← hh, Bd.state]; rfl
  have N0 := Fr.nil n0
  have K0 : Keep h0 h0 [] := Keep.refl h0 _
  show OutW p e below s ({ frames := 0, cells := 0, slots := 0, locals := 0 } : Room).cells ({ frames := 0, cells := 0, slots := 0, locals := 0 } : Room).slots (Q3i Z a1 a2 h0 n0) _
  refine OutW.back (fun t k => castTop (ef_3i m a1 a2) k) ?_
  show OutW _ _ _ _ _ _ _ (s₁.setTop (mkF m 0 #[.val (.ref a1), .val (.ref a2), .unset] []))
  refine OutW.back (fun t k => XS.aloadN X0.here hx rfl (hb hby d3_0) rfl rfl  k) ?_
  show OutW _ _ _ _ _ _ _ (s₁.setTop (mkF m 1 #[.val (.ref a1), .val (.ref a2), .unset] [(.ref a2)]))
  obtain ⟨T1, X1, e1, st1⟩ := instNo X0 hx hZ hown (hw _ (List.mem_of_getElem? (i := 22) rfl)) e0 E_a2 hna (g := (mkF m 1 #[.val (.ref a1), .val (.ref a2), .unset] [(.ref a2)])) rfl rfl (hb hby d3_1)
  refine OutW.back st1 ?_
  show OutW _ _ _ _ _ _ _ (T1.setTop (mkF m 4 #[.val (.ref a1), .val (.ref a2), .unset] [(.int (0 : Int32))]))
  refine OutW.back (fun t k => XS.ifYes X1.here hx rfl (pc0 := 4) (pc' := 60) rfl (hb hby d3_4) rfl ((if0 _ _).trans (teq (by decide : (0 : Int32) = (0 : Int32))).1) (by decide) (by decide) k) ?_
  show OutW _ _ _ _ _ _ _ (T1.setTop (mkF m 60 #[.val (.ref a1), .val (.ref a2), .unset] []))
  refine OutW.back (fun t k => XS.iconst X1.here hx rfl (hb hby d3_60) k) ?_
  show OutW _ _ _ _ _ _ _ (T1.setTop (mkF m 61 #[.val (.ref a1), .val (.ref a2), .unset] [(.int (0 : Int32))]))
  refine OutW.retN X1 hx (t := .boolean) (z' := (0 : Int32)) Bd.returns (by simp) hlk (hb hby d3_61) ?hz (by decide) (by decide) ?_
  case hz =>
    rfl
  show Q3i Z a1 a2 h0 n0 _ T1.heap _
  rw [e1]
  exact ⟨rfl, N0, rfl⟩
def eqF (w_left : Int32) (w_top : Int32) (w_right : Int32) (w_bottom : Int32) (u_left : Int32) (u_top : Int32) (u_right : Int32) (u_bottom : Int32) : Int32 := (if w_left = u_left then (if w_top = u_top then (if w_right = u_right then (if w_bottom = u_bottom then (1 : Int32) else (0 : Int32)) else (0 : Int32)) else (0 : Int32)) else (0 : Int32))
theorem ef_3r (m : MethodId) (x0 : Addr) (x1 : Addr) : entryFrame m #[(.ref x0), (.ref x1)] 3 = mkF m 0 #[.val (.ref x0), .val (.ref x1), .unset] [] := by first | (simp [entryFrame, mkF, argsToLocals, Value.category]; done) | rfl
def Q3r (Z : State) (a1 : Addr) (a2 : Addr) (w_left : Int32) (w_top : Int32) (w_right : Int32) (w_bottom : Int32) (u_left : Int32) (u_top : Int32) (u_right : Int32) (u_bottom : Int32) (h0 : Heap) (n0 : Nat) (v : Option Value) (h : Heap) (L : List Loc) : Prop := v = some (.int (eqF w_left w_top w_right w_bottom u_left u_top u_right u_bottom)) ∧ Fr n0 L ∧ h = h0
set_option maxRecDepth 65536 in
set_option maxHeartbeats 40000000 in
theorem rm3r (l : Launch) (Z : State) (a0 : Array Value) (hw : ∀ d ∈ tables_1, d.before a0 Z = true) (ws : List Jvm.Cond) (a1 : Addr) (a2 : Addr) (w_left : Int32) (w_top : Int32) (w_right : Int32) (w_bottom : Int32) (u_left : Int32) (u_top : Int32) (u_right : Int32) (u_bottom : Int32) (h0 : Heap) (n0 : Nat) (Z0 : n0 ≤ h0.size) (E_a2 : Exa Z h0 a2 "com/example/canopy/canopy/model/Rect") (F_left_a1 : Fld Z h0 a1 "com/example/canopy/canopy/model/Rect" "left" "I" (.int w_left)) (F_top_a1 : Fld Z h0 a1 "com/example/canopy/canopy/model/Rect" "top" "I" (.int w_top)) (F_right_a1 : Fld Z h0 a1 "com/example/canopy/canopy/model/Rect" "right" "I" (.int w_right)) (F_bottom_a1 : Fld Z h0 a1 "com/example/canopy/canopy/model/Rect" "bottom" "I" (.int w_bottom)) (F_left_a2 : Fld Z h0 a2 "com/example/canopy/canopy/model/Rect" "left" "I" (.int u_left)) (F_top_a2 : Fld Z h0 a2 "com/example/canopy/canopy/model/Rect" "top" "I" (.int u_top)) (F_right_a2 : Fld Z h0 a2 "com/example/canopy/canopy/model/Rect" "right" "I" (.int u_right)) (F_bottom_a2 : Fld Z h0 a2 "com/example/canopy/canopy/model/Rect" "bottom" "I" (.int u_bottom)) :
    MetFree l (⟨"com/example/canopy/canopy/model/Rect", "equals", "(Ljava/lang/Object;)Z"⟩ : MethodName) (head1 (Jvm.Cond.code (⟨"com/example/canopy/canopy/model/Rect", "equals", "(Ljava/lang/Object;)Z"⟩ : MethodName) prog_14_method_15_code 3 (some .boolean) :: ws) ({ frames := 0, cells := 0, slots := 0, locals := 0 } : Room)) (fun a U => a = #[(.ref a1), (.ref a2)] ∧ Z.Warmed39 U.vm ∧ U.heap = h0) (fun _ _ _ _ _ => True) (fun _ U o U' => ∃ v L, o = .returned v ∧ Q3r Z a1 a2 w_left w_top w_right w_bottom u_left u_top u_right u_bottom h0 n0 v U'.heap L ∧ FrameEnd U o U' L ({ frames := 0, cells := 0, slots := 0, locals := 0 } : Room).cells ({ frames := 0, cells := 0, slots := 0, locals := 0 } : Room).slots) := by
  refine MetFree.of_bodySF (plainFor_of_name pn_3) hisR ?_
  intro p e s m args below meth c s₁ Bd hml0 hP hK
  obtain ⟨rfl, hZ, hh⟩ := hP
  have hx := Bd.exec
  have hby := Bd.bytes
  have hlk := Bd.notSynchronized
  have hml : c.maxLocals = 3 := hml0
  have hown : s.vm.findClass "com/example/canopy/canopy/model/Rect" = some m.cls := findClass_of_methodNamed Bd.named
  have hnm := (name_of_methodNamed Bd.named Bd.method).1
  have X0 : Stand p l e ({ frames := 0, cells := 0, slots := 0, locals := 0 } : Room) s m #[(.ref a1), (.ref a2)] below meth c s₁ [] 0 0 := Stand.of_body Bd
  have e0 : s₁.heap = h0 := by rw [← hh, Bd.state]; rfl
  have N0 := Fr.nil n0
  have K0 : Keep h0 h0 [] := Keep.refl h0 _
  show OutW p e below s ({ frames := 0, cells := 0, slots := 0, locals := 0 } : Room).cells ({ frames := 0, cells := 0, slots := 0, locals := 0 } : Room).slots (Q3r Z a1 a2 w_left w_top w_right w_bottom u_left u_top u_right u_bottom h0 n0) _
  refine OutW.back (fun t k => castTop (ef_3r m a1 a2) k) ?_
  show OutW _ _ _ _ _ _ _ (s₁.setTop (mkF m 0 #[.val (.ref a1), .val (.ref a2), .unset] []))
  refine OutW.back (fun t k => XS.aloadN X0.here hx rfl (hb hby d3_0) rfl rfl  k) ?_
  show OutW _ _ _ _ _ _ _ (s₁.setTop (mkF m 1 #[.val (.ref a1), .val (.ref a2), .unset] [(.ref a2)]))
  obtain ⟨T1, X1, e1, st1⟩ := instY X0 hx hZ hown (hw _ (List.mem_of_getElem? (i := 22) rfl)) e0 (Ins.self E_a2) (g := (mkF m 1 #[.val (.ref a1), .val (.ref a2), .unset] [(.ref a2)])) rfl rfl (hb hby d3_1)
  refine OutW.back st1 ?_
  show OutW _ _ _ _ _ _ _ (T1.setTop (mkF m 4 #[.val (.ref a1), .val (.ref a2), .unset] [(.int (1 : Int32))]))
  refine OutW.back (fun t k => XS.ifNo X1.here hx rfl (hb hby d3_4) rfl ((if0 _ _).trans (feq (by decide : ¬ ((1 : Int32) = (0 : Int32)))).1) k) ?_
  show OutW _ _ _ _ _ _ _ (T1.setTop (mkF m 7 #[.val (.ref a1), .val (.ref a2), .unset] []))
  refine OutW.back (fun t k => XS.aloadN X1.here hx rfl (hb hby d3_7) rfl rfl  k) ?_
  show OutW _ _ _ _ _ _ _ (T1.setTop (mkF m 8 #[.val (.ref a1), .val (.ref a2), .unset] [(.ref a2)]))
  obtain ⟨T2, X2, e2, st2⟩ := castY X1 hx hZ hown (hw _ (List.mem_of_getElem? (i := 22) rfl)) e1 (Ins.self E_a2) (g := (mkF m 8 #[.val (.ref a1), .val (.ref a2), .unset] [(.ref a2)])) rfl rfl (hb hby d3_8)
  refine OutW.back st2 ?_
  show OutW _ _ _ _ _ _ _ (T2.setTop (mkF m 11 #[.val (.ref a1), .val (.ref a2), .unset] [(.ref a2)]))
  refine OutW.back (fun t k => XS.astoreN X2.here hx rfl (hb hby d3_11) rfl rfl (l' := #[.val (.ref a1), .val (.ref a2), .val (.ref a2)]) rfl k) ?_
  show OutW _ _ _ _ _ _ _ (T2.setTop (mkF m 12 #[.val (.ref a1), .val (.ref a2), .val (.ref a2)] []))
  refine OutW.back (fun t k => XS.aloadN X2.here hx rfl (hb hby d3_12) rfl rfl  k) ?_
  show OutW _ _ _ _ _ _ _ (T2.setTop (mkF m 13 #[.val (.ref a1), .val (.ref a2), .val (.ref a2)] [(.ref a1)]))
  obtain ⟨T3, X3, e3, st3⟩ := getF X2 hx hZ hown (host := "") (Or.inl (hw _ (List.mem_of_getElem? (i := 9) rfl))) Via.refl e2 F_left_a1 (g := (mkF m 13 #[.val (.ref a1), .val (.ref a2), .val (.ref a2)] [(.ref a1)])) rfl rfl (hb hby d3_13)
  refine OutW.back st3 ?_
  show OutW _ _ _ _ _ _ _ (T3.setTop (mkF m 16 #[.val (.ref a1), .val (.ref a2), .val (.ref a2)] [(.int w_left)]))
  refine OutW.back (fun t k => XS.aloadN X3.here hx rfl (hb hby d3_16) rfl rfl  k) ?_
  show OutW _ _ _ _ _ _ _ (T3.setTop (mkF m 17 #[.val (.ref a1), .val (.ref a2), .val (.ref a2)] [(.ref a2), (.int w_left)]))
  obtain ⟨T4, X4, e4, st4⟩ := getF X3 hx hZ hown (host := "") (Or.inl (hw _ (List.mem_of_getElem? (i := 9) rfl))) Via.refl e3 F_left_a2 (g := (mkF m 17 #[.val (.ref a1), .val (.ref a2), .val (.ref a2)] [(.ref a2), (.int w_left)])) rfl rfl (hb hby d3_17)
  refine OutW.back st4 ?_
  show OutW _ _ _ _ _ _ _ (T4.setTop (mkF m 20 #[.val (.ref a1), .val (.ref a2), .val (.ref a2)] [(.int u_left), (.int w_left)]))
  by_cases c20_5 : w_left = u_left
  · skip
    refine OutW.back (fun t k => XS.icmpNo X4.here hx rfl (hb hby d3_20) rfl (teq c20_5).2 k) ?_
    show OutW _ _ _ _ _ _ _ (T4.setTop (mkF m 23 #[.val (.ref a1), .val (.ref a2), .val (.ref a2)] []))
    refine OutW.back (fun t k => XS.aloadN X4.here hx rfl (hb hby d3_23) rfl rfl  k) ?_
    show OutW _ _ _ _ _ _ _ (T4.setTop (mkF m 24 #[.val (.ref a1), .val (.ref a2), .val (.ref a2)] [(.ref a1)]))
    obtain ⟨T6, X6, e6, st6⟩ := getF X4 hx hZ hown (host := "") (Or.inl (hw _ (List.mem_of_getElem? (i := 11) rfl))) Via.refl e4 F_top_a1 (g := (mkF m 24 #[.val (.ref a1), .val (.ref a2), .val (.ref a2)] [(.ref a1)])) rfl rfl (hb hby d3_24)
    refine OutW.back st6 ?_
    show OutW _ _ _ _ _ _ _ (T6.setTop (mkF m 27 #[.val (.ref a1), .val (.ref a2), .val (.ref a2)] [(.int w_top)]))
    refine OutW.back (fun t k => XS.aloadN X6.here hx rfl (hb hby d3_27) rfl rfl  k) ?_
    show OutW _ _ _ _ _ _ _ (T6.setTop (mkF m 28 #[.val (.ref a1), .val (.ref a2), .val (.ref a2)] [(.ref a2), (.int w_top)]))
    obtain ⟨T7, X7, e7, st7⟩ := getF X6 hx hZ hown (host := "") (Or.inl (hw _ (List.mem_of_getElem? (i := 11) rfl))) Via.refl e6 F_top_a2 (g := (mkF m 28 #[.val (.ref a1), .val (.ref a2), .val (.ref a2)] [(.ref a2), (.int w_top)])) rfl rfl (hb hby d3_28)
    refine OutW.back st7 ?_
    show OutW _ _ _ _ _ _ _ (T7.setTop (mkF m 31 #[.val (.ref a1), .val (.ref a2), .val (.ref a2)] [(.int u_top), (.int w_top)]))
    by_cases c31_8 : w_top = u_top
    · skip
      refine OutW.back (fun t k => XS.icmpNo X7.here hx rfl (hb hby d3_31) rfl (teq c31_8).2 k) ?_
      show OutW _ _ _ _ _ _ _ (T7.setTop (mkF m 34 #[.val (.ref a1), .val (.ref a2), .val (.ref a2)] []))
      refine OutW.back (fun t k => XS.aloadN X7.here hx rfl (hb hby d3_34) rfl rfl  k) ?_
      show OutW _ _ _ _ _ _ _ (T7.setTop (mkF m 35 #[.val (.ref a1), .val (.ref a2), .val (.ref a2)] [(.ref a1)]))
      obtain ⟨T9, X9, e9, st9⟩ := getF X7 hx hZ hown (host := "") (Or.inl (hw _ (List.mem_of_getElem? (i := 13) rfl))) Via.refl e7 F_right_a1 (g := (mkF m 35 #[.val (.ref a1), .val (.ref a2), .val (.ref a2)] [(.ref a1)])) rfl rfl (hb hby d3_35)
      refine OutW.back st9 ?_
      show OutW _ _ _ _ _ _ _ (T9.setTop (mkF m 38 #[.val (.ref a1), .val (.ref a2), .val (.ref a2)] [(.int w_right)]))
      refine OutW.back (fun t k => XS.aloadN X9.here hx rfl (hb hby d3_38) rfl rfl  k) ?_
      show OutW _ _ _ _ _ _ _ (T9.setTop (mkF m 39 #[.val (.ref a1), .val (.ref a2), .val (.ref a2)] [(.ref a2), (.int w_right)]))
      obtain ⟨T10, X10, e10, st10⟩ := getF X9 hx hZ hown (host := "") (Or.inl (hw _ (List.mem_of_getElem? (i := 13) rfl))) Via.refl e9 F_right_a2 (g := (mkF m 39 #[.val (.ref a1), .val (.ref a2), .val (.ref a2)] [(.ref a2), (.int w_right)])) rfl rfl (hb hby d3_39)
      refine OutW.back st10 ?_
      show OutW _ _ _ _ _ _ _ (T10.setTop (mkF m 42 #[.val (.ref a1), .val (.ref a2), .val (.ref a2)] [(.int u_right), (.int w_right)]))
      by_cases c42_11 : w_right = u_right
      · skip
        refine OutW.back (fun t k => XS.icmpNo X10.here hx rfl (hb hby d3_42) rfl (teq c42_11).2 k) ?_
        show OutW _ _ _ _ _ _ _ (T10.setTop (mkF m 45 #[.val (.ref a1), .val (.ref a2), .val (.ref a2)] []))
        refine OutW.back (fun t k => XS.aloadN X10.here hx rfl (hb hby d3_45) rfl rfl  k) ?_
        show OutW _ _ _ _ _ _ _ (T10.setTop (mkF m 46 #[.val (.ref a1), .val (.ref a2), .val (.ref a2)] [(.ref a1)]))
        obtain ⟨T12, X12, e12, st12⟩ := getF X10 hx hZ hown (host := "") (Or.inl (hw _ (List.mem_of_getElem? (i := 15) rfl))) Via.refl e10 F_bottom_a1 (g := (mkF m 46 #[.val (.ref a1), .val (.ref a2), .val (.ref a2)] [(.ref a1)])) rfl rfl (hb hby d3_46)
        refine OutW.back st12 ?_
        show OutW _ _ _ _ _ _ _ (T12.setTop (mkF m 49 #[.val (.ref a1), .val (.ref a2), .val (.ref a2)] [(.int w_bottom)]))
        refine OutW.back (fun t k => XS.aloadN X12.here hx rfl (hb hby d3_49) rfl rfl  k) ?_
        show OutW _ _ _ _ _ _ _ (T12.setTop (mkF m 50 #[.val (.ref a1), .val (.ref a2), .val (.ref a2)] [(.ref a2), (.int w_bottom)]))
        obtain ⟨T13, X13, e13, st13⟩ := getF X12 hx hZ hown (host := "") (Or.inl (hw _ (List.mem_of_getElem? (i := 15) rfl))) Via.refl e12 F_bottom_a2 (g := (mkF m 50 #[.val (.ref a1), .val (.ref a2), .val (.ref a2)] [(.ref a2), (.int w_bottom)])) rfl rfl (hb hby d3_50)
        refine OutW.back st13 ?_
        show OutW _ _ _ _ _ _ _ (T13.setTop (mkF m 53 #[.val (.ref a1), .val (.ref a2), .val (.ref a2)] [(.int u_bottom), (.int w_bottom)]))
        by_cases c53_14 : w_bottom = u_bottom
        · skip
          refine OutW.back (fun t k => XS.icmpNo X13.here hx rfl (hb hby d3_53) rfl (teq c53_14).2 k) ?_
          show OutW _ _ _ _ _ _ _ (T13.setTop (mkF m 56 #[.val (.ref a1), .val (.ref a2), .val (.ref a2)] []))
          refine OutW.back (fun t k => XS.iconst X13.here hx rfl (hb hby d3_56) k) ?_
          show OutW _ _ _ _ _ _ _ (T13.setTop (mkF m 57 #[.val (.ref a1), .val (.ref a2), .val (.ref a2)] [(.int (1 : Int32))]))
          refine OutW.back (fun t k => XS.goto X13.here hx rfl (pc0 := 57) (pc' := 61) rfl (hb hby d3_57) (by decide) (by decide) k) ?_
          show OutW _ _ _ _ _ _ _ (T13.setTop (mkF m 61 #[.val (.ref a1), .val (.ref a2), .val (.ref a2)] [(.int (1 : Int32))]))
          refine OutW.retN X13 hx (t := .boolean) (z' := (1 : Int32)) Bd.returns (by simp) hlk (hb hby d3_61) ?hz (by decide) (by decide) ?_
          case hz =>
            rfl
          show Q3r Z a1 a2 w_left w_top w_right w_bottom u_left u_top u_right u_bottom h0 n0 _ T13.heap _
          rw [e13]
          exact ⟨by rw [eqF, if_pos c20_5, if_pos c31_8, if_pos c42_11, if_pos c53_14], N0, rfl⟩
        · skip
          refine OutW.back (fun t k => XS.icmpYes X13.here hx rfl (pc0 := 53) (pc' := 60) rfl (hb hby d3_53) rfl (feq c53_14).2 (by decide) (by decide) k) ?_
          show OutW _ _ _ _ _ _ _ (T13.setTop (mkF m 60 #[.val (.ref a1), .val (.ref a2), .val (.ref a2)] []))
          refine OutW.back (fun t k => XS.iconst X13.here hx rfl (hb hby d3_60) k) ?_
          show OutW _ _ _ _ _ _ _ (T13.setTop (mkF m 61 #[.val (.ref a1), .val (.ref a2), .val (.ref a2)] [(.int (0 : Int32))]))
          refine OutW.retN X13 hx (t := .boolean) (z' := (0 : Int32)) Bd.returns (by simp) hlk (hb hby d3_61) ?hz (by decide) (by decide) ?_
          case hz =>
            rfl
          show Q3r Z a1 a2 w_left w_top w_right w_bottom u_left u_top u_right u_bottom h0 n0 _ T13.heap _
          rw [e13]
          exact ⟨by rw [eqF, if_pos c20_5, if_pos c31_8, if_pos c42_11, if_neg c53_14], N0, rfl⟩
      · skip
        refine OutW.back (fun t k => XS.icmpYes X10.here hx rfl (pc0 := 42) (pc' := 60) rfl (hb hby d3_42) rfl (feq c42_11).2 (by decide) (by decide) k) ?_
        show OutW _ _ _ _ _ _ _ (T10.setTop (mkF m 60 #[.val (.ref a1), .val (.ref a2), .val (.ref a2)] []))
        refine OutW.back (fun t k => XS.iconst X10.here hx rfl (hb hby d3_60) k) ?_
        show OutW _ _ _ _ _ _ _ (T10.setTop (mkF m 61 #[.val (.ref a1), .val (.ref a2), .val (.ref a2)] [(.int (0 : Int32))]))
        refine OutW.retN X10 hx (t := .boolean) (z' := (0 : Int32)) Bd.returns (by simp) hlk (hb hby d3_61) ?hz (by decide) (by decide) ?_
        case hz =>
          rfl
        show Q3r Z a1 a2 w_left w_top w_right w_bottom u_left u_top u_right u_bottom h0 n0 _ T10.heap _
        rw [e10]
        exact ⟨by rw [eqF, if_pos c20_5, if_pos c31_8, if_neg c42_11], N0, rfl⟩
    · skip
      refine OutW.back (fun t k => XS.icmpYes X7.here hx rfl (pc0 := 31) (pc' := 60) rfl (hb hby d3_31) rfl (feq c31_8).2 (by decide) (by decide) k) ?_
      show OutW _ _ _ _ _ _ _ (T7.setTop (mkF m 60 #[.val (.ref a1), .val (.ref a2), .val (.ref a2)] []))
      refine OutW.back (fun t k => XS.iconst X7.here hx rfl (hb hby d3_60) k) ?_
      show OutW _ _ _ _ _ _ _ (T7.setTop (mkF m 61 #[.val (.ref a1), .val (.ref a2), .val (.ref a2)] [(.int (0 : Int32))]))
      refine OutW.retN X7 hx (t := .boolean) (z' := (0 : Int32)) Bd.returns (by simp) hlk (hb hby d3_61) ?hz (by decide) (by decide) ?_
      case hz =>
        rfl
      show Q3r Z a1 a2 w_left w_top w_right w_bottom u_left u_top u_right u_bottom h0 n0 _ T7.heap _
      rw [e7]
      exact ⟨by rw [eqF, if_pos c20_5, if_neg c31_8], N0, rfl⟩
  · skip
    refine OutW.back (fun t k => XS.icmpYes X4.here hx rfl (pc0 := 20) (pc' := 60) rfl (hb hby d3_20) rfl (feq c20_5).2 (by decide) (by decide) k) ?_
    show OutW _ _ _ _ _ _ _ (T4.setTop (mkF m 60 #[.val (.ref a1), .val (.ref a2), .val (.ref a2)] []))
    refine OutW.back (fun t k => XS.iconst X4.here hx rfl (hb hby d3_60) k) ?_
    show OutW _ _ _ _ _ _ _ (T4.setTop (mkF m 61 #[.val (.ref a1), .val (.ref a2), .val (.ref a2)] [(.int (0 : Int32))]))
    refine OutW.retN X4 hx (t := .boolean) (z' := (0 : Int32)) Bd.returns (by simp) hlk (hb hby d3_61) ?hz (by decide) (by decide) ?_
    case hz =>
      rfl
    show Q3r Z a1 a2 w_left w_top w_right w_bottom u_left u_top u_right u_bottom h0 n0 _ T4.heap _
    rw [e4]
    exact ⟨by rw [eqF, if_neg c20_5], N0, rfl⟩
theorem d6_0 : decode jdk_18_method_1_code 0 = .ok (.aload_n 0, 1) := by decide +kernel
theorem d6_1 : decode jdk_18_method_1_code 1 = .ok (.invokespecial 1, 3) := by decide +kernel
theorem d6_4 : decode jdk_18_method_1_code 4 = .ok (.return_, 1) := by decide +kernel
theorem pn_6 : plainName "java/lang/Number" = true := by first | (simp [plainName, overriddenIn]; done) | decide +kernel
theorem ef_6 (m : MethodId) (x0 : Addr) : entryFrame m #[(.ref x0)] 1 = mkF m 0 #[.val (.ref x0)] [] := by first | (simp [entryFrame, mkF, argsToLocals, Value.category]; done) | rfl
def Q6 (Z : State) (a1 : Addr)  (h0 : Heap) (n0 : Nat) (v : Option Value) (h : Heap) (L : List Loc) : Prop := v = none ∧ Fr n0 L ∧ h = h0
set_option maxRecDepth 65536 in
set_option maxHeartbeats 40000000 in
theorem rm6 (l : Launch) (Z : State) (a0 : Array Value) (hw : ∀ d ∈ tables_1, d.before a0 Z = true) (ws : List Jvm.Cond) (a1 : Addr)  (h0 : Heap) (n0 : Nat) (Z0 : n0 ≤ h0.size) :
    MetFree l (⟨"java/lang/Number", "<init>", "()V"⟩ : MethodName) (head1 (Jvm.Cond.code (⟨"java/lang/Number", "<init>", "()V"⟩ : MethodName) jdk_18_method_1_code 1 none :: ws) ({ frames := 1, cells := 0, slots := 0, locals := 12 } : Room)) (fun a U => a = #[(.ref a1)] ∧ Z.Warmed39 U.vm ∧ U.heap = h0) (fun _ _ _ _ _ => True) (fun _ U o U' => ∃ v L, o = .returned v ∧ Q6 Z a1 h0 n0 v U'.heap L ∧ FrameEnd U o U' L ({ frames := 1, cells := 0, slots := 0, locals := 12 } : Room).cells ({ frames := 1, cells := 0, slots := 0, locals := 12 } : Room).slots) := by
  refine MetFree.of_bodySF (plainFor_of_name pn_6) hisR ?_
  intro p e s m args below meth c s₁ Bd hml0 hP hK
  obtain ⟨rfl, hZ, hh⟩ := hP
  have hx := Bd.exec
  have hby := Bd.bytes
  have hlk := Bd.notSynchronized
  have hml : c.maxLocals = 1 := hml0
  have hown : s.vm.findClass "java/lang/Number" = some m.cls := findClass_of_methodNamed Bd.named
  have hnm := (name_of_methodNamed Bd.named Bd.method).1
  have X0 : Stand p l e ({ frames := 1, cells := 0, slots := 0, locals := 12 } : Room) s m #[(.ref a1)] below meth c s₁ [] 0 0 := Stand.of_body Bd
  have e0 : s₁.heap = h0 := by rw [← hh, Bd.state]; rfl
  have N0 := Fr.nil n0
  have K0 : Keep h0 h0 [] := Keep.refl h0 _
  show OutW p e below s ({ frames := 1, cells := 0, slots := 0, locals := 12 } : Room).cells ({ frames := 1, cells := 0, slots := 0, locals := 12 } : Room).slots (Q6 Z a1 h0 n0) _
  refine OutW.back (fun t k => castTop (ef_6 m a1) k) ?_
  show OutW _ _ _ _ _ _ _ (s₁.setTop (mkF m 0 #[.val (.ref a1)] []))
  refine OutW.back (fun t k => XS.aloadN X0.here hx rfl (hb hby d6_0) rfl rfl  k) ?_
  show OutW _ _ _ _ _ _ _ (s₁.setTop (mkF m 1 #[.val (.ref a1)] [(.ref a1)]))
  obtain ⟨T1, X1, e1, st1⟩ := initO X0 hx hZ hown (hw _ (List.mem_of_getElem? (i := 40) rfl)) (hw _ (List.mem_of_getElem? (i := 7) rfl)) (hw _ (List.mem_of_getElem? (i := 8) rfl)) e0 (g := (mkF m 1 #[.val (.ref a1)] [(.ref a1)])) rfl (by rw [hml]; rfl) rfl (hb hby d6_1) (by decide) (W := 0) (by show 2 * 0 + _ ≤ _; exact Nat.le_of_eq rfl) (by decide)
  refine OutW.back st1 ?_
  show OutW _ _ _ _ _ _ _ (T1.setTop (mkF m 4 #[.val (.ref a1)] []))
  refine OutW.retV X1 hx Bd.returns hlk (hb hby d6_4) (by decide) (by decide) ?_
  show Q6 Z a1 h0 n0 _ T1.heap _
  rw [e1]
  exact ⟨rfl, N0, rfl⟩
theorem pd_0 : parseMethodDescriptor "()V" = some ⟨[], none⟩ := by decide +kernel
theorem d5_0 : decode jdk_33_method_23_code 0 = .ok (.aload_n 0, 1) := by decide +kernel
theorem d5_1 : decode jdk_33_method_23_code 1 = .ok (.invokespecial 202, 3) := by decide +kernel
theorem d5_4 : decode jdk_33_method_23_code 4 = .ok (.aload_n 0, 1) := by decide +kernel
theorem d5_5 : decode jdk_33_method_23_code 5 = .ok (.iload_n 1, 1) := by decide +kernel
theorem d5_6 : decode jdk_33_method_23_code 6 = .ok (.putfield 205, 3) := by decide +kernel
theorem d5_9 : decode jdk_33_method_23_code 9 = .ok (.return_, 1) := by decide +kernel
theorem pn_5 : plainName "java/lang/Integer" = true := by first | (simp [plainName, overriddenIn]; done) | decide +kernel
theorem ef_5 (m : MethodId) (x0 : Addr) (x1 : Int32) : entryFrame m #[(.ref x0), (.int x1)] 2 = mkF m 0 #[.val (.ref x0), .val (.int x1)] [] := by first | (simp [entryFrame, mkF, argsToLocals, Value.category]; done) | rfl
def Q5 (Z : State) (a1 : Addr) (p2 : Int32)  (h0 : Heap) (n0 : Nat) (v : Option Value) (h : Heap) (L : List Loc) : Prop := v = none ∧ Fr n0 L ∧ Keep h0 h [a1] ∧ Fld Z h a1 "java/lang/Integer" "value" "I" (.int p2)
set_option maxRecDepth 65536 in
set_option maxHeartbeats 40000000 in
theorem rm5 (l : Launch) (Z : State) (a0 : Array Value) (hw : ∀ d ∈ tables_1, d.before a0 Z = true) (ws : List Jvm.Cond) (a1 : Addr) (p2 : Int32)  (h0 : Heap) (n0 : Nat) (Z0 : n0 ≤ h0.size) (E_a1 : Exa Z h0 a1 "java/lang/Integer") (g_a1 : n0 ≤ a1) (F_value_a1 : Fld Z h0 a1 "java/lang/Integer" "value" "I" (.int (0 : Int32))) :
    MetFree l (⟨"java/lang/Integer", "<init>", "(I)V"⟩ : MethodName) (head1 (Jvm.Cond.code (⟨"java/lang/Integer", "<init>", "(I)V"⟩ : MethodName) jdk_33_method_23_code 2 none :: ws) ({ frames := 2, cells := 0, slots := 0, locals := 24 } : Room)) (fun a U => a = #[(.ref a1), (.int p2)] ∧ Z.Warmed39 U.vm ∧ U.heap = h0) (fun _ _ _ _ _ => True) (fun _ U o U' => ∃ v L, o = .returned v ∧ Q5 Z a1 p2 h0 n0 v U'.heap L ∧ FrameEnd U o U' L ({ frames := 2, cells := 0, slots := 0, locals := 24 } : Room).cells ({ frames := 2, cells := 0, slots := 0, locals := 24 } : Room).slots) := by
  refine MetFree.of_bodySF (plainFor_of_name pn_5) hisR ?_
  intro p e s m args below meth c s₁ Bd hml0 hP hK
  obtain ⟨rfl, hZ, hh⟩ := hP
  have hx := Bd.exec
  have hby := Bd.bytes
  have hlk := Bd.notSynchronized
  have hml : c.maxLocals = 2 := hml0
  have hown : s.vm.findClass "java/lang/Integer" = some m.cls := findClass_of_methodNamed Bd.named
  have hnm := (name_of_methodNamed Bd.named Bd.method).1
  have X0 : Stand p l e ({ frames := 2, cells := 0, slots := 0, locals := 24 } : Room) s m #[(.ref a1), (.int p2)] below meth c s₁ [] 0 0 := Stand.of_body Bd
  have e0 : s₁.heap = h0 := by rw [← hh, Bd.state]; rfl
  have N0 := Fr.nil n0
  have K0 : Keep h0 h0 [a1] := Keep.refl h0 _
  show OutW p e below s ({ frames := 2, cells := 0, slots := 0, locals := 24 } : Room).cells ({ frames := 2, cells := 0, slots := 0, locals := 24 } : Room).slots (Q5 Z a1 p2 h0 n0) _
  refine OutW.back (fun t k => castTop (ef_5 m a1 p2) k) ?_
  show OutW _ _ _ _ _ _ _ (s₁.setTop (mkF m 0 #[.val (.ref a1), .val (.int p2)] []))
  refine OutW.back (fun t k => XS.aloadN X0.here hx rfl (hb hby d5_0) rfl rfl  k) ?_
  show OutW _ _ _ _ _ _ _ (s₁.setTop (mkF m 1 #[.val (.ref a1), .val (.int p2)] [(.ref a1)]))
  obtain ⟨_, _, ⟨T1, L1, k1, n1⟩, -, X1, ⟨Lc1, hQ1, l1, y1, z1⟩, st1⟩ := X0.specialBack hx (y := (⟨"java/lang/Number", "<init>", "()V"⟩ : MethodName)) rfl hown (mvT hZ (hw _ (List.mem_of_getElem? (i := 34) rfl))) (mvT hZ (hw _ (List.mem_of_getElem? (i := 35) rfl))) (mvT hZ (hw _ (List.mem_of_getElem? (i := 39) rfl))) (by decide) (backOf (W := 0) (rm6 l Z a0 hw [] a1 h0 n0 Z0 ) hZ (hw _ (List.mem_of_getElem? (i := 39) rfl)) (hw _ (List.mem_of_getElem? (i := 38) rfl)) (by decide) (by decide)) (g := (mkF m 1 #[.val (.ref a1), .val (.int p2)] [(.ref a1)])) rfl (by rw [hml]; rfl) (Steps.refl _) (a := a1) (argsL := []) (rest := []) (lenOf pd_0 rfl) rfl (by show 2 * 0 + _ ≤ _; exact Nat.le_of_eq rfl) (hb hby d5_1) (fun _ _ => ⟨rfl, e0, (by decide : 0 + 0 ≤ _), (by decide : 0 + 0 ≤ _)⟩)
  dsimp only [Pt.U, Pt.locs, Pt.cells, Pt.slots] at X1 l1 y1 z1 st1 hQ1
  subst l1 y1 z1
  obtain ⟨rfl, Nq1, e1⟩ := hQ1
  have N1 := Fr.app N0 Nq1
  refine OutW.via st1 ?_
  show OutW _ _ _ _ _ _ _ (T1.setTop (mkF m 4 #[.val (.ref a1), .val (.int p2)] []))
  refine OutW.back (fun t k => XS.aloadN X1.here hx rfl (hb hby d5_4) rfl rfl  k) ?_
  show OutW _ _ _ _ _ _ _ (T1.setTop (mkF m 5 #[.val (.ref a1), .val (.int p2)] [(.ref a1)]))
  refine OutW.back (fun t k => XS.iloadN X1.here hx rfl (hb hby d5_5) rfl  k) ?_
  show OutW _ _ _ _ _ _ _ (T1.setTop (mkF m 6 #[.val (.ref a1), .val (.int p2)] [(.int p2), (.ref a1)]))
  obtain ⟨T2, h2, X2, e2, W2, st2⟩ := putF X1 hx hZ hown (host := "") (Or.inl (hw _ (List.mem_of_getElem? (i := 41) rfl))) Via.refl e1 F_value_a1 E_a1 (Or.inr ⟨(hw _ (List.mem_of_getElem? (i := 42) rfl)), rfl, hnm⟩) (hw _ (List.mem_of_getElem? (i := 29) rfl)) (ty := .int) (by decide) rfl rfl (g := (mkF m 6 #[.val (.ref a1), .val (.int p2)] [(.int p2), (.ref a1)])) rfl rfl (hb hby d5_6)
  have E_a1 := E_a1.wr W2
  have F_value_a1 := F_value_a1.same W2
  have N2 := Fr.snoc X2 N1 g_a1
  have Z2 : n0 ≤ h2.size := Nat.le_trans Z0 (Keep.of_wr W2).1
  have K2 := K0.wr W2 (Or.inl (List.mem_of_getElem? (i := 0) rfl))
  refine OutW.back st2 ?_
  show OutW _ _ _ _ _ _ _ (T2.setTop (mkF m 9 #[.val (.ref a1), .val (.int p2)] []))
  refine OutW.retV X2 hx Bd.returns hlk (hb hby d5_9) (by decide) (by decide) ?_
  show Q5 Z a1 p2 h0 n0 _ T2.heap _
  rw [e2]
  exact ⟨rfl, N2, K2, F_value_a1⟩
theorem pd_1 : parseMethodDescriptor "(I)V" = some ⟨[.int], none⟩ := by decide +kernel
theorem d4_0 : decode jdk_33_method_22_code 0 = .ok (.iload_n 0, 1) := by decide +kernel
theorem d4_1 : decode jdk_33_method_22_code 1 = .ok (.bipush (-128), 2) := by decide +kernel
theorem d4_3 : decode jdk_33_method_22_code 3 = .ok (.if_icmp .lt 20, 3) := by decide +kernel
theorem d4_6 : decode jdk_33_method_22_code 6 = .ok (.iload_n 0, 1) := by decide +kernel
theorem d4_7 : decode jdk_33_method_22_code 7 = .ok (.getstatic 191, 3) := by decide +kernel
theorem d4_10 : decode jdk_33_method_22_code 10 = .ok (.if_icmp .gt 13, 3) := by decide +kernel
theorem d4_13 : decode jdk_33_method_22_code 13 = .ok (.getstatic 195, 3) := by decide +kernel
theorem d4_16 : decode jdk_33_method_22_code 16 = .ok (.iload_n 0, 1) := by decide +kernel
theorem d4_17 : decode jdk_33_method_22_code 17 = .ok (.sipush 128, 3) := by decide +kernel
theorem d4_20 : decode jdk_33_method_22_code 20 = .ok (.iadd, 1) := by decide +kernel
theorem d4_21 : decode jdk_33_method_22_code 21 = .ok (.aaload, 1) := by decide +kernel
theorem d4_22 : decode jdk_33_method_22_code 22 = .ok (.areturn, 1) := by decide +kernel
theorem d4_23 : decode jdk_33_method_22_code 23 = .ok (.new 1, 3) := by decide +kernel
theorem d4_26 : decode jdk_33_method_22_code 26 = .ok (.dup, 1) := by decide +kernel
theorem d4_27 : decode jdk_33_method_22_code 27 = .ok (.iload_n 0, 1) := by decide +kernel
theorem d4_28 : decode jdk_33_method_22_code 28 = .ok (.invokespecial 199, 3) := by decide +kernel
theorem d4_31 : decode jdk_33_method_22_code 31 = .ok (.areturn, 1) := by decide +kernel
theorem pn_4 : plainName "java/lang/Integer" = true := by first | (simp [plainName, overriddenIn]; done) | decide +kernel
theorem ef_4 (m : MethodId) (x0 : Int32) : entryFrame m #[(.int x0)] 1 = mkF m 0 #[.val (.int x0)] [] := by first | (simp [entryFrame, mkF, argsToLocals, Value.category]; done) | rfl
def Q4 (Z : State) (p1 : Int32) (cc : Addr) (clC : Cell) (h0 : Heap) (n0 : Nat) (v : Option Value) (h : Heap) (L : List Loc) : Prop := ∃ bN : Addr, v = some (.ref bN) ∧ Fr n0 L ∧ Keep h0 h [] ∧ Exa Z h bN "java/lang/Integer"
set_option maxRecDepth 65536 in
set_option maxHeartbeats 40000000 in
theorem rm4 (l : Launch) (Z : State) (a0 : Array Value) (hw : ∀ d ∈ tables_1, d.before a0 Z = true) (ws : List Jvm.Cond) (p1 : Int32) (cc : Addr) (clC : Cell) (h0 : Heap) (n0 : Nat) (Z0 : n0 ≤ h0.size) (S_high : Sta Z h0 "java/lang/Integer$IntegerCache" "high" "I" (.int (127 : Int32))) (S_cache : Sta Z h0 "java/lang/Integer$IntegerCache" "cache" "[Ljava/lang/Integer;" (.ref cc)) (A_cc : Arr Z h0 cc clC (.object "java/lang/Integer")) (U_cc : Els Z h0 clC "java/lang/Integer") (hsz : clC.slots.size = 256) :
    MetFree l (⟨"java/lang/Integer", "valueOf", "(I)Ljava/lang/Integer;"⟩ : MethodName) (head1 (Jvm.Cond.code (⟨"java/lang/Integer", "valueOf", "(I)Ljava/lang/Integer;"⟩ : MethodName) jdk_33_method_22_code 1 (some (.object "java/lang/Integer")) :: ws) ({ frames := 3, cells := 1, slots := 1, locals := 38 } : Room)) (fun a U => a = #[(.int p1)] ∧ Z.Warmed39 U.vm ∧ U.heap = h0) (fun _ _ _ _ _ => True) (fun _ U o U' => ∃ v L, o = .returned v ∧ Q4 Z p1 cc clC h0 n0 v U'.heap L ∧ FrameEnd U o U' L ({ frames := 3, cells := 1, slots := 1, locals := 38 } : Room).cells ({ frames := 3, cells := 1, slots := 1, locals := 38 } : Room).slots) := by
  refine MetFree.of_bodySF (plainFor_of_name pn_4) hisR ?_
  intro p e s m args below meth c s₁ Bd hml0 hP hK
  obtain ⟨rfl, hZ, hh⟩ := hP
  have hx := Bd.exec
  have hby := Bd.bytes
  have hlk := Bd.notSynchronized
  have hml : c.maxLocals = 1 := hml0
  have hown : s.vm.findClass "java/lang/Integer" = some m.cls := findClass_of_methodNamed Bd.named
  have hnm := (name_of_methodNamed Bd.named Bd.method).1
  have X0 : Stand p l e ({ frames := 3, cells := 1, slots := 1, locals := 38 } : Room) s m #[(.int p1)] below meth c s₁ [] 0 0 := Stand.of_body Bd
  have e0 : s₁.heap = h0 := by rw [← hh, Bd.state]; rfl
  have N0 := Fr.nil n0
  have K0 : Keep h0 h0 [] := Keep.refl h0 _
  show OutW p e below s ({ frames := 3, cells := 1, slots := 1, locals := 38 } : Room).cells ({ frames := 3, cells := 1, slots := 1, locals := 38 } : Room).slots (Q4 Z p1 cc clC h0 n0) _
  refine OutW.back (fun t k => castTop (ef_4 m p1) k) ?_
  show OutW _ _ _ _ _ _ _ (s₁.setTop (mkF m 0 #[.val (.int p1)] []))
  refine OutW.back (fun t k => XS.iloadN X0.here hx rfl (hb hby d4_0) rfl  k) ?_
  show OutW _ _ _ _ _ _ _ (s₁.setTop (mkF m 1 #[.val (.int p1)] [(.int p1)]))
  refine OutW.back (fun t k => XS.bipush X0.here hx rfl (hb hby d4_1) k) ?_
  show OutW _ _ _ _ _ _ _ (s₁.setTop (mkF m 3 #[.val (.int p1)] [(.int (-128 : Int32)), (.int p1)]))
  by_cases c3_1 : p1 < (-128 : Int32)
  · skip
    refine OutW.back (fun t k => XS.icmpYes X0.here hx rfl (pc0 := 3) (pc' := 23) rfl (hb hby d4_3) rfl (tlt c3_1).1 (by decide) (by decide) k) ?_
    show OutW _ _ _ _ _ _ _ (s₁.setTop (mkF m 23 #[.val (.int p1)] []))
    obtain ⟨T2, h2, X2, e2, E2, A2, D2, -, st2⟩ := newO X0 hx hZ hown (hw _ (List.mem_of_getElem? (i := 28) rfl)) (hw _ (List.mem_of_getElem? (i := 29) rfl)) (hw _ (List.mem_of_getElem? (i := 26) rfl)) e0 (g := (mkF m 23 #[.val (.int p1)] [])) rfl (hb hby d4_23) (by decide) (by decide)
    obtain ⟨b2, g2⟩ : ∃ z, z = h0.size := ⟨_, rfl⟩
    rw [← g2] at A2 D2 st2
    have ne_cc_b2 : cc ≠ b2 := Nat.ne_of_lt (Nat.lt_of_lt_of_le A_cc.lt (Nat.le_of_eq g2.symm))
    have g_b2 : n0 ≤ b2 := Nat.le_trans Z0 (Nat.le_of_eq g2.symm)
    have sz_b2 : h0.size ≤ b2 := Nat.le_trans K0.1 (Nat.le_of_eq g2.symm)
    have S_high := S_high.ext E2
    have S_cache := S_cache.ext E2
    have A_cc := A_cc.ext E2
    have U_cc := own_Uext U_cc E2
    have Z2 : n0 ≤ h2.size := Nat.le_trans Z0 E2.1
    have K2 := K0.ext E2
    have E_b2 := A2
    have F_value_b2 : Fld Z h2 b2 "java/lang/Integer" "value" "I" (.int (0 : Int32)) := D2 (Or.inr (hw _ (List.mem_of_getElem? (i := 42) rfl))) (ty := .int) (by decide)
    refine OutW.back st2 ?_
    show OutW _ _ _ _ _ _ _ (T2.setTop (mkF m 26 #[.val (.int p1)] [(.ref b2)]))
    refine OutW.back (fun t k => XS.dup X2.here hx rfl (hb hby d4_26) rfl rfl k) ?_
    show OutW _ _ _ _ _ _ _ (T2.setTop (mkF m 27 #[.val (.int p1)] [(.ref b2), (.ref b2)]))
    refine OutW.back (fun t k => XS.iloadN X2.here hx rfl (hb hby d4_27) rfl  k) ?_
    show OutW _ _ _ _ _ _ _ (T2.setTop (mkF m 28 #[.val (.int p1)] [(.int p1), (.ref b2), (.ref b2)]))
    obtain ⟨_, _, ⟨T3, L3, k3, n3⟩, -, X3, ⟨Lc3, hQ3, l3, y3, z3⟩, st3⟩ := X2.specialBack hx (y := (⟨"java/lang/Integer", "<init>", "(I)V"⟩ : MethodName)) rfl hown (mvT hZ (hw _ (List.mem_of_getElem? (i := 30) rfl))) (mvT hZ (hw _ (List.mem_of_getElem? (i := 31) rfl))) (mvT hZ (hw _ (List.mem_of_getElem? (i := 33) rfl))) (by decide) (backOf (W := 1) (rm5 l Z a0 hw [] b2 p1 h2 n0 Z2 E_b2 g_b2 F_value_b2) hZ (hw _ (List.mem_of_getElem? (i := 33) rfl)) (hw _ (List.mem_of_getElem? (i := 26) rfl)) (by decide) (by decide)) (g := (mkF m 28 #[.val (.int p1)] [(.int p1), (.ref b2), (.ref b2)])) rfl (by rw [hml]; rfl) (Steps.refl _) (a := b2) (argsL := [(.int p1)]) (rest := [(.ref b2)]) (lenOf pd_1 rfl) rfl (by show 2 * 0 + _ ≤ _; exact Nat.le_of_eq rfl) (hb hby d4_28) (fun _ _ => ⟨rfl, e2, (by decide : 1 + 0 ≤ _), (by decide : 1 + 0 ≤ _)⟩)
    dsimp only [Pt.U, Pt.locs, Pt.cells, Pt.slots] at X3 l3 y3 z3 st3 hQ3
    subst l3 y3 z3
    obtain ⟨h3, eh3⟩ : ∃ z, z = T3.heap := ⟨_, rfl⟩
    rw [← eh3] at hQ3
    have e3 : T3.heap = h3 := eh3.symm
    obtain ⟨rfl, Nq3, Kq3, F_value_b2⟩ := hQ3
    have S_high := own_keepS S_high Kq3 (allS ⟨_, E_b2⟩ all0)
    have S_cache := own_keepS S_cache Kq3 (allS ⟨_, E_b2⟩ all0)
    have A_cc := own_Akeep A_cc Kq3 (ninS ne_cc_b2 nin0)
    have U_cc := own_Ukeep U_cc Kq3
    have E_b2 := E_b2.keep Kq3
    have Z3 : n0 ≤ h3.size := Nat.le_trans Z2 Kq3.1
    have K3 := K2.trans Kq3 (allS (Or.inr sz_b2) all0)
    have N3 := Fr.app N0 Nq3
    refine OutW.via st3 ?_
    show OutW _ _ _ _ _ _ _ (T3.setTop (mkF m 31 #[.val (.int p1)] [(.ref b2)]))
    refine OutW.retA X3 hx Bd.returns rfl rfl hlk (hb hby d4_31) (by decide) (by decide) ?_
    show Q4 Z p1 cc clC h0 n0 _ T3.heap _
    rw [e3]
    exact ⟨b2, rfl, N3, K3, E_b2⟩
  · skip
    refine OutW.back (fun t k => XS.icmpNo X0.here hx rfl (hb hby d4_3) rfl (flt c3_1).1 k) ?_
    show OutW _ _ _ _ _ _ _ (s₁.setTop (mkF m 6 #[.val (.int p1)] []))
    refine OutW.back (fun t k => XS.iloadN X0.here hx rfl (hb hby d4_6) rfl  k) ?_
    show OutW _ _ _ _ _ _ _ (s₁.setTop (mkF m 7 #[.val (.int p1)] [(.int p1)]))
    obtain ⟨T4, X4, e4, st4⟩ := getS2 X0 hx hZ hown (host := "") (Or.inl (hw _ (List.mem_of_getElem? (i := 46) rfl))) Via.refl e0 S_high (g := (mkF m 7 #[.val (.int p1)] [(.int p1)])) rfl (hb hby d4_7)
    refine OutW.back st4 ?_
    show OutW _ _ _ _ _ _ _ (T4.setTop (mkF m 10 #[.val (.int p1)] [(.int (127 : Int32)), (.int p1)]))
    by_cases c10_5 : (127 : Int32) < p1
    · skip
      refine OutW.back (fun t k => XS.icmpYes X4.here hx rfl (pc0 := 10) (pc' := 23) rfl (hb hby d4_10) rfl (tlt c10_5).2.2.1 (by decide) (by decide) k) ?_
      show OutW _ _ _ _ _ _ _ (T4.setTop (mkF m 23 #[.val (.int p1)] []))
      obtain ⟨T6, h6, X6, e6, E6, A6, D6, -, st6⟩ := newO X4 hx hZ hown (hw _ (List.mem_of_getElem? (i := 28) rfl)) (hw _ (List.mem_of_getElem? (i := 29) rfl)) (hw _ (List.mem_of_getElem? (i := 26) rfl)) e4 (g := (mkF m 23 #[.val (.int p1)] [])) rfl (hb hby d4_23) (by decide) (by decide)
      obtain ⟨b6, g6⟩ : ∃ z, z = h0.size := ⟨_, rfl⟩
      rw [← g6] at A6 D6 st6
      have ne_cc_b6 : cc ≠ b6 := Nat.ne_of_lt (Nat.lt_of_lt_of_le A_cc.lt (Nat.le_of_eq g6.symm))
      have g_b6 : n0 ≤ b6 := Nat.le_trans Z0 (Nat.le_of_eq g6.symm)
      have sz_b6 : h0.size ≤ b6 := Nat.le_trans K0.1 (Nat.le_of_eq g6.symm)
      have S_high := S_high.ext E6
      have S_cache := S_cache.ext E6
      have A_cc := A_cc.ext E6
      have U_cc := own_Uext U_cc E6
      have Z6 : n0 ≤ h6.size := Nat.le_trans Z0 E6.1
      have K6 := K0.ext E6
      have E_b6 := A6
      have F_value_b6 : Fld Z h6 b6 "java/lang/Integer" "value" "I" (.int (0 : Int32)) := D6 (Or.inr (hw _ (List.mem_of_getElem? (i := 42) rfl))) (ty := .int) (by decide)
      refine OutW.back st6 ?_
      show OutW _ _ _ _ _ _ _ (T6.setTop (mkF m 26 #[.val (.int p1)] [(.ref b6)]))
      refine OutW.back (fun t k => XS.dup X6.here hx rfl (hb hby d4_26) rfl rfl k) ?_
      show OutW _ _ _ _ _ _ _ (T6.setTop (mkF m 27 #[.val (.int p1)] [(.ref b6), (.ref b6)]))
      refine OutW.back (fun t k => XS.iloadN X6.here hx rfl (hb hby d4_27) rfl  k) ?_
      show OutW _ _ _ _ _ _ _ (T6.setTop (mkF m 28 #[.val (.int p1)] [(.int p1), (.ref b6), (.ref b6)]))
      obtain ⟨_, _, ⟨T7, L7, k7, n7⟩, -, X7, ⟨Lc7, hQ7, l7, y7, z7⟩, st7⟩ := X6.specialBack hx (y := (⟨"java/lang/Integer", "<init>", "(I)V"⟩ : MethodName)) rfl hown (mvT hZ (hw _ (List.mem_of_getElem? (i := 30) rfl))) (mvT hZ (hw _ (List.mem_of_getElem? (i := 31) rfl))) (mvT hZ (hw _ (List.mem_of_getElem? (i := 33) rfl))) (by decide) (backOf (W := 1) (rm5 l Z a0 hw [] b6 p1 h6 n0 Z6 E_b6 g_b6 F_value_b6) hZ (hw _ (List.mem_of_getElem? (i := 33) rfl)) (hw _ (List.mem_of_getElem? (i := 26) rfl)) (by decide) (by decide)) (g := (mkF m 28 #[.val (.int p1)] [(.int p1), (.ref b6), (.ref b6)])) rfl (by rw [hml]; rfl) (Steps.refl _) (a := b6) (argsL := [(.int p1)]) (rest := [(.ref b6)]) (lenOf pd_1 rfl) rfl (by show 2 * 0 + _ ≤ _; exact Nat.le_of_eq rfl) (hb hby d4_28) (fun _ _ => ⟨rfl, e6, (by decide : 1 + 0 ≤ _), (by decide : 1 + 0 ≤ _)⟩)
      dsimp only [Pt.U, Pt.locs, Pt.cells, Pt.slots] at X7 l7 y7 z7 st7 hQ7
      subst l7 y7 z7
      obtain ⟨h7, eh7⟩ : ∃ z, z = T7.heap := ⟨_, rfl⟩
      rw [← eh7] at hQ7
      have e7 : T7.heap = h7 := eh7.symm
      obtain ⟨rfl, Nq7, Kq7, F_value_b6⟩ := hQ7
      have S_high := own_keepS S_high Kq7 (allS ⟨_, E_b6⟩ all0)
      have S_cache := own_keepS S_cache Kq7 (allS ⟨_, E_b6⟩ all0)
      have A_cc := own_Akeep A_cc Kq7 (ninS ne_cc_b6 nin0)
      have U_cc := own_Ukeep U_cc Kq7
      have E_b6 := E_b6.keep Kq7
      have Z7 : n0 ≤ h7.size := Nat.le_trans Z6 Kq7.1
      have K7 := K6.trans Kq7 (allS (Or.inr sz_b6) all0)
      have N7 := Fr.app N0 Nq7
      refine OutW.via st7 ?_
      show OutW _ _ _ _ _ _ _ (T7.setTop (mkF m 31 #[.val (.int p1)] [(.ref b6)]))
      refine OutW.retA X7 hx Bd.returns rfl rfl hlk (hb hby d4_31) (by decide) (by decide) ?_
      show Q4 Z p1 cc clC h0 n0 _ T7.heap _
      rw [e7]
      exact ⟨b6, rfl, N7, K7, E_b6⟩
    · skip
      refine OutW.back (fun t k => XS.icmpNo X4.here hx rfl (hb hby d4_10) rfl (flt c10_5).2.2.1 k) ?_
      show OutW _ _ _ _ _ _ _ (T4.setTop (mkF m 13 #[.val (.int p1)] []))
      obtain ⟨T8, X8, e8, st8⟩ := getS2 X4 hx hZ hown (host := "") (Or.inl (hw _ (List.mem_of_getElem? (i := 48) rfl))) Via.refl e4 S_cache (g := (mkF m 13 #[.val (.int p1)] [])) rfl (hb hby d4_13)
      refine OutW.back st8 ?_
      show OutW _ _ _ _ _ _ _ (T8.setTop (mkF m 16 #[.val (.int p1)] [(.ref cc)]))
      refine OutW.back (fun t k => XS.iloadN X8.here hx rfl (hb hby d4_16) rfl  k) ?_
      show OutW _ _ _ _ _ _ _ (T8.setTop (mkF m 17 #[.val (.int p1)] [(.int p1), (.ref cc)]))
      refine OutW.back (fun t k => XS.sipush X8.here hx rfl (hb hby d4_17) k) ?_
      show OutW _ _ _ _ _ _ _ (T8.setTop (mkF m 20 #[.val (.int p1)] [(.int (128 : Int32)), (.int p1), (.ref cc)]))
      refine OutW.back (fun t k => XS.iadd X8.here hx rfl (hb hby d4_20) rfl k) ?_
      show OutW _ _ _ _ _ _ _ (T8.setTop (mkF m 21 #[.val (.int p1)] [(.int (p1 + (128 : Int32))), (.ref cc)]))
      have hin := own_place p1 c3_1 c10_5 hsz
      obtain ⟨yy, hyy, E_yy⟩ := U_cc _ hin
      refine OutW.back (X8.aaload hx (j := (p1 + (128 : Int32))) (v := .ref yy) (by rw [e8]; exact A_cc.1) (State.isArrayOf_alike hZ.alike A_cc.2.1) rfl A_cc.2.2 hin hyy (g := (mkF m 21 #[.val (.int p1)] [(.int (p1 + (128 : Int32))), (.ref cc)])) rfl rfl (hb hby d4_21)) ?_
      show OutW _ _ _ _ _ _ _ (T8.setTop (mkF m 22 #[.val (.int p1)] [(.ref yy)]))
      refine OutW.retA X8 hx Bd.returns rfl rfl hlk (hb hby d4_22) (by decide) (by decide) ?_
      show Q4 Z p1 cc clC h0 n0 _ T8.heap _
      rw [e8]
      exact ⟨yy, rfl, N0, K0, E_yy⟩
theorem own_eq (l t r b d s l2 t2 r2 b2 ex : Int32) (h1 : l2 = (if (s &&& (1 : Int32)) = (0 : Int32) then l else (l + d))) (h2 : t2 = (if (s &&& (2 : Int32)) = (0 : Int32) then t else (t + d))) (h3 : r2 = (if (s &&& (4 : Int32)) = (0 : Int32) then r else (r + d))) (h4 : b2 = (if (s &&& (8 : Int32)) = (0 : Int32) then b else (b + d)))
    (h5 : ex = (if (s &&& (15 : Int32)) = (0 : Int32) then (1 : Int32) else (if d = (0 : Int32) then (1 : Int32) else (0 : Int32)))) : eqF l t r b l2 t2 r2 b2 = ex ∧ eqF l2 t2 r2 b2 l t r b = ex := by
  have add : ∀ x : Int32, (x = x + d) ↔ d = 0 := fun x => by
    constructor
    · intro q
      have a := c_iadd x d
      rw [← q] at a
      have r := rng32 d
      have z : (0 : Int32).toInt = 0 := by decide
      exact Int32.toInt_inj.mp (by rw [z]; omega)
    · intro q; rw [q, Int32.add_zero]
  have add' : ∀ x : Int32, (x + d = x) ↔ d = 0 := fun x => by rw [eq_comm]; exact add x
  have e15 : ((s &&& (15 : Int32)) = (0 : Int32)) ↔ ((s &&& (1 : Int32)) = (0 : Int32) ∧ (s &&& (2 : Int32)) = (0 : Int32) ∧ (s &&& (4 : Int32)) = (0 : Int32) ∧ (s &&& (8 : Int32)) = (0 : Int32)) := own_fifteen s
  by_cases q1 : (s &&& (1 : Int32)) = (0 : Int32) <;> by_cases q2 : (s &&& (2 : Int32)) = (0 : Int32) <;> by_cases q3 : (s &&& (4 : Int32)) = (0 : Int32) <;> by_cases q4 : (s &&& (8 : Int32)) = (0 : Int32) <;> by_cases qd : d = (0 : Int32)
  all_goals
    simp only [e15, q1, q2, q3, q4, qd, if_true, if_false, and_self, and_true, and_false, false_and, true_and] at h1 h2 h3 h4 h5
    subst h1 h2 h3 h4 h5
    simp [eqF, add, add', qd]

theorem pd_2 : parseMethodDescriptor "(IIII)V" = some ⟨[.int, .int, .int, .int], none⟩ := by decide +kernel
theorem pd_3 : parseMethodDescriptor "(Ljava/lang/Object;)Z" = some ⟨[(.object "java/lang/Object")], some .boolean⟩ := by decide +kernel
theorem pd_4 : parseMethodDescriptor "(I)Ljava/lang/Integer;" = some ⟨[.int], some (.object "java/lang/Integer")⟩ := by decide +kernel
theorem pn_0 : plainName "com/example/canopy/canopy/model/RectEqualsPinLaw" = true := by first | (simp [plainName, overriddenIn]; done) | decide +kernel
theorem ef_0 (m : MethodId) (x0 : Int32) (x1 : Int32) (x2 : Int32) (x3 : Int32) (x4 : Int32) (x5 : Int32) : entryFrame m #[(.int x0), (.int x1), (.int x2), (.int x3), (.int x4), (.int x5)] maxLocals = mkF m 0 #[.val (.int x0), .val (.int x1), .val (.int x2), .val (.int x3), .val (.int x4), .val (.int x5), .unset, .unset, .unset, .unset, .unset, .unset, .unset, .unset] [] := by first | (simp [entryFrame, mkF, argsToLocals, Value.category, maxLocals]; done) | rfl
def Q0 (Z : State) (p1 : Int32) (p2 : Int32) (p3 : Int32) (p4 : Int32) (p5 : Int32) (p6 : Int32) (cc : Addr) (clC : Cell) (h0 : Heap) (n0 : Nat) (v : Option Value) (h : Heap) (L : List Loc) : Prop := v = some (.int 1) ∧ Fr n0 L
set_option maxRecDepth 65536 in
set_option maxHeartbeats 40000000 in
theorem rm0 (l : Launch) (Z : State) (a0 : Array Value) (hw : ∀ d ∈ tables_1, d.before a0 Z = true) (ws : List Jvm.Cond) (p1 : Int32) (p2 : Int32) (p3 : Int32) (p4 : Int32) (p5 : Int32) (p6 : Int32) (cc : Addr) (clC : Cell) (h0 : Heap) (n0 : Nat) (Z0 : n0 ≤ h0.size) (S_high : Sta Z h0 "java/lang/Integer$IntegerCache" "high" "I" (.int (127 : Int32))) (S_cache : Sta Z h0 "java/lang/Integer$IntegerCache" "cache" "[Ljava/lang/Integer;" (.ref cc)) (A_cc : Arr Z h0 cc clC (.object "java/lang/Integer")) (U_cc : Els Z h0 clC "java/lang/Integer") (hsz : clC.slots.size = 256) (hna : ∃ c t, Z.vm.findClass "java/lang/Integer" = some c ∧ Z.vm.findClass "com/example/canopy/canopy/model/Rect" = some t ∧ Z.vm.assignable c t = false) :
    MetFree l x (head1 (Jvm.Cond.code x code maxLocals ret :: ws) room_1) (fun a U => a = #[(.int p1), (.int p2), (.int p3), (.int p4), (.int p5), (.int p6)] ∧ Z.Warmed39 U.vm ∧ U.heap = h0) (fun _ _ _ _ _ => True) (fun _ U o U' => ∃ v L, o = .returned v ∧ Q0 Z p1 p2 p3 p4 p5 p6 cc clC h0 n0 v U'.heap L ∧ FrameEnd U o U' L room_1.cells room_1.slots) := by
  refine MetFree.of_bodySF (plainFor_of_name pn_0) hisR ?_
  intro p e s m args below meth c s₁ Bd hml0 hP hK
  obtain ⟨rfl, hZ, hh⟩ := hP
  have hx := Bd.exec
  have hby := Bd.bytes
  have hlk := Bd.notSynchronized
  have hml : c.maxLocals = 14 := hml0
  have hown : s.vm.findClass "com/example/canopy/canopy/model/RectEqualsPinLaw" = some m.cls := findClass_of_methodNamed Bd.named
  have hnm := (name_of_methodNamed Bd.named Bd.method).1
  have X0 : Stand p l e room_1 s m #[(.int p1), (.int p2), (.int p3), (.int p4), (.int p5), (.int p6)] below meth c s₁ [] 0 0 := Stand.of_body Bd
  have e0 : s₁.heap = h0 := by rw [← hh, Bd.state]; rfl
  have N0 := Fr.nil n0
  have K0 : Keep h0 h0 [] := Keep.refl h0 _
  show OutW p e below s room_1.cells room_1.slots (Q0 Z p1 p2 p3 p4 p5 p6 cc clC h0 n0) _
  refine OutW.back (fun t k => castTop (ef_0 m p1 p2 p3 p4 p5 p6) k) ?_
  show OutW _ _ _ _ _ _ _ (s₁.setTop (mkF m 0 #[.val (.int p1), .val (.int p2), .val (.int p3), .val (.int p4), .val (.int p5), .val (.int p6), .unset, .unset, .unset, .unset, .unset, .unset, .unset, .unset] []))
  obtain ⟨T1, h1, X1, e1, E1, A1, D1, -, st1⟩ := newO X0 hx hZ hown (hw _ (List.mem_of_getElem? (i := 0) rfl)) (hw _ (List.mem_of_getElem? (i := 1) rfl)) (hw _ (List.mem_of_getElem? (i := 2) rfl)) e0 (g := (mkF m 0 #[.val (.int p1), .val (.int p2), .val (.int p3), .val (.int p4), .val (.int p5), .val (.int p6), .unset, .unset, .unset, .unset, .unset, .unset, .unset, .unset] [])) rfl (hb hby at_0) (by decide) (by decide)
  obtain ⟨b1, g1⟩ : ∃ z, z = h0.size := ⟨_, rfl⟩
  rw [← g1] at A1 D1 st1
  have ne_cc_b1 : cc ≠ b1 := Nat.ne_of_lt (Nat.lt_of_lt_of_le A_cc.lt (Nat.le_of_eq g1.symm))
  have g_b1 : n0 ≤ b1 := Nat.le_trans Z0 (Nat.le_of_eq g1.symm)
  have sz_b1 : h0.size ≤ b1 := Nat.le_trans K0.1 (Nat.le_of_eq g1.symm)
  have S_high := S_high.ext E1
  have S_cache := S_cache.ext E1
  have A_cc := A_cc.ext E1
  have U_cc := own_Uext U_cc E1
  have Z1 : n0 ≤ h1.size := Nat.le_trans Z0 E1.1
  have K1 := K0.ext E1
  have E_b1 := A1
  have F_left_b1 : Fld Z h1 b1 "com/example/canopy/canopy/model/Rect" "left" "I" (.int (0 : Int32)) := D1 (Or.inr (hw _ (List.mem_of_getElem? (i := 10) rfl))) (ty := .int) (by decide)
  have F_top_b1 : Fld Z h1 b1 "com/example/canopy/canopy/model/Rect" "top" "I" (.int (0 : Int32)) := D1 (Or.inr (hw _ (List.mem_of_getElem? (i := 12) rfl))) (ty := .int) (by decide)
  have F_right_b1 : Fld Z h1 b1 "com/example/canopy/canopy/model/Rect" "right" "I" (.int (0 : Int32)) := D1 (Or.inr (hw _ (List.mem_of_getElem? (i := 14) rfl))) (ty := .int) (by decide)
  have F_bottom_b1 : Fld Z h1 b1 "com/example/canopy/canopy/model/Rect" "bottom" "I" (.int (0 : Int32)) := D1 (Or.inr (hw _ (List.mem_of_getElem? (i := 16) rfl))) (ty := .int) (by decide)
  refine OutW.back st1 ?_
  show OutW _ _ _ _ _ _ _ (T1.setTop (mkF m 3 #[.val (.int p1), .val (.int p2), .val (.int p3), .val (.int p4), .val (.int p5), .val (.int p6), .unset, .unset, .unset, .unset, .unset, .unset, .unset, .unset] [(.ref b1)]))
  refine OutW.back (fun t k => XS.dup X1.here hx rfl (hb hby at_3) rfl rfl k) ?_
  show OutW _ _ _ _ _ _ _ (T1.setTop (mkF m 4 #[.val (.int p1), .val (.int p2), .val (.int p3), .val (.int p4), .val (.int p5), .val (.int p6), .unset, .unset, .unset, .unset, .unset, .unset, .unset, .unset] [(.ref b1), (.ref b1)]))
  refine OutW.back (fun t k => XS.iloadN X1.here hx rfl (hb hby at_4) rfl  k) ?_
  show OutW _ _ _ _ _ _ _ (T1.setTop (mkF m 5 #[.val (.int p1), .val (.int p2), .val (.int p3), .val (.int p4), .val (.int p5), .val (.int p6), .unset, .unset, .unset, .unset, .unset, .unset, .unset, .unset] [(.int p1), (.ref b1), (.ref b1)]))
  refine OutW.back (fun t k => XS.iloadN X1.here hx rfl (hb hby at_5) rfl  k) ?_
  show OutW _ _ _ _ _ _ _ (T1.setTop (mkF m 6 #[.val (.int p1), .val (.int p2), .val (.int p3), .val (.int p4), .val (.int p5), .val (.int p6), .unset, .unset, .unset, .unset, .unset, .unset, .unset, .unset] [(.int p2), (.int p1), (.ref b1), (.ref b1)]))
  refine OutW.back (fun t k => XS.iloadN X1.here hx rfl (hb hby at_6) rfl  k) ?_
  show OutW _ _ _ _ _ _ _ (T1.setTop (mkF m 7 #[.val (.int p1), .val (.int p2), .val (.int p3), .val (.int p4), .val (.int p5), .val (.int p6), .unset, .unset, .unset, .unset, .unset, .unset, .unset, .unset] [(.int p3), (.int p2), (.int p1), (.ref b1), (.ref b1)]))
  refine OutW.back (fun t k => XS.iloadN X1.here hx rfl (hb hby at_7) rfl  k) ?_
  show OutW _ _ _ _ _ _ _ (T1.setTop (mkF m 8 #[.val (.int p1), .val (.int p2), .val (.int p3), .val (.int p4), .val (.int p5), .val (.int p6), .unset, .unset, .unset, .unset, .unset, .unset, .unset, .unset] [(.int p4), (.int p3), (.int p2), (.int p1), (.ref b1), (.ref b1)]))
  obtain ⟨_, _, ⟨T2, L2, k2, n2⟩, -, X2, ⟨Lc2, hQ2, l2, y2, z2⟩, st2⟩ := X1.specialBack hx (y := (⟨"com/example/canopy/canopy/model/Rect", "<init>", "(IIII)V"⟩ : MethodName)) rfl hown (mvT hZ (hw _ (List.mem_of_getElem? (i := 3) rfl))) (mvT hZ (hw _ (List.mem_of_getElem? (i := 4) rfl))) (mvT hZ (hw _ (List.mem_of_getElem? (i := 5) rfl))) (by decide) (backOf (W := 1) (rm1 l Z a0 hw [] b1 p1 p2 p3 p4 h1 n0 Z1 E_b1 g_b1 F_left_b1 F_top_b1 F_right_b1 F_bottom_b1) hZ (hw _ (List.mem_of_getElem? (i := 5) rfl)) (hw _ (List.mem_of_getElem? (i := 2) rfl)) (by decide) (by decide)) (g := (mkF m 8 #[.val (.int p1), .val (.int p2), .val (.int p3), .val (.int p4), .val (.int p5), .val (.int p6), .unset, .unset, .unset, .unset, .unset, .unset, .unset, .unset] [(.int p4), (.int p3), (.int p2), (.int p1), (.ref b1), (.ref b1)])) rfl (by rw [hml]; rfl) (Steps.refl _) (a := b1) (argsL := [(.int p1), (.int p2), (.int p3), (.int p4)]) (rest := [(.ref b1)]) (lenOf pd_2 rfl) rfl (by show 2 * 0 + _ ≤ _; exact Nat.le_of_eq rfl) (hb hby at_8) (fun _ _ => ⟨rfl, e1, (by decide : 1 + 0 ≤ _), (by decide : 4 + 0 ≤ _)⟩)
  dsimp only [Pt.U, Pt.locs, Pt.cells, Pt.slots] at X2 l2 y2 z2 st2 hQ2
  subst l2 y2 z2
  obtain ⟨h2, eh2⟩ : ∃ z, z = T2.heap := ⟨_, rfl⟩
  rw [← eh2] at hQ2
  have e2 : T2.heap = h2 := eh2.symm
  obtain ⟨rfl, Nq2, Kq2, F_left_b1, F_top_b1, F_right_b1, F_bottom_b1⟩ := hQ2
  have S_high := own_keepS S_high Kq2 (allS ⟨_, E_b1⟩ all0)
  have S_cache := own_keepS S_cache Kq2 (allS ⟨_, E_b1⟩ all0)
  have A_cc := own_Akeep A_cc Kq2 (ninS ne_cc_b1 nin0)
  have U_cc := own_Ukeep U_cc Kq2
  have E_b1 := E_b1.keep Kq2
  have Z2 : n0 ≤ h2.size := Nat.le_trans Z1 Kq2.1
  have K2 := K1.trans Kq2 (allS (Or.inr sz_b1) all0)
  have N2 := Fr.app N0 Nq2
  refine OutW.via st2 ?_
  show OutW _ _ _ _ _ _ _ (T2.setTop (mkF m 11 #[.val (.int p1), .val (.int p2), .val (.int p3), .val (.int p4), .val (.int p5), .val (.int p6), .unset, .unset, .unset, .unset, .unset, .unset, .unset, .unset] [(.ref b1)]))
  refine OutW.back (fun t k => XS.astore X2.here hx rfl (hb hby at_11) rfl rfl (l' := #[.val (.int p1), .val (.int p2), .val (.int p3), .val (.int p4), .val (.int p5), .val (.int p6), .val (.ref b1), .unset, .unset, .unset, .unset, .unset, .unset, .unset]) rfl k) ?_
  show OutW _ _ _ _ _ _ _ (T2.setTop (mkF m 13 #[.val (.int p1), .val (.int p2), .val (.int p3), .val (.int p4), .val (.int p5), .val (.int p6), .val (.ref b1), .unset, .unset, .unset, .unset, .unset, .unset, .unset] []))
  refine OutW.back (fun t k => XS.iload X2.here hx rfl (hb hby at_13) rfl  k) ?_
  show OutW _ _ _ _ _ _ _ (T2.setTop (mkF m 15 #[.val (.int p1), .val (.int p2), .val (.int p3), .val (.int p4), .val (.int p5), .val (.int p6), .val (.ref b1), .unset, .unset, .unset, .unset, .unset, .unset, .unset] [(.int p6)]))
  refine OutW.back (fun t k => XS.iconst X2.here hx rfl (hb hby at_15) k) ?_
  show OutW _ _ _ _ _ _ _ (T2.setTop (mkF m 16 #[.val (.int p1), .val (.int p2), .val (.int p3), .val (.int p4), .val (.int p5), .val (.int p6), .val (.ref b1), .unset, .unset, .unset, .unset, .unset, .unset, .unset] [(.int (4 : Int32)), (.int p6)]))
  refine OutW.back (fun t k => XS.iushr X2.here hx rfl (hb hby at_16) rfl k) ?_
  show OutW _ _ _ _ _ _ _ (T2.setTop (mkF m 17 #[.val (.int p1), .val (.int p2), .val (.int p3), .val (.int p4), .val (.int p5), .val (.int p6), .val (.ref b1), .unset, .unset, .unset, .unset, .unset, .unset, .unset] [(.int ((p6.toUInt32 >>> ((4 : Int32) &&& 31).toUInt32).toInt32))]))
  refine OutW.back (fun t k => XS.iconst X2.here hx rfl (hb hby at_17) k) ?_
  show OutW _ _ _ _ _ _ _ (T2.setTop (mkF m 18 #[.val (.int p1), .val (.int p2), .val (.int p3), .val (.int p4), .val (.int p5), .val (.int p6), .val (.ref b1), .unset, .unset, .unset, .unset, .unset, .unset, .unset] [(.int (3 : Int32)), (.int ((p6.toUInt32 >>> ((4 : Int32) &&& 31).toUInt32).toInt32))]))
  refine OutW.back (fun t k => XS.iand X2.here hx rfl (hb hby at_18) rfl k) ?_
  show OutW _ _ _ _ _ _ _ (T2.setTop (mkF m 19 #[.val (.int p1), .val (.int p2), .val (.int p3), .val (.int p4), .val (.int p5), .val (.int p6), .val (.ref b1), .unset, .unset, .unset, .unset, .unset, .unset, .unset] [(.int (((p6.toUInt32 >>> ((4 : Int32) &&& 31).toUInt32).toInt32) &&& (3 : Int32)))]))
  generalize hv_v3 : (((p6.toUInt32 >>> ((4 : Int32) &&& 31).toUInt32).toInt32) &&& (3 : Int32)) = v3
  refine OutW.back (fun t k => XS.istore X2.here hx rfl (hb hby at_19) rfl (l' := #[.val (.int p1), .val (.int p2), .val (.int p3), .val (.int p4), .val (.int p5), .val (.int p6), .val (.ref b1), .val (.int v3), .unset, .unset, .unset, .unset, .unset, .unset]) rfl k) ?_
  show OutW _ _ _ _ _ _ _ (T2.setTop (mkF m 21 #[.val (.int p1), .val (.int p2), .val (.int p3), .val (.int p4), .val (.int p5), .val (.int p6), .val (.ref b1), .val (.int v3), .unset, .unset, .unset, .unset, .unset, .unset] []))
  refine OutW.back (fun t k => XS.iload X2.here hx rfl (hb hby at_21) rfl  k) ?_
  show OutW _ _ _ _ _ _ _ (T2.setTop (mkF m 23 #[.val (.int p1), .val (.int p2), .val (.int p3), .val (.int p4), .val (.int p5), .val (.int p6), .val (.ref b1), .val (.int v3), .unset, .unset, .unset, .unset, .unset, .unset] [(.int v3)]))
  refine OutW.back (fun t k => XS.iconst X2.here hx rfl (hb hby at_23) k) ?_
  show OutW _ _ _ _ _ _ _ (T2.setTop (mkF m 24 #[.val (.int p1), .val (.int p2), .val (.int p3), .val (.int p4), .val (.int p5), .val (.int p6), .val (.ref b1), .val (.int v3), .unset, .unset, .unset, .unset, .unset, .unset] [(.int (1 : Int32)), (.int v3)]))
  by_cases c24_4 : v3 = (1 : Int32)
  · skip
    refine OutW.back (fun t k => XS.icmpNo X2.here hx rfl (hb hby at_24) rfl (teq c24_4).2 k) ?_
    show OutW _ _ _ _ _ _ _ (T2.setTop (mkF m 27 #[.val (.int p1), .val (.int p2), .val (.int p3), .val (.int p4), .val (.int p5), .val (.int p6), .val (.ref b1), .val (.int v3), .unset, .unset, .unset, .unset, .unset, .unset] []))
    refine OutW.back (fun t k => XS.aload X2.here hx rfl (hb hby at_27) rfl rfl  k) ?_
    show OutW _ _ _ _ _ _ _ (T2.setTop (mkF m 29 #[.val (.int p1), .val (.int p2), .val (.int p3), .val (.int p4), .val (.int p5), .val (.int p6), .val (.ref b1), .val (.int v3), .unset, .unset, .unset, .unset, .unset, .unset] [(.ref b1)]))
    refine OutW.back (fun t k => XS.aconstNull X2.here hx rfl (hb hby at_29) k) ?_
    show OutW _ _ _ _ _ _ _ (T2.setTop (mkF m 30 #[.val (.int p1), .val (.int p2), .val (.int p3), .val (.int p4), .val (.int p5), .val (.int p6), .val (.ref b1), .val (.int v3), .unset, .unset, .unset, .unset, .unset, .unset] [.null, (.ref b1)]))
    obtain ⟨cq5, kq5, qa5, qb5, qc5⟩ := isOf hZ e2 E_b1
    obtain ⟨_, _, ⟨T5, L5, k5, n5⟩, -, X5, ⟨Lc5, hQ5, l5, y5, z5⟩, st5⟩ := X2.virtualBack hx (y := (⟨"com/example/canopy/canopy/model/Rect", "equals", "(Ljava/lang/Object;)Z"⟩ : MethodName)) (z := (⟨"com/example/canopy/canopy/model/Rect", "equals", "(Ljava/lang/Object;)Z"⟩ : MethodName)) hown (mvT hZ (hw _ (List.mem_of_getElem? (i := 17) rfl))) (mvT hZ (hw _ (List.mem_of_getElem? (i := 18) rfl))) (notFace_of_selects (args := #[]) (mvT hZ (hw _ (List.mem_of_getElem? (i := 20) rfl)))) (mvT hZ (hw _ (List.mem_of_getElem? (i := 20) rfl))) (mvT hZ (hw _ (List.mem_of_getElem? (i := 19) rfl))) (by decide) (backOf (W := 0) (rm3n l Z a0 hw [] b1 h2 n0 Z2 ) hZ (hw _ (List.mem_of_getElem? (i := 21) rfl)) (hw _ (List.mem_of_getElem? (i := 2) rfl)) (by decide) (by decide)) qa5 qc5 (g := (mkF m 30 #[.val (.int p1), .val (.int p2), .val (.int p3), .val (.int p4), .val (.int p5), .val (.int p6), .val (.ref b1), .val (.int v3), .unset, .unset, .unset, .unset, .unset, .unset] [.null, (.ref b1)])) rfl (by rw [hml]; rfl) (Steps.refl _) (argsL := [.null]) (rest := []) (lenOf pd_3 rfl) rfl (by show 2 * 0 + _ ≤ _; exact Nat.le_of_eq rfl) (hb hby at_30) (fun _ _ => ⟨rfl, e2, (by decide : 1 + 0 ≤ _), (by decide : 4 + 0 ≤ _)⟩)
    dsimp only [Pt.U, Pt.locs, Pt.cells, Pt.slots] at X5 l5 y5 z5 st5 hQ5
    subst l5 y5 z5
    obtain ⟨rfl, Nq5, e5⟩ := hQ5
    have N5 := Fr.app N2 Nq5
    refine OutW.via st5 ?_
    show OutW _ _ _ _ _ _ _ (T5.setTop (mkF m 33 #[.val (.int p1), .val (.int p2), .val (.int p3), .val (.int p4), .val (.int p5), .val (.int p6), .val (.ref b1), .val (.int v3), .unset, .unset, .unset, .unset, .unset, .unset] [(.int (0 : Int32))]))
    refine OutW.back (fun t k => XS.ifNo X5.here hx rfl (hb hby at_33) rfl ((if0 _ _).trans (teq (by decide : (0 : Int32) = (0 : Int32))).2) k) ?_
    show OutW _ _ _ _ _ _ _ (T5.setTop (mkF m 36 #[.val (.int p1), .val (.int p2), .val (.int p3), .val (.int p4), .val (.int p5), .val (.int p6), .val (.ref b1), .val (.int v3), .unset, .unset, .unset, .unset, .unset, .unset] []))
    refine OutW.back (fun t k => XS.iconst X5.here hx rfl (hb hby at_36) k) ?_
    show OutW _ _ _ _ _ _ _ (T5.setTop (mkF m 37 #[.val (.int p1), .val (.int p2), .val (.int p3), .val (.int p4), .val (.int p5), .val (.int p6), .val (.ref b1), .val (.int v3), .unset, .unset, .unset, .unset, .unset, .unset] [(.int (1 : Int32))]))
    refine OutW.back (fun t k => XS.goto X5.here hx rfl (pc0 := 37) (pc' := 41) rfl (hb hby at_37) (by decide) (by decide) k) ?_
    show OutW _ _ _ _ _ _ _ (T5.setTop (mkF m 41 #[.val (.int p1), .val (.int p2), .val (.int p3), .val (.int p4), .val (.int p5), .val (.int p6), .val (.ref b1), .val (.int v3), .unset, .unset, .unset, .unset, .unset, .unset] [(.int (1 : Int32))]))
    refine OutW.retN X5 hx (t := .boolean) (z' := 1) Bd.returns (by simp) hlk (hb hby at_41) ?hz (by decide) (by decide) ?_
    case hz =>
      rfl
    show Q0 Z p1 p2 p3 p4 p5 p6 cc clC h0 n0 _ T5.heap _
    rw [e5]
    exact ⟨rfl, N5⟩
  · skip
    refine OutW.back (fun t k => XS.icmpYes X2.here hx rfl (pc0 := 24) (pc' := 42) rfl (hb hby at_24) rfl (feq c24_4).2 (by decide) (by decide) k) ?_
    show OutW _ _ _ _ _ _ _ (T2.setTop (mkF m 42 #[.val (.int p1), .val (.int p2), .val (.int p3), .val (.int p4), .val (.int p5), .val (.int p6), .val (.ref b1), .val (.int v3), .unset, .unset, .unset, .unset, .unset, .unset] []))
    refine OutW.back (fun t k => XS.iload X2.here hx rfl (hb hby at_42) rfl  k) ?_
    show OutW _ _ _ _ _ _ _ (T2.setTop (mkF m 44 #[.val (.int p1), .val (.int p2), .val (.int p3), .val (.int p4), .val (.int p5), .val (.int p6), .val (.ref b1), .val (.int v3), .unset, .unset, .unset, .unset, .unset, .unset] [(.int v3)]))
    refine OutW.back (fun t k => XS.iconst X2.here hx rfl (hb hby at_44) k) ?_
    show OutW _ _ _ _ _ _ _ (T2.setTop (mkF m 45 #[.val (.int p1), .val (.int p2), .val (.int p3), .val (.int p4), .val (.int p5), .val (.int p6), .val (.ref b1), .val (.int v3), .unset, .unset, .unset, .unset, .unset, .unset] [(.int (2 : Int32)), (.int v3)]))
    by_cases c45_6 : v3 = (2 : Int32)
    · skip
      refine OutW.back (fun t k => XS.icmpNo X2.here hx rfl (hb hby at_45) rfl (teq c45_6).2 k) ?_
      show OutW _ _ _ _ _ _ _ (T2.setTop (mkF m 48 #[.val (.int p1), .val (.int p2), .val (.int p3), .val (.int p4), .val (.int p5), .val (.int p6), .val (.ref b1), .val (.int v3), .unset, .unset, .unset, .unset, .unset, .unset] []))
      refine OutW.back (fun t k => XS.aload X2.here hx rfl (hb hby at_48) rfl rfl  k) ?_
      show OutW _ _ _ _ _ _ _ (T2.setTop (mkF m 50 #[.val (.int p1), .val (.int p2), .val (.int p3), .val (.int p4), .val (.int p5), .val (.int p6), .val (.ref b1), .val (.int v3), .unset, .unset, .unset, .unset, .unset, .unset] [(.ref b1)]))
      refine OutW.back (fun t k => XS.iloadN X2.here hx rfl (hb hby at_50) rfl  k) ?_
      show OutW _ _ _ _ _ _ _ (T2.setTop (mkF m 51 #[.val (.int p1), .val (.int p2), .val (.int p3), .val (.int p4), .val (.int p5), .val (.int p6), .val (.ref b1), .val (.int v3), .unset, .unset, .unset, .unset, .unset, .unset] [(.int p1), (.ref b1)]))
      obtain ⟨_, _, ⟨T7, L7, k7, n7⟩, -, X7, ⟨Lc7, hQ7, l7, y7, z7⟩, st7⟩ := Jvm.LawKit.callS X2 hx (y := (⟨"java/lang/Integer", "valueOf", "(I)Ljava/lang/Integer;"⟩ : MethodName)) hown (mvT hZ (hw _ (List.mem_of_getElem? (i := 24) rfl))) (mvT hZ (hw _ (List.mem_of_getElem? (i := 25) rfl))) (mvT hZ (hw _ (List.mem_of_getElem? (i := 26) rfl))) (mvT hZ (hw _ (List.mem_of_getElem? (i := 27) rfl))) (by decide) (backOf (W := 1) (rm4 l Z a0 hw [] p1 cc clC h2 n0 Z2 S_high S_cache A_cc U_cc hsz) hZ (hw _ (List.mem_of_getElem? (i := 27) rfl)) (hw _ (List.mem_of_getElem? (i := 26) rfl)) (by decide) (by decide)) (g := (mkF m 51 #[.val (.int p1), .val (.int p2), .val (.int p3), .val (.int p4), .val (.int p5), .val (.int p6), .val (.ref b1), .val (.int v3), .unset, .unset, .unset, .unset, .unset, .unset] [(.int p1), (.ref b1)])) rfl (by rw [hml]; rfl) (argsL := [(.int p1)]) (rest := [(.ref b1)]) (lenOf pd_4 rfl) rfl (by show 2 * 0 + _ ≤ _; exact Nat.le_of_eq rfl) (hb hby at_51) (fun _ _ => ⟨rfl, e2, (by decide : 1 + 1 ≤ _), (by decide : 4 + 1 ≤ _)⟩)
      dsimp only [Pt.U, Pt.locs, Pt.cells, Pt.slots] at X7 l7 y7 z7 st7 hQ7
      subst l7 y7 z7
      obtain ⟨h7, eh7⟩ : ∃ z, z = T7.heap := ⟨_, rfl⟩
      rw [← eh7] at hQ7
      have e7 : T7.heap = h7 := eh7.symm
      obtain ⟨bN_7, rfl, Nq7, Kq7, E_bN_7⟩ := hQ7
      have S_high := own_keepS S_high Kq7 all0
      have S_cache := own_keepS S_cache Kq7 all0
      have A_cc := own_Akeep A_cc Kq7 nin0
      have U_cc := own_Ukeep U_cc Kq7
      have E_b1 := E_b1.keep Kq7
      have F_left_b1 := F_left_b1.keep Kq7 nin0
      have F_top_b1 := F_top_b1.keep Kq7 nin0
      have F_right_b1 := F_right_b1.keep Kq7 nin0
      have F_bottom_b1 := F_bottom_b1.keep Kq7 nin0
      have Z7 : n0 ≤ h7.size := Nat.le_trans Z2 Kq7.1
      have K7 := K2.trans Kq7 all0
      have N7 := Fr.app N2 Nq7
      refine OutW.back st7 ?_
      show OutW _ _ _ _ _ _ _ (T7.setTop (mkF m 54 #[.val (.int p1), .val (.int p2), .val (.int p3), .val (.int p4), .val (.int p5), .val (.int p6), .val (.ref b1), .val (.int v3), .unset, .unset, .unset, .unset, .unset, .unset] [(.ref bN_7), (.ref b1)]))
      obtain ⟨cq8, kq8, qa8, qb8, qc8⟩ := isOf hZ e7 E_b1
      obtain ⟨_, _, ⟨T8, L8, k8, n8⟩, -, X8, ⟨Lc8, hQ8, l8, y8, z8⟩, st8⟩ := X7.virtualBack hx (y := (⟨"com/example/canopy/canopy/model/Rect", "equals", "(Ljava/lang/Object;)Z"⟩ : MethodName)) (z := (⟨"com/example/canopy/canopy/model/Rect", "equals", "(Ljava/lang/Object;)Z"⟩ : MethodName)) hown (mvT hZ (hw _ (List.mem_of_getElem? (i := 17) rfl))) (mvT hZ (hw _ (List.mem_of_getElem? (i := 18) rfl))) (notFace_of_selects (args := #[]) (mvT hZ (hw _ (List.mem_of_getElem? (i := 20) rfl)))) (mvT hZ (hw _ (List.mem_of_getElem? (i := 20) rfl))) (mvT hZ (hw _ (List.mem_of_getElem? (i := 19) rfl))) (by decide) (backOf (W := 0) (rm3i l Z a0 hw [] b1 bN_7 h7 n0 Z7 E_bN_7 hna) hZ (hw _ (List.mem_of_getElem? (i := 21) rfl)) (hw _ (List.mem_of_getElem? (i := 2) rfl)) (by decide) (by decide)) qa8 qc8 (g := (mkF m 54 #[.val (.int p1), .val (.int p2), .val (.int p3), .val (.int p4), .val (.int p5), .val (.int p6), .val (.ref b1), .val (.int v3), .unset, .unset, .unset, .unset, .unset, .unset] [(.ref bN_7), (.ref b1)])) rfl (by rw [hml]; rfl) (Steps.refl _) (argsL := [(.ref bN_7)]) (rest := []) (lenOf pd_3 rfl) rfl (by show 2 * 0 + _ ≤ _; exact Nat.le_of_eq rfl) (hb hby at_54) (fun _ _ => ⟨rfl, e7, (by decide : 2 + 0 ≤ _), (by decide : 5 + 0 ≤ _)⟩)
      dsimp only [Pt.U, Pt.locs, Pt.cells, Pt.slots] at X8 l8 y8 z8 st8 hQ8
      subst l8 y8 z8
      obtain ⟨rfl, Nq8, e8⟩ := hQ8
      have N8 := Fr.app N7 Nq8
      refine OutW.via st8 ?_
      show OutW _ _ _ _ _ _ _ (T8.setTop (mkF m 57 #[.val (.int p1), .val (.int p2), .val (.int p3), .val (.int p4), .val (.int p5), .val (.int p6), .val (.ref b1), .val (.int v3), .unset, .unset, .unset, .unset, .unset, .unset] [(.int (0 : Int32))]))
      refine OutW.back (fun t k => XS.ifNo X8.here hx rfl (hb hby at_57) rfl ((if0 _ _).trans (teq (by decide : (0 : Int32) = (0 : Int32))).2) k) ?_
      show OutW _ _ _ _ _ _ _ (T8.setTop (mkF m 60 #[.val (.int p1), .val (.int p2), .val (.int p3), .val (.int p4), .val (.int p5), .val (.int p6), .val (.ref b1), .val (.int v3), .unset, .unset, .unset, .unset, .unset, .unset] []))
      refine OutW.back (fun t k => XS.iconst X8.here hx rfl (hb hby at_60) k) ?_
      show OutW _ _ _ _ _ _ _ (T8.setTop (mkF m 61 #[.val (.int p1), .val (.int p2), .val (.int p3), .val (.int p4), .val (.int p5), .val (.int p6), .val (.ref b1), .val (.int v3), .unset, .unset, .unset, .unset, .unset, .unset] [(.int (1 : Int32))]))
      refine OutW.back (fun t k => XS.goto X8.here hx rfl (pc0 := 61) (pc' := 65) rfl (hb hby at_61) (by decide) (by decide) k) ?_
      show OutW _ _ _ _ _ _ _ (T8.setTop (mkF m 65 #[.val (.int p1), .val (.int p2), .val (.int p3), .val (.int p4), .val (.int p5), .val (.int p6), .val (.ref b1), .val (.int v3), .unset, .unset, .unset, .unset, .unset, .unset] [(.int (1 : Int32))]))
      refine OutW.retN X8 hx (t := .boolean) (z' := 1) Bd.returns (by simp) hlk (hb hby at_65) ?hz (by decide) (by decide) ?_
      case hz =>
        rfl
      show Q0 Z p1 p2 p3 p4 p5 p6 cc clC h0 n0 _ T8.heap _
      rw [e8]
      exact ⟨rfl, N8⟩
    · skip
      refine OutW.back (fun t k => XS.icmpYes X2.here hx rfl (pc0 := 45) (pc' := 66) rfl (hb hby at_45) rfl (feq c45_6).2 (by decide) (by decide) k) ?_
      show OutW _ _ _ _ _ _ _ (T2.setTop (mkF m 66 #[.val (.int p1), .val (.int p2), .val (.int p3), .val (.int p4), .val (.int p5), .val (.int p6), .val (.ref b1), .val (.int v3), .unset, .unset, .unset, .unset, .unset, .unset] []))
      refine OutW.back (fun t k => XS.iload X2.here hx rfl (hb hby at_66) rfl  k) ?_
      show OutW _ _ _ _ _ _ _ (T2.setTop (mkF m 68 #[.val (.int p1), .val (.int p2), .val (.int p3), .val (.int p4), .val (.int p5), .val (.int p6), .val (.ref b1), .val (.int v3), .unset, .unset, .unset, .unset, .unset, .unset] [(.int v3)]))
      refine OutW.back (fun t k => XS.iconst X2.here hx rfl (hb hby at_68) k) ?_
      show OutW _ _ _ _ _ _ _ (T2.setTop (mkF m 69 #[.val (.int p1), .val (.int p2), .val (.int p3), .val (.int p4), .val (.int p5), .val (.int p6), .val (.ref b1), .val (.int v3), .unset, .unset, .unset, .unset, .unset, .unset] [(.int (3 : Int32)), (.int v3)]))
      by_cases c69_9 : v3 = (3 : Int32)
      · skip
        refine OutW.back (fun t k => XS.icmpNo X2.here hx rfl (hb hby at_69) rfl (teq c69_9).2 k) ?_
        show OutW _ _ _ _ _ _ _ (T2.setTop (mkF m 72 #[.val (.int p1), .val (.int p2), .val (.int p3), .val (.int p4), .val (.int p5), .val (.int p6), .val (.ref b1), .val (.int v3), .unset, .unset, .unset, .unset, .unset, .unset] []))
        refine OutW.back (fun t k => XS.aload X2.here hx rfl (hb hby at_72) rfl rfl  k) ?_
        show OutW _ _ _ _ _ _ _ (T2.setTop (mkF m 74 #[.val (.int p1), .val (.int p2), .val (.int p3), .val (.int p4), .val (.int p5), .val (.int p6), .val (.ref b1), .val (.int v3), .unset, .unset, .unset, .unset, .unset, .unset] [(.ref b1)]))
        refine OutW.back (fun t k => XS.aload X2.here hx rfl (hb hby at_74) rfl rfl  k) ?_
        show OutW _ _ _ _ _ _ _ (T2.setTop (mkF m 76 #[.val (.int p1), .val (.int p2), .val (.int p3), .val (.int p4), .val (.int p5), .val (.int p6), .val (.ref b1), .val (.int v3), .unset, .unset, .unset, .unset, .unset, .unset] [(.ref b1), (.ref b1)]))
        obtain ⟨cq10, kq10, qa10, qb10, qc10⟩ := isOf hZ e2 E_b1
        obtain ⟨_, _, ⟨T10, L10, k10, n10⟩, -, X10, ⟨Lc10, hQ10, l10, y10, z10⟩, st10⟩ := X2.virtualBack hx (y := (⟨"com/example/canopy/canopy/model/Rect", "equals", "(Ljava/lang/Object;)Z"⟩ : MethodName)) (z := (⟨"com/example/canopy/canopy/model/Rect", "equals", "(Ljava/lang/Object;)Z"⟩ : MethodName)) hown (mvT hZ (hw _ (List.mem_of_getElem? (i := 17) rfl))) (mvT hZ (hw _ (List.mem_of_getElem? (i := 18) rfl))) (notFace_of_selects (args := #[]) (mvT hZ (hw _ (List.mem_of_getElem? (i := 20) rfl)))) (mvT hZ (hw _ (List.mem_of_getElem? (i := 20) rfl))) (mvT hZ (hw _ (List.mem_of_getElem? (i := 19) rfl))) (by decide) (backOf (W := 0) (rm3r l Z a0 hw [] b1 b1 p1 p2 p3 p4 p1 p2 p3 p4 h2 n0 Z2 E_b1 F_left_b1 F_top_b1 F_right_b1 F_bottom_b1 F_left_b1 F_top_b1 F_right_b1 F_bottom_b1) hZ (hw _ (List.mem_of_getElem? (i := 21) rfl)) (hw _ (List.mem_of_getElem? (i := 2) rfl)) (by decide) (by decide)) qa10 qc10 (g := (mkF m 76 #[.val (.int p1), .val (.int p2), .val (.int p3), .val (.int p4), .val (.int p5), .val (.int p6), .val (.ref b1), .val (.int v3), .unset, .unset, .unset, .unset, .unset, .unset] [(.ref b1), (.ref b1)])) rfl (by rw [hml]; rfl) (Steps.refl _) (argsL := [(.ref b1)]) (rest := []) (lenOf pd_3 rfl) rfl (by show 2 * 0 + _ ≤ _; exact Nat.le_of_eq rfl) (hb hby at_76) (fun _ _ => ⟨rfl, e2, (by decide : 1 + 0 ≤ _), (by decide : 4 + 0 ≤ _)⟩)
        dsimp only [Pt.U, Pt.locs, Pt.cells, Pt.slots] at X10 l10 y10 z10 st10 hQ10
        subst l10 y10 z10
        obtain ⟨rfl, Nq10, e10⟩ := hQ10
        have N10 := Fr.app N2 Nq10
        refine OutW.via st10 ?_
        show OutW _ _ _ _ _ _ _ (T10.setTop (mkF m 79 #[.val (.int p1), .val (.int p2), .val (.int p3), .val (.int p4), .val (.int p5), .val (.int p6), .val (.ref b1), .val (.int v3), .unset, .unset, .unset, .unset, .unset, .unset] [(.int (eqF p1 p2 p3 p4 p1 p2 p3 p4))]))
        refine OutW.retN X10 hx (t := .boolean) (z' := 1) Bd.returns (by simp) hlk (hb hby at_79) ?hz (by decide) (by decide) ?_
        case hz =>
          have hfin : (eqF p1 p2 p3 p4 p1 p2 p3 p4) = (1 : Int32) := by
            simp [eqF]
          rw [hfin]; rfl
        show Q0 Z p1 p2 p3 p4 p5 p6 cc clC h0 n0 _ T10.heap _
        rw [e10]
        exact ⟨rfl, N10⟩
      · skip
        refine OutW.back (fun t k => XS.icmpYes X2.here hx rfl (pc0 := 69) (pc' := 80) rfl (hb hby at_69) rfl (feq c69_9).2 (by decide) (by decide) k) ?_
        show OutW _ _ _ _ _ _ _ (T2.setTop (mkF m 80 #[.val (.int p1), .val (.int p2), .val (.int p3), .val (.int p4), .val (.int p5), .val (.int p6), .val (.ref b1), .val (.int v3), .unset, .unset, .unset, .unset, .unset, .unset] []))
        refine OutW.back (fun t k => XS.iload X2.here hx rfl (hb hby at_80) rfl  k) ?_
        show OutW _ _ _ _ _ _ _ (T2.setTop (mkF m 82 #[.val (.int p1), .val (.int p2), .val (.int p3), .val (.int p4), .val (.int p5), .val (.int p6), .val (.ref b1), .val (.int v3), .unset, .unset, .unset, .unset, .unset, .unset] [(.int p6)]))
        refine OutW.back (fun t k => XS.iconst X2.here hx rfl (hb hby at_82) k) ?_
        show OutW _ _ _ _ _ _ _ (T2.setTop (mkF m 83 #[.val (.int p1), .val (.int p2), .val (.int p3), .val (.int p4), .val (.int p5), .val (.int p6), .val (.ref b1), .val (.int v3), .unset, .unset, .unset, .unset, .unset, .unset] [(.int (1 : Int32)), (.int p6)]))
        refine OutW.back (fun t k => XS.iand X2.here hx rfl (hb hby at_83) rfl k) ?_
        show OutW _ _ _ _ _ _ _ (T2.setTop (mkF m 84 #[.val (.int p1), .val (.int p2), .val (.int p3), .val (.int p4), .val (.int p5), .val (.int p6), .val (.ref b1), .val (.int v3), .unset, .unset, .unset, .unset, .unset, .unset] [(.int (p6 &&& (1 : Int32)))]))
        obtain ⟨v12, hv_v12⟩ : ∃ z : Int32, z = (if (p6 &&& (1 : Int32)) = (0 : Int32) then p1 else (p1 + p5)) := ⟨_, rfl⟩
        have j13 : ∀ t, Steps p.tables e below (T2.setTop (mkF m 95 #[.val (.int p1), .val (.int p2), .val (.int p3), .val (.int p4), .val (.int p5), .val (.int p6), .val (.ref b1), .val (.int v3), .unset, .unset, .unset, .unset, .unset, .unset] [(.int v12)])) t → Steps p.tables e below (T2.setTop (mkF m 84 #[.val (.int p1), .val (.int p2), .val (.int p3), .val (.int p4), .val (.int p5), .val (.int p6), .val (.ref b1), .val (.int v3), .unset, .unset, .unset, .unset, .unset, .unset] [(.int (p6 &&& (1 : Int32)))])) t := by
          intro t k
          by_cases c84_14 : (p6 &&& (1 : Int32)) = (0 : Int32)
          · skip
            refine XS.ifYes X2.here hx rfl (pc0 := 84) (pc' := 94) rfl (hb hby at_84) rfl ((if0 _ _).trans (teq c84_14).1) (by decide) (by decide) ?_
            show Steps p.tables e below (T2.setTop (mkF m 94 #[.val (.int p1), .val (.int p2), .val (.int p3), .val (.int p4), .val (.int p5), .val (.int p6), .val (.ref b1), .val (.int v3), .unset, .unset, .unset, .unset, .unset, .unset] [])) t
            refine XS.iloadN X2.here hx rfl (hb hby at_94) rfl  ?_
            show Steps p.tables e below (T2.setTop (mkF m 95 #[.val (.int p1), .val (.int p2), .val (.int p3), .val (.int p4), .val (.int p5), .val (.int p6), .val (.ref b1), .val (.int v3), .unset, .unset, .unset, .unset, .unset, .unset] [(.int p1)])) t
            have q_v12 : v12 = p1 := by rw [hv_v12, if_pos c84_14]
            rw [q_v12] at k
            exact k
          · skip
            refine XS.ifNo X2.here hx rfl (hb hby at_84) rfl ((if0 _ _).trans (feq c84_14).1) ?_
            show Steps p.tables e below (T2.setTop (mkF m 87 #[.val (.int p1), .val (.int p2), .val (.int p3), .val (.int p4), .val (.int p5), .val (.int p6), .val (.ref b1), .val (.int v3), .unset, .unset, .unset, .unset, .unset, .unset] [])) t
            refine XS.iloadN X2.here hx rfl (hb hby at_87) rfl  ?_
            show Steps p.tables e below (T2.setTop (mkF m 88 #[.val (.int p1), .val (.int p2), .val (.int p3), .val (.int p4), .val (.int p5), .val (.int p6), .val (.ref b1), .val (.int v3), .unset, .unset, .unset, .unset, .unset, .unset] [(.int p1)])) t
            refine XS.iload X2.here hx rfl (hb hby at_88) rfl  ?_
            show Steps p.tables e below (T2.setTop (mkF m 90 #[.val (.int p1), .val (.int p2), .val (.int p3), .val (.int p4), .val (.int p5), .val (.int p6), .val (.ref b1), .val (.int v3), .unset, .unset, .unset, .unset, .unset, .unset] [(.int p5), (.int p1)])) t
            refine XS.iadd X2.here hx rfl (hb hby at_90) rfl ?_
            show Steps p.tables e below (T2.setTop (mkF m 91 #[.val (.int p1), .val (.int p2), .val (.int p3), .val (.int p4), .val (.int p5), .val (.int p6), .val (.ref b1), .val (.int v3), .unset, .unset, .unset, .unset, .unset, .unset] [(.int (p1 + p5))])) t
            refine XS.goto X2.here hx rfl (pc0 := 91) (pc' := 95) rfl (hb hby at_91) (by decide) (by decide) ?_
            show Steps p.tables e below (T2.setTop (mkF m 95 #[.val (.int p1), .val (.int p2), .val (.int p3), .val (.int p4), .val (.int p5), .val (.int p6), .val (.ref b1), .val (.int v3), .unset, .unset, .unset, .unset, .unset, .unset] [(.int (p1 + p5))])) t
            have q_v12 : v12 = (p1 + p5) := by rw [hv_v12, if_neg c84_14]
            rw [q_v12] at k
            exact k
        refine OutW.back j13 ?_
        show OutW _ _ _ _ _ _ _ (T2.setTop (mkF m 95 #[.val (.int p1), .val (.int p2), .val (.int p3), .val (.int p4), .val (.int p5), .val (.int p6), .val (.ref b1), .val (.int v3), .unset, .unset, .unset, .unset, .unset, .unset] [(.int v12)]))
        refine OutW.back (fun t k => XS.istore X2.here hx rfl (hb hby at_95) rfl (l' := #[.val (.int p1), .val (.int p2), .val (.int p3), .val (.int p4), .val (.int p5), .val (.int p6), .val (.ref b1), .val (.int v3), .val (.int v12), .unset, .unset, .unset, .unset, .unset]) rfl k) ?_
        show OutW _ _ _ _ _ _ _ (T2.setTop (mkF m 97 #[.val (.int p1), .val (.int p2), .val (.int p3), .val (.int p4), .val (.int p5), .val (.int p6), .val (.ref b1), .val (.int v3), .val (.int v12), .unset, .unset, .unset, .unset, .unset] []))
        refine OutW.back (fun t k => XS.iload X2.here hx rfl (hb hby at_97) rfl  k) ?_
        show OutW _ _ _ _ _ _ _ (T2.setTop (mkF m 99 #[.val (.int p1), .val (.int p2), .val (.int p3), .val (.int p4), .val (.int p5), .val (.int p6), .val (.ref b1), .val (.int v3), .val (.int v12), .unset, .unset, .unset, .unset, .unset] [(.int p6)]))
        refine OutW.back (fun t k => XS.iconst X2.here hx rfl (hb hby at_99) k) ?_
        show OutW _ _ _ _ _ _ _ (T2.setTop (mkF m 100 #[.val (.int p1), .val (.int p2), .val (.int p3), .val (.int p4), .val (.int p5), .val (.int p6), .val (.ref b1), .val (.int v3), .val (.int v12), .unset, .unset, .unset, .unset, .unset] [(.int (2 : Int32)), (.int p6)]))
        refine OutW.back (fun t k => XS.iand X2.here hx rfl (hb hby at_100) rfl k) ?_
        show OutW _ _ _ _ _ _ _ (T2.setTop (mkF m 101 #[.val (.int p1), .val (.int p2), .val (.int p3), .val (.int p4), .val (.int p5), .val (.int p6), .val (.ref b1), .val (.int v3), .val (.int v12), .unset, .unset, .unset, .unset, .unset] [(.int (p6 &&& (2 : Int32)))]))
        obtain ⟨v16, hv_v16⟩ : ∃ z : Int32, z = (if (p6 &&& (2 : Int32)) = (0 : Int32) then p2 else (p2 + p5)) := ⟨_, rfl⟩
        have j17 : ∀ t, Steps p.tables e below (T2.setTop (mkF m 112 #[.val (.int p1), .val (.int p2), .val (.int p3), .val (.int p4), .val (.int p5), .val (.int p6), .val (.ref b1), .val (.int v3), .val (.int v12), .unset, .unset, .unset, .unset, .unset] [(.int v16)])) t → Steps p.tables e below (T2.setTop (mkF m 101 #[.val (.int p1), .val (.int p2), .val (.int p3), .val (.int p4), .val (.int p5), .val (.int p6), .val (.ref b1), .val (.int v3), .val (.int v12), .unset, .unset, .unset, .unset, .unset] [(.int (p6 &&& (2 : Int32)))])) t := by
          intro t k
          by_cases c101_18 : (p6 &&& (2 : Int32)) = (0 : Int32)
          · skip
            refine XS.ifYes X2.here hx rfl (pc0 := 101) (pc' := 111) rfl (hb hby at_101) rfl ((if0 _ _).trans (teq c101_18).1) (by decide) (by decide) ?_
            show Steps p.tables e below (T2.setTop (mkF m 111 #[.val (.int p1), .val (.int p2), .val (.int p3), .val (.int p4), .val (.int p5), .val (.int p6), .val (.ref b1), .val (.int v3), .val (.int v12), .unset, .unset, .unset, .unset, .unset] [])) t
            refine XS.iloadN X2.here hx rfl (hb hby at_111) rfl  ?_
            show Steps p.tables e below (T2.setTop (mkF m 112 #[.val (.int p1), .val (.int p2), .val (.int p3), .val (.int p4), .val (.int p5), .val (.int p6), .val (.ref b1), .val (.int v3), .val (.int v12), .unset, .unset, .unset, .unset, .unset] [(.int p2)])) t
            have q_v16 : v16 = p2 := by rw [hv_v16, if_pos c101_18]
            rw [q_v16] at k
            exact k
          · skip
            refine XS.ifNo X2.here hx rfl (hb hby at_101) rfl ((if0 _ _).trans (feq c101_18).1) ?_
            show Steps p.tables e below (T2.setTop (mkF m 104 #[.val (.int p1), .val (.int p2), .val (.int p3), .val (.int p4), .val (.int p5), .val (.int p6), .val (.ref b1), .val (.int v3), .val (.int v12), .unset, .unset, .unset, .unset, .unset] [])) t
            refine XS.iloadN X2.here hx rfl (hb hby at_104) rfl  ?_
            show Steps p.tables e below (T2.setTop (mkF m 105 #[.val (.int p1), .val (.int p2), .val (.int p3), .val (.int p4), .val (.int p5), .val (.int p6), .val (.ref b1), .val (.int v3), .val (.int v12), .unset, .unset, .unset, .unset, .unset] [(.int p2)])) t
            refine XS.iload X2.here hx rfl (hb hby at_105) rfl  ?_
            show Steps p.tables e below (T2.setTop (mkF m 107 #[.val (.int p1), .val (.int p2), .val (.int p3), .val (.int p4), .val (.int p5), .val (.int p6), .val (.ref b1), .val (.int v3), .val (.int v12), .unset, .unset, .unset, .unset, .unset] [(.int p5), (.int p2)])) t
            refine XS.iadd X2.here hx rfl (hb hby at_107) rfl ?_
            show Steps p.tables e below (T2.setTop (mkF m 108 #[.val (.int p1), .val (.int p2), .val (.int p3), .val (.int p4), .val (.int p5), .val (.int p6), .val (.ref b1), .val (.int v3), .val (.int v12), .unset, .unset, .unset, .unset, .unset] [(.int (p2 + p5))])) t
            refine XS.goto X2.here hx rfl (pc0 := 108) (pc' := 112) rfl (hb hby at_108) (by decide) (by decide) ?_
            show Steps p.tables e below (T2.setTop (mkF m 112 #[.val (.int p1), .val (.int p2), .val (.int p3), .val (.int p4), .val (.int p5), .val (.int p6), .val (.ref b1), .val (.int v3), .val (.int v12), .unset, .unset, .unset, .unset, .unset] [(.int (p2 + p5))])) t
            have q_v16 : v16 = (p2 + p5) := by rw [hv_v16, if_neg c101_18]
            rw [q_v16] at k
            exact k
        refine OutW.back j17 ?_
        show OutW _ _ _ _ _ _ _ (T2.setTop (mkF m 112 #[.val (.int p1), .val (.int p2), .val (.int p3), .val (.int p4), .val (.int p5), .val (.int p6), .val (.ref b1), .val (.int v3), .val (.int v12), .unset, .unset, .unset, .unset, .unset] [(.int v16)]))
        refine OutW.back (fun t k => XS.istore X2.here hx rfl (hb hby at_112) rfl (l' := #[.val (.int p1), .val (.int p2), .val (.int p3), .val (.int p4), .val (.int p5), .val (.int p6), .val (.ref b1), .val (.int v3), .val (.int v12), .val (.int v16), .unset, .unset, .unset, .unset]) rfl k) ?_
        show OutW _ _ _ _ _ _ _ (T2.setTop (mkF m 114 #[.val (.int p1), .val (.int p2), .val (.int p3), .val (.int p4), .val (.int p5), .val (.int p6), .val (.ref b1), .val (.int v3), .val (.int v12), .val (.int v16), .unset, .unset, .unset, .unset] []))
        refine OutW.back (fun t k => XS.iload X2.here hx rfl (hb hby at_114) rfl  k) ?_
        show OutW _ _ _ _ _ _ _ (T2.setTop (mkF m 116 #[.val (.int p1), .val (.int p2), .val (.int p3), .val (.int p4), .val (.int p5), .val (.int p6), .val (.ref b1), .val (.int v3), .val (.int v12), .val (.int v16), .unset, .unset, .unset, .unset] [(.int p6)]))
        refine OutW.back (fun t k => XS.iconst X2.here hx rfl (hb hby at_116) k) ?_
        show OutW _ _ _ _ _ _ _ (T2.setTop (mkF m 117 #[.val (.int p1), .val (.int p2), .val (.int p3), .val (.int p4), .val (.int p5), .val (.int p6), .val (.ref b1), .val (.int v3), .val (.int v12), .val (.int v16), .unset, .unset, .unset, .unset] [(.int (4 : Int32)), (.int p6)]))
        refine OutW.back (fun t k => XS.iand X2.here hx rfl (hb hby at_117) rfl k) ?_
        show OutW _ _ _ _ _ _ _ (T2.setTop (mkF m 118 #[.val (.int p1), .val (.int p2), .val (.int p3), .val (.int p4), .val (.int p5), .val (.int p6), .val (.ref b1), .val (.int v3), .val (.int v12), .val (.int v16), .unset, .unset, .unset, .unset] [(.int (p6 &&& (4 : Int32)))]))
        obtain ⟨v20, hv_v20⟩ : ∃ z : Int32, z = (if (p6 &&& (4 : Int32)) = (0 : Int32) then p3 else (p3 + p5)) := ⟨_, rfl⟩
        have j21 : ∀ t, Steps p.tables e below (T2.setTop (mkF m 129 #[.val (.int p1), .val (.int p2), .val (.int p3), .val (.int p4), .val (.int p5), .val (.int p6), .val (.ref b1), .val (.int v3), .val (.int v12), .val (.int v16), .unset, .unset, .unset, .unset] [(.int v20)])) t → Steps p.tables e below (T2.setTop (mkF m 118 #[.val (.int p1), .val (.int p2), .val (.int p3), .val (.int p4), .val (.int p5), .val (.int p6), .val (.ref b1), .val (.int v3), .val (.int v12), .val (.int v16), .unset, .unset, .unset, .unset] [(.int (p6 &&& (4 : Int32)))])) t := by
          intro t k
          by_cases c118_22 : (p6 &&& (4 : Int32)) = (0 : Int32)
          · skip
            refine XS.ifYes X2.here hx rfl (pc0 := 118) (pc' := 128) rfl (hb hby at_118) rfl ((if0 _ _).trans (teq c118_22).1) (by decide) (by decide) ?_
            show Steps p.tables e below (T2.setTop (mkF m 128 #[.val (.int p1), .val (.int p2), .val (.int p3), .val (.int p4), .val (.int p5), .val (.int p6), .val (.ref b1), .val (.int v3), .val (.int v12), .val (.int v16), .unset, .unset, .unset, .unset] [])) t
            refine XS.iloadN X2.here hx rfl (hb hby at_128) rfl  ?_
            show Steps p.tables e below (T2.setTop (mkF m 129 #[.val (.int p1), .val (.int p2), .val (.int p3), .val (.int p4), .val (.int p5), .val (.int p6), .val (.ref b1), .val (.int v3), .val (.int v12), .val (.int v16), .unset, .unset, .unset, .unset] [(.int p3)])) t
            have q_v20 : v20 = p3 := by rw [hv_v20, if_pos c118_22]
            rw [q_v20] at k
            exact k
          · skip
            refine XS.ifNo X2.here hx rfl (hb hby at_118) rfl ((if0 _ _).trans (feq c118_22).1) ?_
            show Steps p.tables e below (T2.setTop (mkF m 121 #[.val (.int p1), .val (.int p2), .val (.int p3), .val (.int p4), .val (.int p5), .val (.int p6), .val (.ref b1), .val (.int v3), .val (.int v12), .val (.int v16), .unset, .unset, .unset, .unset] [])) t
            refine XS.iloadN X2.here hx rfl (hb hby at_121) rfl  ?_
            show Steps p.tables e below (T2.setTop (mkF m 122 #[.val (.int p1), .val (.int p2), .val (.int p3), .val (.int p4), .val (.int p5), .val (.int p6), .val (.ref b1), .val (.int v3), .val (.int v12), .val (.int v16), .unset, .unset, .unset, .unset] [(.int p3)])) t
            refine XS.iload X2.here hx rfl (hb hby at_122) rfl  ?_
            show Steps p.tables e below (T2.setTop (mkF m 124 #[.val (.int p1), .val (.int p2), .val (.int p3), .val (.int p4), .val (.int p5), .val (.int p6), .val (.ref b1), .val (.int v3), .val (.int v12), .val (.int v16), .unset, .unset, .unset, .unset] [(.int p5), (.int p3)])) t
            refine XS.iadd X2.here hx rfl (hb hby at_124) rfl ?_
            show Steps p.tables e below (T2.setTop (mkF m 125 #[.val (.int p1), .val (.int p2), .val (.int p3), .val (.int p4), .val (.int p5), .val (.int p6), .val (.ref b1), .val (.int v3), .val (.int v12), .val (.int v16), .unset, .unset, .unset, .unset] [(.int (p3 + p5))])) t
            refine XS.goto X2.here hx rfl (pc0 := 125) (pc' := 129) rfl (hb hby at_125) (by decide) (by decide) ?_
            show Steps p.tables e below (T2.setTop (mkF m 129 #[.val (.int p1), .val (.int p2), .val (.int p3), .val (.int p4), .val (.int p5), .val (.int p6), .val (.ref b1), .val (.int v3), .val (.int v12), .val (.int v16), .unset, .unset, .unset, .unset] [(.int (p3 + p5))])) t
            have q_v20 : v20 = (p3 + p5) := by rw [hv_v20, if_neg c118_22]
            rw [q_v20] at k
            exact k
        refine OutW.back j21 ?_
        show OutW _ _ _ _ _ _ _ (T2.setTop (mkF m 129 #[.val (.int p1), .val (.int p2), .val (.int p3), .val (.int p4), .val (.int p5), .val (.int p6), .val (.ref b1), .val (.int v3), .val (.int v12), .val (.int v16), .unset, .unset, .unset, .unset] [(.int v20)]))
        refine OutW.back (fun t k => XS.istore X2.here hx rfl (hb hby at_129) rfl (l' := #[.val (.int p1), .val (.int p2), .val (.int p3), .val (.int p4), .val (.int p5), .val (.int p6), .val (.ref b1), .val (.int v3), .val (.int v12), .val (.int v16), .val (.int v20), .unset, .unset, .unset]) rfl k) ?_
        show OutW _ _ _ _ _ _ _ (T2.setTop (mkF m 131 #[.val (.int p1), .val (.int p2), .val (.int p3), .val (.int p4), .val (.int p5), .val (.int p6), .val (.ref b1), .val (.int v3), .val (.int v12), .val (.int v16), .val (.int v20), .unset, .unset, .unset] []))
        refine OutW.back (fun t k => XS.iload X2.here hx rfl (hb hby at_131) rfl  k) ?_
        show OutW _ _ _ _ _ _ _ (T2.setTop (mkF m 133 #[.val (.int p1), .val (.int p2), .val (.int p3), .val (.int p4), .val (.int p5), .val (.int p6), .val (.ref b1), .val (.int v3), .val (.int v12), .val (.int v16), .val (.int v20), .unset, .unset, .unset] [(.int p6)]))
        refine OutW.back (fun t k => XS.bipush X2.here hx rfl (hb hby at_133) k) ?_
        show OutW _ _ _ _ _ _ _ (T2.setTop (mkF m 135 #[.val (.int p1), .val (.int p2), .val (.int p3), .val (.int p4), .val (.int p5), .val (.int p6), .val (.ref b1), .val (.int v3), .val (.int v12), .val (.int v16), .val (.int v20), .unset, .unset, .unset] [(.int (8 : Int32)), (.int p6)]))
        refine OutW.back (fun t k => XS.iand X2.here hx rfl (hb hby at_135) rfl k) ?_
        show OutW _ _ _ _ _ _ _ (T2.setTop (mkF m 136 #[.val (.int p1), .val (.int p2), .val (.int p3), .val (.int p4), .val (.int p5), .val (.int p6), .val (.ref b1), .val (.int v3), .val (.int v12), .val (.int v16), .val (.int v20), .unset, .unset, .unset] [(.int (p6 &&& (8 : Int32)))]))
        obtain ⟨v24, hv_v24⟩ : ∃ z : Int32, z = (if (p6 &&& (8 : Int32)) = (0 : Int32) then p4 else (p4 + p5)) := ⟨_, rfl⟩
        have j25 : ∀ t, Steps p.tables e below (T2.setTop (mkF m 147 #[.val (.int p1), .val (.int p2), .val (.int p3), .val (.int p4), .val (.int p5), .val (.int p6), .val (.ref b1), .val (.int v3), .val (.int v12), .val (.int v16), .val (.int v20), .unset, .unset, .unset] [(.int v24)])) t → Steps p.tables e below (T2.setTop (mkF m 136 #[.val (.int p1), .val (.int p2), .val (.int p3), .val (.int p4), .val (.int p5), .val (.int p6), .val (.ref b1), .val (.int v3), .val (.int v12), .val (.int v16), .val (.int v20), .unset, .unset, .unset] [(.int (p6 &&& (8 : Int32)))])) t := by
          intro t k
          by_cases c136_26 : (p6 &&& (8 : Int32)) = (0 : Int32)
          · skip
            refine XS.ifYes X2.here hx rfl (pc0 := 136) (pc' := 146) rfl (hb hby at_136) rfl ((if0 _ _).trans (teq c136_26).1) (by decide) (by decide) ?_
            show Steps p.tables e below (T2.setTop (mkF m 146 #[.val (.int p1), .val (.int p2), .val (.int p3), .val (.int p4), .val (.int p5), .val (.int p6), .val (.ref b1), .val (.int v3), .val (.int v12), .val (.int v16), .val (.int v20), .unset, .unset, .unset] [])) t
            refine XS.iloadN X2.here hx rfl (hb hby at_146) rfl  ?_
            show Steps p.tables e below (T2.setTop (mkF m 147 #[.val (.int p1), .val (.int p2), .val (.int p3), .val (.int p4), .val (.int p5), .val (.int p6), .val (.ref b1), .val (.int v3), .val (.int v12), .val (.int v16), .val (.int v20), .unset, .unset, .unset] [(.int p4)])) t
            have q_v24 : v24 = p4 := by rw [hv_v24, if_pos c136_26]
            rw [q_v24] at k
            exact k
          · skip
            refine XS.ifNo X2.here hx rfl (hb hby at_136) rfl ((if0 _ _).trans (feq c136_26).1) ?_
            show Steps p.tables e below (T2.setTop (mkF m 139 #[.val (.int p1), .val (.int p2), .val (.int p3), .val (.int p4), .val (.int p5), .val (.int p6), .val (.ref b1), .val (.int v3), .val (.int v12), .val (.int v16), .val (.int v20), .unset, .unset, .unset] [])) t
            refine XS.iloadN X2.here hx rfl (hb hby at_139) rfl  ?_
            show Steps p.tables e below (T2.setTop (mkF m 140 #[.val (.int p1), .val (.int p2), .val (.int p3), .val (.int p4), .val (.int p5), .val (.int p6), .val (.ref b1), .val (.int v3), .val (.int v12), .val (.int v16), .val (.int v20), .unset, .unset, .unset] [(.int p4)])) t
            refine XS.iload X2.here hx rfl (hb hby at_140) rfl  ?_
            show Steps p.tables e below (T2.setTop (mkF m 142 #[.val (.int p1), .val (.int p2), .val (.int p3), .val (.int p4), .val (.int p5), .val (.int p6), .val (.ref b1), .val (.int v3), .val (.int v12), .val (.int v16), .val (.int v20), .unset, .unset, .unset] [(.int p5), (.int p4)])) t
            refine XS.iadd X2.here hx rfl (hb hby at_142) rfl ?_
            show Steps p.tables e below (T2.setTop (mkF m 143 #[.val (.int p1), .val (.int p2), .val (.int p3), .val (.int p4), .val (.int p5), .val (.int p6), .val (.ref b1), .val (.int v3), .val (.int v12), .val (.int v16), .val (.int v20), .unset, .unset, .unset] [(.int (p4 + p5))])) t
            refine XS.goto X2.here hx rfl (pc0 := 143) (pc' := 147) rfl (hb hby at_143) (by decide) (by decide) ?_
            show Steps p.tables e below (T2.setTop (mkF m 147 #[.val (.int p1), .val (.int p2), .val (.int p3), .val (.int p4), .val (.int p5), .val (.int p6), .val (.ref b1), .val (.int v3), .val (.int v12), .val (.int v16), .val (.int v20), .unset, .unset, .unset] [(.int (p4 + p5))])) t
            have q_v24 : v24 = (p4 + p5) := by rw [hv_v24, if_neg c136_26]
            rw [q_v24] at k
            exact k
        refine OutW.back j25 ?_
        show OutW _ _ _ _ _ _ _ (T2.setTop (mkF m 147 #[.val (.int p1), .val (.int p2), .val (.int p3), .val (.int p4), .val (.int p5), .val (.int p6), .val (.ref b1), .val (.int v3), .val (.int v12), .val (.int v16), .val (.int v20), .unset, .unset, .unset] [(.int v24)]))
        refine OutW.back (fun t k => XS.istore X2.here hx rfl (hb hby at_147) rfl (l' := #[.val (.int p1), .val (.int p2), .val (.int p3), .val (.int p4), .val (.int p5), .val (.int p6), .val (.ref b1), .val (.int v3), .val (.int v12), .val (.int v16), .val (.int v20), .val (.int v24), .unset, .unset]) rfl k) ?_
        show OutW _ _ _ _ _ _ _ (T2.setTop (mkF m 149 #[.val (.int p1), .val (.int p2), .val (.int p3), .val (.int p4), .val (.int p5), .val (.int p6), .val (.ref b1), .val (.int v3), .val (.int v12), .val (.int v16), .val (.int v20), .val (.int v24), .unset, .unset] []))
        obtain ⟨T27, h27, X27, e27, E27, A27, D27, -, st27⟩ := newO X2 hx hZ hown (hw _ (List.mem_of_getElem? (i := 0) rfl)) (hw _ (List.mem_of_getElem? (i := 1) rfl)) (hw _ (List.mem_of_getElem? (i := 2) rfl)) e2 (g := (mkF m 149 #[.val (.int p1), .val (.int p2), .val (.int p3), .val (.int p4), .val (.int p5), .val (.int p6), .val (.ref b1), .val (.int v3), .val (.int v12), .val (.int v16), .val (.int v20), .val (.int v24), .unset, .unset] [])) rfl (hb hby at_149) (by decide) (by decide)
        obtain ⟨b27, g27⟩ : ∃ z, z = h2.size := ⟨_, rfl⟩
        rw [← g27] at A27 D27 st27
        have ne_cc_b27 : cc ≠ b27 := Nat.ne_of_lt (Nat.lt_of_lt_of_le A_cc.lt (Nat.le_of_eq g27.symm))
        have ne_b1_b27 : b1 ≠ b27 := Nat.ne_of_lt (Nat.lt_of_lt_of_le E_b1.lt (Nat.le_of_eq g27.symm))
        have g_b27 : n0 ≤ b27 := Nat.le_trans Z2 (Nat.le_of_eq g27.symm)
        have sz_b27 : h0.size ≤ b27 := Nat.le_trans K2.1 (Nat.le_of_eq g27.symm)
        have S_high := S_high.ext E27
        have S_cache := S_cache.ext E27
        have A_cc := A_cc.ext E27
        have U_cc := own_Uext U_cc E27
        have E_b1 := E_b1.ext E27
        have F_left_b1 := F_left_b1.ext E27
        have F_top_b1 := F_top_b1.ext E27
        have F_right_b1 := F_right_b1.ext E27
        have F_bottom_b1 := F_bottom_b1.ext E27
        have Z27 : n0 ≤ h27.size := Nat.le_trans Z2 E27.1
        have K27 := K2.ext E27
        have E_b27 := A27
        have F_left_b27 : Fld Z h27 b27 "com/example/canopy/canopy/model/Rect" "left" "I" (.int (0 : Int32)) := D27 (Or.inr (hw _ (List.mem_of_getElem? (i := 10) rfl))) (ty := .int) (by decide)
        have F_top_b27 : Fld Z h27 b27 "com/example/canopy/canopy/model/Rect" "top" "I" (.int (0 : Int32)) := D27 (Or.inr (hw _ (List.mem_of_getElem? (i := 12) rfl))) (ty := .int) (by decide)
        have F_right_b27 : Fld Z h27 b27 "com/example/canopy/canopy/model/Rect" "right" "I" (.int (0 : Int32)) := D27 (Or.inr (hw _ (List.mem_of_getElem? (i := 14) rfl))) (ty := .int) (by decide)
        have F_bottom_b27 : Fld Z h27 b27 "com/example/canopy/canopy/model/Rect" "bottom" "I" (.int (0 : Int32)) := D27 (Or.inr (hw _ (List.mem_of_getElem? (i := 16) rfl))) (ty := .int) (by decide)
        refine OutW.back st27 ?_
        show OutW _ _ _ _ _ _ _ (T27.setTop (mkF m 152 #[.val (.int p1), .val (.int p2), .val (.int p3), .val (.int p4), .val (.int p5), .val (.int p6), .val (.ref b1), .val (.int v3), .val (.int v12), .val (.int v16), .val (.int v20), .val (.int v24), .unset, .unset] [(.ref b27)]))
        refine OutW.back (fun t k => XS.dup X27.here hx rfl (hb hby at_152) rfl rfl k) ?_
        show OutW _ _ _ _ _ _ _ (T27.setTop (mkF m 153 #[.val (.int p1), .val (.int p2), .val (.int p3), .val (.int p4), .val (.int p5), .val (.int p6), .val (.ref b1), .val (.int v3), .val (.int v12), .val (.int v16), .val (.int v20), .val (.int v24), .unset, .unset] [(.ref b27), (.ref b27)]))
        refine OutW.back (fun t k => XS.iload X27.here hx rfl (hb hby at_153) rfl  k) ?_
        show OutW _ _ _ _ _ _ _ (T27.setTop (mkF m 155 #[.val (.int p1), .val (.int p2), .val (.int p3), .val (.int p4), .val (.int p5), .val (.int p6), .val (.ref b1), .val (.int v3), .val (.int v12), .val (.int v16), .val (.int v20), .val (.int v24), .unset, .unset] [(.int v12), (.ref b27), (.ref b27)]))
        refine OutW.back (fun t k => XS.iload X27.here hx rfl (hb hby at_155) rfl  k) ?_
        show OutW _ _ _ _ _ _ _ (T27.setTop (mkF m 157 #[.val (.int p1), .val (.int p2), .val (.int p3), .val (.int p4), .val (.int p5), .val (.int p6), .val (.ref b1), .val (.int v3), .val (.int v12), .val (.int v16), .val (.int v20), .val (.int v24), .unset, .unset] [(.int v16), (.int v12), (.ref b27), (.ref b27)]))
        refine OutW.back (fun t k => XS.iload X27.here hx rfl (hb hby at_157) rfl  k) ?_
        show OutW _ _ _ _ _ _ _ (T27.setTop (mkF m 159 #[.val (.int p1), .val (.int p2), .val (.int p3), .val (.int p4), .val (.int p5), .val (.int p6), .val (.ref b1), .val (.int v3), .val (.int v12), .val (.int v16), .val (.int v20), .val (.int v24), .unset, .unset] [(.int v20), (.int v16), (.int v12), (.ref b27), (.ref b27)]))
        refine OutW.back (fun t k => XS.iload X27.here hx rfl (hb hby at_159) rfl  k) ?_
        show OutW _ _ _ _ _ _ _ (T27.setTop (mkF m 161 #[.val (.int p1), .val (.int p2), .val (.int p3), .val (.int p4), .val (.int p5), .val (.int p6), .val (.ref b1), .val (.int v3), .val (.int v12), .val (.int v16), .val (.int v20), .val (.int v24), .unset, .unset] [(.int v24), (.int v20), (.int v16), (.int v12), (.ref b27), (.ref b27)]))
        obtain ⟨_, _, ⟨T28, L28, k28, n28⟩, -, X28, ⟨Lc28, hQ28, l28, y28, z28⟩, st28⟩ := X27.specialBack hx (y := (⟨"com/example/canopy/canopy/model/Rect", "<init>", "(IIII)V"⟩ : MethodName)) rfl hown (mvT hZ (hw _ (List.mem_of_getElem? (i := 3) rfl))) (mvT hZ (hw _ (List.mem_of_getElem? (i := 4) rfl))) (mvT hZ (hw _ (List.mem_of_getElem? (i := 5) rfl))) (by decide) (backOf (W := 1) (rm1 l Z a0 hw [] b27 v12 v16 v20 v24 h27 n0 Z27 E_b27 g_b27 F_left_b27 F_top_b27 F_right_b27 F_bottom_b27) hZ (hw _ (List.mem_of_getElem? (i := 5) rfl)) (hw _ (List.mem_of_getElem? (i := 2) rfl)) (by decide) (by decide)) (g := (mkF m 161 #[.val (.int p1), .val (.int p2), .val (.int p3), .val (.int p4), .val (.int p5), .val (.int p6), .val (.ref b1), .val (.int v3), .val (.int v12), .val (.int v16), .val (.int v20), .val (.int v24), .unset, .unset] [(.int v24), (.int v20), (.int v16), (.int v12), (.ref b27), (.ref b27)])) rfl (by rw [hml]; rfl) (Steps.refl _) (a := b27) (argsL := [(.int v12), (.int v16), (.int v20), (.int v24)]) (rest := [(.ref b27)]) (lenOf pd_2 rfl) rfl (by show 2 * 0 + _ ≤ _; exact Nat.le_of_eq rfl) (hb hby at_161) (fun _ _ => ⟨rfl, e27, (by decide : 2 + 0 ≤ _), (by decide : 8 + 0 ≤ _)⟩)
        dsimp only [Pt.U, Pt.locs, Pt.cells, Pt.slots] at X28 l28 y28 z28 st28 hQ28
        subst l28 y28 z28
        obtain ⟨h28, eh28⟩ : ∃ z, z = T28.heap := ⟨_, rfl⟩
        rw [← eh28] at hQ28
        have e28 : T28.heap = h28 := eh28.symm
        obtain ⟨rfl, Nq28, Kq28, F_left_b27, F_top_b27, F_right_b27, F_bottom_b27⟩ := hQ28
        have S_high := own_keepS S_high Kq28 (allS ⟨_, E_b27⟩ all0)
        have S_cache := own_keepS S_cache Kq28 (allS ⟨_, E_b27⟩ all0)
        have A_cc := own_Akeep A_cc Kq28 (ninS ne_cc_b27 nin0)
        have U_cc := own_Ukeep U_cc Kq28
        have E_b1 := E_b1.keep Kq28
        have F_left_b1 := F_left_b1.keep Kq28 (ninS ne_b1_b27 nin0)
        have F_top_b1 := F_top_b1.keep Kq28 (ninS ne_b1_b27 nin0)
        have F_right_b1 := F_right_b1.keep Kq28 (ninS ne_b1_b27 nin0)
        have F_bottom_b1 := F_bottom_b1.keep Kq28 (ninS ne_b1_b27 nin0)
        have E_b27 := E_b27.keep Kq28
        have Z28 : n0 ≤ h28.size := Nat.le_trans Z27 Kq28.1
        have K28 := K27.trans Kq28 (allS (Or.inr sz_b27) all0)
        have N28 := Fr.app N2 Nq28
        refine OutW.via st28 ?_
        show OutW _ _ _ _ _ _ _ (T28.setTop (mkF m 164 #[.val (.int p1), .val (.int p2), .val (.int p3), .val (.int p4), .val (.int p5), .val (.int p6), .val (.ref b1), .val (.int v3), .val (.int v12), .val (.int v16), .val (.int v20), .val (.int v24), .unset, .unset] [(.ref b27)]))
        refine OutW.back (fun t k => XS.astore X28.here hx rfl (hb hby at_164) rfl rfl (l' := #[.val (.int p1), .val (.int p2), .val (.int p3), .val (.int p4), .val (.int p5), .val (.int p6), .val (.ref b1), .val (.int v3), .val (.int v12), .val (.int v16), .val (.int v20), .val (.int v24), .val (.ref b27), .unset]) rfl k) ?_
        show OutW _ _ _ _ _ _ _ (T28.setTop (mkF m 166 #[.val (.int p1), .val (.int p2), .val (.int p3), .val (.int p4), .val (.int p5), .val (.int p6), .val (.ref b1), .val (.int v3), .val (.int v12), .val (.int v16), .val (.int v20), .val (.int v24), .val (.ref b27), .unset] []))
        refine OutW.back (fun t k => XS.iload X28.here hx rfl (hb hby at_166) rfl  k) ?_
        show OutW _ _ _ _ _ _ _ (T28.setTop (mkF m 168 #[.val (.int p1), .val (.int p2), .val (.int p3), .val (.int p4), .val (.int p5), .val (.int p6), .val (.ref b1), .val (.int v3), .val (.int v12), .val (.int v16), .val (.int v20), .val (.int v24), .val (.ref b27), .unset] [(.int p6)]))
        refine OutW.back (fun t k => XS.bipush X28.here hx rfl (hb hby at_168) k) ?_
        show OutW _ _ _ _ _ _ _ (T28.setTop (mkF m 170 #[.val (.int p1), .val (.int p2), .val (.int p3), .val (.int p4), .val (.int p5), .val (.int p6), .val (.ref b1), .val (.int v3), .val (.int v12), .val (.int v16), .val (.int v20), .val (.int v24), .val (.ref b27), .unset] [(.int (15 : Int32)), (.int p6)]))
        refine OutW.back (fun t k => XS.iand X28.here hx rfl (hb hby at_170) rfl k) ?_
        show OutW _ _ _ _ _ _ _ (T28.setTop (mkF m 171 #[.val (.int p1), .val (.int p2), .val (.int p3), .val (.int p4), .val (.int p5), .val (.int p6), .val (.ref b1), .val (.int v3), .val (.int v12), .val (.int v16), .val (.int v20), .val (.int v24), .val (.ref b27), .unset] [(.int (p6 &&& (15 : Int32)))]))
        obtain ⟨v31, hv_v31⟩ : ∃ z : Int32, z = (if (p6 &&& (15 : Int32)) = (0 : Int32) then (1 : Int32) else (if p5 = (0 : Int32) then (1 : Int32) else (0 : Int32))) := ⟨_, rfl⟩
        have j32 : ∀ t, Steps p.tables e below (T28.setTop (mkF m 184 #[.val (.int p1), .val (.int p2), .val (.int p3), .val (.int p4), .val (.int p5), .val (.int p6), .val (.ref b1), .val (.int v3), .val (.int v12), .val (.int v16), .val (.int v20), .val (.int v24), .val (.ref b27), .unset] [(.int v31)])) t → Steps p.tables e below (T28.setTop (mkF m 171 #[.val (.int p1), .val (.int p2), .val (.int p3), .val (.int p4), .val (.int p5), .val (.int p6), .val (.ref b1), .val (.int v3), .val (.int v12), .val (.int v16), .val (.int v20), .val (.int v24), .val (.ref b27), .unset] [(.int (p6 &&& (15 : Int32)))])) t := by
          intro t k
          by_cases c171_33 : (p6 &&& (15 : Int32)) = (0 : Int32)
          · skip
            refine XS.ifYes X28.here hx rfl (pc0 := 171) (pc' := 179) rfl (hb hby at_171) rfl ((if0 _ _).trans (teq c171_33).1) (by decide) (by decide) ?_
            show Steps p.tables e below (T28.setTop (mkF m 179 #[.val (.int p1), .val (.int p2), .val (.int p3), .val (.int p4), .val (.int p5), .val (.int p6), .val (.ref b1), .val (.int v3), .val (.int v12), .val (.int v16), .val (.int v20), .val (.int v24), .val (.ref b27), .unset] [])) t
            refine XS.iconst X28.here hx rfl (hb hby at_179) ?_
            show Steps p.tables e below (T28.setTop (mkF m 180 #[.val (.int p1), .val (.int p2), .val (.int p3), .val (.int p4), .val (.int p5), .val (.int p6), .val (.ref b1), .val (.int v3), .val (.int v12), .val (.int v16), .val (.int v20), .val (.int v24), .val (.ref b27), .unset] [(.int (1 : Int32))])) t
            refine XS.goto X28.here hx rfl (pc0 := 180) (pc' := 184) rfl (hb hby at_180) (by decide) (by decide) ?_
            show Steps p.tables e below (T28.setTop (mkF m 184 #[.val (.int p1), .val (.int p2), .val (.int p3), .val (.int p4), .val (.int p5), .val (.int p6), .val (.ref b1), .val (.int v3), .val (.int v12), .val (.int v16), .val (.int v20), .val (.int v24), .val (.ref b27), .unset] [(.int (1 : Int32))])) t
            have q_v31 : v31 = (1 : Int32) := by rw [hv_v31, if_pos c171_33]
            rw [q_v31] at k
            exact k
          · skip
            refine XS.ifNo X28.here hx rfl (hb hby at_171) rfl ((if0 _ _).trans (feq c171_33).1) ?_
            show Steps p.tables e below (T28.setTop (mkF m 174 #[.val (.int p1), .val (.int p2), .val (.int p3), .val (.int p4), .val (.int p5), .val (.int p6), .val (.ref b1), .val (.int v3), .val (.int v12), .val (.int v16), .val (.int v20), .val (.int v24), .val (.ref b27), .unset] [])) t
            refine XS.iload X28.here hx rfl (hb hby at_174) rfl  ?_
            show Steps p.tables e below (T28.setTop (mkF m 176 #[.val (.int p1), .val (.int p2), .val (.int p3), .val (.int p4), .val (.int p5), .val (.int p6), .val (.ref b1), .val (.int v3), .val (.int v12), .val (.int v16), .val (.int v20), .val (.int v24), .val (.ref b27), .unset] [(.int p5)])) t
            by_cases c176_34 : p5 = (0 : Int32)
            · skip
              refine XS.ifNo X28.here hx rfl (hb hby at_176) rfl ((if0 _ _).trans (teq c176_34).2) ?_
              show Steps p.tables e below (T28.setTop (mkF m 179 #[.val (.int p1), .val (.int p2), .val (.int p3), .val (.int p4), .val (.int p5), .val (.int p6), .val (.ref b1), .val (.int v3), .val (.int v12), .val (.int v16), .val (.int v20), .val (.int v24), .val (.ref b27), .unset] [])) t
              refine XS.iconst X28.here hx rfl (hb hby at_179) ?_
              show Steps p.tables e below (T28.setTop (mkF m 180 #[.val (.int p1), .val (.int p2), .val (.int p3), .val (.int p4), .val (.int p5), .val (.int p6), .val (.ref b1), .val (.int v3), .val (.int v12), .val (.int v16), .val (.int v20), .val (.int v24), .val (.ref b27), .unset] [(.int (1 : Int32))])) t
              refine XS.goto X28.here hx rfl (pc0 := 180) (pc' := 184) rfl (hb hby at_180) (by decide) (by decide) ?_
              show Steps p.tables e below (T28.setTop (mkF m 184 #[.val (.int p1), .val (.int p2), .val (.int p3), .val (.int p4), .val (.int p5), .val (.int p6), .val (.ref b1), .val (.int v3), .val (.int v12), .val (.int v16), .val (.int v20), .val (.int v24), .val (.ref b27), .unset] [(.int (1 : Int32))])) t
              have q_v31 : v31 = (1 : Int32) := by rw [hv_v31, if_neg c171_33, if_pos c176_34]
              rw [q_v31] at k
              exact k
            · skip
              refine XS.ifYes X28.here hx rfl (pc0 := 176) (pc' := 183) rfl (hb hby at_176) rfl ((if0 _ _).trans (feq c176_34).2) (by decide) (by decide) ?_
              show Steps p.tables e below (T28.setTop (mkF m 183 #[.val (.int p1), .val (.int p2), .val (.int p3), .val (.int p4), .val (.int p5), .val (.int p6), .val (.ref b1), .val (.int v3), .val (.int v12), .val (.int v16), .val (.int v20), .val (.int v24), .val (.ref b27), .unset] [])) t
              refine XS.iconst X28.here hx rfl (hb hby at_183) ?_
              show Steps p.tables e below (T28.setTop (mkF m 184 #[.val (.int p1), .val (.int p2), .val (.int p3), .val (.int p4), .val (.int p5), .val (.int p6), .val (.ref b1), .val (.int v3), .val (.int v12), .val (.int v16), .val (.int v20), .val (.int v24), .val (.ref b27), .unset] [(.int (0 : Int32))])) t
              have q_v31 : v31 = (0 : Int32) := by rw [hv_v31, if_neg c171_33, if_neg c176_34]
              rw [q_v31] at k
              exact k
        refine OutW.back j32 ?_
        show OutW _ _ _ _ _ _ _ (T28.setTop (mkF m 184 #[.val (.int p1), .val (.int p2), .val (.int p3), .val (.int p4), .val (.int p5), .val (.int p6), .val (.ref b1), .val (.int v3), .val (.int v12), .val (.int v16), .val (.int v20), .val (.int v24), .val (.ref b27), .unset] [(.int v31)]))
        refine OutW.back (fun t k => XS.istore X28.here hx rfl (hb hby at_184) rfl (l' := #[.val (.int p1), .val (.int p2), .val (.int p3), .val (.int p4), .val (.int p5), .val (.int p6), .val (.ref b1), .val (.int v3), .val (.int v12), .val (.int v16), .val (.int v20), .val (.int v24), .val (.ref b27), .val (.int v31)]) rfl k) ?_
        show OutW _ _ _ _ _ _ _ (T28.setTop (mkF m 186 #[.val (.int p1), .val (.int p2), .val (.int p3), .val (.int p4), .val (.int p5), .val (.int p6), .val (.ref b1), .val (.int v3), .val (.int v12), .val (.int v16), .val (.int v20), .val (.int v24), .val (.ref b27), .val (.int v31)] []))
        refine OutW.back (fun t k => XS.aload X28.here hx rfl (hb hby at_186) rfl rfl  k) ?_
        show OutW _ _ _ _ _ _ _ (T28.setTop (mkF m 188 #[.val (.int p1), .val (.int p2), .val (.int p3), .val (.int p4), .val (.int p5), .val (.int p6), .val (.ref b1), .val (.int v3), .val (.int v12), .val (.int v16), .val (.int v20), .val (.int v24), .val (.ref b27), .val (.int v31)] [(.ref b1)]))
        refine OutW.back (fun t k => XS.aload X28.here hx rfl (hb hby at_188) rfl rfl  k) ?_
        show OutW _ _ _ _ _ _ _ (T28.setTop (mkF m 190 #[.val (.int p1), .val (.int p2), .val (.int p3), .val (.int p4), .val (.int p5), .val (.int p6), .val (.ref b1), .val (.int v3), .val (.int v12), .val (.int v16), .val (.int v20), .val (.int v24), .val (.ref b27), .val (.int v31)] [(.ref b27), (.ref b1)]))
        obtain ⟨cq35, kq35, qa35, qb35, qc35⟩ := isOf hZ e28 E_b1
        obtain ⟨_, _, ⟨T35, L35, k35, n35⟩, -, X35, ⟨Lc35, hQ35, l35, y35, z35⟩, st35⟩ := X28.virtualBack hx (y := (⟨"com/example/canopy/canopy/model/Rect", "equals", "(Ljava/lang/Object;)Z"⟩ : MethodName)) (z := (⟨"com/example/canopy/canopy/model/Rect", "equals", "(Ljava/lang/Object;)Z"⟩ : MethodName)) hown (mvT hZ (hw _ (List.mem_of_getElem? (i := 17) rfl))) (mvT hZ (hw _ (List.mem_of_getElem? (i := 18) rfl))) (notFace_of_selects (args := #[]) (mvT hZ (hw _ (List.mem_of_getElem? (i := 20) rfl)))) (mvT hZ (hw _ (List.mem_of_getElem? (i := 20) rfl))) (mvT hZ (hw _ (List.mem_of_getElem? (i := 19) rfl))) (by decide) (backOf (W := 0) (rm3r l Z a0 hw [] b1 b27 p1 p2 p3 p4 v12 v16 v20 v24 h28 n0 Z28 E_b27 F_left_b1 F_top_b1 F_right_b1 F_bottom_b1 F_left_b27 F_top_b27 F_right_b27 F_bottom_b27) hZ (hw _ (List.mem_of_getElem? (i := 21) rfl)) (hw _ (List.mem_of_getElem? (i := 2) rfl)) (by decide) (by decide)) qa35 qc35 (g := (mkF m 190 #[.val (.int p1), .val (.int p2), .val (.int p3), .val (.int p4), .val (.int p5), .val (.int p6), .val (.ref b1), .val (.int v3), .val (.int v12), .val (.int v16), .val (.int v20), .val (.int v24), .val (.ref b27), .val (.int v31)] [(.ref b27), (.ref b1)])) rfl (by rw [hml]; rfl) (Steps.refl _) (argsL := [(.ref b27)]) (rest := []) (lenOf pd_3 rfl) rfl (by show 2 * 0 + _ ≤ _; exact Nat.le_of_eq rfl) (hb hby at_190) (fun _ _ => ⟨rfl, e28, (by decide : 2 + 0 ≤ _), (by decide : 8 + 0 ≤ _)⟩)
        dsimp only [Pt.U, Pt.locs, Pt.cells, Pt.slots] at X35 l35 y35 z35 st35 hQ35
        subst l35 y35 z35
        obtain ⟨rfl, Nq35, e35⟩ := hQ35
        have N35 := Fr.app N28 Nq35
        refine OutW.via st35 ?_
        show OutW _ _ _ _ _ _ _ (T35.setTop (mkF m 193 #[.val (.int p1), .val (.int p2), .val (.int p3), .val (.int p4), .val (.int p5), .val (.int p6), .val (.ref b1), .val (.int v3), .val (.int v12), .val (.int v16), .val (.int v20), .val (.int v24), .val (.ref b27), .val (.int v31)] [(.int (eqF p1 p2 p3 p4 v12 v16 v20 v24))]))
        refine OutW.back (fun t k => XS.iload X35.here hx rfl (hb hby at_193) rfl  k) ?_
        show OutW _ _ _ _ _ _ _ (T35.setTop (mkF m 195 #[.val (.int p1), .val (.int p2), .val (.int p3), .val (.int p4), .val (.int p5), .val (.int p6), .val (.ref b1), .val (.int v3), .val (.int v12), .val (.int v16), .val (.int v20), .val (.int v24), .val (.ref b27), .val (.int v31)] [(.int v31), (.int (eqF p1 p2 p3 p4 v12 v16 v20 v24))]))
        have qq := own_eq p1 p2 p3 p4 p5 p6 v12 v16 v20 v24 v31 hv_v12 hv_v16 hv_v20 hv_v24 hv_v31
        refine OutW.back (fun t k => XS.icmpNo X35.here hx rfl (hb hby at_195) rfl (teq qq.1).2 k) ?_
        show OutW _ _ _ _ _ _ _ (T35.setTop (mkF m 198 #[.val (.int p1), .val (.int p2), .val (.int p3), .val (.int p4), .val (.int p5), .val (.int p6), .val (.ref b1), .val (.int v3), .val (.int v12), .val (.int v16), .val (.int v20), .val (.int v24), .val (.ref b27), .val (.int v31)] []))
        refine OutW.back (fun t k => XS.aload X35.here hx rfl (hb hby at_198) rfl rfl  k) ?_
        show OutW _ _ _ _ _ _ _ (T35.setTop (mkF m 200 #[.val (.int p1), .val (.int p2), .val (.int p3), .val (.int p4), .val (.int p5), .val (.int p6), .val (.ref b1), .val (.int v3), .val (.int v12), .val (.int v16), .val (.int v20), .val (.int v24), .val (.ref b27), .val (.int v31)] [(.ref b27)]))
        refine OutW.back (fun t k => XS.aload X35.here hx rfl (hb hby at_200) rfl rfl  k) ?_
        show OutW _ _ _ _ _ _ _ (T35.setTop (mkF m 202 #[.val (.int p1), .val (.int p2), .val (.int p3), .val (.int p4), .val (.int p5), .val (.int p6), .val (.ref b1), .val (.int v3), .val (.int v12), .val (.int v16), .val (.int v20), .val (.int v24), .val (.ref b27), .val (.int v31)] [(.ref b1), (.ref b27)]))
        obtain ⟨cq36, kq36, qa36, qb36, qc36⟩ := isOf hZ e35 E_b27
        obtain ⟨_, _, ⟨T36, L36, k36, n36⟩, -, X36, ⟨Lc36, hQ36, l36, y36, z36⟩, st36⟩ := X35.virtualBack hx (y := (⟨"com/example/canopy/canopy/model/Rect", "equals", "(Ljava/lang/Object;)Z"⟩ : MethodName)) (z := (⟨"com/example/canopy/canopy/model/Rect", "equals", "(Ljava/lang/Object;)Z"⟩ : MethodName)) hown (mvT hZ (hw _ (List.mem_of_getElem? (i := 17) rfl))) (mvT hZ (hw _ (List.mem_of_getElem? (i := 18) rfl))) (notFace_of_selects (args := #[]) (mvT hZ (hw _ (List.mem_of_getElem? (i := 20) rfl)))) (mvT hZ (hw _ (List.mem_of_getElem? (i := 20) rfl))) (mvT hZ (hw _ (List.mem_of_getElem? (i := 19) rfl))) (by decide) (backOf (W := 0) (rm3r l Z a0 hw [] b27 b1 v12 v16 v20 v24 p1 p2 p3 p4 h28 n0 Z28 E_b1 F_left_b27 F_top_b27 F_right_b27 F_bottom_b27 F_left_b1 F_top_b1 F_right_b1 F_bottom_b1) hZ (hw _ (List.mem_of_getElem? (i := 21) rfl)) (hw _ (List.mem_of_getElem? (i := 2) rfl)) (by decide) (by decide)) qa36 qc36 (g := (mkF m 202 #[.val (.int p1), .val (.int p2), .val (.int p3), .val (.int p4), .val (.int p5), .val (.int p6), .val (.ref b1), .val (.int v3), .val (.int v12), .val (.int v16), .val (.int v20), .val (.int v24), .val (.ref b27), .val (.int v31)] [(.ref b1), (.ref b27)])) rfl (by rw [hml]; rfl) (Steps.refl _) (argsL := [(.ref b1)]) (rest := []) (lenOf pd_3 rfl) rfl (by show 2 * 0 + _ ≤ _; exact Nat.le_of_eq rfl) (hb hby at_202) (fun _ _ => ⟨rfl, e35, (by decide : 2 + 0 ≤ _), (by decide : 8 + 0 ≤ _)⟩)
        dsimp only [Pt.U, Pt.locs, Pt.cells, Pt.slots] at X36 l36 y36 z36 st36 hQ36
        subst l36 y36 z36
        obtain ⟨rfl, Nq36, e36⟩ := hQ36
        have N36 := Fr.app N35 Nq36
        refine OutW.via st36 ?_
        show OutW _ _ _ _ _ _ _ (T36.setTop (mkF m 205 #[.val (.int p1), .val (.int p2), .val (.int p3), .val (.int p4), .val (.int p5), .val (.int p6), .val (.ref b1), .val (.int v3), .val (.int v12), .val (.int v16), .val (.int v20), .val (.int v24), .val (.ref b27), .val (.int v31)] [(.int (eqF v12 v16 v20 v24 p1 p2 p3 p4))]))
        refine OutW.back (fun t k => XS.iload X36.here hx rfl (hb hby at_205) rfl  k) ?_
        show OutW _ _ _ _ _ _ _ (T36.setTop (mkF m 207 #[.val (.int p1), .val (.int p2), .val (.int p3), .val (.int p4), .val (.int p5), .val (.int p6), .val (.ref b1), .val (.int v3), .val (.int v12), .val (.int v16), .val (.int v20), .val (.int v24), .val (.ref b27), .val (.int v31)] [(.int v31), (.int (eqF v12 v16 v20 v24 p1 p2 p3 p4))]))
        obtain ⟨v38, hv_v38⟩ : ∃ z : Int32, z = (if (eqF v12 v16 v20 v24 p1 p2 p3 p4) = v31 then (1 : Int32) else (0 : Int32)) := ⟨_, rfl⟩
        have j39 : ∀ t, Steps p.tables e below (T36.setTop (mkF m 215 #[.val (.int p1), .val (.int p2), .val (.int p3), .val (.int p4), .val (.int p5), .val (.int p6), .val (.ref b1), .val (.int v3), .val (.int v12), .val (.int v16), .val (.int v20), .val (.int v24), .val (.ref b27), .val (.int v31)] [(.int v38)])) t → Steps p.tables e below (T36.setTop (mkF m 207 #[.val (.int p1), .val (.int p2), .val (.int p3), .val (.int p4), .val (.int p5), .val (.int p6), .val (.ref b1), .val (.int v3), .val (.int v12), .val (.int v16), .val (.int v20), .val (.int v24), .val (.ref b27), .val (.int v31)] [(.int v31), (.int (eqF v12 v16 v20 v24 p1 p2 p3 p4))])) t := by
          intro t k
          by_cases c207_40 : (eqF v12 v16 v20 v24 p1 p2 p3 p4) = v31
          · skip
            refine XS.icmpNo X36.here hx rfl (hb hby at_207) rfl (teq c207_40).2 ?_
            show Steps p.tables e below (T36.setTop (mkF m 210 #[.val (.int p1), .val (.int p2), .val (.int p3), .val (.int p4), .val (.int p5), .val (.int p6), .val (.ref b1), .val (.int v3), .val (.int v12), .val (.int v16), .val (.int v20), .val (.int v24), .val (.ref b27), .val (.int v31)] [])) t
            refine XS.iconst X36.here hx rfl (hb hby at_210) ?_
            show Steps p.tables e below (T36.setTop (mkF m 211 #[.val (.int p1), .val (.int p2), .val (.int p3), .val (.int p4), .val (.int p5), .val (.int p6), .val (.ref b1), .val (.int v3), .val (.int v12), .val (.int v16), .val (.int v20), .val (.int v24), .val (.ref b27), .val (.int v31)] [(.int (1 : Int32))])) t
            refine XS.goto X36.here hx rfl (pc0 := 211) (pc' := 215) rfl (hb hby at_211) (by decide) (by decide) ?_
            show Steps p.tables e below (T36.setTop (mkF m 215 #[.val (.int p1), .val (.int p2), .val (.int p3), .val (.int p4), .val (.int p5), .val (.int p6), .val (.ref b1), .val (.int v3), .val (.int v12), .val (.int v16), .val (.int v20), .val (.int v24), .val (.ref b27), .val (.int v31)] [(.int (1 : Int32))])) t
            have q_v38 : v38 = (1 : Int32) := by rw [hv_v38, if_pos c207_40]
            rw [q_v38] at k
            exact k
          · skip
            refine XS.icmpYes X36.here hx rfl (pc0 := 207) (pc' := 214) rfl (hb hby at_207) rfl (feq c207_40).2 (by decide) (by decide) ?_
            show Steps p.tables e below (T36.setTop (mkF m 214 #[.val (.int p1), .val (.int p2), .val (.int p3), .val (.int p4), .val (.int p5), .val (.int p6), .val (.ref b1), .val (.int v3), .val (.int v12), .val (.int v16), .val (.int v20), .val (.int v24), .val (.ref b27), .val (.int v31)] [])) t
            refine XS.iconst X36.here hx rfl (hb hby at_214) ?_
            show Steps p.tables e below (T36.setTop (mkF m 215 #[.val (.int p1), .val (.int p2), .val (.int p3), .val (.int p4), .val (.int p5), .val (.int p6), .val (.ref b1), .val (.int v3), .val (.int v12), .val (.int v16), .val (.int v20), .val (.int v24), .val (.ref b27), .val (.int v31)] [(.int (0 : Int32))])) t
            have q_v38 : v38 = (0 : Int32) := by rw [hv_v38, if_neg c207_40]
            rw [q_v38] at k
            exact k
        refine OutW.back j39 ?_
        show OutW _ _ _ _ _ _ _ (T36.setTop (mkF m 215 #[.val (.int p1), .val (.int p2), .val (.int p3), .val (.int p4), .val (.int p5), .val (.int p6), .val (.ref b1), .val (.int v3), .val (.int v12), .val (.int v16), .val (.int v20), .val (.int v24), .val (.ref b27), .val (.int v31)] [(.int v38)]))
        refine OutW.retN X36 hx (t := .boolean) (z' := 1) Bd.returns (by simp) hlk (hb hby at_215) ?hz (by decide) (by decide) ?_
        case hz =>
          have hfin : v38 = (1 : Int32) := by
            have q := own_eq p1 p2 p3 p4 p5 p6 v12 v16 v20 v24 v31 hv_v12 hv_v16 hv_v20 hv_v24 hv_v31
            rw [hv_v38, if_pos q.2]
          rw [hfin]; rfl
        show Q0 Z p1 p2 p3 p4 p5 p6 cc clC h0 n0 _ T36.heap _
        rw [e36]
        exact ⟨rfl, N36⟩
theorem own_na {Z : State} {a0 : Array Value} (hw : ∀ d ∈ tables_1, d.before a0 Z = true) : ∃ c t, Z.vm.findClass "java/lang/Integer" = some c ∧ Z.vm.findClass "com/example/canopy/canopy/model/Rect" = some t ∧ Z.vm.assignable c t = false := by
  have w1 : (Jvm.Cond.superclass "java/lang/Integer" "java/lang/Number").before a0 Z = true := (hw _ (List.mem_of_getElem? (i := 43) rfl))
  have w2 : (Jvm.Cond.superclass "java/lang/Number" "java/lang/Object").before a0 Z = true := (hw _ (List.mem_of_getElem? (i := 44) rfl))
  have w3 : (Jvm.Cond.noSuperclass "java/lang/Object").before a0 Z = true := (hw _ (List.mem_of_getElem? (i := 45) rfl))
  have w4 : (Jvm.Cond.instantiable "com/example/canopy/canopy/model/Rect" 4).before a0 Z = true := (hw _ (List.mem_of_getElem? (i := 1) rfl))
  obtain ⟨t, kt, g1, g2, g3, g4, -⟩ := Cond.instantiable_spec w4
  obtain ⟨o, ko, o1, o2, o3, -, -⟩ := Cond.noSuperclass_spec w3
  have ne : o ≠ t := ids_ne o1 g1 (by decide)
  have n0 : NS Z "java/lang/Object" "com/example/canopy/canopy/model/Rect" := ⟨o, t, o1, g1, fun fuel => by
    cases fuel with
    | zero => rfl
    | succ f => simp [Vm.isSubclassAux, ne, o2, o3]⟩
  obtain ⟨c, t', h0, g0, n3⟩ := NS.step w1 (NS.step w2 n0 (by decide)) (by decide)
  cases g1.symm.trans g0
  obtain ⟨p, k, kp, h1, h2, h3, h4, h5, -, h7⟩ := Cond.superclass_spec h0 w1
  have ne2 := ids_ne h0 g1 (by decide)
  have g7 : kt.isInterface = false := by
    cases hq : kt.isInterface with
    | false => rfl
    | true => rw [hq] at g4; cases g4
  refine ⟨c, t, h0, g1, ?_⟩
  show Z.vm.assignableAux (255 + 1) c t = false
  simp [Vm.assignableAux, ne2, h2, g2, h5, g3, g7, Vm.isSubclass, n3]
theorem own_eqI {args : Array Value} {s : State} {t : Term} {k : Int32} (h : (Jvm.Cond.eq t (.int k)).value args s none s [] = some true) : t.eval args s none [] s = some (.int k) := by
  simp only [Cond.value, Term.int_eval] at h
  cases ht : t.eval args s none [] s with
  | none => simp [ht] at h
  | some u => cases u <;> simp [ht] at h; subst h; rfl
theorem own_cache {args : Array Value} {s : State} (hs : ∀ d ∈ jdkStatics_1, d.before args s = true) (hi : (Jvm.Cond.initialized "java/lang/Integer$IntegerCache").before args s = true) : ∃ (cc : Addr) (clC : Cell), Sta s s.heap "java/lang/Integer$IntegerCache" "high" "I" (.int (127 : Int32)) ∧ Sta s s.heap "java/lang/Integer$IntegerCache" "cache" "[Ljava/lang/Integer;" (.ref cc) ∧ Arr s s.heap cc clC (.object "java/lang/Integer") ∧ clC.slots.size = 256 ∧ Els s s.heap clC "java/lang/Integer" := by
  have s1 : (Jvm.Cond.initializedFor "java/lang/Integer$IntegerCache" "high" "I").before args s = true := (hs _ (List.mem_of_getElem? (i := 1) rfl))
  have s2 : (Jvm.Cond.laysStatic "java/lang/Integer$IntegerCache" "cache" "[Ljava/lang/Integer;").before args s = true := (hs _ (List.mem_of_getElem? (i := 2) rfl))
  have s3 : (Jvm.Cond.eq (Jvm.Term.static "java/lang/Integer$IntegerCache" "high" "I") (.int 127)).before args s = true := (hs _ (List.mem_of_getElem? (i := 3) rfl))
  have s4 : (Jvm.Cond.arrayOf (Jvm.Term.static "java/lang/Integer$IntegerCache" "cache" "[Ljava/lang/Integer;") (.object "java/lang/Integer")).before args s = true := (hs _ (List.mem_of_getElem? (i := 4) rfl))
  have s6 : (Jvm.Cond.eq (.length (Jvm.Term.static "java/lang/Integer$IntegerCache" "cache" "[Ljava/lang/Integer;")) (.int 256)).before args s = true := (hs _ (List.mem_of_getElem? (i := 6) rfl))
  have s7 := (hs _ (List.mem_of_getElem? (i := 7) rfl))
  have e3 := own_eqI (Cond.before_iff.mp s3)
  obtain ⟨cc, e4⟩ := arr_v (Cond.before_iff.mp s4)
  obtain ⟨clC, A⟩ := Arr.start e4 (Cond.before_iff.mp s4)
  obtain ⟨hsz, hsize⟩ := Jvm.Free.IntBox.length_fwd s6 e4 A.1 A.2.1 A.2.2
  have h256 : clC.slots.size = 256 := by
    have e : (clC.slots.size.toInt32).toInt = clC.slots.size := len_toInt hsz
    rw [hsize] at e
    have : ((256 : Int32)).toInt = 256 := by decide
    omega
  have ev : ∀ idx, (Jvm.Term.static "java/lang/Integer$IntegerCache" "cache" "[Ljava/lang/Integer;").eval args s none idx s = some (.ref cc) := fun idx => e4
  have hat := A.fin (Vm.Alike.refl _)
  have hall := Cond.all_elim e4 hat (Cond.before_iff.mp s7)
  refine ⟨cc, clC, Sta.start e3 (Or.inl s1), Sta.start e4 (Or.inr ⟨hi, s2⟩), A, h256, fun j hj => ?_⟩
  have hj0 : ¬ j < 0 := fun q => hj (Or.inl q)
  have hlt : j.toNatClampNeg < clC.slots.size := Nat.lt_of_not_le fun q => hj (Or.inr q)
  obtain ⟨hx, -⟩ := and_e (hall _ hlt)
  have ee : (Jvm.Term.elem (Jvm.Term.static "java/lang/Integer$IntegerCache" "cache" "[Ljava/lang/Integer;") (.index 0)).eval args s none [j.toNatClampNeg] s = clC.slots[j.toNatClampNeg]? := elem_f (ev _) (idx_at hj0) hat hj0
  obtain ⟨y, ey⟩ := exa_v hx
  exact ⟨y, ee.symm.trans ey, exa_at ey hx⟩

set_option maxRecDepth 65536 in
set_option maxHeartbeats 40000000 in
theorem comes_1 {Post : Tables → Env → Array Value → State → Outcome → State → Prop} (hpost : ∀ tb e args s v u, (limb_1_1.after args s (.returned v) u = true ∧ limb_1_2.after args s (.returned v) u = true ∧ True) → FrameEnd s (.returned v) u (Jvm.fieldLocs frame_1_writes args s ++ Jvm.arrayLocs frame_1_arrays args s ++ Jvm.staticLocs frame_1_statics s) 16 128 → Post tb e args s (.returned v) u) :
    ArmFor flags0 classFile x code maxLocals ret World_1 tables_1 room_1 Calls_1 rest_1 Pre_1 Post := by
  intro l hfl _ _ p e ha hc hk s m args below hf hA hF happ hP
  obtain ⟨hcalls, hrest, hpre⟩ := hP
  obtain ⟨-, -, -, hnamed, -, -, -, hat⟩ := (Spec.applies_iff hf).mp happ
  obtain ⟨hg, hn⟩ := and_e (Cond.before_iff.mp (show (Jvm.Cond.and given_1 narrow_1).before args s = true from hpre))
  obtain ⟨hcount, hg0⟩ := and_e hg
  obtain ⟨ga0, hg1⟩ := and_e hg0
  obtain ⟨ga1, hg2⟩ := and_e hg1
  obtain ⟨ga2, hg3⟩ := and_e hg2
  obtain ⟨ga3, hg4⟩ := and_e hg3
  obtain ⟨ga4, hg5⟩ := and_e hg4
  have ga5 := hg5
  obtain ⟨w0, w1, w2, w3, w4, w5, rfl⟩ : ∃ w0 w1 w2 w3 w4 w5 : Value, args = #[w0, w1, w2, w3, w4, w5] := by
    have hs : args.size = 6 := by simpa [Cond.value, given_1] using hcount
    obtain ⟨L⟩ := args
    match L, hs with
    | [w0, w1, w2, w3, w4, w5], _ => exact ⟨w0, w1, w2, w3, w4, w5, rfl⟩
  have hw := fun d (hd : d ∈ tables_1) => atoms_spec (ws := Jvm.Cond.code x code maxLocals ret :: tables_1) hat d (List.mem_cons_of_mem _ hd)
  obtain ⟨i0, ei0⟩ := is_v ga0
  obtain rfl : w0 = (.int i0) := Option.some.inj ei0
  obtain ⟨i1, ei1⟩ := is_v ga1
  obtain rfl : w1 = (.int i1) := Option.some.inj ei1
  obtain ⟨i2, ei2⟩ := is_v ga2
  obtain rfl : w2 = (.int i2) := Option.some.inj ei2
  obtain ⟨i3, ei3⟩ := is_v ga3
  obtain rfl : w3 = (.int i3) := Option.some.inj ei3
  obtain ⟨i4, ei4⟩ := is_v ga4
  obtain rfl : w4 = (.int i4) := Option.some.inj ei4
  obtain ⟨i5, ei5⟩ := is_v ga5
  obtain rfl : w5 = (.int i5) := Option.some.inj ei5
  obtain ⟨hsets, hown0⟩ := atoms_of _ (rest_1_c_eq ▸ (show rest_1_c.before _ s = true from hrest))
  obtain ⟨cc, clC, S_high, S_cache, A_cc, hsz, U_cc⟩ := own_cache (args := _) (s := s) (fun d hd => hsets d hd) (hw _ (List.mem_of_getElem? (i := 47) rfl))
  have hna := own_na hw
  obtain ⟨n, o, h1, h2, h3, _, L, rfl, ⟨rfl, N⟩, hq⟩ := rm0 l s _ hw tables_1 i0 i1 i2 i3 i4 i5 cc clC s.heap s.heap.size (Nat.le_refl _) S_high S_cache A_cc U_cc hsz hna p e ha hc hk s m _ below hf ((Spec.applies_iff_loose hf).mp happ).1 ⟨rfl, State.Warmed39.refl s, rfl⟩ trivial
  refine ⟨n, _, h1, h2, h3, hpost _ _ _ _ _ _ ⟨Cond.after_iff.mpr rfl, Cond.after_iff.mpr (eq_i res_at (Term.int_eval (1)) rfl), trivial⟩ ⟨hq.1, hq.2.1, (hq.2.2.sift fun y hy => Or.inr (N y hy)).mono (by decide) (by decide)⟩⟩
theorem main_1_1 : Claimed_1_1 := comes_1 fun _ _ _ _ _ _ h hF => ⟨h.1, hF⟩
theorem main_1_2 : Claimed_1_2 := comes_1 fun _ _ _ _ _ _ h hF => ⟨h.2.1, hF⟩
end Jvm.Pilot.@@N@@
namespace Jvm.Pilot.@@N@@
open Jvm Jvm.ClassFile Sem Op Lib Jvm.Free Jvm.Stand Jvm.Pilot.@@N@@.Jvm.D
/-! MADE BY PROGRAM (witnessworld.py) out of the Statement's table words and the real class files: 16 classes; the members and pool entries that the words name. The judged class is class 1, her method 1. -/
namespace start1
open Jvm.ClassFile
def u (s : String) : CpInfo := .utf8 (stringToUtf16 s)
/-- a pool by its gaps: so many unusable entries, then the entry; so many at the end -/
def gap : Nat → List CpInfo → List CpInfo
  | 0, r => r
  | n + 1, r => .unusable :: gap n r
def poolList (es : List (Nat × CpInfo)) (last : Nat) : List CpInfo := es.foldr (fun e r => gap e.1 (e.2 :: r)) (gap last [])
def pool (es : List (Nat × CpInfo)) (last : Nat) : Array CpInfo := ⟨poolList es last⟩
def fileOf (pool : Array CpInfo) (this : Nat) (attrs : Array Attribute := #[]) (ms : Array MethodInfo := #[]) (fl : Nat := 33) (sup : Nat := 0) (ifs : Array Nat := #[]) (fds : Array FieldInfo := #[]) : ClassFile where
  minorVersion := 0
  majorVersion := 65
  constantPool := pool
  accessFlags := fl
  thisClass := this
  superClass := sup
  interfaces := ifs
  fields := fds
  methods := ms
  attributes := attrs
def plain (name : String) (sup : Option ClassId) : Class where
  name := name
  kind := .ordinary
  loader := none
  accessFlags := 33
  super := sup
  interfaces := #[]
  cf := none
  fields := #[]
  methods := #[]
  instanceTypes := #[]
  staticTypes := #[]
  resolved := #[]
  callSites := []
  init := .initialized
  statics := none
  mirror := none

def pool0 : Array CpInfo := pool [(5, u "<init>"), (0, u "()V"), (1, .class_ 10), (1, u "java/lang/Object")] 113

def k0c0 : Code := { maxStack := 0, maxLocals := 1, code := object_method_1_code, exceptionTable := #[], attributes := #[] }
def k0m0 : Method := { name := "<init>", desc := "()V", sig := { parameters := [], returnType := none }, accessFlags := 1, code := some k0c0 }
/-- java/lang/Object -/
def k0 : Class := { plain "java/lang/Object" none with
  accessFlags := 33
  interfaces := #[]
  cf := some (fileOf pool0 8 #[] #[{ accessFlags := 1, nameIndex := 5, descriptorIndex := 6, attributes := #[] }] 33 0 #[] #[])
  fields := #[]
  methods := #[k0m0]
  instanceTypes := #[]
  staticTypes := #[]
  resolved := Array.replicate 124 none
  statics := none }

def pool1 : Array CpInfo := pool [(2, .class_ 4), (1, u "java/lang/Object"), (0, u "<init>"), (0, u "()V"), (0, .class_ 8), (0, u "com/example/canopy/canopy/model/Rect"), (0, .methodref 7 10), (0, .nameAndType 5 11), (0, u "(IIII)V"), (0, .methodref 7 13), (0, .nameAndType 14 15), (0, u "equals"), (0, u "(Ljava/lang/Object;)Z"), (0, .methodref 17 18), (0, .class_ 19), (0, .nameAndType 20 21), (0, u "java/lang/Integer"), (0, u "valueOf"), (0, u "(I)Ljava/lang/Integer;"), (0, .class_ 23), (0, u "com/example/canopy/canopy/model/RectEqualsPinLaw"), (2, u "law"), (0, u "(IIIIII)Z")] 3

def k1m0 : Method := { name := "<init>", desc := "()V", sig := { parameters := [], returnType := none }, accessFlags := 1, code := none }
def k1c1 : Code := { maxStack := 6, maxLocals := 14, code := code, exceptionTable := #[], attributes := #[] }
def k1m1 : Method := { name := "law", desc := "(IIIIII)Z", sig := { parameters := [.int, .int, .int, .int, .int, .int], returnType := some .boolean }, accessFlags := 9, code := some k1c1 }
/-- com/example/canopy/canopy/model/RectEqualsPinLaw -/
def k1 : Class := { plain "com/example/canopy/canopy/model/RectEqualsPinLaw" (some 0) with
  accessFlags := 49
  interfaces := #[]
  cf := some (fileOf pool1 22 #[] #[{ accessFlags := 1, nameIndex := 5, descriptorIndex := 6, attributes := #[] }, { accessFlags := 9, nameIndex := 26, descriptorIndex := 27, attributes := #[] }] 49 2 #[] #[])
  fields := #[]
  methods := #[k1m0, k1m1]
  instanceTypes := #[]
  staticTypes := #[]
  resolved := Array.replicate 31 none
  statics := none }

def pool2 : Array CpInfo := pool [(1, .methodref 2 3), (0, .class_ 4), (0, .nameAndType 5 6), (0, u "java/lang/Object"), (0, u "<init>"), (0, u "()V"), (0, .fieldref 8 9), (0, .class_ 10), (0, .nameAndType 11 12), (0, u "com/example/canopy/canopy/model/Rect"), (0, u "left"), (0, u "I"), (0, .fieldref 8 14), (0, .nameAndType 15 12), (0, u "top"), (0, .fieldref 8 17), (0, .nameAndType 18 12), (0, u "right"), (0, .fieldref 8 20), (0, .nameAndType 21 12), (0, u "bottom"), (32, u "(IIII)V"), (38, u "equals"), (0, u "(Ljava/lang/Object;)Z")] 20

def k2c0 : Code := { maxStack := 2, maxLocals := 5, code := prog_14_method_1_code, exceptionTable := #[], attributes := #[] }
def k2m0 : Method := { name := "<init>", desc := "(IIII)V", sig := { parameters := [.int, .int, .int, .int], returnType := none }, accessFlags := 1, code := some k2c0 }
def k2c1 : Code := { maxStack := 2, maxLocals := 3, code := prog_14_method_15_code, exceptionTable := #[], attributes := #[] }
def k2m1 : Method := { name := "equals", desc := "(Ljava/lang/Object;)Z", sig := { parameters := [(.object "java/lang/Object")], returnType := some .boolean }, accessFlags := 1, code := some k2c1 }
/-- com/example/canopy/canopy/model/Rect -/
def k2 : Class := { plain "com/example/canopy/canopy/model/Rect" (some 0) with
  accessFlags := 33
  interfaces := #[]
  cf := some (fileOf pool2 8 #[] #[{ accessFlags := 1, nameIndex := 5, descriptorIndex := 54, attributes := #[] }, { accessFlags := 1, nameIndex := 93, descriptorIndex := 94, attributes := #[] }] 33 2 #[] #[{ accessFlags := 18, nameIndex := 11, descriptorIndex := 12, attributes := #[] }, { accessFlags := 18, nameIndex := 15, descriptorIndex := 12, attributes := #[] }, { accessFlags := 18, nameIndex := 18, descriptorIndex := 12, attributes := #[] }, { accessFlags := 18, nameIndex := 21, descriptorIndex := 12, attributes := #[] }])
  fields := #[{ name := "left", type := .int, accessFlags := 18, slot := 0, constantValue := 0 }, { name := "top", type := .int, accessFlags := 18, slot := 1, constantValue := 0 }, { name := "right", type := .int, accessFlags := 18, slot := 2, constantValue := 0 }, { name := "bottom", type := .int, accessFlags := 18, slot := 3, constantValue := 0 }]
  methods := #[k2m0, k2m1]
  instanceTypes := #[.int, .int, .int, .int]
  staticTypes := #[]
  resolved := Array.replicate 115 none
  statics := none }

def pool3 : Array CpInfo := pool [(1, .class_ 2), (0, u "java/io/Serializable"), (0, .class_ 4), (0, u "java/lang/Object")] 2

/-- java/io/Serializable -/
def k3 : Class := { plain "java/io/Serializable" (some 0) with
  accessFlags := 1537
  interfaces := #[]
  cf := some (fileOf pool3 1 #[] #[] 1537 3 #[] #[])
  fields := #[]
  methods := #[]
  instanceTypes := #[]
  staticTypes := #[]
  resolved := Array.replicate 7 none
  statics := none }

def pool4 : Array CpInfo := pool [(1, .methodref 2 3), (0, .class_ 4), (0, .nameAndType 5 6), (0, u "java/lang/Object"), (0, u "<init>"), (0, u "()V"), (1, .class_ 10), (1, u "java/lang/Number"), (2, .class_ 14), (0, u "java/io/Serializable"), (0, u "serialVersionUID"), (0, u "J")] 20

def k4c0 : Code := { maxStack := 1, maxLocals := 1, code := jdk_18_method_1_code, exceptionTable := #[], attributes := #[] }
def k4m0 : Method := { name := "<init>", desc := "()V", sig := { parameters := [], returnType := none }, accessFlags := 1, code := some k4c0 }
/-- java/lang/Number -/
def k4 : Class := { plain "java/lang/Number" (some 0) with
  accessFlags := 1057
  interfaces := #[3]
  cf := some (fileOf pool4 8 #[] #[{ accessFlags := 1, nameIndex := 5, descriptorIndex := 6, attributes := #[] }] 1057 2 #[13] #[{ accessFlags := 26, nameIndex := 15, descriptorIndex := 16, attributes := #[] }])
  fields := #[{ name := "serialVersionUID", type := .long, accessFlags := 26, slot := 0, constantValue := 0 }]
  methods := #[k4m0]
  instanceTypes := #[]
  staticTypes := #[.long]
  resolved := Array.replicate 37 none
  statics := none }

def pool5 : Array CpInfo := pool [(1, .class_ 2), (0, u "java/lang/Comparable"), (0, .class_ 4), (0, u "java/lang/Object")] 7

/-- java/lang/Comparable -/
def k5 : Class := { plain "java/lang/Comparable" (some 0) with
  accessFlags := 1537
  interfaces := #[]
  cf := some (fileOf pool5 1 #[] #[] 1537 3 #[] #[])
  fields := #[]
  methods := #[]
  instanceTypes := #[]
  staticTypes := #[]
  resolved := Array.replicate 12 none
  statics := none }

def pool6 : Array CpInfo := pool [(1, .class_ 2), (0, u "java/lang/constant/Constable"), (0, .class_ 4), (0, u "java/lang/Object")] 6

/-- java/lang/constant/Constable -/
def k6 : Class := { plain "java/lang/constant/Constable" (some 0) with
  accessFlags := 1537
  interfaces := #[]
  cf := some (fileOf pool6 1 #[] #[] 1537 3 #[] #[])
  fields := #[]
  methods := #[]
  instanceTypes := #[]
  staticTypes := #[]
  resolved := Array.replicate 11 none
  statics := none }

def pool7 : Array CpInfo := pool [(1, .class_ 2), (0, u "java/lang/constant/ConstantDesc"), (0, .class_ 4), (0, u "java/lang/Object")] 32

/-- java/lang/constant/ConstantDesc -/
def k7 : Class := { plain "java/lang/constant/ConstantDesc" (some 0) with
  accessFlags := 1537
  interfaces := #[]
  cf := some (fileOf pool7 1 #[] #[] 1537 3 #[] #[])
  fields := #[]
  methods := #[]
  instanceTypes := #[]
  staticTypes := #[]
  resolved := Array.replicate 37 none
  statics := none }

def pool8 : Array CpInfo := pool [(1, .class_ 2), (0, u "java/lang/Integer"), (16, u "digits"), (0, u "[C"), (46, u "<init>"), (17, u "DigitOnes"), (0, u "[B"), (2, u "DigitTens"), (10, .nameAndType 67 101), (0, u "()V"), (85, u "valueOf"), (0, u "(I)Ljava/lang/Integer;"), (0, .class_ 190), (0, u "java/lang/Integer$IntegerCache"), (0, .fieldref 189 192), (0, .nameAndType 193 194), (0, u "high"), (0, u "I"), (0, .fieldref 189 196), (0, .nameAndType 197 198), (0, u "cache"), (0, u "[Ljava/lang/Integer;"), (0, .methodref 1 200), (0, .nameAndType 67 201), (0, u "(I)V"), (0, .methodref 203 100), (0, .class_ 204), (0, u "java/lang/Number"), (0, .fieldref 1 206), (0, .nameAndType 207 194), (0, u "value"), (94, u "TYPE"), (0, u "Ljava/lang/Class;"), (0, .class_ 305), (0, u "java/lang/Comparable"), (0, .class_ 307), (0, u "java/lang/constant/Constable"), (0, .class_ 309), (0, u "java/lang/constant/ConstantDesc"), (0, u "MIN_VALUE"), (1, u "MAX_VALUE"), (3, u "SIZE"), (1, u "BYTES"), (1, u "serialVersionUID"), (0, u "J")] 131

def k8c0 : Code := { maxStack := 3, maxLocals := 1, code := jdk_33_method_22_code, exceptionTable := #[], attributes := #[] }
def k8m0 : Method := { name := "valueOf", desc := "(I)Ljava/lang/Integer;", sig := { parameters := [.int], returnType := some (.object "java/lang/Integer") }, accessFlags := 9, code := some k8c0 }
def k8c1 : Code := { maxStack := 2, maxLocals := 2, code := jdk_33_method_23_code, exceptionTable := #[], attributes := #[] }
def k8m1 : Method := { name := "<init>", desc := "(I)V", sig := { parameters := [.int], returnType := none }, accessFlags := 1, code := some k8c1 }
/-- java/lang/Integer -/
def k8 : Class := { plain "java/lang/Integer" (some 4) with
  accessFlags := 49
  interfaces := #[5, 6, 7]
  cf := some (fileOf pool8 1 #[.nestMembers #[189]] #[{ accessFlags := 9, nameIndex := 187, descriptorIndex := 188, attributes := #[] }, { accessFlags := 1, nameIndex := 67, descriptorIndex := 201, attributes := #[] }] 49 203 #[304, 306, 308] #[{ accessFlags := 25, nameIndex := 310, descriptorIndex := 194, attributes := #[] }, { accessFlags := 25, nameIndex := 312, descriptorIndex := 194, attributes := #[] }, { accessFlags := 25, nameIndex := 302, descriptorIndex := 303, attributes := #[] }, { accessFlags := 24, nameIndex := 19, descriptorIndex := 20, attributes := #[] }, { accessFlags := 24, nameIndex := 89, descriptorIndex := 86, attributes := #[] }, { accessFlags := 24, nameIndex := 85, descriptorIndex := 86, attributes := #[] }, { accessFlags := 18, nameIndex := 207, descriptorIndex := 194, attributes := #[] }, { accessFlags := 25, nameIndex := 316, descriptorIndex := 194, attributes := #[] }, { accessFlags := 25, nameIndex := 318, descriptorIndex := 194, attributes := #[] }, { accessFlags := 26, nameIndex := 320, descriptorIndex := 321, attributes := #[] }])
  fields := #[{ name := "MIN_VALUE", type := .int, accessFlags := 25, slot := 0, constantValue := 0 }, { name := "MAX_VALUE", type := .int, accessFlags := 25, slot := 1, constantValue := 0 }, { name := "TYPE", type := (.object "java/lang/Class"), accessFlags := 25, slot := 2, constantValue := 0 }, { name := "digits", type := (.array .char), accessFlags := 24, slot := 3, constantValue := 0 }, { name := "DigitTens", type := (.array .byte), accessFlags := 24, slot := 4, constantValue := 0 }, { name := "DigitOnes", type := (.array .byte), accessFlags := 24, slot := 5, constantValue := 0 }, { name := "value", type := .int, accessFlags := 18, slot := 0, constantValue := 0 }, { name := "SIZE", type := .int, accessFlags := 25, slot := 6, constantValue := 0 }, { name := "BYTES", type := .int, accessFlags := 25, slot := 7, constantValue := 0 }, { name := "serialVersionUID", type := .long, accessFlags := 26, slot := 8, constantValue := 0 }]
  methods := #[k8m0, k8m1]
  instanceTypes := #[.int]
  staticTypes := #[.int, .int, (.object "java/lang/Class"), (.array .char), (.array .byte), (.array .byte), .int, .int, .long]
  resolved := Array.replicate 453 none
  statics := none }

def pool9 : Array CpInfo := pool [(2, .class_ 4), (1, u "java/lang/Object"), (0, u "<init>"), (0, u "()V"), (0, .class_ 8), (0, u "java/lang/Integer"), (7, .class_ 18), (1, u "java/lang/Integer$IntegerCache"), (0, u "$assertionsDisabled"), (0, u "Z"), (26, u "high"), (0, u "I"), (8, u "archivedCache"), (0, u "[Ljava/lang/Integer;"), (12, u "cache"), (0, u "low")] 27

def k9m0 : Method := { name := "<init>", desc := "()V", sig := { parameters := [], returnType := none }, accessFlags := 2, code := none }
/-- java/lang/Integer$IntegerCache -/
def k9 : Class := { plain "java/lang/Integer$IntegerCache" (some 0) with
  accessFlags := 48
  interfaces := #[]
  cf := some (fileOf pool9 16 #[.nestHost 7] #[{ accessFlags := 2, nameIndex := 5, descriptorIndex := 6, attributes := #[] }] 48 2 #[] #[{ accessFlags := 24, nameIndex := 72, descriptorIndex := 48, attributes := #[] }, { accessFlags := 24, nameIndex := 47, descriptorIndex := 48, attributes := #[] }, { accessFlags := 24, nameIndex := 71, descriptorIndex := 58, attributes := #[] }, { accessFlags := 8, nameIndex := 57, descriptorIndex := 58, attributes := #[] }, { accessFlags := 4120, nameIndex := 19, descriptorIndex := 20, attributes := #[] }])
  fields := #[{ name := "low", type := .int, accessFlags := 24, slot := 0, constantValue := 0 }, { name := "high", type := .int, accessFlags := 24, slot := 1, constantValue := 0 }, { name := "cache", type := (.array (.object "java/lang/Integer")), accessFlags := 24, slot := 2, constantValue := 0 }, { name := "archivedCache", type := (.array (.object "java/lang/Integer")), accessFlags := 8, slot := 3, constantValue := 0 }, { name := "$assertionsDisabled", type := .boolean, accessFlags := 4120, slot := 4, constantValue := 0 }]
  methods := #[k9m0]
  instanceTypes := #[]
  staticTypes := #[.int, .int, (.array (.object "java/lang/Integer")), (.array (.object "java/lang/Integer")), .boolean]
  resolved := Array.replicate 100 none
  statics := some 0 }

def pool10 : Array CpInfo := pool [(1, u "java/lang/Cloneable"), (0, .class_ 1), (0, u "java/lang/Object"), (0, .class_ 3)] 3

/-- java/lang/Cloneable -/
def k10 : Class := { plain "java/lang/Cloneable" (some 0) with
  accessFlags := 1537
  interfaces := #[]
  cf := some (fileOf pool10 2 #[] #[] 1537 4 #[] #[])
  fields := #[]
  methods := #[]
  instanceTypes := #[]
  staticTypes := #[]
  resolved := Array.replicate 8 none
  statics := none }

/-- the primitive byte -/
def k11 : Class := { plain "byte" none with kind := .primitive 'B', accessFlags := 0x411 }
/-- [B -/
def k12 : Class := { plain "[B" (some 0) with kind := .array 11 .byte, interfaces := #[10, 3], accessFlags := 1041 }

/-- the primitive int -/
def k13 : Class := { plain "int" none with kind := .primitive 'I', accessFlags := 0x411 }
/-- [I -/
def k14 : Class := { plain "[I" (some 0) with kind := .array 13 .int, interfaces := #[10, 3], accessFlags := 1041 }

/-- [Ljava/lang/Integer; -/
def k15 : Class := { plain "[Ljava/lang/Integer;" (some 0) with kind := .array 8 (.object "java/lang/Integer"), interfaces := #[10, 3], accessFlags := 1041 }

def heap : Heap := #[{ cls := 9, slots := #[.int 0, .int 127, .ref 1, .null, .int 0], vm := .statics 9 },
  { cls := 15, slots := #[.ref 2, .ref 3, .ref 4, .ref 5, .ref 6, .ref 7, .ref 8, .ref 9, .ref 10, .ref 11, .ref 12, .ref 13, .ref 14, .ref 15, .ref 16, .ref 17, .ref 18, .ref 19, .ref 20, .ref 21, .ref 22, .ref 23, .ref 24, .ref 25, .ref 26, .ref 27, .ref 28, .ref 29, .ref 30, .ref 31, .ref 32, .ref 33, .ref 34, .ref 35, .ref 36, .ref 37, .ref 38, .ref 39, .ref 40, .ref 41, .ref 42, .ref 43, .ref 44, .ref 45, .ref 46, .ref 47, .ref 48, .ref 49, .ref 50, .ref 51, .ref 52, .ref 53, .ref 54, .ref 55, .ref 56, .ref 57, .ref 58, .ref 59, .ref 60, .ref 61, .ref 62, .ref 63, .ref 64, .ref 65, .ref 66, .ref 67, .ref 68, .ref 69, .ref 70, .ref 71, .ref 72, .ref 73, .ref 74, .ref 75, .ref 76, .ref 77, .ref 78, .ref 79, .ref 80, .ref 81, .ref 82, .ref 83, .ref 84, .ref 85, .ref 86, .ref 87, .ref 88, .ref 89, .ref 90, .ref 91, .ref 92, .ref 93, .ref 94, .ref 95, .ref 96, .ref 97, .ref 98, .ref 99, .ref 100, .ref 101, .ref 102, .ref 103, .ref 104, .ref 105, .ref 106, .ref 107, .ref 108, .ref 109, .ref 110, .ref 111, .ref 112, .ref 113, .ref 114, .ref 115, .ref 116, .ref 117, .ref 118, .ref 119, .ref 120, .ref 121, .ref 122, .ref 123, .ref 124, .ref 125, .ref 126, .ref 127, .ref 128, .ref 129, .ref 130, .ref 131, .ref 132, .ref 133, .ref 134, .ref 135, .ref 136, .ref 137, .ref 138, .ref 139, .ref 140, .ref 141, .ref 142, .ref 143, .ref 144, .ref 145, .ref 146, .ref 147, .ref 148, .ref 149, .ref 150, .ref 151, .ref 152, .ref 153, .ref 154, .ref 155, .ref 156, .ref 157, .ref 158, .ref 159, .ref 160, .ref 161, .ref 162, .ref 163, .ref 164, .ref 165, .ref 166, .ref 167, .ref 168, .ref 169, .ref 170, .ref 171, .ref 172, .ref 173, .ref 174, .ref 175, .ref 176, .ref 177, .ref 178, .ref 179, .ref 180, .ref 181, .ref 182, .ref 183, .ref 184, .ref 185, .ref 186, .ref 187, .ref 188, .ref 189, .ref 190, .ref 191, .ref 192, .ref 193, .ref 194, .ref 195, .ref 196, .ref 197, .ref 198, .ref 199, .ref 200, .ref 201, .ref 202, .ref 203, .ref 204, .ref 205, .ref 206, .ref 207, .ref 208, .ref 209, .ref 210, .ref 211, .ref 212, .ref 213, .ref 214, .ref 215, .ref 216, .ref 217, .ref 218, .ref 219, .ref 220, .ref 221, .ref 222, .ref 223, .ref 224, .ref 225, .ref 226, .ref 227, .ref 228, .ref 229, .ref 230, .ref 231, .ref 232, .ref 233, .ref 234, .ref 235, .ref 236, .ref 237, .ref 238, .ref 239, .ref 240, .ref 241, .ref 242, .ref 243, .ref 244, .ref 245, .ref 246, .ref 247, .ref 248, .ref 249, .ref 250, .ref 251, .ref 252, .ref 253, .ref 254, .ref 255, .ref 256, .ref 257], vm := .none },
  { cls := 8, slots := #[.int (-128)], vm := .none },
  { cls := 8, slots := #[.int (-127)], vm := .none },
  { cls := 8, slots := #[.int (-126)], vm := .none },
  { cls := 8, slots := #[.int (-125)], vm := .none },
  { cls := 8, slots := #[.int (-124)], vm := .none },
  { cls := 8, slots := #[.int (-123)], vm := .none },
  { cls := 8, slots := #[.int (-122)], vm := .none },
  { cls := 8, slots := #[.int (-121)], vm := .none },
  { cls := 8, slots := #[.int (-120)], vm := .none },
  { cls := 8, slots := #[.int (-119)], vm := .none },
  { cls := 8, slots := #[.int (-118)], vm := .none },
  { cls := 8, slots := #[.int (-117)], vm := .none },
  { cls := 8, slots := #[.int (-116)], vm := .none },
  { cls := 8, slots := #[.int (-115)], vm := .none },
  { cls := 8, slots := #[.int (-114)], vm := .none },
  { cls := 8, slots := #[.int (-113)], vm := .none },
  { cls := 8, slots := #[.int (-112)], vm := .none },
  { cls := 8, slots := #[.int (-111)], vm := .none },
  { cls := 8, slots := #[.int (-110)], vm := .none },
  { cls := 8, slots := #[.int (-109)], vm := .none },
  { cls := 8, slots := #[.int (-108)], vm := .none },
  { cls := 8, slots := #[.int (-107)], vm := .none },
  { cls := 8, slots := #[.int (-106)], vm := .none },
  { cls := 8, slots := #[.int (-105)], vm := .none },
  { cls := 8, slots := #[.int (-104)], vm := .none },
  { cls := 8, slots := #[.int (-103)], vm := .none },
  { cls := 8, slots := #[.int (-102)], vm := .none },
  { cls := 8, slots := #[.int (-101)], vm := .none },
  { cls := 8, slots := #[.int (-100)], vm := .none },
  { cls := 8, slots := #[.int (-99)], vm := .none },
  { cls := 8, slots := #[.int (-98)], vm := .none },
  { cls := 8, slots := #[.int (-97)], vm := .none },
  { cls := 8, slots := #[.int (-96)], vm := .none },
  { cls := 8, slots := #[.int (-95)], vm := .none },
  { cls := 8, slots := #[.int (-94)], vm := .none },
  { cls := 8, slots := #[.int (-93)], vm := .none },
  { cls := 8, slots := #[.int (-92)], vm := .none },
  { cls := 8, slots := #[.int (-91)], vm := .none },
  { cls := 8, slots := #[.int (-90)], vm := .none },
  { cls := 8, slots := #[.int (-89)], vm := .none },
  { cls := 8, slots := #[.int (-88)], vm := .none },
  { cls := 8, slots := #[.int (-87)], vm := .none },
  { cls := 8, slots := #[.int (-86)], vm := .none },
  { cls := 8, slots := #[.int (-85)], vm := .none },
  { cls := 8, slots := #[.int (-84)], vm := .none },
  { cls := 8, slots := #[.int (-83)], vm := .none },
  { cls := 8, slots := #[.int (-82)], vm := .none },
  { cls := 8, slots := #[.int (-81)], vm := .none },
  { cls := 8, slots := #[.int (-80)], vm := .none },
  { cls := 8, slots := #[.int (-79)], vm := .none },
  { cls := 8, slots := #[.int (-78)], vm := .none },
  { cls := 8, slots := #[.int (-77)], vm := .none },
  { cls := 8, slots := #[.int (-76)], vm := .none },
  { cls := 8, slots := #[.int (-75)], vm := .none },
  { cls := 8, slots := #[.int (-74)], vm := .none },
  { cls := 8, slots := #[.int (-73)], vm := .none },
  { cls := 8, slots := #[.int (-72)], vm := .none },
  { cls := 8, slots := #[.int (-71)], vm := .none },
  { cls := 8, slots := #[.int (-70)], vm := .none },
  { cls := 8, slots := #[.int (-69)], vm := .none },
  { cls := 8, slots := #[.int (-68)], vm := .none },
  { cls := 8, slots := #[.int (-67)], vm := .none },
  { cls := 8, slots := #[.int (-66)], vm := .none },
  { cls := 8, slots := #[.int (-65)], vm := .none },
  { cls := 8, slots := #[.int (-64)], vm := .none },
  { cls := 8, slots := #[.int (-63)], vm := .none },
  { cls := 8, slots := #[.int (-62)], vm := .none },
  { cls := 8, slots := #[.int (-61)], vm := .none },
  { cls := 8, slots := #[.int (-60)], vm := .none },
  { cls := 8, slots := #[.int (-59)], vm := .none },
  { cls := 8, slots := #[.int (-58)], vm := .none },
  { cls := 8, slots := #[.int (-57)], vm := .none },
  { cls := 8, slots := #[.int (-56)], vm := .none },
  { cls := 8, slots := #[.int (-55)], vm := .none },
  { cls := 8, slots := #[.int (-54)], vm := .none },
  { cls := 8, slots := #[.int (-53)], vm := .none },
  { cls := 8, slots := #[.int (-52)], vm := .none },
  { cls := 8, slots := #[.int (-51)], vm := .none },
  { cls := 8, slots := #[.int (-50)], vm := .none },
  { cls := 8, slots := #[.int (-49)], vm := .none },
  { cls := 8, slots := #[.int (-48)], vm := .none },
  { cls := 8, slots := #[.int (-47)], vm := .none },
  { cls := 8, slots := #[.int (-46)], vm := .none },
  { cls := 8, slots := #[.int (-45)], vm := .none },
  { cls := 8, slots := #[.int (-44)], vm := .none },
  { cls := 8, slots := #[.int (-43)], vm := .none },
  { cls := 8, slots := #[.int (-42)], vm := .none },
  { cls := 8, slots := #[.int (-41)], vm := .none },
  { cls := 8, slots := #[.int (-40)], vm := .none },
  { cls := 8, slots := #[.int (-39)], vm := .none },
  { cls := 8, slots := #[.int (-38)], vm := .none },
  { cls := 8, slots := #[.int (-37)], vm := .none },
  { cls := 8, slots := #[.int (-36)], vm := .none },
  { cls := 8, slots := #[.int (-35)], vm := .none },
  { cls := 8, slots := #[.int (-34)], vm := .none },
  { cls := 8, slots := #[.int (-33)], vm := .none },
  { cls := 8, slots := #[.int (-32)], vm := .none },
  { cls := 8, slots := #[.int (-31)], vm := .none },
  { cls := 8, slots := #[.int (-30)], vm := .none },
  { cls := 8, slots := #[.int (-29)], vm := .none },
  { cls := 8, slots := #[.int (-28)], vm := .none },
  { cls := 8, slots := #[.int (-27)], vm := .none },
  { cls := 8, slots := #[.int (-26)], vm := .none },
  { cls := 8, slots := #[.int (-25)], vm := .none },
  { cls := 8, slots := #[.int (-24)], vm := .none },
  { cls := 8, slots := #[.int (-23)], vm := .none },
  { cls := 8, slots := #[.int (-22)], vm := .none },
  { cls := 8, slots := #[.int (-21)], vm := .none },
  { cls := 8, slots := #[.int (-20)], vm := .none },
  { cls := 8, slots := #[.int (-19)], vm := .none },
  { cls := 8, slots := #[.int (-18)], vm := .none },
  { cls := 8, slots := #[.int (-17)], vm := .none },
  { cls := 8, slots := #[.int (-16)], vm := .none },
  { cls := 8, slots := #[.int (-15)], vm := .none },
  { cls := 8, slots := #[.int (-14)], vm := .none },
  { cls := 8, slots := #[.int (-13)], vm := .none },
  { cls := 8, slots := #[.int (-12)], vm := .none },
  { cls := 8, slots := #[.int (-11)], vm := .none },
  { cls := 8, slots := #[.int (-10)], vm := .none },
  { cls := 8, slots := #[.int (-9)], vm := .none },
  { cls := 8, slots := #[.int (-8)], vm := .none },
  { cls := 8, slots := #[.int (-7)], vm := .none },
  { cls := 8, slots := #[.int (-6)], vm := .none },
  { cls := 8, slots := #[.int (-5)], vm := .none },
  { cls := 8, slots := #[.int (-4)], vm := .none },
  { cls := 8, slots := #[.int (-3)], vm := .none },
  { cls := 8, slots := #[.int (-2)], vm := .none },
  { cls := 8, slots := #[.int (-1)], vm := .none },
  { cls := 8, slots := #[.int 0], vm := .none },
  { cls := 8, slots := #[.int 1], vm := .none },
  { cls := 8, slots := #[.int 2], vm := .none },
  { cls := 8, slots := #[.int 3], vm := .none },
  { cls := 8, slots := #[.int 4], vm := .none },
  { cls := 8, slots := #[.int 5], vm := .none },
  { cls := 8, slots := #[.int 6], vm := .none },
  { cls := 8, slots := #[.int 7], vm := .none },
  { cls := 8, slots := #[.int 8], vm := .none },
  { cls := 8, slots := #[.int 9], vm := .none },
  { cls := 8, slots := #[.int 10], vm := .none },
  { cls := 8, slots := #[.int 11], vm := .none },
  { cls := 8, slots := #[.int 12], vm := .none },
  { cls := 8, slots := #[.int 13], vm := .none },
  { cls := 8, slots := #[.int 14], vm := .none },
  { cls := 8, slots := #[.int 15], vm := .none },
  { cls := 8, slots := #[.int 16], vm := .none },
  { cls := 8, slots := #[.int 17], vm := .none },
  { cls := 8, slots := #[.int 18], vm := .none },
  { cls := 8, slots := #[.int 19], vm := .none },
  { cls := 8, slots := #[.int 20], vm := .none },
  { cls := 8, slots := #[.int 21], vm := .none },
  { cls := 8, slots := #[.int 22], vm := .none },
  { cls := 8, slots := #[.int 23], vm := .none },
  { cls := 8, slots := #[.int 24], vm := .none },
  { cls := 8, slots := #[.int 25], vm := .none },
  { cls := 8, slots := #[.int 26], vm := .none },
  { cls := 8, slots := #[.int 27], vm := .none },
  { cls := 8, slots := #[.int 28], vm := .none },
  { cls := 8, slots := #[.int 29], vm := .none },
  { cls := 8, slots := #[.int 30], vm := .none },
  { cls := 8, slots := #[.int 31], vm := .none },
  { cls := 8, slots := #[.int 32], vm := .none },
  { cls := 8, slots := #[.int 33], vm := .none },
  { cls := 8, slots := #[.int 34], vm := .none },
  { cls := 8, slots := #[.int 35], vm := .none },
  { cls := 8, slots := #[.int 36], vm := .none },
  { cls := 8, slots := #[.int 37], vm := .none },
  { cls := 8, slots := #[.int 38], vm := .none },
  { cls := 8, slots := #[.int 39], vm := .none },
  { cls := 8, slots := #[.int 40], vm := .none },
  { cls := 8, slots := #[.int 41], vm := .none },
  { cls := 8, slots := #[.int 42], vm := .none },
  { cls := 8, slots := #[.int 43], vm := .none },
  { cls := 8, slots := #[.int 44], vm := .none },
  { cls := 8, slots := #[.int 45], vm := .none },
  { cls := 8, slots := #[.int 46], vm := .none },
  { cls := 8, slots := #[.int 47], vm := .none },
  { cls := 8, slots := #[.int 48], vm := .none },
  { cls := 8, slots := #[.int 49], vm := .none },
  { cls := 8, slots := #[.int 50], vm := .none },
  { cls := 8, slots := #[.int 51], vm := .none },
  { cls := 8, slots := #[.int 52], vm := .none },
  { cls := 8, slots := #[.int 53], vm := .none },
  { cls := 8, slots := #[.int 54], vm := .none },
  { cls := 8, slots := #[.int 55], vm := .none },
  { cls := 8, slots := #[.int 56], vm := .none },
  { cls := 8, slots := #[.int 57], vm := .none },
  { cls := 8, slots := #[.int 58], vm := .none },
  { cls := 8, slots := #[.int 59], vm := .none },
  { cls := 8, slots := #[.int 60], vm := .none },
  { cls := 8, slots := #[.int 61], vm := .none },
  { cls := 8, slots := #[.int 62], vm := .none },
  { cls := 8, slots := #[.int 63], vm := .none },
  { cls := 8, slots := #[.int 64], vm := .none },
  { cls := 8, slots := #[.int 65], vm := .none },
  { cls := 8, slots := #[.int 66], vm := .none },
  { cls := 8, slots := #[.int 67], vm := .none },
  { cls := 8, slots := #[.int 68], vm := .none },
  { cls := 8, slots := #[.int 69], vm := .none },
  { cls := 8, slots := #[.int 70], vm := .none },
  { cls := 8, slots := #[.int 71], vm := .none },
  { cls := 8, slots := #[.int 72], vm := .none },
  { cls := 8, slots := #[.int 73], vm := .none },
  { cls := 8, slots := #[.int 74], vm := .none },
  { cls := 8, slots := #[.int 75], vm := .none },
  { cls := 8, slots := #[.int 76], vm := .none },
  { cls := 8, slots := #[.int 77], vm := .none },
  { cls := 8, slots := #[.int 78], vm := .none },
  { cls := 8, slots := #[.int 79], vm := .none },
  { cls := 8, slots := #[.int 80], vm := .none },
  { cls := 8, slots := #[.int 81], vm := .none },
  { cls := 8, slots := #[.int 82], vm := .none },
  { cls := 8, slots := #[.int 83], vm := .none },
  { cls := 8, slots := #[.int 84], vm := .none },
  { cls := 8, slots := #[.int 85], vm := .none },
  { cls := 8, slots := #[.int 86], vm := .none },
  { cls := 8, slots := #[.int 87], vm := .none },
  { cls := 8, slots := #[.int 88], vm := .none },
  { cls := 8, slots := #[.int 89], vm := .none },
  { cls := 8, slots := #[.int 90], vm := .none },
  { cls := 8, slots := #[.int 91], vm := .none },
  { cls := 8, slots := #[.int 92], vm := .none },
  { cls := 8, slots := #[.int 93], vm := .none },
  { cls := 8, slots := #[.int 94], vm := .none },
  { cls := 8, slots := #[.int 95], vm := .none },
  { cls := 8, slots := #[.int 96], vm := .none },
  { cls := 8, slots := #[.int 97], vm := .none },
  { cls := 8, slots := #[.int 98], vm := .none },
  { cls := 8, slots := #[.int 99], vm := .none },
  { cls := 8, slots := #[.int 100], vm := .none },
  { cls := 8, slots := #[.int 101], vm := .none },
  { cls := 8, slots := #[.int 102], vm := .none },
  { cls := 8, slots := #[.int 103], vm := .none },
  { cls := 8, slots := #[.int 104], vm := .none },
  { cls := 8, slots := #[.int 105], vm := .none },
  { cls := 8, slots := #[.int 106], vm := .none },
  { cls := 8, slots := #[.int 107], vm := .none },
  { cls := 8, slots := #[.int 108], vm := .none },
  { cls := 8, slots := #[.int 109], vm := .none },
  { cls := 8, slots := #[.int 110], vm := .none },
  { cls := 8, slots := #[.int 111], vm := .none },
  { cls := 8, slots := #[.int 112], vm := .none },
  { cls := 8, slots := #[.int 113], vm := .none },
  { cls := 8, slots := #[.int 114], vm := .none },
  { cls := 8, slots := #[.int 115], vm := .none },
  { cls := 8, slots := #[.int 116], vm := .none },
  { cls := 8, slots := #[.int 117], vm := .none },
  { cls := 8, slots := #[.int 118], vm := .none },
  { cls := 8, slots := #[.int 119], vm := .none },
  { cls := 8, slots := #[.int 120], vm := .none },
  { cls := 8, slots := #[.int 121], vm := .none },
  { cls := 8, slots := #[.int 122], vm := .none },
  { cls := 8, slots := #[.int 123], vm := .none },
  { cls := 8, slots := #[.int 124], vm := .none },
  { cls := 8, slots := #[.int 125], vm := .none },
  { cls := 8, slots := #[.int 126], vm := .none },
  { cls := 8, slots := #[.int 127], vm := .none }]
def classes : Array Class := #[k0, k1, k2, k3, k4, k5, k6, k7, k8, k9, k10, k11, k12, k13, k14, k15]
def interned : List (Array UInt16 × Addr) := []
def slotsUsed : Nat := 517
def theMethod : MethodId := ⟨1, 1⟩
def args0 : Array Value := #[.int 5, .int 6, .int 7, .int 8, .int 9, .int 10]
def aboutOver (below : List Frame) : State where
  vm := { classes := classes, interned := interned.toArray }
  heap := heap
  slotsUsed := slotsUsed
  threads := #[{ frames := .invoking theMethod args0 :: below }]
def below0 : List Frame := [.native { method := ⟨0, 0⟩, args := #[] }]
def about1 : State := aboutOver below0
def p0 : Program := .bare "" "" ""
def e0 : Env := launch0.env 0 0 0
theorem w_frames : about1.frames = Frame.invoking theMethod args0 :: below0 := rfl
set_option maxRecDepth 65536 in
theorem w_args : argsFit about1.vm theMethod args0 = true := by decide +kernel
set_option maxRecDepth 65536 in
theorem w_heap : heapFits about1 = true := by decide +kernel
set_option maxRecDepth 65536 in
theorem w_runnable : about1.curStatus? = some .runnable := by decide +kernel
set_option maxRecDepth 65536 in
theorem w_alone : about1.alone = true := by decide +kernel
set_option maxRecDepth 65536 in
theorem w_named : about1.methodNamed? x = some theMethod := by decide +kernel
set_option maxRecDepth 65536 in
theorem w_hears : about1.hears theMethod below0 = true := by decide +kernel
set_option maxRecDepth 65536 in
theorem w_ripe : about1.ripe theMethod args0 below0 = true := by decide +kernel
theorem w_running : about1.status = .running := rfl
set_option maxRecDepth 65536 in
theorem w_room : about1.hasRoom e0.platform room_1 = true :=
  launch0.hasRoom_least _ room_1 (by decide +kernel) (by decide +kernel) (by decide +kernel) (by decide +kernel) (by decide +kernel) (by decide +kernel)
theorem allAtoms_all (ts : List Jvm.Cond) (a : Array Jvm.Value) (st : Jvm.State) : (allAtoms ts).before a st = ts.all (fun c => c.before a st) := by
  induction ts with
  | nil => rfl
  | cons c t ih =>
    show (Jvm.Cond.and c (allAtoms t)).before a st = _
    rw [Jvm.Cond.before_and, ih, List.all_cons]
def words1 : List Jvm.Cond := Jvm.Cond.code x code maxLocals ret :: tables_1
/-- a 'code' word, met by the world's own term for the bytes: nothing is compared byte by byte -/
theorem code_word {y : MethodName} {bytes : ByteArray} {mx : Nat} {rt : Option FieldType} {a : Array Value} {s : State} {m : MethodId} {meth : Method} {c : Code} (h1 : s.methodNamed? y = some m) (h2 : s.vm.method? m = some meth) (h3 : meth.code = some c) (h4 : c.code = bytes)
    (h5 : (c.maxLocals == mx && c.exceptionTable.isEmpty && decide (c.maxStack ≤ mostOperands) && decide (meth.sig.returnType = rt) && !meth.locks && decide (parseMethodDescriptor y.desc = some meth.sig)) = true) : (Jvm.Cond.code y bytes mx rt).before a s = true := by
  simp only [Bool.and_eq_true, beq_iff_eq, Bool.not_eq_true', decide_eq_true_eq] at h5
  obtain ⟨⟨⟨⟨⟨g1, g2⟩, g3⟩, g4⟩, g5⟩, g6⟩ := h5
  simp [Cond.before, Cond.holds, Cond.value, h1, h2, h3, h4, g1, g2, g3, g4, g5, g6]
def isCode : Jvm.Cond → Bool
  | .code _ _ _ _ => true
  | _ => false
theorem all_split {L : List Jvm.Cond} {P : Jvm.Cond → Bool} (h1 : L.all (fun c => isCode c || P c) = true) (h2 : ∀ c ∈ L.filter isCode, P c = true) : L.all P = true := by
  refine List.all_eq_true.mpr fun c hc => ?_
  have h := List.all_eq_true.mp h1 c hc
  rcases Bool.eq_false_or_eq_true (isCode c) with hi | hi
  · exact h2 c (List.mem_filter.mpr ⟨hc, hi⟩)
  · simpa [hi] using h
set_option maxRecDepth 65536 in
theorem w_c0 : (Jvm.Cond.code x code maxLocals ret).before args0 about1 = true := code_word (m := ⟨1, 1⟩) (meth := k1m1) (c := k1c1) (by decide +kernel) rfl rfl rfl (by decide +kernel)
set_option maxRecDepth 65536 in
theorem w_c1 : (Jvm.Cond.code ({ cls := "com/example/canopy/canopy/model/Rect", name := "<init>", desc := "(IIII)V" } : Jvm.MethodName) prog_14_method_1_code (5 : Nat) (Option.none : Option Jvm.ClassFile.FieldType)).before args0 about1 = true := code_word (m := ⟨2, 0⟩) (meth := k2m0) (c := k2c0) (by decide +kernel) rfl rfl rfl (by decide +kernel)
set_option maxRecDepth 65536 in
theorem w_c2 : (Jvm.Cond.code ({ cls := "java/lang/Object", name := "<init>", desc := "()V" } : Jvm.MethodName) object_method_1_code (1 : Nat) (Option.none : Option Jvm.ClassFile.FieldType)).before args0 about1 = true := code_word (m := ⟨0, 0⟩) (meth := k0m0) (c := k0c0) (by decide +kernel) rfl rfl rfl (by decide +kernel)
set_option maxRecDepth 65536 in
theorem w_c3 : (Jvm.Cond.code ({ cls := "com/example/canopy/canopy/model/Rect", name := "equals", desc := "(Ljava/lang/Object;)Z" } : Jvm.MethodName) prog_14_method_15_code (3 : Nat) (Option.some Jvm.ClassFile.FieldType.boolean)).before args0 about1 = true := code_word (m := ⟨2, 1⟩) (meth := k2m1) (c := k2c1) (by decide +kernel) rfl rfl rfl (by decide +kernel)
set_option maxRecDepth 65536 in
theorem w_c4 : (Jvm.Cond.code ({ cls := "java/lang/Integer", name := "valueOf", desc := "(I)Ljava/lang/Integer;" } : Jvm.MethodName) jdk_33_method_22_code (1 : Nat) (Option.some (Jvm.ClassFile.FieldType.object "java/lang/Integer"))).before args0 about1 = true := code_word (m := ⟨8, 0⟩) (meth := k8m0) (c := k8c0) (by decide +kernel) rfl rfl rfl (by decide +kernel)
set_option maxRecDepth 65536 in
theorem w_c5 : (Jvm.Cond.code ({ cls := "java/lang/Integer", name := "<init>", desc := "(I)V" } : Jvm.MethodName) jdk_33_method_23_code (2 : Nat) (Option.none : Option Jvm.ClassFile.FieldType)).before args0 about1 = true := code_word (m := ⟨8, 1⟩) (meth := k8m1) (c := k8c1) (by decide +kernel) rfl rfl rfl (by decide +kernel)
set_option maxRecDepth 65536 in
theorem w_c6 : (Jvm.Cond.code ({ cls := "java/lang/Number", name := "<init>", desc := "()V" } : Jvm.MethodName) jdk_18_method_1_code (1 : Nat) (Option.none : Option Jvm.ClassFile.FieldType)).before args0 about1 = true := code_word (m := ⟨4, 0⟩) (meth := k4m0) (c := k4c0) (by decide +kernel) rfl rfl rfl (by decide +kernel)
def codes1 : List Jvm.Cond := [Jvm.Cond.code x code maxLocals ret, Jvm.Cond.code ({ cls := "com/example/canopy/canopy/model/Rect", name := "<init>", desc := "(IIII)V" } : Jvm.MethodName) prog_14_method_1_code (5 : Nat) (Option.none : Option Jvm.ClassFile.FieldType), Jvm.Cond.code ({ cls := "java/lang/Object", name := "<init>", desc := "()V" } : Jvm.MethodName) object_method_1_code (1 : Nat) (Option.none : Option Jvm.ClassFile.FieldType), Jvm.Cond.code ({ cls := "com/example/canopy/canopy/model/Rect", name := "equals", desc := "(Ljava/lang/Object;)Z" } : Jvm.MethodName) prog_14_method_15_code (3 : Nat) (Option.some Jvm.ClassFile.FieldType.boolean), Jvm.Cond.code ({ cls := "java/lang/Integer", name := "valueOf", desc := "(I)Ljava/lang/Integer;" } : Jvm.MethodName) jdk_33_method_22_code (1 : Nat) (Option.some (Jvm.ClassFile.FieldType.object "java/lang/Integer")), Jvm.Cond.code ({ cls := "java/lang/Integer", name := "<init>", desc := "(I)V" } : Jvm.MethodName) jdk_33_method_23_code (2 : Nat) (Option.none : Option Jvm.ClassFile.FieldType), Jvm.Cond.code ({ cls := "java/lang/Number", name := "<init>", desc := "()V" } : Jvm.MethodName) jdk_18_method_1_code (1 : Nat) (Option.none : Option Jvm.ClassFile.FieldType)]
set_option maxRecDepth 65536 in
theorem codes_eq : words1.filter isCode = codes1 := rfl
theorem w_codes : ∀ c ∈ words1.filter isCode, c.before args0 about1 = true := by
  rw [codes_eq]
  intro c hc
  simp only [codes1, List.mem_cons, List.not_mem_nil, or_false] at hc
  rcases hc with rfl | rfl | rfl | rfl | rfl | rfl | rfl
  · exact w_c0
  · exact w_c1
  · exact w_c2
  · exact w_c3
  · exact w_c4
  · exact w_c5
  · exact w_c6
set_option maxRecDepth 65536 in
theorem w_t1 : (words1.take 24).all (fun c => isCode c || c.before args0 about1) = true := by decide +kernel
set_option maxRecDepth 65536 in
theorem w_t2 : ((words1.drop 24).take 24).all (fun c => isCode c || c.before args0 about1) = true := by decide +kernel
set_option maxRecDepth 65536 in
theorem w_t3 : ((words1.drop 24).drop 24).all (fun c => isCode c || c.before args0 about1) = true := by decide +kernel
theorem w_tables : (allAtoms (Jvm.Cond.code x code maxLocals ret :: tables_1)).before args0 about1 = true := by
  rw [allAtoms_all]
  show words1.all (fun c => c.before args0 about1) = true
  refine all_split ?_ w_codes
  rw [← List.take_append_drop 24 words1, List.all_append, w_t1, ← List.take_append_drop 24 (words1.drop 24), List.all_append, w_t2, w_t3]
  rfl
set_option maxRecDepth 65536 in
theorem w_rest : rest_1_c.before args0 about1 = true := by decide +kernel
set_option maxRecDepth 65536 in
theorem w_case : (Jvm.Cond.and given_1 narrow_1).before args0 about1 = true := by decide +kernel
theorem w_applies : (headSpec (Jvm.Cond.code x code maxLocals ret :: tables_1) room_1).applies x e0.platform about1 = true :=
  (Spec.applies_iff w_frames).mpr ⟨w_running, w_runnable, w_alone, w_named, w_hears, w_ripe, w_room, w_tables⟩
theorem atStart : AtStart classFile x code maxLocals ret World_1 tables_1 room_1 Calls_1 rest_1 Pre_1 launch0 p0 e0 about1 theMethod args0 below0 :=
  ⟨lists_1, trivial, launch0.admits_env _ _ _, launch0.least_env, fairChoices_fair.cas, fairChoices_fair.clock, w_frames, w_args, w_heap, w_applies, trivial, w_rest, w_case⟩
end start1
theorem witness_1 : WitnessClaimed_1 := ⟨start1.p0, start1.e0, start1.about1, start1.theMethod, start1.args0, start1.below0, start1.atStart⟩
end Jvm.Pilot.@@N@@
