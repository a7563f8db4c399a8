import JvmDerived
import JvmDerived.Pilot.@@N@@Statement
import JvmDerived.Pilot.@@N@@Code
set_option linter.unusedVariables false
set_option linter.unusedSimpArgs false
namespace Jvm.RoadKit
open Sem ClassFile Op Lib Jvm.Stand Jvm.Free Jvm.LawKit
section Own
variable {p : Program} {l : Launch} {e : Env} {R : Room} {s : State} {m : MethodId} {args : Array Value} {below : List Frame} {meth : Method} {c : Code} {T A B : State} {locs : List Loc} {cells slots K N : Nat} {Q : Option Value → Heap → List Loc → Prop}
/-- from A the walk comes to its end, and Q holds there -/
def OutW (p : Program) (e : Env) (below : List Frame) (s : State) (K N : Nat) (Q : Option Value → Heap → List Loc → Prop) (A : State) : Prop :=
  ∃ s₂ o, Steps p.tables e below A s₂ ∧ s₂.status = .running ∧ Ended s₂ below o ∧ ∃ v L, o = .returned v ∧ Q v s₂.heap L ∧ FrameEnd s o s₂ L K N
/-- a body that writes nothing: what it returns -/
def Qpure (h0 : Heap) (n0 : Nat) (r : Value) (v : Option Value) (h : Heap) (L : List Loc) : Prop := v = some r ∧ Fr n0 L ∧ h = h0
theorem OutW.back (h : ∀ t, Steps p.tables e below B t → Steps p.tables e below A t) (k : OutW p e below s K N Q B) : OutW p e below s K N Q A := by
  obtain ⟨t, o, h1, h2⟩ := k
  exact ⟨t, o, h t h1, h2⟩
theorem OutW.via (h : Steps p.tables e below A B) (k : OutW p e below s K N Q B) : OutW p e below s K N Q A := by
  obtain ⟨t, o, h1, h2⟩ := k
  exact ⟨t, o, h.trans h1, h2⟩
theorem OutW.retV (X : Stand p l e R s m args below meth c T locs cells slots) (hx : p.tables.exec = Jvm.exec) {pc : Nat} {Ls : Array Slot} (hret : meth.sig.returnType = none) (hlk : meth.locks = false) (hd : decode c.code pc = .ok (.return_, 1))
    (hK : cells ≤ K) (hN : slots ≤ N) (hq : Q none T.heap locs) : OutW p e below s K N Q (T.setTop (mkF m pc Ls [])) := by
  obtain ⟨fs, hr, hrun, hended, hW, hsame⟩ := X.leave (v := none) (fun _ => rfl) hlk
  exact ⟨_, _, X.returnOut hx hret hd hr, hrun, hended, _, _, rfl, hq, ⟨_, rfl⟩, hW, hsame.mono hK hN⟩
theorem OutW.retI (X : Stand p l e R s m args below meth c T locs cells slots) (hx : p.tables.exec = Jvm.exec) {pc : Nat} {Ls : Array Slot} {z : Int32} {rest : List Value} (hret : meth.sig.returnType = some .int) (hlk : meth.locks = false) (hd : decode c.code pc = .ok (.ireturn, 1))
    (hK : cells ≤ K) (hN : slots ≤ N) (hq : Q (some (.int z)) T.heap locs) : OutW p e below s K N Q (T.setTop (mkF m pc Ls (.int z :: rest))) := by
  obtain ⟨fs, hr, hrun, hended, hW, hsame⟩ := X.leave (v := some (.int z)) (fun h => by rw [hret] at h; cases h) hlk
  exact ⟨_, _, retOut X hx hret rfl (Or.inl ⟨rfl, Or.inl rfl, z, rfl⟩) hd hr, hrun, hended, _, _, rfl, hq, ⟨_, rfl⟩, hW, hsame.mono hK hN⟩
theorem OutW.retJ (X : Stand p l e R s m args below meth c T locs cells slots) (hx : p.tables.exec = Jvm.exec) {pc : Nat} {Ls : Array Slot} {z : Int64} {rest : List Value} (hret : meth.sig.returnType = some .long) (hlk : meth.locks = false) (hd : decode c.code pc = .ok (.lreturn, 1))
    (hK : cells ≤ K) (hN : slots ≤ N) (hq : Q (some (.long z)) T.heap locs) : OutW p e below s K N Q (T.setTop (mkF m pc Ls (.long z :: rest))) := by
  obtain ⟨fs, hr, hrun, hended, hW, hsame⟩ := X.leave (v := some (.long z)) (fun h => by rw [hret] at h; cases h) hlk
  exact ⟨_, _, retOut X hx hret rfl (Or.inr (Or.inl ⟨rfl, rfl, z, rfl⟩)) hd hr, hrun, hended, _, _, rfl, hq, ⟨_, rfl⟩, hW, hsame.mono hK hN⟩
theorem nar_ref {t : FieldType} {v : Value} (h : v.isRef = true) : narrow t v = v := by
  rcases ref_cases h with rfl | ⟨a, rfl⟩ <;> cases t <;> rfl
theorem cat_ref {v : Value} (h : v.isRef = true) : v.category = 1 := by
  rcases ref_cases h with rfl | ⟨a, rfl⟩ <;> rfl
theorem fit_ref {t : FieldType} {v : Value} (ht : refKind t = true) (h : v.isRef = true) : fits t v = true := by
  rcases ref_cases h with rfl | ⟨a, rfl⟩ <;> cases t <;> first | rfl | (simp [refKind] at ht)
theorem OutW.retA (X : Stand p l e R s m args below meth c T locs cells slots) (hx : p.tables.exec = Jvm.exec) {pc : Nat} {Ls : Array Slot} {w : Value} {t : FieldType} {rest : List Value} (hret : meth.sig.returnType = some t) (ht : t.isReference = true) (hw : w.isRef = true) (hlk : meth.locks = false) (hd : decode c.code pc = .ok (.areturn, 1))
    (hK : cells ≤ K) (hN : slots ≤ N) (hq : Q (some w) T.heap locs) : OutW p e below s K N Q (T.setTop (mkF m pc Ls (w :: rest))) := by
  obtain ⟨fs, hr, hrun, hended, hW, hsame⟩ := X.leave (v := some w) (fun h => by rw [hret] at h; cases h) hlk
  exact ⟨_, _, retOut X hx hret (nar_ref hw) (Or.inr (Or.inr (Or.inr (Or.inr ⟨rfl, ht, hw⟩)))) hd hr, hrun, hended, _, _, rfl, hq, ⟨_, rfl⟩, hW, hsame.mono hK hN⟩
theorem OutW.retN (X : Stand p l e R s m args below meth c T locs cells slots) (hx : p.tables.exec = Jvm.exec) {pc : Nat} {Ls : Array Slot} {z z' : Int32} {t : FieldType} {rest : List Value} (hret : meth.sig.returnType = some t) (ht : t = .boolean ∨ t = .byte ∨ t = .char ∨ t = .short) (hlk : meth.locks = false) (hd : decode c.code pc = .ok (.ireturn, 1)) (hz : nar t z = z')
    (hK : cells ≤ K) (hN : slots ≤ N) (hq : Q (some (.int z')) T.heap locs) : OutW p e below s K N Q (T.setTop (mkF m pc Ls (.int z :: rest))) := by
  subst hz
  obtain ⟨fs, hr, hrun, hended, hW, hsame⟩ := X.leave (v := some (.int (nar t z))) (fun h => by rw [hret] at h; cases h) hlk
  exact ⟨_, _, Jvm.RoadKit.retN X hx hret ht hd hr, hrun, hended, _, _, rfl, hq, ⟨_, rfl⟩, hW, hsame.mono hK hN⟩
theorem store1' {L L' : Array Slot} {i : Nat} {v : Value} {o : Slot} (hold : L[i]? = some o) (ho : One o) (hv : v.category = 1) (h : L.setIfInBounds i (.val v) = L') : storeLocals L i v = some L' := h ▸ XS.store1 hold ho hv
theorem own_lt_mono {x a b : Int32} (h : x < a) (q : a ≤ b) : x < b := by
  rw [Int32.lt_iff_toInt_lt] at *
  rw [Int32.le_iff_toInt_le] at q
  omega
theorem own_nlt_mono {x a b : Int32} (h : ¬ x < a) (q : b ≤ a) : ¬ x < b := by
  rw [Int32.lt_iff_toInt_lt] at *
  rw [Int32.le_iff_toInt_le] at q
  omega
/-- every element of the array's cell is an object of exactly that class -/
def Els (Z : State) (h : Heap) (cl : Cell) (C : String) : Prop := ∀ j : Int32, ¬ (j < 0 ∨ cl.slots.size ≤ j.toNatClampNeg) → ∃ y : Addr, cl.slots[j.toNatClampNeg]? = some (.ref y) ∧ Exa Z h y C
theorem own_Uext {Z : State} {h h' : Heap} {cl : Cell} {C : String} (U : Els Z h cl C) (E : Ext h h') : Els Z h' cl C := fun j hj => by
  obtain ⟨y, a, b⟩ := U j hj
  exact ⟨y, a, b.ext E⟩
theorem own_Uwr {Z : State} {h h' : Heap} {cl : Cell} {C : String} {a : Addr} {sl : Nat} {v : Value} (U : Els Z h cl C) (W : Wr h h' a sl v) : Els Z h' cl C := fun j hj => by
  obtain ⟨y, q, b⟩ := U j hj
  exact ⟨y, q, b.wr W⟩
theorem own_Ukeep {Z : State} {h h' : Heap} {cl : Cell} {C : String} {ws : List Addr} (U : Els Z h cl C) (K : Keep h h' ws) : Els Z h' cl C := fun j hj => by
  obtain ⟨y, a, b⟩ := U j hj
  exact ⟨y, a, b.keep K⟩
theorem own_Akeep {Z : State} {h h' : Heap} {a : Addr} {c : Cell} {ty : FieldType} {ws : List Addr} (A : Arr Z h a c ty) (K : Keep h h' ws) (q : a ∉ ws) : Arr Z h' a c ty := ⟨K.2.1 a c A.1 q, A.2⟩
theorem own_keepS {Z : State} {h h' : Heap} {C n d : String} {v : Value} {ws : List Addr} (F : Sta Z h C n d v) (K : Keep h h' ws) (q : ∀ x ∈ ws, ∃ C', Exa Z h x C') : Sta Z h' C n d v := by
  obtain ⟨cf, i, k, f, st, cell, h1, h2, h3, h4, h5, h6, h7⟩ := F
  have ne : st ∉ ws := fun hm => by
    obtain ⟨C', c', k', e1, -, -, e4, -⟩ := q st hm
    cases h5.symm.trans e1
    rw [h6] at e4; cases e4
  exact ⟨cf, i, k, f, st, cell, h1, h2, h3, h4, K.2.1 _ _ h5 ne, h6, h7⟩
end Own
end Jvm.RoadKit
namespace Jvm.Pilot.@@N@@
open Jvm Jvm.ClassFile Sem Op Lib Jvm.Free Jvm.Stand Jvm.LawKit Jvm.RoadKit Bundle Jvm.Pilot.@@N@@.Jvm.D
theorem d1_0 : decode prog_38_method_1_code 0 = .ok (.aload_n 0, 1) := by decide +kernel
theorem d1_1 : decode prog_38_method_1_code 1 = .ok (.invokespecial 1, 3) := by decide +kernel
theorem d1_4 : decode prog_38_method_1_code 4 = .ok (.aload_n 0, 1) := by decide +kernel
theorem d1_5 : decode prog_38_method_1_code 5 = .ok (.aload_n 1, 1) := by decide +kernel
theorem d1_6 : decode prog_38_method_1_code 6 = .ok (.putfield 7, 3) := by decide +kernel
theorem d1_9 : decode prog_38_method_1_code 9 = .ok (.return_, 1) := by decide +kernel
theorem pn_1 : plainName "com/example/fulltext_workbench/fulltextworkbench/index/VarintReader" = true := by first | (simp [plainName, overriddenIn]; done) | decide +kernel
theorem ef_1 (m : MethodId) (x0 : Addr) (x1 : Addr) : entryFrame m #[(.ref x0), (.ref x1)] 2 = mkF m 0 #[.val (.ref x0), .val (.ref x1)] [] := by first | (simp [entryFrame, mkF, argsToLocals, Value.category]; done) | rfl
def Q1 (Z : State) (a1 : Addr) (a2 : Addr) (w_p : Int32) (h0 : Heap) (n0 : Nat) (v : Option Value) (h : Heap) (L : List Loc) : Prop := v = none ∧ Fr n0 L ∧ Keep h0 h [a1] ∧ Fld Z h a1 "com/example/fulltext_workbench/fulltextworkbench/index/VarintReader" "bytes" "[B" (.ref a2) ∧ Fld Z h a1 "com/example/fulltext_workbench/fulltextworkbench/index/VarintReader" "position" "I" (.int w_p)
set_option maxRecDepth 65536 in
set_option maxHeartbeats 40000000 in
theorem rm1 (l : Launch) (Z : State) (a0 : Array Value) (hw : ∀ d ∈ tables_1, d.before a0 Z = true) (ws : List Jvm.Cond) (a1 : Addr) (a2 : Addr) (w_p : Int32) (h0 : Heap) (n0 : Nat) (Z0 : n0 ≤ h0.size) (E_a1 : Exa Z h0 a1 "com/example/fulltext_workbench/fulltextworkbench/index/VarintReader") (g_a1 : n0 ≤ a1) (F_bytes_a1 : Fld Z h0 a1 "com/example/fulltext_workbench/fulltextworkbench/index/VarintReader" "bytes" "[B" .null) (F_position_a1 : Fld Z h0 a1 "com/example/fulltext_workbench/fulltextworkbench/index/VarintReader" "position" "I" (.int w_p)) :
    MetFree l (⟨"com/example/fulltext_workbench/fulltextworkbench/index/VarintReader", "<init>", "([B)V"⟩ : MethodName) (head1 (Jvm.Cond.code (⟨"com/example/fulltext_workbench/fulltextworkbench/index/VarintReader", "<init>", "([B)V"⟩ : MethodName) prog_38_method_1_code 2 none :: ws) ({ frames := 1, cells := 0, slots := 0, locals := 12 } : Room)) (fun a U => a = #[(.ref a1), (.ref a2)] ∧ Z.Warmed39 U.vm ∧ U.heap = h0) (fun _ _ _ _ _ => True) (fun _ U o U' => ∃ v L, o = .returned v ∧ Q1 Z a1 a2 w_p h0 n0 v U'.heap L ∧ FrameEnd U o U' L ({ frames := 1, cells := 0, slots := 0, locals := 12 } : Room).cells ({ frames := 1, cells := 0, slots := 0, locals := 12 } : Room).slots) := by
  refine MetFree.of_bodySF (plainFor_of_name pn_1) hisR ?_
  intro p e s m args below meth c s₁ Bd hml0 hP hK
  obtain ⟨rfl, hZ, hh⟩ := hP
  have hx := Bd.exec
  have hby := Bd.bytes
  have hlk := Bd.notSynchronized
  have hml : c.maxLocals = 2 := hml0
  have hown : s.vm.findClass "com/example/fulltext_workbench/fulltextworkbench/index/VarintReader" = some m.cls := findClass_of_methodNamed Bd.named
  have hnm := (name_of_methodNamed Bd.named Bd.method).1
  have X0 : Stand p l e ({ frames := 1, cells := 0, slots := 0, locals := 12 } : Room) s m #[(.ref a1), (.ref a2)] below meth c s₁ [] 0 0 := Stand.of_body Bd
  have e0 : s₁.heap = h0 := by rw [← hh, Bd.state]; rfl
  have N0 := Fr.nil n0
  have K0 : Keep h0 h0 [a1] := Keep.refl h0 _
  show OutW p e below s ({ frames := 1, cells := 0, slots := 0, locals := 12 } : Room).cells ({ frames := 1, cells := 0, slots := 0, locals := 12 } : Room).slots (Q1 Z a1 a2 w_p h0 n0) _
  refine OutW.back (fun t k => castTop (ef_1 m a1 a2) k) ?_
  show OutW _ _ _ _ _ _ _ (s₁.setTop (mkF m 0 #[.val (.ref a1), .val (.ref a2)] []))
  refine OutW.back (fun t k => XS.aloadN X0.here hx rfl (hb hby d1_0) rfl rfl  k) ?_
  show OutW _ _ _ _ _ _ _ (s₁.setTop (mkF m 1 #[.val (.ref a1), .val (.ref a2)] [(.ref a1)]))
  obtain ⟨T1, X1, e1, st1⟩ := initO X0 hx hZ hown (hw _ (List.mem_of_getElem? (i := 7) rfl)) (hw _ (List.mem_of_getElem? (i := 8) rfl)) (hw _ (List.mem_of_getElem? (i := 9) rfl)) e0 (g := (mkF m 1 #[.val (.ref a1), .val (.ref a2)] [(.ref a1)])) rfl (by rw [hml]; rfl) rfl (hb hby d1_1) (by decide) (W := 0) (by show 2 * 0 + _ ≤ _; exact Nat.le_of_eq rfl) (by decide)
  refine OutW.back st1 ?_
  show OutW _ _ _ _ _ _ _ (T1.setTop (mkF m 4 #[.val (.ref a1), .val (.ref a2)] []))
  refine OutW.back (fun t k => XS.aloadN X1.here hx rfl (hb hby d1_4) rfl rfl  k) ?_
  show OutW _ _ _ _ _ _ _ (T1.setTop (mkF m 5 #[.val (.ref a1), .val (.ref a2)] [(.ref a1)]))
  refine OutW.back (fun t k => XS.aloadN X1.here hx rfl (hb hby d1_5) rfl rfl  k) ?_
  show OutW _ _ _ _ _ _ _ (T1.setTop (mkF m 6 #[.val (.ref a1), .val (.ref a2)] [(.ref a2), (.ref a1)]))
  obtain ⟨T2, h2, X2, e2, W2, st2⟩ := putF X1 hx hZ hown (host := "") (Or.inl (hw _ (List.mem_of_getElem? (i := 10) rfl))) Via.refl e1 F_bytes_a1 E_a1 (Or.inr ⟨(hw _ (List.mem_of_getElem? (i := 11) rfl)), rfl, hnm⟩) (hw _ (List.mem_of_getElem? (i := 2) rfl)) (ty := (.array .byte)) (by decide) rfl rfl (g := (mkF m 6 #[.val (.ref a1), .val (.ref a2)] [(.ref a2), (.ref a1)])) rfl rfl (hb hby d1_6)
  have E_a1 := E_a1.wr W2
  have F_bytes_a1 := F_bytes_a1.same W2
  have F_position_a1 := F_position_a1.other W2 (Or.inr (slot_ne (Or.inl (hw _ (List.mem_of_getElem? (i := 18) rfl))) (Or.inr (hw _ (List.mem_of_getElem? (i := 11) rfl))) (by decide) (t := .int) (t' := (.array .byte)) (by decide) (by decide)))
  have N2 := Fr.snoc X2 N0 g_a1
  have Z2 : n0 ≤ h2.size := Nat.le_trans Z0 (Keep.of_wr W2).1
  have K2 := K0.wr W2 (Or.inl (List.mem_of_getElem? (i := 0) rfl))
  refine OutW.back st2 ?_
  show OutW _ _ _ _ _ _ _ (T2.setTop (mkF m 9 #[.val (.ref a1), .val (.ref a2)] []))
  refine OutW.retV X2 hx Bd.returns hlk (hb hby d1_9) (by decide) (by decide) ?_
  show Q1 Z a1 a2 w_p h0 n0 _ T2.heap _
  rw [e2]
  exact ⟨rfl, N2, K2, F_bytes_a1, F_position_a1⟩
def atE (w_p : Int32) (nn : Int32) : Int32 := (if w_p = nn then (1 : Int32) else (0 : Int32))
theorem d3_0 : decode prog_38_method_4_code 0 = .ok (.aload_n 0, 1) := by decide +kernel
theorem d3_1 : decode prog_38_method_4_code 1 = .ok (.getfield 15, 3) := by decide +kernel
theorem d3_4 : decode prog_38_method_4_code 4 = .ok (.aload_n 0, 1) := by decide +kernel
theorem d3_5 : decode prog_38_method_4_code 5 = .ok (.getfield 7, 3) := by decide +kernel
theorem d3_8 : decode prog_38_method_4_code 8 = .ok (.arraylength, 1) := by decide +kernel
theorem d3_9 : decode prog_38_method_4_code 9 = .ok (.if_icmp .ne 7, 3) := by decide +kernel
theorem d3_12 : decode prog_38_method_4_code 12 = .ok (.iconst 1, 1) := by decide +kernel
theorem d3_13 : decode prog_38_method_4_code 13 = .ok (.goto 4, 3) := by decide +kernel
theorem d3_16 : decode prog_38_method_4_code 16 = .ok (.iconst 0, 1) := by decide +kernel
theorem d3_17 : decode prog_38_method_4_code 17 = .ok (.ireturn, 1) := by decide +kernel
theorem pn_3 : plainName "com/example/fulltext_workbench/fulltextworkbench/index/VarintReader" = true := by first | (simp [plainName, overriddenIn]; done) | decide +kernel
theorem ef_3 (m : MethodId) (x0 : Addr) : entryFrame m #[(.ref x0)] 1 = mkF m 0 #[.val (.ref x0)] [] := by first | (simp [entryFrame, mkF, argsToLocals, Value.category]; done) | rfl
def Q3 (Z : State) (a1 : Addr) (b2 : Addr) (w_p : Int32) (nn : Int32) (vs : List Value) (kk : ClassId) (h0 : Heap) (n0 : Nat) (v : Option Value) (h : Heap) (L : List Loc) : Prop := v = some (.int (atE w_p nn)) ∧ Fr n0 L ∧ h = h0
set_option maxRecDepth 65536 in
set_option maxHeartbeats 40000000 in
theorem rm3 (l : Launch) (Z : State) (a0 : Array Value) (hw : ∀ d ∈ tables_1, d.before a0 Z = true) (ws : List Jvm.Cond) (a1 : Addr) (b2 : Addr) (w_p : Int32) (nn : Int32) (vs : List Value) (kk : ClassId) (h0 : Heap) (n0 : Nat) (Z0 : n0 ≤ h0.size) (F_bytes_a1 : Fld Z h0 a1 "com/example/fulltext_workbench/fulltextworkbench/index/VarintReader" "bytes" "[B" (.ref b2)) (F_position_a1 : Fld Z h0 a1 "com/example/fulltext_workbench/fulltextworkbench/index/VarintReader" "position" "I" (.int w_p)) (V_b2 : Arv Z h0 b2 kk .byte nn vs (.int (0 : Int32))) :
    MetFree l (⟨"com/example/fulltext_workbench/fulltextworkbench/index/VarintReader", "atEnd", "()Z"⟩ : MethodName) (head1 (Jvm.Cond.code (⟨"com/example/fulltext_workbench/fulltextworkbench/index/VarintReader", "atEnd", "()Z"⟩ : MethodName) prog_38_method_4_code 1 (some .boolean) :: ws) ({ frames := 0, cells := 0, slots := 0, locals := 0 } : Room)) (fun a U => a = #[(.ref a1)] ∧ Z.Warmed39 U.vm ∧ U.heap = h0) (fun _ _ _ _ _ => True) (fun _ U o U' => ∃ v L, o = .returned v ∧ Q3 Z a1 b2 w_p nn vs kk h0 n0 v U'.heap L ∧ FrameEnd U o U' L ({ frames := 0, cells := 0, slots := 0, locals := 0 } : Room).cells ({ frames := 0, cells := 0, slots := 0, locals := 0 } : Room).slots) := by
  refine MetFree.of_bodySF (plainFor_of_name pn_3) hisR ?_
  intro p e s m args below meth c s₁ Bd hml0 hP hK
  obtain ⟨rfl, hZ, hh⟩ := hP
  have hx := Bd.exec
  have hby := Bd.bytes
  have hlk := Bd.notSynchronized
  have hml : c.maxLocals = 1 := hml0
  have hown : s.vm.findClass "com/example/fulltext_workbench/fulltextworkbench/index/VarintReader" = some m.cls := findClass_of_methodNamed Bd.named
  have hnm := (name_of_methodNamed Bd.named Bd.method).1
  have X0 : Stand p l e ({ frames := 0, cells := 0, slots := 0, locals := 0 } : Room) s m #[(.ref a1)] below meth c s₁ [] 0 0 := Stand.of_body Bd
  have e0 : s₁.heap = h0 := by rw [← hh, Bd.state]; rfl
  have N0 := Fr.nil n0
  have K0 : Keep h0 h0 [] := Keep.refl h0 _
  show OutW p e below s ({ frames := 0, cells := 0, slots := 0, locals := 0 } : Room).cells ({ frames := 0, cells := 0, slots := 0, locals := 0 } : Room).slots (Q3 Z a1 b2 w_p nn vs kk h0 n0) _
  refine OutW.back (fun t k => castTop (ef_3 m a1) k) ?_
  show OutW _ _ _ _ _ _ _ (s₁.setTop (mkF m 0 #[.val (.ref a1)] []))
  refine OutW.back (fun t k => XS.aloadN X0.here hx rfl (hb hby d3_0) rfl rfl  k) ?_
  show OutW _ _ _ _ _ _ _ (s₁.setTop (mkF m 1 #[.val (.ref a1)] [(.ref a1)]))
  obtain ⟨T1, X1, e1, st1⟩ := getF X0 hx hZ hown (host := "") (Or.inl (hw _ (List.mem_of_getElem? (i := 17) rfl))) Via.refl e0 F_position_a1 (g := (mkF m 1 #[.val (.ref a1)] [(.ref a1)])) rfl rfl (hb hby d3_1)
  refine OutW.back st1 ?_
  show OutW _ _ _ _ _ _ _ (T1.setTop (mkF m 4 #[.val (.ref a1)] [(.int w_p)]))
  refine OutW.back (fun t k => XS.aloadN X1.here hx rfl (hb hby d3_4) rfl rfl  k) ?_
  show OutW _ _ _ _ _ _ _ (T1.setTop (mkF m 5 #[.val (.ref a1)] [(.ref a1), (.int w_p)]))
  obtain ⟨T2, X2, e2, st2⟩ := getF X1 hx hZ hown (host := "") (Or.inl (hw _ (List.mem_of_getElem? (i := 10) rfl))) Via.refl e1 F_bytes_a1 (g := (mkF m 5 #[.val (.ref a1)] [(.ref a1), (.int w_p)])) rfl rfl (hb hby d3_5)
  refine OutW.back st2 ?_
  show OutW _ _ _ _ _ _ _ (T2.setTop (mkF m 8 #[.val (.ref a1)] [(.ref b2), (.int w_p)]))
  obtain ⟨cl3, Ar3, Qk3, Sz3, Nn3, Hh3, Gg3⟩ := id V_b2
  refine OutW.back (X2.arraylength hx (by rw [e2]; exact Ar3.1) (State.isArrayOf_alike hZ.alike Ar3.2.1) (g := (mkF m 8 #[.val (.ref a1)] [(.ref b2), (.int w_p)])) rfl rfl (hb hby d3_8)) ?_
  rw [len_of Sz3 Nn3]
  show OutW _ _ _ _ _ _ _ (T2.setTop (mkF m 9 #[.val (.ref a1)] [(.int nn), (.int w_p)]))
  by_cases c9_4 : w_p = nn
  · skip
    refine OutW.back (fun t k => XS.icmpNo X2.here hx rfl (hb hby d3_9) rfl (teq c9_4).2 k) ?_
    show OutW _ _ _ _ _ _ _ (T2.setTop (mkF m 12 #[.val (.ref a1)] []))
    refine OutW.back (fun t k => XS.iconst X2.here hx rfl (hb hby d3_12) k) ?_
    show OutW _ _ _ _ _ _ _ (T2.setTop (mkF m 13 #[.val (.ref a1)] [(.int (1 : Int32))]))
    refine OutW.back (fun t k => XS.goto X2.here hx rfl (pc0 := 13) (pc' := 17) rfl (hb hby d3_13) (by decide) (by decide) k) ?_
    show OutW _ _ _ _ _ _ _ (T2.setTop (mkF m 17 #[.val (.ref a1)] [(.int (1 : Int32))]))
    refine OutW.retN X2 hx (t := .boolean) (z' := (1 : Int32)) Bd.returns (by simp) hlk (hb hby d3_17) ?hz (by decide) (by decide) ?_
    case hz =>
      rfl
    show Q3 Z a1 b2 w_p nn vs kk h0 n0 _ T2.heap _
    rw [e2]
    exact ⟨by rw [atE, if_pos c9_4], N0, rfl⟩
  · skip
    refine OutW.back (fun t k => XS.icmpYes X2.here hx rfl (pc0 := 9) (pc' := 16) rfl (hb hby d3_9) rfl (feq c9_4).2 (by decide) (by decide) k) ?_
    show OutW _ _ _ _ _ _ _ (T2.setTop (mkF m 16 #[.val (.ref a1)] []))
    refine OutW.back (fun t k => XS.iconst X2.here hx rfl (hb hby d3_16) k) ?_
    show OutW _ _ _ _ _ _ _ (T2.setTop (mkF m 17 #[.val (.ref a1)] [(.int (0 : Int32))]))
    refine OutW.retN X2 hx (t := .boolean) (z' := (0 : Int32)) Bd.returns (by simp) hlk (hb hby d3_17) ?hz (by decide) (by decide) ?_
    case hz =>
      rfl
    show Q3 Z a1 b2 w_p nn vs kk h0 n0 _ T2.heap _
    rw [e2]
    exact ⟨by rw [atE, if_neg c9_4], N0, rfl⟩
theorem own_succ {p n : Int32} (h0 : ¬ p < 0) (h1 : p < n) : ¬ (p + (1 : Int32)) < 0 := by
  have a := c_iadd p 1
  have r := rng32 p
  have s := rng32 n
  have t := rng32 (p + 1)
  simp only [Int32.lt_iff_toInt_lt, Int32.reduceToInt] at *
  omega
def nxt (B : Int32 → Int32) (nn : Int32) (w_p : Int32) : Int32 := (if w_p < nn then (if ((B w_p) &&& (128 : Int32)) = (0 : Int32) then (if (2147483647 : Int64) < ((0 : Int64) ||| (((B w_p) &&& (127 : Int32)).toInt64 <<< ((0 : Int32) &&& 0x3f).toInt64)) then (-1 : Int32) else ((0 : Int64) ||| (((B w_p) &&& (127 : Int32)).toInt64 <<< ((0 : Int32) &&& 0x3f).toInt64)).toInt32) else (if (w_p + (1 : Int32)) < nn then (if ((B (w_p + (1 : Int32))) &&& (128 : Int32)) = (0 : Int32) then (if (2147483647 : Int64) < (((0 : Int64) ||| (((B w_p) &&& (127 : Int32)).toInt64 <<< ((0 : Int32) &&& 0x3f).toInt64)) ||| (((B (w_p + (1 : Int32))) &&& (127 : Int32)).toInt64 <<< ((7 : Int32) &&& 0x3f).toInt64)) then (-1 : Int32) else (((0 : Int64) ||| (((B w_p) &&& (127 : Int32)).toInt64 <<< ((0 : Int32) &&& 0x3f).toInt64)) ||| (((B (w_p + (1 : Int32))) &&& (127 : Int32)).toInt64 <<< ((7 : Int32) &&& 0x3f).toInt64)).toInt32) else (if ((w_p + (1 : Int32)) + (1 : Int32)) < nn then (if ((B ((w_p + (1 : Int32)) + (1 : Int32))) &&& (128 : Int32)) = (0 : Int32) then (if (2147483647 : Int64) < ((((0 : Int64) ||| (((B w_p) &&& (127 : Int32)).toInt64 <<< ((0 : Int32) &&& 0x3f).toInt64)) ||| (((B (w_p + (1 : Int32))) &&& (127 : Int32)).toInt64 <<< ((7 : Int32) &&& 0x3f).toInt64)) ||| (((B ((w_p + (1 : Int32)) + (1 : Int32))) &&& (127 : Int32)).toInt64 <<< ((14 : Int32) &&& 0x3f).toInt64)) then (-1 : Int32) else ((((0 : Int64) ||| (((B w_p) &&& (127 : Int32)).toInt64 <<< ((0 : Int32) &&& 0x3f).toInt64)) ||| (((B (w_p + (1 : Int32))) &&& (127 : Int32)).toInt64 <<< ((7 : Int32) &&& 0x3f).toInt64)) ||| (((B ((w_p + (1 : Int32)) + (1 : Int32))) &&& (127 : Int32)).toInt64 <<< ((14 : Int32) &&& 0x3f).toInt64)).toInt32) else (if (((w_p + (1 : Int32)) + (1 : Int32)) + (1 : Int32)) < nn then (if ((B (((w_p + (1 : Int32)) + (1 : Int32)) + (1 : Int32))) &&& (128 : Int32)) = (0 : Int32) then (if (2147483647 : Int64) < (((((0 : Int64) ||| (((B w_p) &&& (127 : Int32)).toInt64 <<< ((0 : Int32) &&& 0x3f).toInt64)) ||| (((B (w_p + (1 : Int32))) &&& (127 : Int32)).toInt64 <<< ((7 : Int32) &&& 0x3f).toInt64)) ||| (((B ((w_p + (1 : Int32)) + (1 : Int32))) &&& (127 : Int32)).toInt64 <<< ((14 : Int32) &&& 0x3f).toInt64)) ||| (((B (((w_p + (1 : Int32)) + (1 : Int32)) + (1 : Int32))) &&& (127 : Int32)).toInt64 <<< ((21 : Int32) &&& 0x3f).toInt64)) then (-1 : Int32) else (((((0 : Int64) ||| (((B w_p) &&& (127 : Int32)).toInt64 <<< ((0 : Int32) &&& 0x3f).toInt64)) ||| (((B (w_p + (1 : Int32))) &&& (127 : Int32)).toInt64 <<< ((7 : Int32) &&& 0x3f).toInt64)) ||| (((B ((w_p + (1 : Int32)) + (1 : Int32))) &&& (127 : Int32)).toInt64 <<< ((14 : Int32) &&& 0x3f).toInt64)) ||| (((B (((w_p + (1 : Int32)) + (1 : Int32)) + (1 : Int32))) &&& (127 : Int32)).toInt64 <<< ((21 : Int32) &&& 0x3f).toInt64)).toInt32) else (if ((((w_p + (1 : Int32)) + (1 : Int32)) + (1 : Int32)) + (1 : Int32)) < nn then (if ((B ((((w_p + (1 : Int32)) + (1 : Int32)) + (1 : Int32)) + (1 : Int32))) &&& (128 : Int32)) = (0 : Int32) then (if (2147483647 : Int64) < ((((((0 : Int64) ||| (((B w_p) &&& (127 : Int32)).toInt64 <<< ((0 : Int32) &&& 0x3f).toInt64)) ||| (((B (w_p + (1 : Int32))) &&& (127 : Int32)).toInt64 <<< ((7 : Int32) &&& 0x3f).toInt64)) ||| (((B ((w_p + (1 : Int32)) + (1 : Int32))) &&& (127 : Int32)).toInt64 <<< ((14 : Int32) &&& 0x3f).toInt64)) ||| (((B (((w_p + (1 : Int32)) + (1 : Int32)) + (1 : Int32))) &&& (127 : Int32)).toInt64 <<< ((21 : Int32) &&& 0x3f).toInt64)) ||| (((B ((((w_p + (1 : Int32)) + (1 : Int32)) + (1 : Int32)) + (1 : Int32))) &&& (127 : Int32)).toInt64 <<< ((28 : Int32) &&& 0x3f).toInt64)) then (-1 : Int32) else ((((((0 : Int64) ||| (((B w_p) &&& (127 : Int32)).toInt64 <<< ((0 : Int32) &&& 0x3f).toInt64)) ||| (((B (w_p + (1 : Int32))) &&& (127 : Int32)).toInt64 <<< ((7 : Int32) &&& 0x3f).toInt64)) ||| (((B ((w_p + (1 : Int32)) + (1 : Int32))) &&& (127 : Int32)).toInt64 <<< ((14 : Int32) &&& 0x3f).toInt64)) ||| (((B (((w_p + (1 : Int32)) + (1 : Int32)) + (1 : Int32))) &&& (127 : Int32)).toInt64 <<< ((21 : Int32) &&& 0x3f).toInt64)) ||| (((B ((((w_p + (1 : Int32)) + (1 : Int32)) + (1 : Int32)) + (1 : Int32))) &&& (127 : Int32)).toInt64 <<< ((28 : Int32) &&& 0x3f).toInt64)).toInt32) else (-1 : Int32)) else (-1 : Int32))) else (-1 : Int32))) else (-1 : Int32))) else (-1 : Int32))) else (-1 : Int32))
def nxt_position (B : Int32 → Int32) (nn : Int32) (w_p : Int32) : Int32 := (if w_p < nn then (if ((B w_p) &&& (128 : Int32)) = (0 : Int32) then (w_p + (1 : Int32)) else (if (w_p + (1 : Int32)) < nn then (if ((B (w_p + (1 : Int32))) &&& (128 : Int32)) = (0 : Int32) then ((w_p + (1 : Int32)) + (1 : Int32)) else (if ((w_p + (1 : Int32)) + (1 : Int32)) < nn then (if ((B ((w_p + (1 : Int32)) + (1 : Int32))) &&& (128 : Int32)) = (0 : Int32) then (((w_p + (1 : Int32)) + (1 : Int32)) + (1 : Int32)) else (if (((w_p + (1 : Int32)) + (1 : Int32)) + (1 : Int32)) < nn then (if ((B (((w_p + (1 : Int32)) + (1 : Int32)) + (1 : Int32))) &&& (128 : Int32)) = (0 : Int32) then ((((w_p + (1 : Int32)) + (1 : Int32)) + (1 : Int32)) + (1 : Int32)) else (if ((((w_p + (1 : Int32)) + (1 : Int32)) + (1 : Int32)) + (1 : Int32)) < nn then (((((w_p + (1 : Int32)) + (1 : Int32)) + (1 : Int32)) + (1 : Int32)) + (1 : Int32)) else ((((w_p + (1 : Int32)) + (1 : Int32)) + (1 : Int32)) + (1 : Int32)))) else (((w_p + (1 : Int32)) + (1 : Int32)) + (1 : Int32)))) else ((w_p + (1 : Int32)) + (1 : Int32)))) else (w_p + (1 : Int32)))) else w_p)
theorem d4_0 : decode prog_38_method_2_code 0 = .ok (.lconst 0, 1) := by decide +kernel
theorem d4_1 : decode prog_38_method_2_code 1 = .ok (.lstore_n 1, 1) := by decide +kernel
theorem d4_2 : decode prog_38_method_2_code 2 = .ok (.iconst 0, 1) := by decide +kernel
theorem d4_3 : decode prog_38_method_2_code 3 = .ok (.istore_n 3, 1) := by decide +kernel
theorem d4_4 : decode prog_38_method_2_code 4 = .ok (.iload_n 3, 1) := by decide +kernel
theorem d4_5 : decode prog_38_method_2_code 5 = .ok (.iconst 5, 1) := by decide +kernel
theorem d4_6 : decode prog_38_method_2_code 6 = .ok (.if_icmp .ge 80, 3) := by decide +kernel
theorem d4_9 : decode prog_38_method_2_code 9 = .ok (.aload_n 0, 1) := by decide +kernel
theorem d4_10 : decode prog_38_method_2_code 10 = .ok (.getfield 15, 3) := by decide +kernel
theorem d4_13 : decode prog_38_method_2_code 13 = .ok (.aload_n 0, 1) := by decide +kernel
theorem d4_14 : decode prog_38_method_2_code 14 = .ok (.getfield 7, 3) := by decide +kernel
theorem d4_17 : decode prog_38_method_2_code 17 = .ok (.arraylength, 1) := by decide +kernel
theorem d4_18 : decode prog_38_method_2_code 18 = .ok (.if_icmp .ge 68, 3) := by decide +kernel
theorem d4_21 : decode prog_38_method_2_code 21 = .ok (.aload_n 0, 1) := by decide +kernel
theorem d4_22 : decode prog_38_method_2_code 22 = .ok (.getfield 7, 3) := by decide +kernel
theorem d4_25 : decode prog_38_method_2_code 25 = .ok (.aload_n 0, 1) := by decide +kernel
theorem d4_26 : decode prog_38_method_2_code 26 = .ok (.getfield 15, 3) := by decide +kernel
theorem d4_29 : decode prog_38_method_2_code 29 = .ok (.baload, 1) := by decide +kernel
theorem d4_30 : decode prog_38_method_2_code 30 = .ok (.istore 4, 2) := by decide +kernel
theorem d4_32 : decode prog_38_method_2_code 32 = .ok (.aload_n 0, 1) := by decide +kernel
theorem d4_33 : decode prog_38_method_2_code 33 = .ok (.dup, 1) := by decide +kernel
theorem d4_34 : decode prog_38_method_2_code 34 = .ok (.getfield 15, 3) := by decide +kernel
theorem d4_37 : decode prog_38_method_2_code 37 = .ok (.iconst 1, 1) := by decide +kernel
theorem d4_38 : decode prog_38_method_2_code 38 = .ok (.iadd, 1) := by decide +kernel
theorem d4_39 : decode prog_38_method_2_code 39 = .ok (.putfield 15, 3) := by decide +kernel
theorem d4_42 : decode prog_38_method_2_code 42 = .ok (.lload_n 1, 1) := by decide +kernel
theorem d4_43 : decode prog_38_method_2_code 43 = .ok (.iload 4, 2) := by decide +kernel
theorem d4_45 : decode prog_38_method_2_code 45 = .ok (.bipush 127, 2) := by decide +kernel
theorem d4_47 : decode prog_38_method_2_code 47 = .ok (.iand, 1) := by decide +kernel
theorem d4_48 : decode prog_38_method_2_code 48 = .ok (.i2l, 1) := by decide +kernel
theorem d4_49 : decode prog_38_method_2_code 49 = .ok (.bipush 7, 2) := by decide +kernel
theorem d4_51 : decode prog_38_method_2_code 51 = .ok (.iload_n 3, 1) := by decide +kernel
theorem d4_52 : decode prog_38_method_2_code 52 = .ok (.imul, 1) := by decide +kernel
theorem d4_53 : decode prog_38_method_2_code 53 = .ok (.lshl, 1) := by decide +kernel
theorem d4_54 : decode prog_38_method_2_code 54 = .ok (.lor, 1) := by decide +kernel
theorem d4_55 : decode prog_38_method_2_code 55 = .ok (.lstore_n 1, 1) := by decide +kernel
theorem d4_56 : decode prog_38_method_2_code 56 = .ok (.iload 4, 2) := by decide +kernel
theorem d4_58 : decode prog_38_method_2_code 58 = .ok (.sipush 128, 3) := by decide +kernel
theorem d4_61 : decode prog_38_method_2_code 61 = .ok (.iand, 1) := by decide +kernel
theorem d4_62 : decode prog_38_method_2_code 62 = .ok (.ifCond .ne 18, 3) := by decide +kernel
theorem d4_65 : decode prog_38_method_2_code 65 = .ok (.lload_n 1, 1) := by decide +kernel
theorem d4_66 : decode prog_38_method_2_code 66 = .ok (.ldc2_w 21, 3) := by decide +kernel
theorem d4_69 : decode prog_38_method_2_code 69 = .ok (.lcmp, 1) := by decide +kernel
theorem d4_70 : decode prog_38_method_2_code 70 = .ok (.ifCond .le 7, 3) := by decide +kernel
theorem d4_73 : decode prog_38_method_2_code 73 = .ok (.iconst (-1), 1) := by decide +kernel
theorem d4_74 : decode prog_38_method_2_code 74 = .ok (.goto 5, 3) := by decide +kernel
theorem d4_77 : decode prog_38_method_2_code 77 = .ok (.lload_n 1, 1) := by decide +kernel
theorem d4_78 : decode prog_38_method_2_code 78 = .ok (.l2i, 1) := by decide +kernel
theorem d4_79 : decode prog_38_method_2_code 79 = .ok (.ireturn, 1) := by decide +kernel
theorem d4_80 : decode prog_38_method_2_code 80 = .ok (.iinc 3 1, 3) := by decide +kernel
theorem d4_83 : decode prog_38_method_2_code 83 = .ok (.goto (-79), 3) := by decide +kernel
theorem d4_86 : decode prog_38_method_2_code 86 = .ok (.iconst (-1), 1) := by decide +kernel
theorem d4_87 : decode prog_38_method_2_code 87 = .ok (.ireturn, 1) := by decide +kernel
theorem pn_4 : plainName "com/example/fulltext_workbench/fulltextworkbench/index/VarintReader" = true := by first | (simp [plainName, overriddenIn]; done) | decide +kernel
theorem ef_4 (m : MethodId) (x0 : Addr) : entryFrame m #[(.ref x0)] 5 = mkF m 0 #[.val (.ref x0), .unset, .unset, .unset, .unset] [] := by first | (simp [entryFrame, mkF, argsToLocals, Value.category]; done) | rfl
def Q4 (Z : State) (a1 : Addr) (b2 : Addr) (w_p : Int32) (nn : Int32) (vs : List Value) (kk : ClassId) (B : Int32 → Int32) (h0 : Heap) (n0 : Nat) (v : Option Value) (h : Heap) (L : List Loc) : Prop := v = some (.int (nxt B nn w_p)) ∧ Fr n0 L ∧ Keep h0 h [a1] ∧ Fld Z h a1 "com/example/fulltext_workbench/fulltextworkbench/index/VarintReader" "position" "I" (.int (nxt_position B nn w_p)) ∧ Fld Z h a1 "com/example/fulltext_workbench/fulltextworkbench/index/VarintReader" "bytes" "[B" (.ref b2)
set_option maxRecDepth 65536 in
set_option maxHeartbeats 40000000 in
theorem rm4 (l : Launch) (Z : State) (a0 : Array Value) (hw : ∀ d ∈ tables_1, d.before a0 Z = true) (ws : List Jvm.Cond) (a1 : Addr) (b2 : Addr) (w_p : Int32) (nn : Int32) (vs : List Value) (kk : ClassId) (B : Int32 → Int32) (h0 : Heap) (n0 : Nat) (Z0 : n0 ≤ h0.size) (E_a1 : Exa Z h0 a1 "com/example/fulltext_workbench/fulltextworkbench/index/VarintReader") (g_a1 : n0 ≤ a1) (F_bytes_a1 : Fld Z h0 a1 "com/example/fulltext_workbench/fulltextworkbench/index/VarintReader" "bytes" "[B" (.ref b2)) (F_position_a1 : Fld Z h0 a1 "com/example/fulltext_workbench/fulltextworkbench/index/VarintReader" "position" "I" (.int w_p)) (V_b2 : Arv Z h0 b2 kk .byte nn vs (.int (0 : Int32))) (ne_b2_a1 : b2 ≠ a1) (hB : ∀ j : Int32, ¬ j < 0 → j < nn → vs.getD j.toNatClampNeg (.int (0 : Int32)) = .int (B j)) (hp : ¬ w_p < 0) :
    MetFree l (⟨"com/example/fulltext_workbench/fulltextworkbench/index/VarintReader", "next", "()I"⟩ : MethodName) (head1 (Jvm.Cond.code (⟨"com/example/fulltext_workbench/fulltextworkbench/index/VarintReader", "next", "()I"⟩ : MethodName) prog_38_method_2_code 5 (some .int) :: ws) ({ frames := 0, cells := 0, slots := 0, locals := 0 } : Room)) (fun a U => a = #[(.ref a1)] ∧ Z.Warmed39 U.vm ∧ U.heap = h0) (fun _ _ _ _ _ => True) (fun _ U o U' => ∃ v L, o = .returned v ∧ Q4 Z a1 b2 w_p nn vs kk B h0 n0 v U'.heap L ∧ FrameEnd U o U' L ({ frames := 0, cells := 0, slots := 0, locals := 0 } : Room).cells ({ frames := 0, cells := 0, slots := 0, locals := 0 } : Room).slots) := by
  refine MetFree.of_bodySF (plainFor_of_name pn_4) hisR ?_
  intro p e s m args below meth c s₁ Bd hml0 hP hK
  obtain ⟨rfl, hZ, hh⟩ := hP
  have hx := Bd.exec
  have hby := Bd.bytes
  have hlk := Bd.notSynchronized
  have hml : c.maxLocals = 5 := hml0
  have hown : s.vm.findClass "com/example/fulltext_workbench/fulltextworkbench/index/VarintReader" = some m.cls := findClass_of_methodNamed Bd.named
  have hnm := (name_of_methodNamed Bd.named Bd.method).1
  have X0 : Stand p l e ({ frames := 0, cells := 0, slots := 0, locals := 0 } : Room) s m #[(.ref a1)] below meth c s₁ [] 0 0 := Stand.of_body Bd
  have e0 : s₁.heap = h0 := by rw [← hh, Bd.state]; rfl
  have N0 := Fr.nil n0
  have K0 : Keep h0 h0 [a1] := Keep.refl h0 _
  show OutW p e below s ({ frames := 0, cells := 0, slots := 0, locals := 0 } : Room).cells ({ frames := 0, cells := 0, slots := 0, locals := 0 } : Room).slots (Q4 Z a1 b2 w_p nn vs kk B h0 n0) _
  refine OutW.back (fun t k => castTop (ef_4 m a1) k) ?_
  show OutW _ _ _ _ _ _ _ (s₁.setTop (mkF m 0 #[.val (.ref a1), .unset, .unset, .unset, .unset] []))
  refine OutW.back (fun t k => XS.lconst X0.here hx rfl (hb hby d4_0) k) ?_
  show OutW _ _ _ _ _ _ _ (s₁.setTop (mkF m 1 #[.val (.ref a1), .unset, .unset, .unset, .unset] [(.long (0 : Int64))]))
  refine OutW.back (fun t k => XS.lstoreN X0.here hx rfl (hb hby d4_1) rfl (l' := #[.val (.ref a1), .val (.long (0 : Int64)), .second, .unset, .unset]) rfl k) ?_
  show OutW _ _ _ _ _ _ _ (s₁.setTop (mkF m 2 #[.val (.ref a1), .val (.long (0 : Int64)), .second, .unset, .unset] []))
  refine OutW.back (fun t k => XS.iconst X0.here hx rfl (hb hby d4_2) k) ?_
  show OutW _ _ _ _ _ _ _ (s₁.setTop (mkF m 3 #[.val (.ref a1), .val (.long (0 : Int64)), .second, .unset, .unset] [(.int (0 : Int32))]))
  refine OutW.back (fun t k => XS.istoreN X0.here hx rfl (hb hby d4_3) rfl (l' := #[.val (.ref a1), .val (.long (0 : Int64)), .second, .val (.int (0 : Int32)), .unset]) rfl k) ?_
  show OutW _ _ _ _ _ _ _ (s₁.setTop (mkF m 4 #[.val (.ref a1), .val (.long (0 : Int64)), .second, .val (.int (0 : Int32)), .unset] []))
  refine OutW.back (fun t k => XS.iloadN X0.here hx rfl (hb hby d4_4) rfl  k) ?_
  show OutW _ _ _ _ _ _ _ (s₁.setTop (mkF m 5 #[.val (.ref a1), .val (.long (0 : Int64)), .second, .val (.int (0 : Int32)), .unset] [(.int (0 : Int32))]))
  refine OutW.back (fun t k => XS.iconst X0.here hx rfl (hb hby d4_5) k) ?_
  show OutW _ _ _ _ _ _ _ (s₁.setTop (mkF m 6 #[.val (.ref a1), .val (.long (0 : Int64)), .second, .val (.int (0 : Int32)), .unset] [(.int (5 : Int32)), (.int (0 : Int32))]))
  refine OutW.back (fun t k => XS.icmpNo X0.here hx rfl (hb hby d4_6) rfl (tlt (by decide : (0 : Int32) < (5 : Int32))).2.1 k) ?_
  show OutW _ _ _ _ _ _ _ (s₁.setTop (mkF m 9 #[.val (.ref a1), .val (.long (0 : Int64)), .second, .val (.int (0 : Int32)), .unset] []))
  refine OutW.back (fun t k => XS.aloadN X0.here hx rfl (hb hby d4_9) rfl rfl  k) ?_
  show OutW _ _ _ _ _ _ _ (s₁.setTop (mkF m 10 #[.val (.ref a1), .val (.long (0 : Int64)), .second, .val (.int (0 : Int32)), .unset] [(.ref a1)]))
  obtain ⟨T1, X1, e1, st1⟩ := getF X0 hx hZ hown (host := "") (Or.inl (hw _ (List.mem_of_getElem? (i := 17) rfl))) Via.refl e0 F_position_a1 (g := (mkF m 10 #[.val (.ref a1), .val (.long (0 : Int64)), .second, .val (.int (0 : Int32)), .unset] [(.ref a1)])) rfl rfl (hb hby d4_10)
  refine OutW.back st1 ?_
  show OutW _ _ _ _ _ _ _ (T1.setTop (mkF m 13 #[.val (.ref a1), .val (.long (0 : Int64)), .second, .val (.int (0 : Int32)), .unset] [(.int w_p)]))
  refine OutW.back (fun t k => XS.aloadN X1.here hx rfl (hb hby d4_13) rfl rfl  k) ?_
  show OutW _ _ _ _ _ _ _ (T1.setTop (mkF m 14 #[.val (.ref a1), .val (.long (0 : Int64)), .second, .val (.int (0 : Int32)), .unset] [(.ref a1), (.int w_p)]))
  obtain ⟨T2, X2, e2, st2⟩ := getF X1 hx hZ hown (host := "") (Or.inl (hw _ (List.mem_of_getElem? (i := 10) rfl))) Via.refl e1 F_bytes_a1 (g := (mkF m 14 #[.val (.ref a1), .val (.long (0 : Int64)), .second, .val (.int (0 : Int32)), .unset] [(.ref a1), (.int w_p)])) rfl rfl (hb hby d4_14)
  refine OutW.back st2 ?_
  show OutW _ _ _ _ _ _ _ (T2.setTop (mkF m 17 #[.val (.ref a1), .val (.long (0 : Int64)), .second, .val (.int (0 : Int32)), .unset] [(.ref b2), (.int w_p)]))
  obtain ⟨cl3, Ar3, Qk3, Sz3, Nn3, Hh3, Gg3⟩ := id V_b2
  refine OutW.back (X2.arraylength hx (by rw [e2]; exact Ar3.1) (State.isArrayOf_alike hZ.alike Ar3.2.1) (g := (mkF m 17 #[.val (.ref a1), .val (.long (0 : Int64)), .second, .val (.int (0 : Int32)), .unset] [(.ref b2), (.int w_p)])) rfl rfl (hb hby d4_17)) ?_
  rw [len_of Sz3 Nn3]
  show OutW _ _ _ _ _ _ _ (T2.setTop (mkF m 18 #[.val (.ref a1), .val (.long (0 : Int64)), .second, .val (.int (0 : Int32)), .unset] [(.int nn), (.int w_p)]))
  by_cases c18_4 : w_p < nn
  · skip
    refine OutW.back (fun t k => XS.icmpNo X2.here hx rfl (hb hby d4_18) rfl (tlt c18_4).2.1 k) ?_
    show OutW _ _ _ _ _ _ _ (T2.setTop (mkF m 21 #[.val (.ref a1), .val (.long (0 : Int64)), .second, .val (.int (0 : Int32)), .unset] []))
    refine OutW.back (fun t k => XS.aloadN X2.here hx rfl (hb hby d4_21) rfl rfl  k) ?_
    show OutW _ _ _ _ _ _ _ (T2.setTop (mkF m 22 #[.val (.ref a1), .val (.long (0 : Int64)), .second, .val (.int (0 : Int32)), .unset] [(.ref a1)]))
    obtain ⟨T5, X5, e5, st5⟩ := getF X2 hx hZ hown (host := "") (Or.inl (hw _ (List.mem_of_getElem? (i := 10) rfl))) Via.refl e2 F_bytes_a1 (g := (mkF m 22 #[.val (.ref a1), .val (.long (0 : Int64)), .second, .val (.int (0 : Int32)), .unset] [(.ref a1)])) rfl rfl (hb hby d4_22)
    refine OutW.back st5 ?_
    show OutW _ _ _ _ _ _ _ (T5.setTop (mkF m 25 #[.val (.ref a1), .val (.long (0 : Int64)), .second, .val (.int (0 : Int32)), .unset] [(.ref b2)]))
    refine OutW.back (fun t k => XS.aloadN X5.here hx rfl (hb hby d4_25) rfl rfl  k) ?_
    show OutW _ _ _ _ _ _ _ (T5.setTop (mkF m 26 #[.val (.ref a1), .val (.long (0 : Int64)), .second, .val (.int (0 : Int32)), .unset] [(.ref a1), (.ref b2)]))
    obtain ⟨T6, X6, e6, st6⟩ := getF X5 hx hZ hown (host := "") (Or.inl (hw _ (List.mem_of_getElem? (i := 17) rfl))) Via.refl e5 F_position_a1 (g := (mkF m 26 #[.val (.ref a1), .val (.long (0 : Int64)), .second, .val (.int (0 : Int32)), .unset] [(.ref a1), (.ref b2)])) rfl rfl (hb hby d4_26)
    refine OutW.back st6 ?_
    show OutW _ _ _ _ _ _ _ (T6.setTop (mkF m 29 #[.val (.ref a1), .val (.long (0 : Int64)), .second, .val (.int (0 : Int32)), .unset] [(.int w_p), (.ref b2)]))
    have hin_29 : ¬ w_p < 0 ∧ w_p < nn := ⟨hp, c18_4⟩
    have hat_29 := hB w_p hin_29.1 hin_29.2
    obtain ⟨cl7, Ar7, Qk7, Sz7, Nn7, Hh7, Gg7⟩ := id V_b2
    have hin7 : ¬ (w_p < 0 ∨ cl7.slots.size ≤ (w_p).toNatClampNeg) := inb_of Sz7 hin_29
    refine OutW.back (X6.baloadBytes hx (j := w_p) (v := (.int (B w_p))) (by rw [e6]; exact Ar7.1) (State.isArrayOf_alike hZ.alike Ar7.2.1) Ar7.2.2 hin7 (Hh7.at hin7 hat_29) (g := (mkF m 29 #[.val (.ref a1), .val (.long (0 : Int64)), .second, .val (.int (0 : Int32)), .unset] [(.int w_p), (.ref b2)])) rfl rfl (hb hby d4_29)) ?_
    show OutW _ _ _ _ _ _ _ (T6.setTop (mkF m 30 #[.val (.ref a1), .val (.long (0 : Int64)), .second, .val (.int (0 : Int32)), .unset] [(.int (B w_p))]))
    generalize hv_v8 : (B w_p) = v8
    refine OutW.back (fun t k => XS.istore X6.here hx rfl (hb hby d4_30) rfl (l' := #[.val (.ref a1), .val (.long (0 : Int64)), .second, .val (.int (0 : Int32)), .val (.int v8)]) rfl k) ?_
    show OutW _ _ _ _ _ _ _ (T6.setTop (mkF m 32 #[.val (.ref a1), .val (.long (0 : Int64)), .second, .val (.int (0 : Int32)), .val (.int v8)] []))
    refine OutW.back (fun t k => XS.aloadN X6.here hx rfl (hb hby d4_32) rfl rfl  k) ?_
    show OutW _ _ _ _ _ _ _ (T6.setTop (mkF m 33 #[.val (.ref a1), .val (.long (0 : Int64)), .second, .val (.int (0 : Int32)), .val (.int v8)] [(.ref a1)]))
    refine OutW.back (fun t k => XS.dup X6.here hx rfl (hb hby d4_33) rfl rfl k) ?_
    show OutW _ _ _ _ _ _ _ (T6.setTop (mkF m 34 #[.val (.ref a1), .val (.long (0 : Int64)), .second, .val (.int (0 : Int32)), .val (.int v8)] [(.ref a1), (.ref a1)]))
    obtain ⟨T9, X9, e9, st9⟩ := getF X6 hx hZ hown (host := "") (Or.inl (hw _ (List.mem_of_getElem? (i := 17) rfl))) Via.refl e6 F_position_a1 (g := (mkF m 34 #[.val (.ref a1), .val (.long (0 : Int64)), .second, .val (.int (0 : Int32)), .val (.int v8)] [(.ref a1), (.ref a1)])) rfl rfl (hb hby d4_34)
    refine OutW.back st9 ?_
    show OutW _ _ _ _ _ _ _ (T9.setTop (mkF m 37 #[.val (.ref a1), .val (.long (0 : Int64)), .second, .val (.int (0 : Int32)), .val (.int v8)] [(.int w_p), (.ref a1)]))
    refine OutW.back (fun t k => XS.iconst X9.here hx rfl (hb hby d4_37) k) ?_
    show OutW _ _ _ _ _ _ _ (T9.setTop (mkF m 38 #[.val (.ref a1), .val (.long (0 : Int64)), .second, .val (.int (0 : Int32)), .val (.int v8)] [(.int (1 : Int32)), (.int w_p), (.ref a1)]))
    refine OutW.back (fun t k => XS.iadd X9.here hx rfl (hb hby d4_38) rfl k) ?_
    show OutW _ _ _ _ _ _ _ (T9.setTop (mkF m 39 #[.val (.ref a1), .val (.long (0 : Int64)), .second, .val (.int (0 : Int32)), .val (.int v8)] [(.int (w_p + (1 : Int32))), (.ref a1)]))
    obtain ⟨T10, h10, X10, e10, W10, st10⟩ := putF X9 hx hZ hown (host := "") (Or.inl (hw _ (List.mem_of_getElem? (i := 17) rfl))) Via.refl e9 F_position_a1 E_a1 (Or.inl (hw _ (List.mem_of_getElem? (i := 18) rfl))) (hw _ (List.mem_of_getElem? (i := 2) rfl)) (ty := .int) (by decide) rfl rfl (g := (mkF m 39 #[.val (.ref a1), .val (.long (0 : Int64)), .second, .val (.int (0 : Int32)), .val (.int v8)] [(.int (w_p + (1 : Int32))), (.ref a1)])) rfl rfl (hb hby d4_39)
    have E_a1 := E_a1.wr W10
    have F_bytes_a1 := F_bytes_a1.other W10 (Or.inr (slot_ne (Or.inr (hw _ (List.mem_of_getElem? (i := 11) rfl))) (Or.inl (hw _ (List.mem_of_getElem? (i := 18) rfl))) (by decide) (t := (.array .byte)) (t' := .int) (by decide) (by decide)))
    have F_position_a1 := F_position_a1.same W10
    have V_b2 := V_b2.other W10 ne_b2_a1
    have N10 := Fr.snoc X10 N0 g_a1
    have Z10 : n0 ≤ h10.size := Nat.le_trans Z0 (Keep.of_wr W10).1
    have K10 := K0.wr W10 (Or.inl (List.mem_of_getElem? (i := 0) rfl))
    refine OutW.back st10 ?_
    show OutW _ _ _ _ _ _ _ (T10.setTop (mkF m 42 #[.val (.ref a1), .val (.long (0 : Int64)), .second, .val (.int (0 : Int32)), .val (.int v8)] []))
    refine OutW.back (fun t k => XS.lloadN X10.here hx rfl (hb hby d4_42) rfl  k) ?_
    show OutW _ _ _ _ _ _ _ (T10.setTop (mkF m 43 #[.val (.ref a1), .val (.long (0 : Int64)), .second, .val (.int (0 : Int32)), .val (.int v8)] [(.long (0 : Int64))]))
    refine OutW.back (fun t k => XS.iload X10.here hx rfl (hb hby d4_43) rfl  k) ?_
    show OutW _ _ _ _ _ _ _ (T10.setTop (mkF m 45 #[.val (.ref a1), .val (.long (0 : Int64)), .second, .val (.int (0 : Int32)), .val (.int v8)] [(.int v8), (.long (0 : Int64))]))
    refine OutW.back (fun t k => XS.bipush X10.here hx rfl (hb hby d4_45) k) ?_
    show OutW _ _ _ _ _ _ _ (T10.setTop (mkF m 47 #[.val (.ref a1), .val (.long (0 : Int64)), .second, .val (.int (0 : Int32)), .val (.int v8)] [(.int (127 : Int32)), (.int v8), (.long (0 : Int64))]))
    refine OutW.back (fun t k => XS.iand X10.here hx rfl (hb hby d4_47) rfl k) ?_
    show OutW _ _ _ _ _ _ _ (T10.setTop (mkF m 48 #[.val (.ref a1), .val (.long (0 : Int64)), .second, .val (.int (0 : Int32)), .val (.int v8)] [(.int (v8 &&& (127 : Int32))), (.long (0 : Int64))]))
    refine OutW.back (fun t k => XS.i2l X10.here hx rfl (hb hby d4_48) rfl k) ?_
    show OutW _ _ _ _ _ _ _ (T10.setTop (mkF m 49 #[.val (.ref a1), .val (.long (0 : Int64)), .second, .val (.int (0 : Int32)), .val (.int v8)] [(.long (v8 &&& (127 : Int32)).toInt64), (.long (0 : Int64))]))
    refine OutW.back (fun t k => XS.bipush X10.here hx rfl (hb hby d4_49) k) ?_
    show OutW _ _ _ _ _ _ _ (T10.setTop (mkF m 51 #[.val (.ref a1), .val (.long (0 : Int64)), .second, .val (.int (0 : Int32)), .val (.int v8)] [(.int (7 : Int32)), (.long (v8 &&& (127 : Int32)).toInt64), (.long (0 : Int64))]))
    refine OutW.back (fun t k => XS.iloadN X10.here hx rfl (hb hby d4_51) rfl  k) ?_
    show OutW _ _ _ _ _ _ _ (T10.setTop (mkF m 52 #[.val (.ref a1), .val (.long (0 : Int64)), .second, .val (.int (0 : Int32)), .val (.int v8)] [(.int (0 : Int32)), (.int (7 : Int32)), (.long (v8 &&& (127 : Int32)).toInt64), (.long (0 : Int64))]))
    refine OutW.back (fun t k => XS.imul X10.here hx rfl (hb hby d4_52) rfl k) ?_
    show OutW _ _ _ _ _ _ _ (T10.setTop (mkF m 53 #[.val (.ref a1), .val (.long (0 : Int64)), .second, .val (.int (0 : Int32)), .val (.int v8)] [(.int ((7 : Int32) * (0 : Int32))), (.long (v8 &&& (127 : Int32)).toInt64), (.long (0 : Int64))]))
    rw [show ((7 : Int32) * (0 : Int32)) = (0 : Int32) from by decide]
    refine OutW.back (fun t k => XS.lshl X10.here hx rfl (hb hby d4_53) rfl k) ?_
    show OutW _ _ _ _ _ _ _ (T10.setTop (mkF m 54 #[.val (.ref a1), .val (.long (0 : Int64)), .second, .val (.int (0 : Int32)), .val (.int v8)] [(.long ((v8 &&& (127 : Int32)).toInt64 <<< ((0 : Int32) &&& 0x3f).toInt64)), (.long (0 : Int64))]))
    refine OutW.back (fun t k => XS.lor X10.here hx rfl (hb hby d4_54) rfl k) ?_
    show OutW _ _ _ _ _ _ _ (T10.setTop (mkF m 55 #[.val (.ref a1), .val (.long (0 : Int64)), .second, .val (.int (0 : Int32)), .val (.int v8)] [(.long ((0 : Int64) ||| ((v8 &&& (127 : Int32)).toInt64 <<< ((0 : Int32) &&& 0x3f).toInt64)))]))
    generalize hv_v11 : ((0 : Int64) ||| ((v8 &&& (127 : Int32)).toInt64 <<< ((0 : Int32) &&& 0x3f).toInt64)) = v11
    refine OutW.back (fun t k => XS.lstoreN X10.here hx rfl (hb hby d4_55) rfl (l' := #[.val (.ref a1), .val (.long v11), .second, .val (.int (0 : Int32)), .val (.int v8)]) rfl k) ?_
    show OutW _ _ _ _ _ _ _ (T10.setTop (mkF m 56 #[.val (.ref a1), .val (.long v11), .second, .val (.int (0 : Int32)), .val (.int v8)] []))
    refine OutW.back (fun t k => XS.iload X10.here hx rfl (hb hby d4_56) rfl  k) ?_
    show OutW _ _ _ _ _ _ _ (T10.setTop (mkF m 58 #[.val (.ref a1), .val (.long v11), .second, .val (.int (0 : Int32)), .val (.int v8)] [(.int v8)]))
    refine OutW.back (fun t k => XS.sipush X10.here hx rfl (hb hby d4_58) k) ?_
    show OutW _ _ _ _ _ _ _ (T10.setTop (mkF m 61 #[.val (.ref a1), .val (.long v11), .second, .val (.int (0 : Int32)), .val (.int v8)] [(.int (128 : Int32)), (.int v8)]))
    refine OutW.back (fun t k => XS.iand X10.here hx rfl (hb hby d4_61) rfl k) ?_
    show OutW _ _ _ _ _ _ _ (T10.setTop (mkF m 62 #[.val (.ref a1), .val (.long v11), .second, .val (.int (0 : Int32)), .val (.int v8)] [(.int (v8 &&& (128 : Int32)))]))
    by_cases c62_12 : (v8 &&& (128 : Int32)) = (0 : Int32)
    · skip
      refine OutW.back (fun t k => XS.ifNo X10.here hx rfl (hb hby d4_62) rfl ((if0 _ _).trans (teq c62_12).2) k) ?_
      show OutW _ _ _ _ _ _ _ (T10.setTop (mkF m 65 #[.val (.ref a1), .val (.long v11), .second, .val (.int (0 : Int32)), .val (.int v8)] []))
      refine OutW.back (fun t k => XS.lloadN X10.here hx rfl (hb hby d4_65) rfl  k) ?_
      show OutW _ _ _ _ _ _ _ (T10.setTop (mkF m 66 #[.val (.ref a1), .val (.long v11), .second, .val (.int (0 : Int32)), .val (.int v8)] [(.long v11)]))
      refine OutW.back (X10.ldc2Long hx hown (mvT hZ (hw _ (List.mem_of_getElem? (i := 34) rfl))) (g := (mkF m 66 #[.val (.ref a1), .val (.long v11), .second, .val (.int (0 : Int32)), .val (.int v8)] [(.long v11)])) rfl (hb hby d4_66)) ?_
      show OutW _ _ _ _ _ _ _ (T10.setTop (mkF m 69 #[.val (.ref a1), .val (.long v11), .second, .val (.int (0 : Int32)), .val (.int v8)] [(.long (2147483647 : Int64)), (.long v11)]))
      refine OutW.back (fun t k => XS.lcmp X10.here hx rfl (hb hby d4_69) rfl k) ?_
      show OutW _ _ _ _ _ _ _ (T10.setTop (mkF m 70 #[.val (.ref a1), .val (.long v11), .second, .val (.int (0 : Int32)), .val (.int v8)] [(.int (lcmpW v11 (2147483647 : Int64)))]))
      by_cases c70_13 : (2147483647 : Int64) < v11
      · skip
        refine OutW.back (fun t k => XS.ifNo X10.here hx rfl (hb hby d4_70) rfl ((if0 _ _).trans (tlt ((lw_gt _ _).mpr c70_13)).2.2.2) k) ?_
        show OutW _ _ _ _ _ _ _ (T10.setTop (mkF m 73 #[.val (.ref a1), .val (.long v11), .second, .val (.int (0 : Int32)), .val (.int v8)] []))
        refine OutW.back (fun t k => XS.iconst X10.here hx rfl (hb hby d4_73) k) ?_
        show OutW _ _ _ _ _ _ _ (T10.setTop (mkF m 74 #[.val (.ref a1), .val (.long v11), .second, .val (.int (0 : Int32)), .val (.int v8)] [(.int (-1 : Int32))]))
        refine OutW.back (fun t k => XS.goto X10.here hx rfl (pc0 := 74) (pc' := 79) rfl (hb hby d4_74) (by decide) (by decide) k) ?_
        show OutW _ _ _ _ _ _ _ (T10.setTop (mkF m 79 #[.val (.ref a1), .val (.long v11), .second, .val (.int (0 : Int32)), .val (.int v8)] [(.int (-1 : Int32))]))
        refine OutW.retI X10 hx Bd.returns hlk (hb hby d4_79) (by decide) (by decide) ?_
        show Q4 Z a1 b2 w_p nn vs kk B h0 n0 _ T10.heap _
        rw [e10]
        subst hv_v11 hv_v8
        exact ⟨by rw [nxt, if_pos c18_4, if_pos c62_12, if_pos c70_13], N10, K10, (by rw [nxt_position, if_pos c18_4, if_pos c62_12]; exact F_position_a1), F_bytes_a1⟩
      · skip
        refine OutW.back (fun t k => XS.ifYes X10.here hx rfl (pc0 := 70) (pc' := 77) rfl (hb hby d4_70) rfl ((if0 _ _).trans (flt (fun q => c70_13 ((lw_gt _ _).mp q))).2.2.2) (by decide) (by decide) k) ?_
        show OutW _ _ _ _ _ _ _ (T10.setTop (mkF m 77 #[.val (.ref a1), .val (.long v11), .second, .val (.int (0 : Int32)), .val (.int v8)] []))
        refine OutW.back (fun t k => XS.lloadN X10.here hx rfl (hb hby d4_77) rfl  k) ?_
        show OutW _ _ _ _ _ _ _ (T10.setTop (mkF m 78 #[.val (.ref a1), .val (.long v11), .second, .val (.int (0 : Int32)), .val (.int v8)] [(.long v11)]))
        refine OutW.back (fun t k => XS.l2i X10.here hx rfl (hb hby d4_78) rfl k) ?_
        show OutW _ _ _ _ _ _ _ (T10.setTop (mkF m 79 #[.val (.ref a1), .val (.long v11), .second, .val (.int (0 : Int32)), .val (.int v8)] [(.int v11.toInt32)]))
        refine OutW.retI X10 hx Bd.returns hlk (hb hby d4_79) (by decide) (by decide) ?_
        show Q4 Z a1 b2 w_p nn vs kk B h0 n0 _ T10.heap _
        rw [e10]
        subst hv_v11 hv_v8
        exact ⟨by rw [nxt, if_pos c18_4, if_pos c62_12, if_neg c70_13], N10, K10, (by rw [nxt_position, if_pos c18_4, if_pos c62_12]; exact F_position_a1), F_bytes_a1⟩
    · skip
      refine OutW.back (fun t k => XS.ifYes X10.here hx rfl (pc0 := 62) (pc' := 80) rfl (hb hby d4_62) rfl ((if0 _ _).trans (feq c62_12).2) (by decide) (by decide) k) ?_
      show OutW _ _ _ _ _ _ _ (T10.setTop (mkF m 80 #[.val (.ref a1), .val (.long v11), .second, .val (.int (0 : Int32)), .val (.int v8)] []))
      refine OutW.back (fun t k => XS.iinc X10.here hx rfl (hb hby d4_80) rfl (l' := #[.val (.ref a1), .val (.long v11), .second, .val (.int ((0 : Int32) + (1 : Int32))), .val (.int v8)]) rfl k) ?_
      show OutW _ _ _ _ _ _ _ (T10.setTop (mkF m 83 #[.val (.ref a1), .val (.long v11), .second, .val (.int ((0 : Int32) + (1 : Int32))), .val (.int v8)] []))
      rw [show ((0 : Int32) + (1 : Int32)) = (1 : Int32) from by decide]
      refine OutW.back (fun t k => XS.goto X10.here hx rfl (pc0 := 83) (pc' := 4) rfl (hb hby d4_83) (by decide) (by decide) k) ?_
      show OutW _ _ _ _ _ _ _ (T10.setTop (mkF m 4 #[.val (.ref a1), .val (.long v11), .second, .val (.int (1 : Int32)), .val (.int v8)] []))
      refine OutW.back (fun t k => XS.iloadN X10.here hx rfl (hb hby d4_4) rfl  k) ?_
      show OutW _ _ _ _ _ _ _ (T10.setTop (mkF m 5 #[.val (.ref a1), .val (.long v11), .second, .val (.int (1 : Int32)), .val (.int v8)] [(.int (1 : Int32))]))
      refine OutW.back (fun t k => XS.iconst X10.here hx rfl (hb hby d4_5) k) ?_
      show OutW _ _ _ _ _ _ _ (T10.setTop (mkF m 6 #[.val (.ref a1), .val (.long v11), .second, .val (.int (1 : Int32)), .val (.int v8)] [(.int (5 : Int32)), (.int (1 : Int32))]))
      refine OutW.back (fun t k => XS.icmpNo X10.here hx rfl (hb hby d4_6) rfl (tlt (by decide : (1 : Int32) < (5 : Int32))).2.1 k) ?_
      show OutW _ _ _ _ _ _ _ (T10.setTop (mkF m 9 #[.val (.ref a1), .val (.long v11), .second, .val (.int (1 : Int32)), .val (.int v8)] []))
      refine OutW.back (fun t k => XS.aloadN X10.here hx rfl (hb hby d4_9) rfl rfl  k) ?_
      show OutW _ _ _ _ _ _ _ (T10.setTop (mkF m 10 #[.val (.ref a1), .val (.long v11), .second, .val (.int (1 : Int32)), .val (.int v8)] [(.ref a1)]))
      obtain ⟨T14, X14, e14, st14⟩ := getF X10 hx hZ hown (host := "") (Or.inl (hw _ (List.mem_of_getElem? (i := 17) rfl))) Via.refl e10 F_position_a1 (g := (mkF m 10 #[.val (.ref a1), .val (.long v11), .second, .val (.int (1 : Int32)), .val (.int v8)] [(.ref a1)])) rfl rfl (hb hby d4_10)
      refine OutW.back st14 ?_
      show OutW _ _ _ _ _ _ _ (T14.setTop (mkF m 13 #[.val (.ref a1), .val (.long v11), .second, .val (.int (1 : Int32)), .val (.int v8)] [(.int (w_p + (1 : Int32)))]))
      refine OutW.back (fun t k => XS.aloadN X14.here hx rfl (hb hby d4_13) rfl rfl  k) ?_
      show OutW _ _ _ _ _ _ _ (T14.setTop (mkF m 14 #[.val (.ref a1), .val (.long v11), .second, .val (.int (1 : Int32)), .val (.int v8)] [(.ref a1), (.int (w_p + (1 : Int32)))]))
      obtain ⟨T15, X15, e15, st15⟩ := getF X14 hx hZ hown (host := "") (Or.inl (hw _ (List.mem_of_getElem? (i := 10) rfl))) Via.refl e14 F_bytes_a1 (g := (mkF m 14 #[.val (.ref a1), .val (.long v11), .second, .val (.int (1 : Int32)), .val (.int v8)] [(.ref a1), (.int (w_p + (1 : Int32)))])) rfl rfl (hb hby d4_14)
      refine OutW.back st15 ?_
      show OutW _ _ _ _ _ _ _ (T15.setTop (mkF m 17 #[.val (.ref a1), .val (.long v11), .second, .val (.int (1 : Int32)), .val (.int v8)] [(.ref b2), (.int (w_p + (1 : Int32)))]))
      obtain ⟨cl16, Ar16, Qk16, Sz16, Nn16, Hh16, Gg16⟩ := id V_b2
      refine OutW.back (X15.arraylength hx (by rw [e15]; exact Ar16.1) (State.isArrayOf_alike hZ.alike Ar16.2.1) (g := (mkF m 17 #[.val (.ref a1), .val (.long v11), .second, .val (.int (1 : Int32)), .val (.int v8)] [(.ref b2), (.int (w_p + (1 : Int32)))])) rfl rfl (hb hby d4_17)) ?_
      rw [len_of Sz16 Nn16]
      show OutW _ _ _ _ _ _ _ (T15.setTop (mkF m 18 #[.val (.ref a1), .val (.long v11), .second, .val (.int (1 : Int32)), .val (.int v8)] [(.int nn), (.int (w_p + (1 : Int32)))]))
      by_cases c18_17 : (w_p + (1 : Int32)) < nn
      · skip
        refine OutW.back (fun t k => XS.icmpNo X15.here hx rfl (hb hby d4_18) rfl (tlt c18_17).2.1 k) ?_
        show OutW _ _ _ _ _ _ _ (T15.setTop (mkF m 21 #[.val (.ref a1), .val (.long v11), .second, .val (.int (1 : Int32)), .val (.int v8)] []))
        refine OutW.back (fun t k => XS.aloadN X15.here hx rfl (hb hby d4_21) rfl rfl  k) ?_
        show OutW _ _ _ _ _ _ _ (T15.setTop (mkF m 22 #[.val (.ref a1), .val (.long v11), .second, .val (.int (1 : Int32)), .val (.int v8)] [(.ref a1)]))
        obtain ⟨T18, X18, e18, st18⟩ := getF X15 hx hZ hown (host := "") (Or.inl (hw _ (List.mem_of_getElem? (i := 10) rfl))) Via.refl e15 F_bytes_a1 (g := (mkF m 22 #[.val (.ref a1), .val (.long v11), .second, .val (.int (1 : Int32)), .val (.int v8)] [(.ref a1)])) rfl rfl (hb hby d4_22)
        refine OutW.back st18 ?_
        show OutW _ _ _ _ _ _ _ (T18.setTop (mkF m 25 #[.val (.ref a1), .val (.long v11), .second, .val (.int (1 : Int32)), .val (.int v8)] [(.ref b2)]))
        refine OutW.back (fun t k => XS.aloadN X18.here hx rfl (hb hby d4_25) rfl rfl  k) ?_
        show OutW _ _ _ _ _ _ _ (T18.setTop (mkF m 26 #[.val (.ref a1), .val (.long v11), .second, .val (.int (1 : Int32)), .val (.int v8)] [(.ref a1), (.ref b2)]))
        obtain ⟨T19, X19, e19, st19⟩ := getF X18 hx hZ hown (host := "") (Or.inl (hw _ (List.mem_of_getElem? (i := 17) rfl))) Via.refl e18 F_position_a1 (g := (mkF m 26 #[.val (.ref a1), .val (.long v11), .second, .val (.int (1 : Int32)), .val (.int v8)] [(.ref a1), (.ref b2)])) rfl rfl (hb hby d4_26)
        refine OutW.back st19 ?_
        show OutW _ _ _ _ _ _ _ (T19.setTop (mkF m 29 #[.val (.ref a1), .val (.long v11), .second, .val (.int (1 : Int32)), .val (.int v8)] [(.int (w_p + (1 : Int32))), (.ref b2)]))
        have hin_29 : ¬ (w_p + (1 : Int32)) < 0 ∧ (w_p + (1 : Int32)) < nn := ⟨(own_succ hp c18_4), c18_17⟩
        have hat_29 := hB (w_p + (1 : Int32)) hin_29.1 hin_29.2
        obtain ⟨cl20, Ar20, Qk20, Sz20, Nn20, Hh20, Gg20⟩ := id V_b2
        have hin20 : ¬ ((w_p + (1 : Int32)) < 0 ∨ cl20.slots.size ≤ ((w_p + (1 : Int32))).toNatClampNeg) := inb_of Sz20 hin_29
        refine OutW.back (X19.baloadBytes hx (j := (w_p + (1 : Int32))) (v := (.int (B (w_p + (1 : Int32))))) (by rw [e19]; exact Ar20.1) (State.isArrayOf_alike hZ.alike Ar20.2.1) Ar20.2.2 hin20 (Hh20.at hin20 hat_29) (g := (mkF m 29 #[.val (.ref a1), .val (.long v11), .second, .val (.int (1 : Int32)), .val (.int v8)] [(.int (w_p + (1 : Int32))), (.ref b2)])) rfl rfl (hb hby d4_29)) ?_
        show OutW _ _ _ _ _ _ _ (T19.setTop (mkF m 30 #[.val (.ref a1), .val (.long v11), .second, .val (.int (1 : Int32)), .val (.int v8)] [(.int (B (w_p + (1 : Int32))))]))
        generalize hv_v21 : (B (w_p + (1 : Int32))) = v21
        refine OutW.back (fun t k => XS.istore X19.here hx rfl (hb hby d4_30) rfl (l' := #[.val (.ref a1), .val (.long v11), .second, .val (.int (1 : Int32)), .val (.int v21)]) rfl k) ?_
        show OutW _ _ _ _ _ _ _ (T19.setTop (mkF m 32 #[.val (.ref a1), .val (.long v11), .second, .val (.int (1 : Int32)), .val (.int v21)] []))
        refine OutW.back (fun t k => XS.aloadN X19.here hx rfl (hb hby d4_32) rfl rfl  k) ?_
        show OutW _ _ _ _ _ _ _ (T19.setTop (mkF m 33 #[.val (.ref a1), .val (.long v11), .second, .val (.int (1 : Int32)), .val (.int v21)] [(.ref a1)]))
        refine OutW.back (fun t k => XS.dup X19.here hx rfl (hb hby d4_33) rfl rfl k) ?_
        show OutW _ _ _ _ _ _ _ (T19.setTop (mkF m 34 #[.val (.ref a1), .val (.long v11), .second, .val (.int (1 : Int32)), .val (.int v21)] [(.ref a1), (.ref a1)]))
        obtain ⟨T22, X22, e22, st22⟩ := getF X19 hx hZ hown (host := "") (Or.inl (hw _ (List.mem_of_getElem? (i := 17) rfl))) Via.refl e19 F_position_a1 (g := (mkF m 34 #[.val (.ref a1), .val (.long v11), .second, .val (.int (1 : Int32)), .val (.int v21)] [(.ref a1), (.ref a1)])) rfl rfl (hb hby d4_34)
        refine OutW.back st22 ?_
        show OutW _ _ _ _ _ _ _ (T22.setTop (mkF m 37 #[.val (.ref a1), .val (.long v11), .second, .val (.int (1 : Int32)), .val (.int v21)] [(.int (w_p + (1 : Int32))), (.ref a1)]))
        refine OutW.back (fun t k => XS.iconst X22.here hx rfl (hb hby d4_37) k) ?_
        show OutW _ _ _ _ _ _ _ (T22.setTop (mkF m 38 #[.val (.ref a1), .val (.long v11), .second, .val (.int (1 : Int32)), .val (.int v21)] [(.int (1 : Int32)), (.int (w_p + (1 : Int32))), (.ref a1)]))
        refine OutW.back (fun t k => XS.iadd X22.here hx rfl (hb hby d4_38) rfl k) ?_
        show OutW _ _ _ _ _ _ _ (T22.setTop (mkF m 39 #[.val (.ref a1), .val (.long v11), .second, .val (.int (1 : Int32)), .val (.int v21)] [(.int ((w_p + (1 : Int32)) + (1 : Int32))), (.ref a1)]))
        obtain ⟨T23, h23, X23, e23, W23, st23⟩ := putF X22 hx hZ hown (host := "") (Or.inl (hw _ (List.mem_of_getElem? (i := 17) rfl))) Via.refl e22 F_position_a1 E_a1 (Or.inl (hw _ (List.mem_of_getElem? (i := 18) rfl))) (hw _ (List.mem_of_getElem? (i := 2) rfl)) (ty := .int) (by decide) rfl rfl (g := (mkF m 39 #[.val (.ref a1), .val (.long v11), .second, .val (.int (1 : Int32)), .val (.int v21)] [(.int ((w_p + (1 : Int32)) + (1 : Int32))), (.ref a1)])) rfl rfl (hb hby d4_39)
        have E_a1 := E_a1.wr W23
        have F_bytes_a1 := F_bytes_a1.other W23 (Or.inr (slot_ne (Or.inr (hw _ (List.mem_of_getElem? (i := 11) rfl))) (Or.inl (hw _ (List.mem_of_getElem? (i := 18) rfl))) (by decide) (t := (.array .byte)) (t' := .int) (by decide) (by decide)))
        have F_position_a1 := F_position_a1.same W23
        have V_b2 := V_b2.other W23 ne_b2_a1
        have N23 := Fr.snoc X23 N10 g_a1
        have Z23 : n0 ≤ h23.size := Nat.le_trans Z10 (Keep.of_wr W23).1
        have K23 := K10.wr W23 (Or.inl (List.mem_of_getElem? (i := 0) rfl))
        refine OutW.back st23 ?_
        show OutW _ _ _ _ _ _ _ (T23.setTop (mkF m 42 #[.val (.ref a1), .val (.long v11), .second, .val (.int (1 : Int32)), .val (.int v21)] []))
        refine OutW.back (fun t k => XS.lloadN X23.here hx rfl (hb hby d4_42) rfl  k) ?_
        show OutW _ _ _ _ _ _ _ (T23.setTop (mkF m 43 #[.val (.ref a1), .val (.long v11), .second, .val (.int (1 : Int32)), .val (.int v21)] [(.long v11)]))
        refine OutW.back (fun t k => XS.iload X23.here hx rfl (hb hby d4_43) rfl  k) ?_
        show OutW _ _ _ _ _ _ _ (T23.setTop (mkF m 45 #[.val (.ref a1), .val (.long v11), .second, .val (.int (1 : Int32)), .val (.int v21)] [(.int v21), (.long v11)]))
        refine OutW.back (fun t k => XS.bipush X23.here hx rfl (hb hby d4_45) k) ?_
        show OutW _ _ _ _ _ _ _ (T23.setTop (mkF m 47 #[.val (.ref a1), .val (.long v11), .second, .val (.int (1 : Int32)), .val (.int v21)] [(.int (127 : Int32)), (.int v21), (.long v11)]))
        refine OutW.back (fun t k => XS.iand X23.here hx rfl (hb hby d4_47) rfl k) ?_
        show OutW _ _ _ _ _ _ _ (T23.setTop (mkF m 48 #[.val (.ref a1), .val (.long v11), .second, .val (.int (1 : Int32)), .val (.int v21)] [(.int (v21 &&& (127 : Int32))), (.long v11)]))
        refine OutW.back (fun t k => XS.i2l X23.here hx rfl (hb hby d4_48) rfl k) ?_
        show OutW _ _ _ _ _ _ _ (T23.setTop (mkF m 49 #[.val (.ref a1), .val (.long v11), .second, .val (.int (1 : Int32)), .val (.int v21)] [(.long (v21 &&& (127 : Int32)).toInt64), (.long v11)]))
        refine OutW.back (fun t k => XS.bipush X23.here hx rfl (hb hby d4_49) k) ?_
        show OutW _ _ _ _ _ _ _ (T23.setTop (mkF m 51 #[.val (.ref a1), .val (.long v11), .second, .val (.int (1 : Int32)), .val (.int v21)] [(.int (7 : Int32)), (.long (v21 &&& (127 : Int32)).toInt64), (.long v11)]))
        refine OutW.back (fun t k => XS.iloadN X23.here hx rfl (hb hby d4_51) rfl  k) ?_
        show OutW _ _ _ _ _ _ _ (T23.setTop (mkF m 52 #[.val (.ref a1), .val (.long v11), .second, .val (.int (1 : Int32)), .val (.int v21)] [(.int (1 : Int32)), (.int (7 : Int32)), (.long (v21 &&& (127 : Int32)).toInt64), (.long v11)]))
        refine OutW.back (fun t k => XS.imul X23.here hx rfl (hb hby d4_52) rfl k) ?_
        show OutW _ _ _ _ _ _ _ (T23.setTop (mkF m 53 #[.val (.ref a1), .val (.long v11), .second, .val (.int (1 : Int32)), .val (.int v21)] [(.int ((7 : Int32) * (1 : Int32))), (.long (v21 &&& (127 : Int32)).toInt64), (.long v11)]))
        rw [show ((7 : Int32) * (1 : Int32)) = (7 : Int32) from by decide]
        refine OutW.back (fun t k => XS.lshl X23.here hx rfl (hb hby d4_53) rfl k) ?_
        show OutW _ _ _ _ _ _ _ (T23.setTop (mkF m 54 #[.val (.ref a1), .val (.long v11), .second, .val (.int (1 : Int32)), .val (.int v21)] [(.long ((v21 &&& (127 : Int32)).toInt64 <<< ((7 : Int32) &&& 0x3f).toInt64)), (.long v11)]))
        refine OutW.back (fun t k => XS.lor X23.here hx rfl (hb hby d4_54) rfl k) ?_
        show OutW _ _ _ _ _ _ _ (T23.setTop (mkF m 55 #[.val (.ref a1), .val (.long v11), .second, .val (.int (1 : Int32)), .val (.int v21)] [(.long (v11 ||| ((v21 &&& (127 : Int32)).toInt64 <<< ((7 : Int32) &&& 0x3f).toInt64)))]))
        generalize hv_v24 : (v11 ||| ((v21 &&& (127 : Int32)).toInt64 <<< ((7 : Int32) &&& 0x3f).toInt64)) = v24
        refine OutW.back (fun t k => XS.lstoreN X23.here hx rfl (hb hby d4_55) rfl (l' := #[.val (.ref a1), .val (.long v24), .second, .val (.int (1 : Int32)), .val (.int v21)]) rfl k) ?_
        show OutW _ _ _ _ _ _ _ (T23.setTop (mkF m 56 #[.val (.ref a1), .val (.long v24), .second, .val (.int (1 : Int32)), .val (.int v21)] []))
        refine OutW.back (fun t k => XS.iload X23.here hx rfl (hb hby d4_56) rfl  k) ?_
        show OutW _ _ _ _ _ _ _ (T23.setTop (mkF m 58 #[.val (.ref a1), .val (.long v24), .second, .val (.int (1 : Int32)), .val (.int v21)] [(.int v21)]))
        refine OutW.back (fun t k => XS.sipush X23.here hx rfl (hb hby d4_58) k) ?_
        show OutW _ _ _ _ _ _ _ (T23.setTop (mkF m 61 #[.val (.ref a1), .val (.long v24), .second, .val (.int (1 : Int32)), .val (.int v21)] [(.int (128 : Int32)), (.int v21)]))
        refine OutW.back (fun t k => XS.iand X23.here hx rfl (hb hby d4_61) rfl k) ?_
        show OutW _ _ _ _ _ _ _ (T23.setTop (mkF m 62 #[.val (.ref a1), .val (.long v24), .second, .val (.int (1 : Int32)), .val (.int v21)] [(.int (v21 &&& (128 : Int32)))]))
        by_cases c62_25 : (v21 &&& (128 : Int32)) = (0 : Int32)
        · skip
          refine OutW.back (fun t k => XS.ifNo X23.here hx rfl (hb hby d4_62) rfl ((if0 _ _).trans (teq c62_25).2) k) ?_
          show OutW _ _ _ _ _ _ _ (T23.setTop (mkF m 65 #[.val (.ref a1), .val (.long v24), .second, .val (.int (1 : Int32)), .val (.int v21)] []))
          refine OutW.back (fun t k => XS.lloadN X23.here hx rfl (hb hby d4_65) rfl  k) ?_
          show OutW _ _ _ _ _ _ _ (T23.setTop (mkF m 66 #[.val (.ref a1), .val (.long v24), .second, .val (.int (1 : Int32)), .val (.int v21)] [(.long v24)]))
          refine OutW.back (X23.ldc2Long hx hown (mvT hZ (hw _ (List.mem_of_getElem? (i := 34) rfl))) (g := (mkF m 66 #[.val (.ref a1), .val (.long v24), .second, .val (.int (1 : Int32)), .val (.int v21)] [(.long v24)])) rfl (hb hby d4_66)) ?_
          show OutW _ _ _ _ _ _ _ (T23.setTop (mkF m 69 #[.val (.ref a1), .val (.long v24), .second, .val (.int (1 : Int32)), .val (.int v21)] [(.long (2147483647 : Int64)), (.long v24)]))
          refine OutW.back (fun t k => XS.lcmp X23.here hx rfl (hb hby d4_69) rfl k) ?_
          show OutW _ _ _ _ _ _ _ (T23.setTop (mkF m 70 #[.val (.ref a1), .val (.long v24), .second, .val (.int (1 : Int32)), .val (.int v21)] [(.int (lcmpW v24 (2147483647 : Int64)))]))
          by_cases c70_26 : (2147483647 : Int64) < v24
          · skip
            refine OutW.back (fun t k => XS.ifNo X23.here hx rfl (hb hby d4_70) rfl ((if0 _ _).trans (tlt ((lw_gt _ _).mpr c70_26)).2.2.2) k) ?_
            show OutW _ _ _ _ _ _ _ (T23.setTop (mkF m 73 #[.val (.ref a1), .val (.long v24), .second, .val (.int (1 : Int32)), .val (.int v21)] []))
            refine OutW.back (fun t k => XS.iconst X23.here hx rfl (hb hby d4_73) k) ?_
            show OutW _ _ _ _ _ _ _ (T23.setTop (mkF m 74 #[.val (.ref a1), .val (.long v24), .second, .val (.int (1 : Int32)), .val (.int v21)] [(.int (-1 : Int32))]))
            refine OutW.back (fun t k => XS.goto X23.here hx rfl (pc0 := 74) (pc' := 79) rfl (hb hby d4_74) (by decide) (by decide) k) ?_
            show OutW _ _ _ _ _ _ _ (T23.setTop (mkF m 79 #[.val (.ref a1), .val (.long v24), .second, .val (.int (1 : Int32)), .val (.int v21)] [(.int (-1 : Int32))]))
            refine OutW.retI X23 hx Bd.returns hlk (hb hby d4_79) (by decide) (by decide) ?_
            show Q4 Z a1 b2 w_p nn vs kk B h0 n0 _ T23.heap _
            rw [e23]
            subst hv_v24 hv_v21 hv_v11 hv_v8
            exact ⟨by rw [nxt, if_pos c18_4, if_neg c62_12, if_pos c18_17, if_pos c62_25, if_pos c70_26], N23, K23, (by rw [nxt_position, if_pos c18_4, if_neg c62_12, if_pos c18_17, if_pos c62_25]; exact F_position_a1), F_bytes_a1⟩
          · skip
            refine OutW.back (fun t k => XS.ifYes X23.here hx rfl (pc0 := 70) (pc' := 77) rfl (hb hby d4_70) rfl ((if0 _ _).trans (flt (fun q => c70_26 ((lw_gt _ _).mp q))).2.2.2) (by decide) (by decide) k) ?_
            show OutW _ _ _ _ _ _ _ (T23.setTop (mkF m 77 #[.val (.ref a1), .val (.long v24), .second, .val (.int (1 : Int32)), .val (.int v21)] []))
            refine OutW.back (fun t k => XS.lloadN X23.here hx rfl (hb hby d4_77) rfl  k) ?_
            show OutW _ _ _ _ _ _ _ (T23.setTop (mkF m 78 #[.val (.ref a1), .val (.long v24), .second, .val (.int (1 : Int32)), .val (.int v21)] [(.long v24)]))
            refine OutW.back (fun t k => XS.l2i X23.here hx rfl (hb hby d4_78) rfl k) ?_
            show OutW _ _ _ _ _ _ _ (T23.setTop (mkF m 79 #[.val (.ref a1), .val (.long v24), .second, .val (.int (1 : Int32)), .val (.int v21)] [(.int v24.toInt32)]))
            refine OutW.retI X23 hx Bd.returns hlk (hb hby d4_79) (by decide) (by decide) ?_
            show Q4 Z a1 b2 w_p nn vs kk B h0 n0 _ T23.heap _
            rw [e23]
            subst hv_v24 hv_v21 hv_v11 hv_v8
            exact ⟨by rw [nxt, if_pos c18_4, if_neg c62_12, if_pos c18_17, if_pos c62_25, if_neg c70_26], N23, K23, (by rw [nxt_position, if_pos c18_4, if_neg c62_12, if_pos c18_17, if_pos c62_25]; exact F_position_a1), F_bytes_a1⟩
        · skip
          refine OutW.back (fun t k => XS.ifYes X23.here hx rfl (pc0 := 62) (pc' := 80) rfl (hb hby d4_62) rfl ((if0 _ _).trans (feq c62_25).2) (by decide) (by decide) k) ?_
          show OutW _ _ _ _ _ _ _ (T23.setTop (mkF m 80 #[.val (.ref a1), .val (.long v24), .second, .val (.int (1 : Int32)), .val (.int v21)] []))
          refine OutW.back (fun t k => XS.iinc X23.here hx rfl (hb hby d4_80) rfl (l' := #[.val (.ref a1), .val (.long v24), .second, .val (.int ((1 : Int32) + (1 : Int32))), .val (.int v21)]) rfl k) ?_
          show OutW _ _ _ _ _ _ _ (T23.setTop (mkF m 83 #[.val (.ref a1), .val (.long v24), .second, .val (.int ((1 : Int32) + (1 : Int32))), .val (.int v21)] []))
          rw [show ((1 : Int32) + (1 : Int32)) = (2 : Int32) from by decide]
          refine OutW.back (fun t k => XS.goto X23.here hx rfl (pc0 := 83) (pc' := 4) rfl (hb hby d4_83) (by decide) (by decide) k) ?_
          show OutW _ _ _ _ _ _ _ (T23.setTop (mkF m 4 #[.val (.ref a1), .val (.long v24), .second, .val (.int (2 : Int32)), .val (.int v21)] []))
          refine OutW.back (fun t k => XS.iloadN X23.here hx rfl (hb hby d4_4) rfl  k) ?_
          show OutW _ _ _ _ _ _ _ (T23.setTop (mkF m 5 #[.val (.ref a1), .val (.long v24), .second, .val (.int (2 : Int32)), .val (.int v21)] [(.int (2 : Int32))]))
          refine OutW.back (fun t k => XS.iconst X23.here hx rfl (hb hby d4_5) k) ?_
          show OutW _ _ _ _ _ _ _ (T23.setTop (mkF m 6 #[.val (.ref a1), .val (.long v24), .second, .val (.int (2 : Int32)), .val (.int v21)] [(.int (5 : Int32)), (.int (2 : Int32))]))
          refine OutW.back (fun t k => XS.icmpNo X23.here hx rfl (hb hby d4_6) rfl (tlt (by decide : (2 : Int32) < (5 : Int32))).2.1 k) ?_
          show OutW _ _ _ _ _ _ _ (T23.setTop (mkF m 9 #[.val (.ref a1), .val (.long v24), .second, .val (.int (2 : Int32)), .val (.int v21)] []))
          refine OutW.back (fun t k => XS.aloadN X23.here hx rfl (hb hby d4_9) rfl rfl  k) ?_
          show OutW _ _ _ _ _ _ _ (T23.setTop (mkF m 10 #[.val (.ref a1), .val (.long v24), .second, .val (.int (2 : Int32)), .val (.int v21)] [(.ref a1)]))
          obtain ⟨T27, X27, e27, st27⟩ := getF X23 hx hZ hown (host := "") (Or.inl (hw _ (List.mem_of_getElem? (i := 17) rfl))) Via.refl e23 F_position_a1 (g := (mkF m 10 #[.val (.ref a1), .val (.long v24), .second, .val (.int (2 : Int32)), .val (.int v21)] [(.ref a1)])) rfl rfl (hb hby d4_10)
          refine OutW.back st27 ?_
          show OutW _ _ _ _ _ _ _ (T27.setTop (mkF m 13 #[.val (.ref a1), .val (.long v24), .second, .val (.int (2 : Int32)), .val (.int v21)] [(.int ((w_p + (1 : Int32)) + (1 : Int32)))]))
          refine OutW.back (fun t k => XS.aloadN X27.here hx rfl (hb hby d4_13) rfl rfl  k) ?_
          show OutW _ _ _ _ _ _ _ (T27.setTop (mkF m 14 #[.val (.ref a1), .val (.long v24), .second, .val (.int (2 : Int32)), .val (.int v21)] [(.ref a1), (.int ((w_p + (1 : Int32)) + (1 : Int32)))]))
          obtain ⟨T28, X28, e28, st28⟩ := getF X27 hx hZ hown (host := "") (Or.inl (hw _ (List.mem_of_getElem? (i := 10) rfl))) Via.refl e27 F_bytes_a1 (g := (mkF m 14 #[.val (.ref a1), .val (.long v24), .second, .val (.int (2 : Int32)), .val (.int v21)] [(.ref a1), (.int ((w_p + (1 : Int32)) + (1 : Int32)))])) rfl rfl (hb hby d4_14)
          refine OutW.back st28 ?_
          show OutW _ _ _ _ _ _ _ (T28.setTop (mkF m 17 #[.val (.ref a1), .val (.long v24), .second, .val (.int (2 : Int32)), .val (.int v21)] [(.ref b2), (.int ((w_p + (1 : Int32)) + (1 : Int32)))]))
          obtain ⟨cl29, Ar29, Qk29, Sz29, Nn29, Hh29, Gg29⟩ := id V_b2
          refine OutW.back (X28.arraylength hx (by rw [e28]; exact Ar29.1) (State.isArrayOf_alike hZ.alike Ar29.2.1) (g := (mkF m 17 #[.val (.ref a1), .val (.long v24), .second, .val (.int (2 : Int32)), .val (.int v21)] [(.ref b2), (.int ((w_p + (1 : Int32)) + (1 : Int32)))])) rfl rfl (hb hby d4_17)) ?_
          rw [len_of Sz29 Nn29]
          show OutW _ _ _ _ _ _ _ (T28.setTop (mkF m 18 #[.val (.ref a1), .val (.long v24), .second, .val (.int (2 : Int32)), .val (.int v21)] [(.int nn), (.int ((w_p + (1 : Int32)) + (1 : Int32)))]))
          by_cases c18_30 : ((w_p + (1 : Int32)) + (1 : Int32)) < nn
          · skip
            refine OutW.back (fun t k => XS.icmpNo X28.here hx rfl (hb hby d4_18) rfl (tlt c18_30).2.1 k) ?_
            show OutW _ _ _ _ _ _ _ (T28.setTop (mkF m 21 #[.val (.ref a1), .val (.long v24), .second, .val (.int (2 : Int32)), .val (.int v21)] []))
            refine OutW.back (fun t k => XS.aloadN X28.here hx rfl (hb hby d4_21) rfl rfl  k) ?_
            show OutW _ _ _ _ _ _ _ (T28.setTop (mkF m 22 #[.val (.ref a1), .val (.long v24), .second, .val (.int (2 : Int32)), .val (.int v21)] [(.ref a1)]))
            obtain ⟨T31, X31, e31, st31⟩ := getF X28 hx hZ hown (host := "") (Or.inl (hw _ (List.mem_of_getElem? (i := 10) rfl))) Via.refl e28 F_bytes_a1 (g := (mkF m 22 #[.val (.ref a1), .val (.long v24), .second, .val (.int (2 : Int32)), .val (.int v21)] [(.ref a1)])) rfl rfl (hb hby d4_22)
            refine OutW.back st31 ?_
            show OutW _ _ _ _ _ _ _ (T31.setTop (mkF m 25 #[.val (.ref a1), .val (.long v24), .second, .val (.int (2 : Int32)), .val (.int v21)] [(.ref b2)]))
            refine OutW.back (fun t k => XS.aloadN X31.here hx rfl (hb hby d4_25) rfl rfl  k) ?_
            show OutW _ _ _ _ _ _ _ (T31.setTop (mkF m 26 #[.val (.ref a1), .val (.long v24), .second, .val (.int (2 : Int32)), .val (.int v21)] [(.ref a1), (.ref b2)]))
            obtain ⟨T32, X32, e32, st32⟩ := getF X31 hx hZ hown (host := "") (Or.inl (hw _ (List.mem_of_getElem? (i := 17) rfl))) Via.refl e31 F_position_a1 (g := (mkF m 26 #[.val (.ref a1), .val (.long v24), .second, .val (.int (2 : Int32)), .val (.int v21)] [(.ref a1), (.ref b2)])) rfl rfl (hb hby d4_26)
            refine OutW.back st32 ?_
            show OutW _ _ _ _ _ _ _ (T32.setTop (mkF m 29 #[.val (.ref a1), .val (.long v24), .second, .val (.int (2 : Int32)), .val (.int v21)] [(.int ((w_p + (1 : Int32)) + (1 : Int32))), (.ref b2)]))
            have hin_29 : ¬ ((w_p + (1 : Int32)) + (1 : Int32)) < 0 ∧ ((w_p + (1 : Int32)) + (1 : Int32)) < nn := ⟨(own_succ (own_succ hp c18_4) c18_17), c18_30⟩
            have hat_29 := hB ((w_p + (1 : Int32)) + (1 : Int32)) hin_29.1 hin_29.2
            obtain ⟨cl33, Ar33, Qk33, Sz33, Nn33, Hh33, Gg33⟩ := id V_b2
            have hin33 : ¬ (((w_p + (1 : Int32)) + (1 : Int32)) < 0 ∨ cl33.slots.size ≤ (((w_p + (1 : Int32)) + (1 : Int32))).toNatClampNeg) := inb_of Sz33 hin_29
            refine OutW.back (X32.baloadBytes hx (j := ((w_p + (1 : Int32)) + (1 : Int32))) (v := (.int (B ((w_p + (1 : Int32)) + (1 : Int32))))) (by rw [e32]; exact Ar33.1) (State.isArrayOf_alike hZ.alike Ar33.2.1) Ar33.2.2 hin33 (Hh33.at hin33 hat_29) (g := (mkF m 29 #[.val (.ref a1), .val (.long v24), .second, .val (.int (2 : Int32)), .val (.int v21)] [(.int ((w_p + (1 : Int32)) + (1 : Int32))), (.ref b2)])) rfl rfl (hb hby d4_29)) ?_
            show OutW _ _ _ _ _ _ _ (T32.setTop (mkF m 30 #[.val (.ref a1), .val (.long v24), .second, .val (.int (2 : Int32)), .val (.int v21)] [(.int (B ((w_p + (1 : Int32)) + (1 : Int32))))]))
            generalize hv_v34 : (B ((w_p + (1 : Int32)) + (1 : Int32))) = v34
            refine OutW.back (fun t k => XS.istore X32.here hx rfl (hb hby d4_30) rfl (l' := #[.val (.ref a1), .val (.long v24), .second, .val (.int (2 : Int32)), .val (.int v34)]) rfl k) ?_
            show OutW _ _ _ _ _ _ _ (T32.setTop (mkF m 32 #[.val (.ref a1), .val (.long v24), .second, .val (.int (2 : Int32)), .val (.int v34)] []))
            refine OutW.back (fun t k => XS.aloadN X32.here hx rfl (hb hby d4_32) rfl rfl  k) ?_
            show OutW _ _ _ _ _ _ _ (T32.setTop (mkF m 33 #[.val (.ref a1), .val (.long v24), .second, .val (.int (2 : Int32)), .val (.int v34)] [(.ref a1)]))
            refine OutW.back (fun t k => XS.dup X32.here hx rfl (hb hby d4_33) rfl rfl k) ?_
            show OutW _ _ _ _ _ _ _ (T32.setTop (mkF m 34 #[.val (.ref a1), .val (.long v24), .second, .val (.int (2 : Int32)), .val (.int v34)] [(.ref a1), (.ref a1)]))
            obtain ⟨T35, X35, e35, st35⟩ := getF X32 hx hZ hown (host := "") (Or.inl (hw _ (List.mem_of_getElem? (i := 17) rfl))) Via.refl e32 F_position_a1 (g := (mkF m 34 #[.val (.ref a1), .val (.long v24), .second, .val (.int (2 : Int32)), .val (.int v34)] [(.ref a1), (.ref a1)])) rfl rfl (hb hby d4_34)
            refine OutW.back st35 ?_
            show OutW _ _ _ _ _ _ _ (T35.setTop (mkF m 37 #[.val (.ref a1), .val (.long v24), .second, .val (.int (2 : Int32)), .val (.int v34)] [(.int ((w_p + (1 : Int32)) + (1 : Int32))), (.ref a1)]))
            refine OutW.back (fun t k => XS.iconst X35.here hx rfl (hb hby d4_37) k) ?_
            show OutW _ _ _ _ _ _ _ (T35.setTop (mkF m 38 #[.val (.ref a1), .val (.long v24), .second, .val (.int (2 : Int32)), .val (.int v34)] [(.int (1 : Int32)), (.int ((w_p + (1 : Int32)) + (1 : Int32))), (.ref a1)]))
            refine OutW.back (fun t k => XS.iadd X35.here hx rfl (hb hby d4_38) rfl k) ?_
            show OutW _ _ _ _ _ _ _ (T35.setTop (mkF m 39 #[.val (.ref a1), .val (.long v24), .second, .val (.int (2 : Int32)), .val (.int v34)] [(.int (((w_p + (1 : Int32)) + (1 : Int32)) + (1 : Int32))), (.ref a1)]))
            obtain ⟨T36, h36, X36, e36, W36, st36⟩ := putF X35 hx hZ hown (host := "") (Or.inl (hw _ (List.mem_of_getElem? (i := 17) rfl))) Via.refl e35 F_position_a1 E_a1 (Or.inl (hw _ (List.mem_of_getElem? (i := 18) rfl))) (hw _ (List.mem_of_getElem? (i := 2) rfl)) (ty := .int) (by decide) rfl rfl (g := (mkF m 39 #[.val (.ref a1), .val (.long v24), .second, .val (.int (2 : Int32)), .val (.int v34)] [(.int (((w_p + (1 : Int32)) + (1 : Int32)) + (1 : Int32))), (.ref a1)])) rfl rfl (hb hby d4_39)
            have E_a1 := E_a1.wr W36
            have F_bytes_a1 := F_bytes_a1.other W36 (Or.inr (slot_ne (Or.inr (hw _ (List.mem_of_getElem? (i := 11) rfl))) (Or.inl (hw _ (List.mem_of_getElem? (i := 18) rfl))) (by decide) (t := (.array .byte)) (t' := .int) (by decide) (by decide)))
            have F_position_a1 := F_position_a1.same W36
            have V_b2 := V_b2.other W36 ne_b2_a1
            have N36 := Fr.snoc X36 N23 g_a1
            have Z36 : n0 ≤ h36.size := Nat.le_trans Z23 (Keep.of_wr W36).1
            have K36 := K23.wr W36 (Or.inl (List.mem_of_getElem? (i := 0) rfl))
            refine OutW.back st36 ?_
            show OutW _ _ _ _ _ _ _ (T36.setTop (mkF m 42 #[.val (.ref a1), .val (.long v24), .second, .val (.int (2 : Int32)), .val (.int v34)] []))
            refine OutW.back (fun t k => XS.lloadN X36.here hx rfl (hb hby d4_42) rfl  k) ?_
            show OutW _ _ _ _ _ _ _ (T36.setTop (mkF m 43 #[.val (.ref a1), .val (.long v24), .second, .val (.int (2 : Int32)), .val (.int v34)] [(.long v24)]))
            refine OutW.back (fun t k => XS.iload X36.here hx rfl (hb hby d4_43) rfl  k) ?_
            show OutW _ _ _ _ _ _ _ (T36.setTop (mkF m 45 #[.val (.ref a1), .val (.long v24), .second, .val (.int (2 : Int32)), .val (.int v34)] [(.int v34), (.long v24)]))
            refine OutW.back (fun t k => XS.bipush X36.here hx rfl (hb hby d4_45) k) ?_
            show OutW _ _ _ _ _ _ _ (T36.setTop (mkF m 47 #[.val (.ref a1), .val (.long v24), .second, .val (.int (2 : Int32)), .val (.int v34)] [(.int (127 : Int32)), (.int v34), (.long v24)]))
            refine OutW.back (fun t k => XS.iand X36.here hx rfl (hb hby d4_47) rfl k) ?_
            show OutW _ _ _ _ _ _ _ (T36.setTop (mkF m 48 #[.val (.ref a1), .val (.long v24), .second, .val (.int (2 : Int32)), .val (.int v34)] [(.int (v34 &&& (127 : Int32))), (.long v24)]))
            refine OutW.back (fun t k => XS.i2l X36.here hx rfl (hb hby d4_48) rfl k) ?_
            show OutW _ _ _ _ _ _ _ (T36.setTop (mkF m 49 #[.val (.ref a1), .val (.long v24), .second, .val (.int (2 : Int32)), .val (.int v34)] [(.long (v34 &&& (127 : Int32)).toInt64), (.long v24)]))
            refine OutW.back (fun t k => XS.bipush X36.here hx rfl (hb hby d4_49) k) ?_
            show OutW _ _ _ _ _ _ _ (T36.setTop (mkF m 51 #[.val (.ref a1), .val (.long v24), .second, .val (.int (2 : Int32)), .val (.int v34)] [(.int (7 : Int32)), (.long (v34 &&& (127 : Int32)).toInt64), (.long v24)]))
            refine OutW.back (fun t k => XS.iloadN X36.here hx rfl (hb hby d4_51) rfl  k) ?_
            show OutW _ _ _ _ _ _ _ (T36.setTop (mkF m 52 #[.val (.ref a1), .val (.long v24), .second, .val (.int (2 : Int32)), .val (.int v34)] [(.int (2 : Int32)), (.int (7 : Int32)), (.long (v34 &&& (127 : Int32)).toInt64), (.long v24)]))
            refine OutW.back (fun t k => XS.imul X36.here hx rfl (hb hby d4_52) rfl k) ?_
            show OutW _ _ _ _ _ _ _ (T36.setTop (mkF m 53 #[.val (.ref a1), .val (.long v24), .second, .val (.int (2 : Int32)), .val (.int v34)] [(.int ((7 : Int32) * (2 : Int32))), (.long (v34 &&& (127 : Int32)).toInt64), (.long v24)]))
            rw [show ((7 : Int32) * (2 : Int32)) = (14 : Int32) from by decide]
            refine OutW.back (fun t k => XS.lshl X36.here hx rfl (hb hby d4_53) rfl k) ?_
            show OutW _ _ _ _ _ _ _ (T36.setTop (mkF m 54 #[.val (.ref a1), .val (.long v24), .second, .val (.int (2 : Int32)), .val (.int v34)] [(.long ((v34 &&& (127 : Int32)).toInt64 <<< ((14 : Int32) &&& 0x3f).toInt64)), (.long v24)]))
            refine OutW.back (fun t k => XS.lor X36.here hx rfl (hb hby d4_54) rfl k) ?_
            show OutW _ _ _ _ _ _ _ (T36.setTop (mkF m 55 #[.val (.ref a1), .val (.long v24), .second, .val (.int (2 : Int32)), .val (.int v34)] [(.long (v24 ||| ((v34 &&& (127 : Int32)).toInt64 <<< ((14 : Int32) &&& 0x3f).toInt64)))]))
            generalize hv_v37 : (v24 ||| ((v34 &&& (127 : Int32)).toInt64 <<< ((14 : Int32) &&& 0x3f).toInt64)) = v37
            refine OutW.back (fun t k => XS.lstoreN X36.here hx rfl (hb hby d4_55) rfl (l' := #[.val (.ref a1), .val (.long v37), .second, .val (.int (2 : Int32)), .val (.int v34)]) rfl k) ?_
            show OutW _ _ _ _ _ _ _ (T36.setTop (mkF m 56 #[.val (.ref a1), .val (.long v37), .second, .val (.int (2 : Int32)), .val (.int v34)] []))
            refine OutW.back (fun t k => XS.iload X36.here hx rfl (hb hby d4_56) rfl  k) ?_
            show OutW _ _ _ _ _ _ _ (T36.setTop (mkF m 58 #[.val (.ref a1), .val (.long v37), .second, .val (.int (2 : Int32)), .val (.int v34)] [(.int v34)]))
            refine OutW.back (fun t k => XS.sipush X36.here hx rfl (hb hby d4_58) k) ?_
            show OutW _ _ _ _ _ _ _ (T36.setTop (mkF m 61 #[.val (.ref a1), .val (.long v37), .second, .val (.int (2 : Int32)), .val (.int v34)] [(.int (128 : Int32)), (.int v34)]))
            refine OutW.back (fun t k => XS.iand X36.here hx rfl (hb hby d4_61) rfl k) ?_
            show OutW _ _ _ _ _ _ _ (T36.setTop (mkF m 62 #[.val (.ref a1), .val (.long v37), .second, .val (.int (2 : Int32)), .val (.int v34)] [(.int (v34 &&& (128 : Int32)))]))
            by_cases c62_38 : (v34 &&& (128 : Int32)) = (0 : Int32)
            · skip
              refine OutW.back (fun t k => XS.ifNo X36.here hx rfl (hb hby d4_62) rfl ((if0 _ _).trans (teq c62_38).2) k) ?_
              show OutW _ _ _ _ _ _ _ (T36.setTop (mkF m 65 #[.val (.ref a1), .val (.long v37), .second, .val (.int (2 : Int32)), .val (.int v34)] []))
              refine OutW.back (fun t k => XS.lloadN X36.here hx rfl (hb hby d4_65) rfl  k) ?_
              show OutW _ _ _ _ _ _ _ (T36.setTop (mkF m 66 #[.val (.ref a1), .val (.long v37), .second, .val (.int (2 : Int32)), .val (.int v34)] [(.long v37)]))
              refine OutW.back (X36.ldc2Long hx hown (mvT hZ (hw _ (List.mem_of_getElem? (i := 34) rfl))) (g := (mkF m 66 #[.val (.ref a1), .val (.long v37), .second, .val (.int (2 : Int32)), .val (.int v34)] [(.long v37)])) rfl (hb hby d4_66)) ?_
              show OutW _ _ _ _ _ _ _ (T36.setTop (mkF m 69 #[.val (.ref a1), .val (.long v37), .second, .val (.int (2 : Int32)), .val (.int v34)] [(.long (2147483647 : Int64)), (.long v37)]))
              refine OutW.back (fun t k => XS.lcmp X36.here hx rfl (hb hby d4_69) rfl k) ?_
              show OutW _ _ _ _ _ _ _ (T36.setTop (mkF m 70 #[.val (.ref a1), .val (.long v37), .second, .val (.int (2 : Int32)), .val (.int v34)] [(.int (lcmpW v37 (2147483647 : Int64)))]))
              by_cases c70_39 : (2147483647 : Int64) < v37
              · skip
                refine OutW.back (fun t k => XS.ifNo X36.here hx rfl (hb hby d4_70) rfl ((if0 _ _).trans (tlt ((lw_gt _ _).mpr c70_39)).2.2.2) k) ?_
                show OutW _ _ _ _ _ _ _ (T36.setTop (mkF m 73 #[.val (.ref a1), .val (.long v37), .second, .val (.int (2 : Int32)), .val (.int v34)] []))
                refine OutW.back (fun t k => XS.iconst X36.here hx rfl (hb hby d4_73) k) ?_
                show OutW _ _ _ _ _ _ _ (T36.setTop (mkF m 74 #[.val (.ref a1), .val (.long v37), .second, .val (.int (2 : Int32)), .val (.int v34)] [(.int (-1 : Int32))]))
                refine OutW.back (fun t k => XS.goto X36.here hx rfl (pc0 := 74) (pc' := 79) rfl (hb hby d4_74) (by decide) (by decide) k) ?_
                show OutW _ _ _ _ _ _ _ (T36.setTop (mkF m 79 #[.val (.ref a1), .val (.long v37), .second, .val (.int (2 : Int32)), .val (.int v34)] [(.int (-1 : Int32))]))
                refine OutW.retI X36 hx Bd.returns hlk (hb hby d4_79) (by decide) (by decide) ?_
                show Q4 Z a1 b2 w_p nn vs kk B h0 n0 _ T36.heap _
                rw [e36]
                subst hv_v37 hv_v34 hv_v24 hv_v21 hv_v11 hv_v8
                exact ⟨by rw [nxt, if_pos c18_4, if_neg c62_12, if_pos c18_17, if_neg c62_25, if_pos c18_30, if_pos c62_38, if_pos c70_39], N36, K36, (by rw [nxt_position, if_pos c18_4, if_neg c62_12, if_pos c18_17, if_neg c62_25, if_pos c18_30, if_pos c62_38]; exact F_position_a1), F_bytes_a1⟩
              · skip
                refine OutW.back (fun t k => XS.ifYes X36.here hx rfl (pc0 := 70) (pc' := 77) rfl (hb hby d4_70) rfl ((if0 _ _).trans (flt (fun q => c70_39 ((lw_gt _ _).mp q))).2.2.2) (by decide) (by decide) k) ?_
                show OutW _ _ _ _ _ _ _ (T36.setTop (mkF m 77 #[.val (.ref a1), .val (.long v37), .second, .val (.int (2 : Int32)), .val (.int v34)] []))
                refine OutW.back (fun t k => XS.lloadN X36.here hx rfl (hb hby d4_77) rfl  k) ?_
                show OutW _ _ _ _ _ _ _ (T36.setTop (mkF m 78 #[.val (.ref a1), .val (.long v37), .second, .val (.int (2 : Int32)), .val (.int v34)] [(.long v37)]))
                refine OutW.back (fun t k => XS.l2i X36.here hx rfl (hb hby d4_78) rfl k) ?_
                show OutW _ _ _ _ _ _ _ (T36.setTop (mkF m 79 #[.val (.ref a1), .val (.long v37), .second, .val (.int (2 : Int32)), .val (.int v34)] [(.int v37.toInt32)]))
                refine OutW.retI X36 hx Bd.returns hlk (hb hby d4_79) (by decide) (by decide) ?_
                show Q4 Z a1 b2 w_p nn vs kk B h0 n0 _ T36.heap _
                rw [e36]
                subst hv_v37 hv_v34 hv_v24 hv_v21 hv_v11 hv_v8
                exact ⟨by rw [nxt, if_pos c18_4, if_neg c62_12, if_pos c18_17, if_neg c62_25, if_pos c18_30, if_pos c62_38, if_neg c70_39], N36, K36, (by rw [nxt_position, if_pos c18_4, if_neg c62_12, if_pos c18_17, if_neg c62_25, if_pos c18_30, if_pos c62_38]; exact F_position_a1), F_bytes_a1⟩
            · skip
              refine OutW.back (fun t k => XS.ifYes X36.here hx rfl (pc0 := 62) (pc' := 80) rfl (hb hby d4_62) rfl ((if0 _ _).trans (feq c62_38).2) (by decide) (by decide) k) ?_
              show OutW _ _ _ _ _ _ _ (T36.setTop (mkF m 80 #[.val (.ref a1), .val (.long v37), .second, .val (.int (2 : Int32)), .val (.int v34)] []))
              refine OutW.back (fun t k => XS.iinc X36.here hx rfl (hb hby d4_80) rfl (l' := #[.val (.ref a1), .val (.long v37), .second, .val (.int ((2 : Int32) + (1 : Int32))), .val (.int v34)]) rfl k) ?_
              show OutW _ _ _ _ _ _ _ (T36.setTop (mkF m 83 #[.val (.ref a1), .val (.long v37), .second, .val (.int ((2 : Int32) + (1 : Int32))), .val (.int v34)] []))
              rw [show ((2 : Int32) + (1 : Int32)) = (3 : Int32) from by decide]
              refine OutW.back (fun t k => XS.goto X36.here hx rfl (pc0 := 83) (pc' := 4) rfl (hb hby d4_83) (by decide) (by decide) k) ?_
              show OutW _ _ _ _ _ _ _ (T36.setTop (mkF m 4 #[.val (.ref a1), .val (.long v37), .second, .val (.int (3 : Int32)), .val (.int v34)] []))
              refine OutW.back (fun t k => XS.iloadN X36.here hx rfl (hb hby d4_4) rfl  k) ?_
              show OutW _ _ _ _ _ _ _ (T36.setTop (mkF m 5 #[.val (.ref a1), .val (.long v37), .second, .val (.int (3 : Int32)), .val (.int v34)] [(.int (3 : Int32))]))
              refine OutW.back (fun t k => XS.iconst X36.here hx rfl (hb hby d4_5) k) ?_
              show OutW _ _ _ _ _ _ _ (T36.setTop (mkF m 6 #[.val (.ref a1), .val (.long v37), .second, .val (.int (3 : Int32)), .val (.int v34)] [(.int (5 : Int32)), (.int (3 : Int32))]))
              refine OutW.back (fun t k => XS.icmpNo X36.here hx rfl (hb hby d4_6) rfl (tlt (by decide : (3 : Int32) < (5 : Int32))).2.1 k) ?_
              show OutW _ _ _ _ _ _ _ (T36.setTop (mkF m 9 #[.val (.ref a1), .val (.long v37), .second, .val (.int (3 : Int32)), .val (.int v34)] []))
              refine OutW.back (fun t k => XS.aloadN X36.here hx rfl (hb hby d4_9) rfl rfl  k) ?_
              show OutW _ _ _ _ _ _ _ (T36.setTop (mkF m 10 #[.val (.ref a1), .val (.long v37), .second, .val (.int (3 : Int32)), .val (.int v34)] [(.ref a1)]))
              obtain ⟨T40, X40, e40, st40⟩ := getF X36 hx hZ hown (host := "") (Or.inl (hw _ (List.mem_of_getElem? (i := 17) rfl))) Via.refl e36 F_position_a1 (g := (mkF m 10 #[.val (.ref a1), .val (.long v37), .second, .val (.int (3 : Int32)), .val (.int v34)] [(.ref a1)])) rfl rfl (hb hby d4_10)
              refine OutW.back st40 ?_
              show OutW _ _ _ _ _ _ _ (T40.setTop (mkF m 13 #[.val (.ref a1), .val (.long v37), .second, .val (.int (3 : Int32)), .val (.int v34)] [(.int (((w_p + (1 : Int32)) + (1 : Int32)) + (1 : Int32)))]))
              refine OutW.back (fun t k => XS.aloadN X40.here hx rfl (hb hby d4_13) rfl rfl  k) ?_
              show OutW _ _ _ _ _ _ _ (T40.setTop (mkF m 14 #[.val (.ref a1), .val (.long v37), .second, .val (.int (3 : Int32)), .val (.int v34)] [(.ref a1), (.int (((w_p + (1 : Int32)) + (1 : Int32)) + (1 : Int32)))]))
              obtain ⟨T41, X41, e41, st41⟩ := getF X40 hx hZ hown (host := "") (Or.inl (hw _ (List.mem_of_getElem? (i := 10) rfl))) Via.refl e40 F_bytes_a1 (g := (mkF m 14 #[.val (.ref a1), .val (.long v37), .second, .val (.int (3 : Int32)), .val (.int v34)] [(.ref a1), (.int (((w_p + (1 : Int32)) + (1 : Int32)) + (1 : Int32)))])) rfl rfl (hb hby d4_14)
              refine OutW.back st41 ?_
              show OutW _ _ _ _ _ _ _ (T41.setTop (mkF m 17 #[.val (.ref a1), .val (.long v37), .second, .val (.int (3 : Int32)), .val (.int v34)] [(.ref b2), (.int (((w_p + (1 : Int32)) + (1 : Int32)) + (1 : Int32)))]))
              obtain ⟨cl42, Ar42, Qk42, Sz42, Nn42, Hh42, Gg42⟩ := id V_b2
              refine OutW.back (X41.arraylength hx (by rw [e41]; exact Ar42.1) (State.isArrayOf_alike hZ.alike Ar42.2.1) (g := (mkF m 17 #[.val (.ref a1), .val (.long v37), .second, .val (.int (3 : Int32)), .val (.int v34)] [(.ref b2), (.int (((w_p + (1 : Int32)) + (1 : Int32)) + (1 : Int32)))])) rfl rfl (hb hby d4_17)) ?_
              rw [len_of Sz42 Nn42]
              show OutW _ _ _ _ _ _ _ (T41.setTop (mkF m 18 #[.val (.ref a1), .val (.long v37), .second, .val (.int (3 : Int32)), .val (.int v34)] [(.int nn), (.int (((w_p + (1 : Int32)) + (1 : Int32)) + (1 : Int32)))]))
              by_cases c18_43 : (((w_p + (1 : Int32)) + (1 : Int32)) + (1 : Int32)) < nn
              · skip
                refine OutW.back (fun t k => XS.icmpNo X41.here hx rfl (hb hby d4_18) rfl (tlt c18_43).2.1 k) ?_
                show OutW _ _ _ _ _ _ _ (T41.setTop (mkF m 21 #[.val (.ref a1), .val (.long v37), .second, .val (.int (3 : Int32)), .val (.int v34)] []))
                refine OutW.back (fun t k => XS.aloadN X41.here hx rfl (hb hby d4_21) rfl rfl  k) ?_
                show OutW _ _ _ _ _ _ _ (T41.setTop (mkF m 22 #[.val (.ref a1), .val (.long v37), .second, .val (.int (3 : Int32)), .val (.int v34)] [(.ref a1)]))
                obtain ⟨T44, X44, e44, st44⟩ := getF X41 hx hZ hown (host := "") (Or.inl (hw _ (List.mem_of_getElem? (i := 10) rfl))) Via.refl e41 F_bytes_a1 (g := (mkF m 22 #[.val (.ref a1), .val (.long v37), .second, .val (.int (3 : Int32)), .val (.int v34)] [(.ref a1)])) rfl rfl (hb hby d4_22)
                refine OutW.back st44 ?_
                show OutW _ _ _ _ _ _ _ (T44.setTop (mkF m 25 #[.val (.ref a1), .val (.long v37), .second, .val (.int (3 : Int32)), .val (.int v34)] [(.ref b2)]))
                refine OutW.back (fun t k => XS.aloadN X44.here hx rfl (hb hby d4_25) rfl rfl  k) ?_
                show OutW _ _ _ _ _ _ _ (T44.setTop (mkF m 26 #[.val (.ref a1), .val (.long v37), .second, .val (.int (3 : Int32)), .val (.int v34)] [(.ref a1), (.ref b2)]))
                obtain ⟨T45, X45, e45, st45⟩ := getF X44 hx hZ hown (host := "") (Or.inl (hw _ (List.mem_of_getElem? (i := 17) rfl))) Via.refl e44 F_position_a1 (g := (mkF m 26 #[.val (.ref a1), .val (.long v37), .second, .val (.int (3 : Int32)), .val (.int v34)] [(.ref a1), (.ref b2)])) rfl rfl (hb hby d4_26)
                refine OutW.back st45 ?_
                show OutW _ _ _ _ _ _ _ (T45.setTop (mkF m 29 #[.val (.ref a1), .val (.long v37), .second, .val (.int (3 : Int32)), .val (.int v34)] [(.int (((w_p + (1 : Int32)) + (1 : Int32)) + (1 : Int32))), (.ref b2)]))
                have hin_29 : ¬ (((w_p + (1 : Int32)) + (1 : Int32)) + (1 : Int32)) < 0 ∧ (((w_p + (1 : Int32)) + (1 : Int32)) + (1 : Int32)) < nn := ⟨(own_succ (own_succ (own_succ hp c18_4) c18_17) c18_30), c18_43⟩
                have hat_29 := hB (((w_p + (1 : Int32)) + (1 : Int32)) + (1 : Int32)) hin_29.1 hin_29.2
                obtain ⟨cl46, Ar46, Qk46, Sz46, Nn46, Hh46, Gg46⟩ := id V_b2
                have hin46 : ¬ ((((w_p + (1 : Int32)) + (1 : Int32)) + (1 : Int32)) < 0 ∨ cl46.slots.size ≤ ((((w_p + (1 : Int32)) + (1 : Int32)) + (1 : Int32))).toNatClampNeg) := inb_of Sz46 hin_29
                refine OutW.back (X45.baloadBytes hx (j := (((w_p + (1 : Int32)) + (1 : Int32)) + (1 : Int32))) (v := (.int (B (((w_p + (1 : Int32)) + (1 : Int32)) + (1 : Int32))))) (by rw [e45]; exact Ar46.1) (State.isArrayOf_alike hZ.alike Ar46.2.1) Ar46.2.2 hin46 (Hh46.at hin46 hat_29) (g := (mkF m 29 #[.val (.ref a1), .val (.long v37), .second, .val (.int (3 : Int32)), .val (.int v34)] [(.int (((w_p + (1 : Int32)) + (1 : Int32)) + (1 : Int32))), (.ref b2)])) rfl rfl (hb hby d4_29)) ?_
                show OutW _ _ _ _ _ _ _ (T45.setTop (mkF m 30 #[.val (.ref a1), .val (.long v37), .second, .val (.int (3 : Int32)), .val (.int v34)] [(.int (B (((w_p + (1 : Int32)) + (1 : Int32)) + (1 : Int32))))]))
                generalize hv_v47 : (B (((w_p + (1 : Int32)) + (1 : Int32)) + (1 : Int32))) = v47
                refine OutW.back (fun t k => XS.istore X45.here hx rfl (hb hby d4_30) rfl (l' := #[.val (.ref a1), .val (.long v37), .second, .val (.int (3 : Int32)), .val (.int v47)]) rfl k) ?_
                show OutW _ _ _ _ _ _ _ (T45.setTop (mkF m 32 #[.val (.ref a1), .val (.long v37), .second, .val (.int (3 : Int32)), .val (.int v47)] []))
                refine OutW.back (fun t k => XS.aloadN X45.here hx rfl (hb hby d4_32) rfl rfl  k) ?_
                show OutW _ _ _ _ _ _ _ (T45.setTop (mkF m 33 #[.val (.ref a1), .val (.long v37), .second, .val (.int (3 : Int32)), .val (.int v47)] [(.ref a1)]))
                refine OutW.back (fun t k => XS.dup X45.here hx rfl (hb hby d4_33) rfl rfl k) ?_
                show OutW _ _ _ _ _ _ _ (T45.setTop (mkF m 34 #[.val (.ref a1), .val (.long v37), .second, .val (.int (3 : Int32)), .val (.int v47)] [(.ref a1), (.ref a1)]))
                obtain ⟨T48, X48, e48, st48⟩ := getF X45 hx hZ hown (host := "") (Or.inl (hw _ (List.mem_of_getElem? (i := 17) rfl))) Via.refl e45 F_position_a1 (g := (mkF m 34 #[.val (.ref a1), .val (.long v37), .second, .val (.int (3 : Int32)), .val (.int v47)] [(.ref a1), (.ref a1)])) rfl rfl (hb hby d4_34)
                refine OutW.back st48 ?_
                show OutW _ _ _ _ _ _ _ (T48.setTop (mkF m 37 #[.val (.ref a1), .val (.long v37), .second, .val (.int (3 : Int32)), .val (.int v47)] [(.int (((w_p + (1 : Int32)) + (1 : Int32)) + (1 : Int32))), (.ref a1)]))
                refine OutW.back (fun t k => XS.iconst X48.here hx rfl (hb hby d4_37) k) ?_
                show OutW _ _ _ _ _ _ _ (T48.setTop (mkF m 38 #[.val (.ref a1), .val (.long v37), .second, .val (.int (3 : Int32)), .val (.int v47)] [(.int (1 : Int32)), (.int (((w_p + (1 : Int32)) + (1 : Int32)) + (1 : Int32))), (.ref a1)]))
                refine OutW.back (fun t k => XS.iadd X48.here hx rfl (hb hby d4_38) rfl k) ?_
                show OutW _ _ _ _ _ _ _ (T48.setTop (mkF m 39 #[.val (.ref a1), .val (.long v37), .second, .val (.int (3 : Int32)), .val (.int v47)] [(.int ((((w_p + (1 : Int32)) + (1 : Int32)) + (1 : Int32)) + (1 : Int32))), (.ref a1)]))
                obtain ⟨T49, h49, X49, e49, W49, st49⟩ := putF X48 hx hZ hown (host := "") (Or.inl (hw _ (List.mem_of_getElem? (i := 17) rfl))) Via.refl e48 F_position_a1 E_a1 (Or.inl (hw _ (List.mem_of_getElem? (i := 18) rfl))) (hw _ (List.mem_of_getElem? (i := 2) rfl)) (ty := .int) (by decide) rfl rfl (g := (mkF m 39 #[.val (.ref a1), .val (.long v37), .second, .val (.int (3 : Int32)), .val (.int v47)] [(.int ((((w_p + (1 : Int32)) + (1 : Int32)) + (1 : Int32)) + (1 : Int32))), (.ref a1)])) rfl rfl (hb hby d4_39)
                have E_a1 := E_a1.wr W49
                have F_bytes_a1 := F_bytes_a1.other W49 (Or.inr (slot_ne (Or.inr (hw _ (List.mem_of_getElem? (i := 11) rfl))) (Or.inl (hw _ (List.mem_of_getElem? (i := 18) rfl))) (by decide) (t := (.array .byte)) (t' := .int) (by decide) (by decide)))
                have F_position_a1 := F_position_a1.same W49
                have V_b2 := V_b2.other W49 ne_b2_a1
                have N49 := Fr.snoc X49 N36 g_a1
                have Z49 : n0 ≤ h49.size := Nat.le_trans Z36 (Keep.of_wr W49).1
                have K49 := K36.wr W49 (Or.inl (List.mem_of_getElem? (i := 0) rfl))
                refine OutW.back st49 ?_
                show OutW _ _ _ _ _ _ _ (T49.setTop (mkF m 42 #[.val (.ref a1), .val (.long v37), .second, .val (.int (3 : Int32)), .val (.int v47)] []))
                refine OutW.back (fun t k => XS.lloadN X49.here hx rfl (hb hby d4_42) rfl  k) ?_
                show OutW _ _ _ _ _ _ _ (T49.setTop (mkF m 43 #[.val (.ref a1), .val (.long v37), .second, .val (.int (3 : Int32)), .val (.int v47)] [(.long v37)]))
                refine OutW.back (fun t k => XS.iload X49.here hx rfl (hb hby d4_43) rfl  k) ?_
                show OutW _ _ _ _ _ _ _ (T49.setTop (mkF m 45 #[.val (.ref a1), .val (.long v37), .second, .val (.int (3 : Int32)), .val (.int v47)] [(.int v47), (.long v37)]))
                refine OutW.back (fun t k => XS.bipush X49.here hx rfl (hb hby d4_45) k) ?_
                show OutW _ _ _ _ _ _ _ (T49.setTop (mkF m 47 #[.val (.ref a1), .val (.long v37), .second, .val (.int (3 : Int32)), .val (.int v47)] [(.int (127 : Int32)), (.int v47), (.long v37)]))
                refine OutW.back (fun t k => XS.iand X49.here hx rfl (hb hby d4_47) rfl k) ?_
                show OutW _ _ _ _ _ _ _ (T49.setTop (mkF m 48 #[.val (.ref a1), .val (.long v37), .second, .val (.int (3 : Int32)), .val (.int v47)] [(.int (v47 &&& (127 : Int32))), (.long v37)]))
                refine OutW.back (fun t k => XS.i2l X49.here hx rfl (hb hby d4_48) rfl k) ?_
                show OutW _ _ _ _ _ _ _ (T49.setTop (mkF m 49 #[.val (.ref a1), .val (.long v37), .second, .val (.int (3 : Int32)), .val (.int v47)] [(.long (v47 &&& (127 : Int32)).toInt64), (.long v37)]))
                refine OutW.back (fun t k => XS.bipush X49.here hx rfl (hb hby d4_49) k) ?_
                show OutW _ _ _ _ _ _ _ (T49.setTop (mkF m 51 #[.val (.ref a1), .val (.long v37), .second, .val (.int (3 : Int32)), .val (.int v47)] [(.int (7 : Int32)), (.long (v47 &&& (127 : Int32)).toInt64), (.long v37)]))
                refine OutW.back (fun t k => XS.iloadN X49.here hx rfl (hb hby d4_51) rfl  k) ?_
                show OutW _ _ _ _ _ _ _ (T49.setTop (mkF m 52 #[.val (.ref a1), .val (.long v37), .second, .val (.int (3 : Int32)), .val (.int v47)] [(.int (3 : Int32)), (.int (7 : Int32)), (.long (v47 &&& (127 : Int32)).toInt64), (.long v37)]))
                refine OutW.back (fun t k => XS.imul X49.here hx rfl (hb hby d4_52) rfl k) ?_
                show OutW _ _ _ _ _ _ _ (T49.setTop (mkF m 53 #[.val (.ref a1), .val (.long v37), .second, .val (.int (3 : Int32)), .val (.int v47)] [(.int ((7 : Int32) * (3 : Int32))), (.long (v47 &&& (127 : Int32)).toInt64), (.long v37)]))
                rw [show ((7 : Int32) * (3 : Int32)) = (21 : Int32) from by decide]
                refine OutW.back (fun t k => XS.lshl X49.here hx rfl (hb hby d4_53) rfl k) ?_
                show OutW _ _ _ _ _ _ _ (T49.setTop (mkF m 54 #[.val (.ref a1), .val (.long v37), .second, .val (.int (3 : Int32)), .val (.int v47)] [(.long ((v47 &&& (127 : Int32)).toInt64 <<< ((21 : Int32) &&& 0x3f).toInt64)), (.long v37)]))
                refine OutW.back (fun t k => XS.lor X49.here hx rfl (hb hby d4_54) rfl k) ?_
                show OutW _ _ _ _ _ _ _ (T49.setTop (mkF m 55 #[.val (.ref a1), .val (.long v37), .second, .val (.int (3 : Int32)), .val (.int v47)] [(.long (v37 ||| ((v47 &&& (127 : Int32)).toInt64 <<< ((21 : Int32) &&& 0x3f).toInt64)))]))
                generalize hv_v50 : (v37 ||| ((v47 &&& (127 : Int32)).toInt64 <<< ((21 : Int32) &&& 0x3f).toInt64)) = v50
                refine OutW.back (fun t k => XS.lstoreN X49.here hx rfl (hb hby d4_55) rfl (l' := #[.val (.ref a1), .val (.long v50), .second, .val (.int (3 : Int32)), .val (.int v47)]) rfl k) ?_
                show OutW _ _ _ _ _ _ _ (T49.setTop (mkF m 56 #[.val (.ref a1), .val (.long v50), .second, .val (.int (3 : Int32)), .val (.int v47)] []))
                refine OutW.back (fun t k => XS.iload X49.here hx rfl (hb hby d4_56) rfl  k) ?_
                show OutW _ _ _ _ _ _ _ (T49.setTop (mkF m 58 #[.val (.ref a1), .val (.long v50), .second, .val (.int (3 : Int32)), .val (.int v47)] [(.int v47)]))
                refine OutW.back (fun t k => XS.sipush X49.here hx rfl (hb hby d4_58) k) ?_
                show OutW _ _ _ _ _ _ _ (T49.setTop (mkF m 61 #[.val (.ref a1), .val (.long v50), .second, .val (.int (3 : Int32)), .val (.int v47)] [(.int (128 : Int32)), (.int v47)]))
                refine OutW.back (fun t k => XS.iand X49.here hx rfl (hb hby d4_61) rfl k) ?_
                show OutW _ _ _ _ _ _ _ (T49.setTop (mkF m 62 #[.val (.ref a1), .val (.long v50), .second, .val (.int (3 : Int32)), .val (.int v47)] [(.int (v47 &&& (128 : Int32)))]))
                by_cases c62_51 : (v47 &&& (128 : Int32)) = (0 : Int32)
                · skip
                  refine OutW.back (fun t k => XS.ifNo X49.here hx rfl (hb hby d4_62) rfl ((if0 _ _).trans (teq c62_51).2) k) ?_
                  show OutW _ _ _ _ _ _ _ (T49.setTop (mkF m 65 #[.val (.ref a1), .val (.long v50), .second, .val (.int (3 : Int32)), .val (.int v47)] []))
                  refine OutW.back (fun t k => XS.lloadN X49.here hx rfl (hb hby d4_65) rfl  k) ?_
                  show OutW _ _ _ _ _ _ _ (T49.setTop (mkF m 66 #[.val (.ref a1), .val (.long v50), .second, .val (.int (3 : Int32)), .val (.int v47)] [(.long v50)]))
                  refine OutW.back (X49.ldc2Long hx hown (mvT hZ (hw _ (List.mem_of_getElem? (i := 34) rfl))) (g := (mkF m 66 #[.val (.ref a1), .val (.long v50), .second, .val (.int (3 : Int32)), .val (.int v47)] [(.long v50)])) rfl (hb hby d4_66)) ?_
                  show OutW _ _ _ _ _ _ _ (T49.setTop (mkF m 69 #[.val (.ref a1), .val (.long v50), .second, .val (.int (3 : Int32)), .val (.int v47)] [(.long (2147483647 : Int64)), (.long v50)]))
                  refine OutW.back (fun t k => XS.lcmp X49.here hx rfl (hb hby d4_69) rfl k) ?_
                  show OutW _ _ _ _ _ _ _ (T49.setTop (mkF m 70 #[.val (.ref a1), .val (.long v50), .second, .val (.int (3 : Int32)), .val (.int v47)] [(.int (lcmpW v50 (2147483647 : Int64)))]))
                  by_cases c70_52 : (2147483647 : Int64) < v50
                  · skip
                    refine OutW.back (fun t k => XS.ifNo X49.here hx rfl (hb hby d4_70) rfl ((if0 _ _).trans (tlt ((lw_gt _ _).mpr c70_52)).2.2.2) k) ?_
                    show OutW _ _ _ _ _ _ _ (T49.setTop (mkF m 73 #[.val (.ref a1), .val (.long v50), .second, .val (.int (3 : Int32)), .val (.int v47)] []))
                    refine OutW.back (fun t k => XS.iconst X49.here hx rfl (hb hby d4_73) k) ?_
                    show OutW _ _ _ _ _ _ _ (T49.setTop (mkF m 74 #[.val (.ref a1), .val (.long v50), .second, .val (.int (3 : Int32)), .val (.int v47)] [(.int (-1 : Int32))]))
                    refine OutW.back (fun t k => XS.goto X49.here hx rfl (pc0 := 74) (pc' := 79) rfl (hb hby d4_74) (by decide) (by decide) k) ?_
                    show OutW _ _ _ _ _ _ _ (T49.setTop (mkF m 79 #[.val (.ref a1), .val (.long v50), .second, .val (.int (3 : Int32)), .val (.int v47)] [(.int (-1 : Int32))]))
                    refine OutW.retI X49 hx Bd.returns hlk (hb hby d4_79) (by decide) (by decide) ?_
                    show Q4 Z a1 b2 w_p nn vs kk B h0 n0 _ T49.heap _
                    rw [e49]
                    subst hv_v50 hv_v47 hv_v37 hv_v34 hv_v24 hv_v21 hv_v11 hv_v8
                    exact ⟨by rw [nxt, if_pos c18_4, if_neg c62_12, if_pos c18_17, if_neg c62_25, if_pos c18_30, if_neg c62_38, if_pos c18_43, if_pos c62_51, if_pos c70_52], N49, K49, (by rw [nxt_position, if_pos c18_4, if_neg c62_12, if_pos c18_17, if_neg c62_25, if_pos c18_30, if_neg c62_38, if_pos c18_43, if_pos c62_51]; exact F_position_a1), F_bytes_a1⟩
                  · skip
                    refine OutW.back (fun t k => XS.ifYes X49.here hx rfl (pc0 := 70) (pc' := 77) rfl (hb hby d4_70) rfl ((if0 _ _).trans (flt (fun q => c70_52 ((lw_gt _ _).mp q))).2.2.2) (by decide) (by decide) k) ?_
                    show OutW _ _ _ _ _ _ _ (T49.setTop (mkF m 77 #[.val (.ref a1), .val (.long v50), .second, .val (.int (3 : Int32)), .val (.int v47)] []))
                    refine OutW.back (fun t k => XS.lloadN X49.here hx rfl (hb hby d4_77) rfl  k) ?_
                    show OutW _ _ _ _ _ _ _ (T49.setTop (mkF m 78 #[.val (.ref a1), .val (.long v50), .second, .val (.int (3 : Int32)), .val (.int v47)] [(.long v50)]))
                    refine OutW.back (fun t k => XS.l2i X49.here hx rfl (hb hby d4_78) rfl k) ?_
                    show OutW _ _ _ _ _ _ _ (T49.setTop (mkF m 79 #[.val (.ref a1), .val (.long v50), .second, .val (.int (3 : Int32)), .val (.int v47)] [(.int v50.toInt32)]))
                    refine OutW.retI X49 hx Bd.returns hlk (hb hby d4_79) (by decide) (by decide) ?_
                    show Q4 Z a1 b2 w_p nn vs kk B h0 n0 _ T49.heap _
                    rw [e49]
                    subst hv_v50 hv_v47 hv_v37 hv_v34 hv_v24 hv_v21 hv_v11 hv_v8
                    exact ⟨by rw [nxt, if_pos c18_4, if_neg c62_12, if_pos c18_17, if_neg c62_25, if_pos c18_30, if_neg c62_38, if_pos c18_43, if_pos c62_51, if_neg c70_52], N49, K49, (by rw [nxt_position, if_pos c18_4, if_neg c62_12, if_pos c18_17, if_neg c62_25, if_pos c18_30, if_neg c62_38, if_pos c18_43, if_pos c62_51]; exact F_position_a1), F_bytes_a1⟩
                · skip
                  refine OutW.back (fun t k => XS.ifYes X49.here hx rfl (pc0 := 62) (pc' := 80) rfl (hb hby d4_62) rfl ((if0 _ _).trans (feq c62_51).2) (by decide) (by decide) k) ?_
                  show OutW _ _ _ _ _ _ _ (T49.setTop (mkF m 80 #[.val (.ref a1), .val (.long v50), .second, .val (.int (3 : Int32)), .val (.int v47)] []))
                  refine OutW.back (fun t k => XS.iinc X49.here hx rfl (hb hby d4_80) rfl (l' := #[.val (.ref a1), .val (.long v50), .second, .val (.int ((3 : Int32) + (1 : Int32))), .val (.int v47)]) rfl k) ?_
                  show OutW _ _ _ _ _ _ _ (T49.setTop (mkF m 83 #[.val (.ref a1), .val (.long v50), .second, .val (.int ((3 : Int32) + (1 : Int32))), .val (.int v47)] []))
                  rw [show ((3 : Int32) + (1 : Int32)) = (4 : Int32) from by decide]
                  refine OutW.back (fun t k => XS.goto X49.here hx rfl (pc0 := 83) (pc' := 4) rfl (hb hby d4_83) (by decide) (by decide) k) ?_
                  show OutW _ _ _ _ _ _ _ (T49.setTop (mkF m 4 #[.val (.ref a1), .val (.long v50), .second, .val (.int (4 : Int32)), .val (.int v47)] []))
                  refine OutW.back (fun t k => XS.iloadN X49.here hx rfl (hb hby d4_4) rfl  k) ?_
                  show OutW _ _ _ _ _ _ _ (T49.setTop (mkF m 5 #[.val (.ref a1), .val (.long v50), .second, .val (.int (4 : Int32)), .val (.int v47)] [(.int (4 : Int32))]))
                  refine OutW.back (fun t k => XS.iconst X49.here hx rfl (hb hby d4_5) k) ?_
                  show OutW _ _ _ _ _ _ _ (T49.setTop (mkF m 6 #[.val (.ref a1), .val (.long v50), .second, .val (.int (4 : Int32)), .val (.int v47)] [(.int (5 : Int32)), (.int (4 : Int32))]))
                  refine OutW.back (fun t k => XS.icmpNo X49.here hx rfl (hb hby d4_6) rfl (tlt (by decide : (4 : Int32) < (5 : Int32))).2.1 k) ?_
                  show OutW _ _ _ _ _ _ _ (T49.setTop (mkF m 9 #[.val (.ref a1), .val (.long v50), .second, .val (.int (4 : Int32)), .val (.int v47)] []))
                  refine OutW.back (fun t k => XS.aloadN X49.here hx rfl (hb hby d4_9) rfl rfl  k) ?_
                  show OutW _ _ _ _ _ _ _ (T49.setTop (mkF m 10 #[.val (.ref a1), .val (.long v50), .second, .val (.int (4 : Int32)), .val (.int v47)] [(.ref a1)]))
                  obtain ⟨T53, X53, e53, st53⟩ := getF X49 hx hZ hown (host := "") (Or.inl (hw _ (List.mem_of_getElem? (i := 17) rfl))) Via.refl e49 F_position_a1 (g := (mkF m 10 #[.val (.ref a1), .val (.long v50), .second, .val (.int (4 : Int32)), .val (.int v47)] [(.ref a1)])) rfl rfl (hb hby d4_10)
                  refine OutW.back st53 ?_
                  show OutW _ _ _ _ _ _ _ (T53.setTop (mkF m 13 #[.val (.ref a1), .val (.long v50), .second, .val (.int (4 : Int32)), .val (.int v47)] [(.int ((((w_p + (1 : Int32)) + (1 : Int32)) + (1 : Int32)) + (1 : Int32)))]))
                  refine OutW.back (fun t k => XS.aloadN X53.here hx rfl (hb hby d4_13) rfl rfl  k) ?_
                  show OutW _ _ _ _ _ _ _ (T53.setTop (mkF m 14 #[.val (.ref a1), .val (.long v50), .second, .val (.int (4 : Int32)), .val (.int v47)] [(.ref a1), (.int ((((w_p + (1 : Int32)) + (1 : Int32)) + (1 : Int32)) + (1 : Int32)))]))
                  obtain ⟨T54, X54, e54, st54⟩ := getF X53 hx hZ hown (host := "") (Or.inl (hw _ (List.mem_of_getElem? (i := 10) rfl))) Via.refl e53 F_bytes_a1 (g := (mkF m 14 #[.val (.ref a1), .val (.long v50), .second, .val (.int (4 : Int32)), .val (.int v47)] [(.ref a1), (.int ((((w_p + (1 : Int32)) + (1 : Int32)) + (1 : Int32)) + (1 : Int32)))])) rfl rfl (hb hby d4_14)
                  refine OutW.back st54 ?_
                  show OutW _ _ _ _ _ _ _ (T54.setTop (mkF m 17 #[.val (.ref a1), .val (.long v50), .second, .val (.int (4 : Int32)), .val (.int v47)] [(.ref b2), (.int ((((w_p + (1 : Int32)) + (1 : Int32)) + (1 : Int32)) + (1 : Int32)))]))
                  obtain ⟨cl55, Ar55, Qk55, Sz55, Nn55, Hh55, Gg55⟩ := id V_b2
                  refine OutW.back (X54.arraylength hx (by rw [e54]; exact Ar55.1) (State.isArrayOf_alike hZ.alike Ar55.2.1) (g := (mkF m 17 #[.val (.ref a1), .val (.long v50), .second, .val (.int (4 : Int32)), .val (.int v47)] [(.ref b2), (.int ((((w_p + (1 : Int32)) + (1 : Int32)) + (1 : Int32)) + (1 : Int32)))])) rfl rfl (hb hby d4_17)) ?_
                  rw [len_of Sz55 Nn55]
                  show OutW _ _ _ _ _ _ _ (T54.setTop (mkF m 18 #[.val (.ref a1), .val (.long v50), .second, .val (.int (4 : Int32)), .val (.int v47)] [(.int nn), (.int ((((w_p + (1 : Int32)) + (1 : Int32)) + (1 : Int32)) + (1 : Int32)))]))
                  by_cases c18_56 : ((((w_p + (1 : Int32)) + (1 : Int32)) + (1 : Int32)) + (1 : Int32)) < nn
                  · skip
                    refine OutW.back (fun t k => XS.icmpNo X54.here hx rfl (hb hby d4_18) rfl (tlt c18_56).2.1 k) ?_
                    show OutW _ _ _ _ _ _ _ (T54.setTop (mkF m 21 #[.val (.ref a1), .val (.long v50), .second, .val (.int (4 : Int32)), .val (.int v47)] []))
                    refine OutW.back (fun t k => XS.aloadN X54.here hx rfl (hb hby d4_21) rfl rfl  k) ?_
                    show OutW _ _ _ _ _ _ _ (T54.setTop (mkF m 22 #[.val (.ref a1), .val (.long v50), .second, .val (.int (4 : Int32)), .val (.int v47)] [(.ref a1)]))
                    obtain ⟨T57, X57, e57, st57⟩ := getF X54 hx hZ hown (host := "") (Or.inl (hw _ (List.mem_of_getElem? (i := 10) rfl))) Via.refl e54 F_bytes_a1 (g := (mkF m 22 #[.val (.ref a1), .val (.long v50), .second, .val (.int (4 : Int32)), .val (.int v47)] [(.ref a1)])) rfl rfl (hb hby d4_22)
                    refine OutW.back st57 ?_
                    show OutW _ _ _ _ _ _ _ (T57.setTop (mkF m 25 #[.val (.ref a1), .val (.long v50), .second, .val (.int (4 : Int32)), .val (.int v47)] [(.ref b2)]))
                    refine OutW.back (fun t k => XS.aloadN X57.here hx rfl (hb hby d4_25) rfl rfl  k) ?_
                    show OutW _ _ _ _ _ _ _ (T57.setTop (mkF m 26 #[.val (.ref a1), .val (.long v50), .second, .val (.int (4 : Int32)), .val (.int v47)] [(.ref a1), (.ref b2)]))
                    obtain ⟨T58, X58, e58, st58⟩ := getF X57 hx hZ hown (host := "") (Or.inl (hw _ (List.mem_of_getElem? (i := 17) rfl))) Via.refl e57 F_position_a1 (g := (mkF m 26 #[.val (.ref a1), .val (.long v50), .second, .val (.int (4 : Int32)), .val (.int v47)] [(.ref a1), (.ref b2)])) rfl rfl (hb hby d4_26)
                    refine OutW.back st58 ?_
                    show OutW _ _ _ _ _ _ _ (T58.setTop (mkF m 29 #[.val (.ref a1), .val (.long v50), .second, .val (.int (4 : Int32)), .val (.int v47)] [(.int ((((w_p + (1 : Int32)) + (1 : Int32)) + (1 : Int32)) + (1 : Int32))), (.ref b2)]))
                    have hin_29 : ¬ ((((w_p + (1 : Int32)) + (1 : Int32)) + (1 : Int32)) + (1 : Int32)) < 0 ∧ ((((w_p + (1 : Int32)) + (1 : Int32)) + (1 : Int32)) + (1 : Int32)) < nn := ⟨(own_succ (own_succ (own_succ (own_succ hp c18_4) c18_17) c18_30) c18_43), c18_56⟩
                    have hat_29 := hB ((((w_p + (1 : Int32)) + (1 : Int32)) + (1 : Int32)) + (1 : Int32)) hin_29.1 hin_29.2
                    obtain ⟨cl59, Ar59, Qk59, Sz59, Nn59, Hh59, Gg59⟩ := id V_b2
                    have hin59 : ¬ (((((w_p + (1 : Int32)) + (1 : Int32)) + (1 : Int32)) + (1 : Int32)) < 0 ∨ cl59.slots.size ≤ (((((w_p + (1 : Int32)) + (1 : Int32)) + (1 : Int32)) + (1 : Int32))).toNatClampNeg) := inb_of Sz59 hin_29
                    refine OutW.back (X58.baloadBytes hx (j := ((((w_p + (1 : Int32)) + (1 : Int32)) + (1 : Int32)) + (1 : Int32))) (v := (.int (B ((((w_p + (1 : Int32)) + (1 : Int32)) + (1 : Int32)) + (1 : Int32))))) (by rw [e58]; exact Ar59.1) (State.isArrayOf_alike hZ.alike Ar59.2.1) Ar59.2.2 hin59 (Hh59.at hin59 hat_29) (g := (mkF m 29 #[.val (.ref a1), .val (.long v50), .second, .val (.int (4 : Int32)), .val (.int v47)] [(.int ((((w_p + (1 : Int32)) + (1 : Int32)) + (1 : Int32)) + (1 : Int32))), (.ref b2)])) rfl rfl (hb hby d4_29)) ?_
                    show OutW _ _ _ _ _ _ _ (T58.setTop (mkF m 30 #[.val (.ref a1), .val (.long v50), .second, .val (.int (4 : Int32)), .val (.int v47)] [(.int (B ((((w_p + (1 : Int32)) + (1 : Int32)) + (1 : Int32)) + (1 : Int32))))]))
                    generalize hv_v60 : (B ((((w_p + (1 : Int32)) + (1 : Int32)) + (1 : Int32)) + (1 : Int32))) = v60
                    refine OutW.back (fun t k => XS.istore X58.here hx rfl (hb hby d4_30) rfl (l' := #[.val (.ref a1), .val (.long v50), .second, .val (.int (4 : Int32)), .val (.int v60)]) rfl k) ?_
                    show OutW _ _ _ _ _ _ _ (T58.setTop (mkF m 32 #[.val (.ref a1), .val (.long v50), .second, .val (.int (4 : Int32)), .val (.int v60)] []))
                    refine OutW.back (fun t k => XS.aloadN X58.here hx rfl (hb hby d4_32) rfl rfl  k) ?_
                    show OutW _ _ _ _ _ _ _ (T58.setTop (mkF m 33 #[.val (.ref a1), .val (.long v50), .second, .val (.int (4 : Int32)), .val (.int v60)] [(.ref a1)]))
                    refine OutW.back (fun t k => XS.dup X58.here hx rfl (hb hby d4_33) rfl rfl k) ?_
                    show OutW _ _ _ _ _ _ _ (T58.setTop (mkF m 34 #[.val (.ref a1), .val (.long v50), .second, .val (.int (4 : Int32)), .val (.int v60)] [(.ref a1), (.ref a1)]))
                    obtain ⟨T61, X61, e61, st61⟩ := getF X58 hx hZ hown (host := "") (Or.inl (hw _ (List.mem_of_getElem? (i := 17) rfl))) Via.refl e58 F_position_a1 (g := (mkF m 34 #[.val (.ref a1), .val (.long v50), .second, .val (.int (4 : Int32)), .val (.int v60)] [(.ref a1), (.ref a1)])) rfl rfl (hb hby d4_34)
                    refine OutW.back st61 ?_
                    show OutW _ _ _ _ _ _ _ (T61.setTop (mkF m 37 #[.val (.ref a1), .val (.long v50), .second, .val (.int (4 : Int32)), .val (.int v60)] [(.int ((((w_p + (1 : Int32)) + (1 : Int32)) + (1 : Int32)) + (1 : Int32))), (.ref a1)]))
                    refine OutW.back (fun t k => XS.iconst X61.here hx rfl (hb hby d4_37) k) ?_
                    show OutW _ _ _ _ _ _ _ (T61.setTop (mkF m 38 #[.val (.ref a1), .val (.long v50), .second, .val (.int (4 : Int32)), .val (.int v60)] [(.int (1 : Int32)), (.int ((((w_p + (1 : Int32)) + (1 : Int32)) + (1 : Int32)) + (1 : Int32))), (.ref a1)]))
                    refine OutW.back (fun t k => XS.iadd X61.here hx rfl (hb hby d4_38) rfl k) ?_
                    show OutW _ _ _ _ _ _ _ (T61.setTop (mkF m 39 #[.val (.ref a1), .val (.long v50), .second, .val (.int (4 : Int32)), .val (.int v60)] [(.int (((((w_p + (1 : Int32)) + (1 : Int32)) + (1 : Int32)) + (1 : Int32)) + (1 : Int32))), (.ref a1)]))
                    obtain ⟨T62, h62, X62, e62, W62, st62⟩ := putF X61 hx hZ hown (host := "") (Or.inl (hw _ (List.mem_of_getElem? (i := 17) rfl))) Via.refl e61 F_position_a1 E_a1 (Or.inl (hw _ (List.mem_of_getElem? (i := 18) rfl))) (hw _ (List.mem_of_getElem? (i := 2) rfl)) (ty := .int) (by decide) rfl rfl (g := (mkF m 39 #[.val (.ref a1), .val (.long v50), .second, .val (.int (4 : Int32)), .val (.int v60)] [(.int (((((w_p + (1 : Int32)) + (1 : Int32)) + (1 : Int32)) + (1 : Int32)) + (1 : Int32))), (.ref a1)])) rfl rfl (hb hby d4_39)
                    have E_a1 := E_a1.wr W62
                    have F_bytes_a1 := F_bytes_a1.other W62 (Or.inr (slot_ne (Or.inr (hw _ (List.mem_of_getElem? (i := 11) rfl))) (Or.inl (hw _ (List.mem_of_getElem? (i := 18) rfl))) (by decide) (t := (.array .byte)) (t' := .int) (by decide) (by decide)))
                    have F_position_a1 := F_position_a1.same W62
                    have V_b2 := V_b2.other W62 ne_b2_a1
                    have N62 := Fr.snoc X62 N49 g_a1
                    have Z62 : n0 ≤ h62.size := Nat.le_trans Z49 (Keep.of_wr W62).1
                    have K62 := K49.wr W62 (Or.inl (List.mem_of_getElem? (i := 0) rfl))
                    refine OutW.back st62 ?_
                    show OutW _ _ _ _ _ _ _ (T62.setTop (mkF m 42 #[.val (.ref a1), .val (.long v50), .second, .val (.int (4 : Int32)), .val (.int v60)] []))
                    refine OutW.back (fun t k => XS.lloadN X62.here hx rfl (hb hby d4_42) rfl  k) ?_
                    show OutW _ _ _ _ _ _ _ (T62.setTop (mkF m 43 #[.val (.ref a1), .val (.long v50), .second, .val (.int (4 : Int32)), .val (.int v60)] [(.long v50)]))
                    refine OutW.back (fun t k => XS.iload X62.here hx rfl (hb hby d4_43) rfl  k) ?_
                    show OutW _ _ _ _ _ _ _ (T62.setTop (mkF m 45 #[.val (.ref a1), .val (.long v50), .second, .val (.int (4 : Int32)), .val (.int v60)] [(.int v60), (.long v50)]))
                    refine OutW.back (fun t k => XS.bipush X62.here hx rfl (hb hby d4_45) k) ?_
                    show OutW _ _ _ _ _ _ _ (T62.setTop (mkF m 47 #[.val (.ref a1), .val (.long v50), .second, .val (.int (4 : Int32)), .val (.int v60)] [(.int (127 : Int32)), (.int v60), (.long v50)]))
                    refine OutW.back (fun t k => XS.iand X62.here hx rfl (hb hby d4_47) rfl k) ?_
                    show OutW _ _ _ _ _ _ _ (T62.setTop (mkF m 48 #[.val (.ref a1), .val (.long v50), .second, .val (.int (4 : Int32)), .val (.int v60)] [(.int (v60 &&& (127 : Int32))), (.long v50)]))
                    refine OutW.back (fun t k => XS.i2l X62.here hx rfl (hb hby d4_48) rfl k) ?_
                    show OutW _ _ _ _ _ _ _ (T62.setTop (mkF m 49 #[.val (.ref a1), .val (.long v50), .second, .val (.int (4 : Int32)), .val (.int v60)] [(.long (v60 &&& (127 : Int32)).toInt64), (.long v50)]))
                    refine OutW.back (fun t k => XS.bipush X62.here hx rfl (hb hby d4_49) k) ?_
                    show OutW _ _ _ _ _ _ _ (T62.setTop (mkF m 51 #[.val (.ref a1), .val (.long v50), .second, .val (.int (4 : Int32)), .val (.int v60)] [(.int (7 : Int32)), (.long (v60 &&& (127 : Int32)).toInt64), (.long v50)]))
                    refine OutW.back (fun t k => XS.iloadN X62.here hx rfl (hb hby d4_51) rfl  k) ?_
                    show OutW _ _ _ _ _ _ _ (T62.setTop (mkF m 52 #[.val (.ref a1), .val (.long v50), .second, .val (.int (4 : Int32)), .val (.int v60)] [(.int (4 : Int32)), (.int (7 : Int32)), (.long (v60 &&& (127 : Int32)).toInt64), (.long v50)]))
                    refine OutW.back (fun t k => XS.imul X62.here hx rfl (hb hby d4_52) rfl k) ?_
                    show OutW _ _ _ _ _ _ _ (T62.setTop (mkF m 53 #[.val (.ref a1), .val (.long v50), .second, .val (.int (4 : Int32)), .val (.int v60)] [(.int ((7 : Int32) * (4 : Int32))), (.long (v60 &&& (127 : Int32)).toInt64), (.long v50)]))
                    rw [show ((7 : Int32) * (4 : Int32)) = (28 : Int32) from by decide]
                    refine OutW.back (fun t k => XS.lshl X62.here hx rfl (hb hby d4_53) rfl k) ?_
                    show OutW _ _ _ _ _ _ _ (T62.setTop (mkF m 54 #[.val (.ref a1), .val (.long v50), .second, .val (.int (4 : Int32)), .val (.int v60)] [(.long ((v60 &&& (127 : Int32)).toInt64 <<< ((28 : Int32) &&& 0x3f).toInt64)), (.long v50)]))
                    refine OutW.back (fun t k => XS.lor X62.here hx rfl (hb hby d4_54) rfl k) ?_
                    show OutW _ _ _ _ _ _ _ (T62.setTop (mkF m 55 #[.val (.ref a1), .val (.long v50), .second, .val (.int (4 : Int32)), .val (.int v60)] [(.long (v50 ||| ((v60 &&& (127 : Int32)).toInt64 <<< ((28 : Int32) &&& 0x3f).toInt64)))]))
                    generalize hv_v63 : (v50 ||| ((v60 &&& (127 : Int32)).toInt64 <<< ((28 : Int32) &&& 0x3f).toInt64)) = v63
                    refine OutW.back (fun t k => XS.lstoreN X62.here hx rfl (hb hby d4_55) rfl (l' := #[.val (.ref a1), .val (.long v63), .second, .val (.int (4 : Int32)), .val (.int v60)]) rfl k) ?_
                    show OutW _ _ _ _ _ _ _ (T62.setTop (mkF m 56 #[.val (.ref a1), .val (.long v63), .second, .val (.int (4 : Int32)), .val (.int v60)] []))
                    refine OutW.back (fun t k => XS.iload X62.here hx rfl (hb hby d4_56) rfl  k) ?_
                    show OutW _ _ _ _ _ _ _ (T62.setTop (mkF m 58 #[.val (.ref a1), .val (.long v63), .second, .val (.int (4 : Int32)), .val (.int v60)] [(.int v60)]))
                    refine OutW.back (fun t k => XS.sipush X62.here hx rfl (hb hby d4_58) k) ?_
                    show OutW _ _ _ _ _ _ _ (T62.setTop (mkF m 61 #[.val (.ref a1), .val (.long v63), .second, .val (.int (4 : Int32)), .val (.int v60)] [(.int (128 : Int32)), (.int v60)]))
                    refine OutW.back (fun t k => XS.iand X62.here hx rfl (hb hby d4_61) rfl k) ?_
                    show OutW _ _ _ _ _ _ _ (T62.setTop (mkF m 62 #[.val (.ref a1), .val (.long v63), .second, .val (.int (4 : Int32)), .val (.int v60)] [(.int (v60 &&& (128 : Int32)))]))
                    by_cases c62_64 : (v60 &&& (128 : Int32)) = (0 : Int32)
                    · skip
                      refine OutW.back (fun t k => XS.ifNo X62.here hx rfl (hb hby d4_62) rfl ((if0 _ _).trans (teq c62_64).2) k) ?_
                      show OutW _ _ _ _ _ _ _ (T62.setTop (mkF m 65 #[.val (.ref a1), .val (.long v63), .second, .val (.int (4 : Int32)), .val (.int v60)] []))
                      refine OutW.back (fun t k => XS.lloadN X62.here hx rfl (hb hby d4_65) rfl  k) ?_
                      show OutW _ _ _ _ _ _ _ (T62.setTop (mkF m 66 #[.val (.ref a1), .val (.long v63), .second, .val (.int (4 : Int32)), .val (.int v60)] [(.long v63)]))
                      refine OutW.back (X62.ldc2Long hx hown (mvT hZ (hw _ (List.mem_of_getElem? (i := 34) rfl))) (g := (mkF m 66 #[.val (.ref a1), .val (.long v63), .second, .val (.int (4 : Int32)), .val (.int v60)] [(.long v63)])) rfl (hb hby d4_66)) ?_
                      show OutW _ _ _ _ _ _ _ (T62.setTop (mkF m 69 #[.val (.ref a1), .val (.long v63), .second, .val (.int (4 : Int32)), .val (.int v60)] [(.long (2147483647 : Int64)), (.long v63)]))
                      refine OutW.back (fun t k => XS.lcmp X62.here hx rfl (hb hby d4_69) rfl k) ?_
                      show OutW _ _ _ _ _ _ _ (T62.setTop (mkF m 70 #[.val (.ref a1), .val (.long v63), .second, .val (.int (4 : Int32)), .val (.int v60)] [(.int (lcmpW v63 (2147483647 : Int64)))]))
                      by_cases c70_65 : (2147483647 : Int64) < v63
                      · skip
                        refine OutW.back (fun t k => XS.ifNo X62.here hx rfl (hb hby d4_70) rfl ((if0 _ _).trans (tlt ((lw_gt _ _).mpr c70_65)).2.2.2) k) ?_
                        show OutW _ _ _ _ _ _ _ (T62.setTop (mkF m 73 #[.val (.ref a1), .val (.long v63), .second, .val (.int (4 : Int32)), .val (.int v60)] []))
                        refine OutW.back (fun t k => XS.iconst X62.here hx rfl (hb hby d4_73) k) ?_
                        show OutW _ _ _ _ _ _ _ (T62.setTop (mkF m 74 #[.val (.ref a1), .val (.long v63), .second, .val (.int (4 : Int32)), .val (.int v60)] [(.int (-1 : Int32))]))
                        refine OutW.back (fun t k => XS.goto X62.here hx rfl (pc0 := 74) (pc' := 79) rfl (hb hby d4_74) (by decide) (by decide) k) ?_
                        show OutW _ _ _ _ _ _ _ (T62.setTop (mkF m 79 #[.val (.ref a1), .val (.long v63), .second, .val (.int (4 : Int32)), .val (.int v60)] [(.int (-1 : Int32))]))
                        refine OutW.retI X62 hx Bd.returns hlk (hb hby d4_79) (by decide) (by decide) ?_
                        show Q4 Z a1 b2 w_p nn vs kk B h0 n0 _ T62.heap _
                        rw [e62]
                        subst hv_v63 hv_v60 hv_v50 hv_v47 hv_v37 hv_v34 hv_v24 hv_v21 hv_v11 hv_v8
                        exact ⟨by rw [nxt, if_pos c18_4, if_neg c62_12, if_pos c18_17, if_neg c62_25, if_pos c18_30, if_neg c62_38, if_pos c18_43, if_neg c62_51, if_pos c18_56, if_pos c62_64, if_pos c70_65], N62, K62, (by rw [nxt_position, if_pos c18_4, if_neg c62_12, if_pos c18_17, if_neg c62_25, if_pos c18_30, if_neg c62_38, if_pos c18_43, if_neg c62_51, if_pos c18_56]; exact F_position_a1), F_bytes_a1⟩
                      · skip
                        refine OutW.back (fun t k => XS.ifYes X62.here hx rfl (pc0 := 70) (pc' := 77) rfl (hb hby d4_70) rfl ((if0 _ _).trans (flt (fun q => c70_65 ((lw_gt _ _).mp q))).2.2.2) (by decide) (by decide) k) ?_
                        show OutW _ _ _ _ _ _ _ (T62.setTop (mkF m 77 #[.val (.ref a1), .val (.long v63), .second, .val (.int (4 : Int32)), .val (.int v60)] []))
                        refine OutW.back (fun t k => XS.lloadN X62.here hx rfl (hb hby d4_77) rfl  k) ?_
                        show OutW _ _ _ _ _ _ _ (T62.setTop (mkF m 78 #[.val (.ref a1), .val (.long v63), .second, .val (.int (4 : Int32)), .val (.int v60)] [(.long v63)]))
                        refine OutW.back (fun t k => XS.l2i X62.here hx rfl (hb hby d4_78) rfl k) ?_
                        show OutW _ _ _ _ _ _ _ (T62.setTop (mkF m 79 #[.val (.ref a1), .val (.long v63), .second, .val (.int (4 : Int32)), .val (.int v60)] [(.int v63.toInt32)]))
                        refine OutW.retI X62 hx Bd.returns hlk (hb hby d4_79) (by decide) (by decide) ?_
                        show Q4 Z a1 b2 w_p nn vs kk B h0 n0 _ T62.heap _
                        rw [e62]
                        subst hv_v63 hv_v60 hv_v50 hv_v47 hv_v37 hv_v34 hv_v24 hv_v21 hv_v11 hv_v8
                        exact ⟨by rw [nxt, if_pos c18_4, if_neg c62_12, if_pos c18_17, if_neg c62_25, if_pos c18_30, if_neg c62_38, if_pos c18_43, if_neg c62_51, if_pos c18_56, if_pos c62_64, if_neg c70_65], N62, K62, (by rw [nxt_position, if_pos c18_4, if_neg c62_12, if_pos c18_17, if_neg c62_25, if_pos c18_30, if_neg c62_38, if_pos c18_43, if_neg c62_51, if_pos c18_56]; exact F_position_a1), F_bytes_a1⟩
                    · skip
                      refine OutW.back (fun t k => XS.ifYes X62.here hx rfl (pc0 := 62) (pc' := 80) rfl (hb hby d4_62) rfl ((if0 _ _).trans (feq c62_64).2) (by decide) (by decide) k) ?_
                      show OutW _ _ _ _ _ _ _ (T62.setTop (mkF m 80 #[.val (.ref a1), .val (.long v63), .second, .val (.int (4 : Int32)), .val (.int v60)] []))
                      refine OutW.back (fun t k => XS.iinc X62.here hx rfl (hb hby d4_80) rfl (l' := #[.val (.ref a1), .val (.long v63), .second, .val (.int ((4 : Int32) + (1 : Int32))), .val (.int v60)]) rfl k) ?_
                      show OutW _ _ _ _ _ _ _ (T62.setTop (mkF m 83 #[.val (.ref a1), .val (.long v63), .second, .val (.int ((4 : Int32) + (1 : Int32))), .val (.int v60)] []))
                      rw [show ((4 : Int32) + (1 : Int32)) = (5 : Int32) from by decide]
                      refine OutW.back (fun t k => XS.goto X62.here hx rfl (pc0 := 83) (pc' := 4) rfl (hb hby d4_83) (by decide) (by decide) k) ?_
                      show OutW _ _ _ _ _ _ _ (T62.setTop (mkF m 4 #[.val (.ref a1), .val (.long v63), .second, .val (.int (5 : Int32)), .val (.int v60)] []))
                      refine OutW.back (fun t k => XS.iloadN X62.here hx rfl (hb hby d4_4) rfl  k) ?_
                      show OutW _ _ _ _ _ _ _ (T62.setTop (mkF m 5 #[.val (.ref a1), .val (.long v63), .second, .val (.int (5 : Int32)), .val (.int v60)] [(.int (5 : Int32))]))
                      refine OutW.back (fun t k => XS.iconst X62.here hx rfl (hb hby d4_5) k) ?_
                      show OutW _ _ _ _ _ _ _ (T62.setTop (mkF m 6 #[.val (.ref a1), .val (.long v63), .second, .val (.int (5 : Int32)), .val (.int v60)] [(.int (5 : Int32)), (.int (5 : Int32))]))
                      refine OutW.back (fun t k => XS.icmpYes X62.here hx rfl (pc0 := 6) (pc' := 86) rfl (hb hby d4_6) rfl (flt (by decide : ¬ ((5 : Int32) < (5 : Int32)))).2.1 (by decide) (by decide) k) ?_
                      show OutW _ _ _ _ _ _ _ (T62.setTop (mkF m 86 #[.val (.ref a1), .val (.long v63), .second, .val (.int (5 : Int32)), .val (.int v60)] []))
                      refine OutW.back (fun t k => XS.iconst X62.here hx rfl (hb hby d4_86) k) ?_
                      show OutW _ _ _ _ _ _ _ (T62.setTop (mkF m 87 #[.val (.ref a1), .val (.long v63), .second, .val (.int (5 : Int32)), .val (.int v60)] [(.int (-1 : Int32))]))
                      refine OutW.retI X62 hx Bd.returns hlk (hb hby d4_87) (by decide) (by decide) ?_
                      show Q4 Z a1 b2 w_p nn vs kk B h0 n0 _ T62.heap _
                      rw [e62]
                      subst hv_v63 hv_v60 hv_v50 hv_v47 hv_v37 hv_v34 hv_v24 hv_v21 hv_v11 hv_v8
                      exact ⟨by rw [nxt, if_pos c18_4, if_neg c62_12, if_pos c18_17, if_neg c62_25, if_pos c18_30, if_neg c62_38, if_pos c18_43, if_neg c62_51, if_pos c18_56, if_neg c62_64], N62, K62, (by rw [nxt_position, if_pos c18_4, if_neg c62_12, if_pos c18_17, if_neg c62_25, if_pos c18_30, if_neg c62_38, if_pos c18_43, if_neg c62_51, if_pos c18_56]; exact F_position_a1), F_bytes_a1⟩
                  · skip
                    refine OutW.back (fun t k => XS.icmpYes X54.here hx rfl (pc0 := 18) (pc' := 86) rfl (hb hby d4_18) rfl (flt c18_56).2.1 (by decide) (by decide) k) ?_
                    show OutW _ _ _ _ _ _ _ (T54.setTop (mkF m 86 #[.val (.ref a1), .val (.long v50), .second, .val (.int (4 : Int32)), .val (.int v47)] []))
                    refine OutW.back (fun t k => XS.iconst X54.here hx rfl (hb hby d4_86) k) ?_
                    show OutW _ _ _ _ _ _ _ (T54.setTop (mkF m 87 #[.val (.ref a1), .val (.long v50), .second, .val (.int (4 : Int32)), .val (.int v47)] [(.int (-1 : Int32))]))
                    refine OutW.retI X54 hx Bd.returns hlk (hb hby d4_87) (by decide) (by decide) ?_
                    show Q4 Z a1 b2 w_p nn vs kk B h0 n0 _ T54.heap _
                    rw [e54]
                    subst hv_v50 hv_v47 hv_v37 hv_v34 hv_v24 hv_v21 hv_v11 hv_v8
                    exact ⟨by rw [nxt, if_pos c18_4, if_neg c62_12, if_pos c18_17, if_neg c62_25, if_pos c18_30, if_neg c62_38, if_pos c18_43, if_neg c62_51, if_neg c18_56], N49, K49, (by rw [nxt_position, if_pos c18_4, if_neg c62_12, if_pos c18_17, if_neg c62_25, if_pos c18_30, if_neg c62_38, if_pos c18_43, if_neg c62_51, if_neg c18_56]; exact F_position_a1), F_bytes_a1⟩
              · skip
                refine OutW.back (fun t k => XS.icmpYes X41.here hx rfl (pc0 := 18) (pc' := 86) rfl (hb hby d4_18) rfl (flt c18_43).2.1 (by decide) (by decide) k) ?_
                show OutW _ _ _ _ _ _ _ (T41.setTop (mkF m 86 #[.val (.ref a1), .val (.long v37), .second, .val (.int (3 : Int32)), .val (.int v34)] []))
                refine OutW.back (fun t k => XS.iconst X41.here hx rfl (hb hby d4_86) k) ?_
                show OutW _ _ _ _ _ _ _ (T41.setTop (mkF m 87 #[.val (.ref a1), .val (.long v37), .second, .val (.int (3 : Int32)), .val (.int v34)] [(.int (-1 : Int32))]))
                refine OutW.retI X41 hx Bd.returns hlk (hb hby d4_87) (by decide) (by decide) ?_
                show Q4 Z a1 b2 w_p nn vs kk B h0 n0 _ T41.heap _
                rw [e41]
                subst hv_v37 hv_v34 hv_v24 hv_v21 hv_v11 hv_v8
                exact ⟨by rw [nxt, if_pos c18_4, if_neg c62_12, if_pos c18_17, if_neg c62_25, if_pos c18_30, if_neg c62_38, if_neg c18_43], N36, K36, (by rw [nxt_position, if_pos c18_4, if_neg c62_12, if_pos c18_17, if_neg c62_25, if_pos c18_30, if_neg c62_38, if_neg c18_43]; exact F_position_a1), F_bytes_a1⟩
          · skip
            refine OutW.back (fun t k => XS.icmpYes X28.here hx rfl (pc0 := 18) (pc' := 86) rfl (hb hby d4_18) rfl (flt c18_30).2.1 (by decide) (by decide) k) ?_
            show OutW _ _ _ _ _ _ _ (T28.setTop (mkF m 86 #[.val (.ref a1), .val (.long v24), .second, .val (.int (2 : Int32)), .val (.int v21)] []))
            refine OutW.back (fun t k => XS.iconst X28.here hx rfl (hb hby d4_86) k) ?_
            show OutW _ _ _ _ _ _ _ (T28.setTop (mkF m 87 #[.val (.ref a1), .val (.long v24), .second, .val (.int (2 : Int32)), .val (.int v21)] [(.int (-1 : Int32))]))
            refine OutW.retI X28 hx Bd.returns hlk (hb hby d4_87) (by decide) (by decide) ?_
            show Q4 Z a1 b2 w_p nn vs kk B h0 n0 _ T28.heap _
            rw [e28]
            subst hv_v24 hv_v21 hv_v11 hv_v8
            exact ⟨by rw [nxt, if_pos c18_4, if_neg c62_12, if_pos c18_17, if_neg c62_25, if_neg c18_30], N23, K23, (by rw [nxt_position, if_pos c18_4, if_neg c62_12, if_pos c18_17, if_neg c62_25, if_neg c18_30]; exact F_position_a1), F_bytes_a1⟩
      · skip
        refine OutW.back (fun t k => XS.icmpYes X15.here hx rfl (pc0 := 18) (pc' := 86) rfl (hb hby d4_18) rfl (flt c18_17).2.1 (by decide) (by decide) k) ?_
        show OutW _ _ _ _ _ _ _ (T15.setTop (mkF m 86 #[.val (.ref a1), .val (.long v11), .second, .val (.int (1 : Int32)), .val (.int v8)] []))
        refine OutW.back (fun t k => XS.iconst X15.here hx rfl (hb hby d4_86) k) ?_
        show OutW _ _ _ _ _ _ _ (T15.setTop (mkF m 87 #[.val (.ref a1), .val (.long v11), .second, .val (.int (1 : Int32)), .val (.int v8)] [(.int (-1 : Int32))]))
        refine OutW.retI X15 hx Bd.returns hlk (hb hby d4_87) (by decide) (by decide) ?_
        show Q4 Z a1 b2 w_p nn vs kk B h0 n0 _ T15.heap _
        rw [e15]
        subst hv_v11 hv_v8
        exact ⟨by rw [nxt, if_pos c18_4, if_neg c62_12, if_neg c18_17], N10, K10, (by rw [nxt_position, if_pos c18_4, if_neg c62_12, if_neg c18_17]; exact F_position_a1), F_bytes_a1⟩
  · skip
    refine OutW.back (fun t k => XS.icmpYes X2.here hx rfl (pc0 := 18) (pc' := 86) rfl (hb hby d4_18) rfl (flt c18_4).2.1 (by decide) (by decide) k) ?_
    show OutW _ _ _ _ _ _ _ (T2.setTop (mkF m 86 #[.val (.ref a1), .val (.long (0 : Int64)), .second, .val (.int (0 : Int32)), .unset] []))
    refine OutW.back (fun t k => XS.iconst X2.here hx rfl (hb hby d4_86) k) ?_
    show OutW _ _ _ _ _ _ _ (T2.setTop (mkF m 87 #[.val (.ref a1), .val (.long (0 : Int64)), .second, .val (.int (0 : Int32)), .unset] [(.int (-1 : Int32))]))
    refine OutW.retI X2 hx Bd.returns hlk (hb hby d4_87) (by decide) (by decide) ?_
    show Q4 Z a1 b2 w_p nn vs kk B h0 n0 _ T2.heap _
    rw [e2]
    exact ⟨by rw [nxt, if_neg c18_4], N0, K0, (by rw [nxt_position, if_neg c18_4]; exact F_position_a1), F_bytes_a1⟩
def byteF_0 (p1 : Int32) (p2 : Int32) (p3 : Int32) (p4 : Int32) : Int32 := (if p1 = (0 : Int32) then p2 else (if p1 = (1 : Int32) then p3 else p4))
theorem d7_0 : decode method_2_code 0 = .ok (.iload_n 0, 1) := by decide +kernel
theorem d7_1 : decode method_2_code 1 = .ok (.ifCond .ne 5, 3) := by decide +kernel
theorem d7_4 : decode method_2_code 4 = .ok (.iload_n 1, 1) := by decide +kernel
theorem d7_5 : decode method_2_code 5 = .ok (.ireturn, 1) := by decide +kernel
theorem d7_6 : decode method_2_code 6 = .ok (.iload_n 0, 1) := by decide +kernel
theorem d7_7 : decode method_2_code 7 = .ok (.iconst 1, 1) := by decide +kernel
theorem d7_8 : decode method_2_code 8 = .ok (.if_icmp .ne 5, 3) := by decide +kernel
theorem d7_11 : decode method_2_code 11 = .ok (.iload_n 2, 1) := by decide +kernel
theorem d7_12 : decode method_2_code 12 = .ok (.ireturn, 1) := by decide +kernel
theorem d7_13 : decode method_2_code 13 = .ok (.iload_n 3, 1) := by decide +kernel
theorem d7_14 : decode method_2_code 14 = .ok (.ireturn, 1) := by decide +kernel
theorem pn_7 : plainName "com/example/fulltext_workbench/fulltextworkbench/index/VarintReaderAtEndPinLaw" = true := by first | (simp [plainName, overriddenIn]; done) | decide +kernel
theorem ef_7 (m : MethodId) (x0 : Int32) (x1 : Int32) (x2 : Int32) (x3 : Int32) : entryFrame m #[(.int x0), (.int x1), (.int x2), (.int x3)] 4 = mkF m 0 #[.val (.int x0), .val (.int x1), .val (.int x2), .val (.int x3)] [] := by first | (simp [entryFrame, mkF, argsToLocals, Value.category]; done) | rfl
def Q7 (Z : State) (p1 : Int32) (p2 : Int32) (p3 : Int32) (p4 : Int32)  (h0 : Heap) (n0 : Nat) (v : Option Value) (h : Heap) (L : List Loc) : Prop := v = some (.int (byteF_0 p1 p2 p3 p4)) ∧ Fr n0 L ∧ h = h0
set_option maxRecDepth 65536 in
set_option maxHeartbeats 40000000 in
theorem rm7 (l : Launch) (Z : State) (a0 : Array Value) (hw : ∀ d ∈ tables_1, d.before a0 Z = true) (ws : List Jvm.Cond) (p1 : Int32) (p2 : Int32) (p3 : Int32) (p4 : Int32)  (h0 : Heap) (n0 : Nat) (Z0 : n0 ≤ h0.size) :
    MetFree l (⟨"com/example/fulltext_workbench/fulltextworkbench/index/VarintReaderAtEndPinLaw", "byteAt", "(IIII)I"⟩ : MethodName) (head1 (Jvm.Cond.code (⟨"com/example/fulltext_workbench/fulltextworkbench/index/VarintReaderAtEndPinLaw", "byteAt", "(IIII)I"⟩ : MethodName) method_2_code 4 (some .int) :: ws) ({ frames := 0, cells := 0, slots := 0, locals := 0 } : Room)) (fun a U => a = #[(.int p1), (.int p2), (.int p3), (.int p4)] ∧ Z.Warmed39 U.vm ∧ U.heap = h0) (fun _ _ _ _ _ => True) (fun _ U o U' => ∃ v L, o = .returned v ∧ Q7 Z p1 p2 p3 p4 h0 n0 v U'.heap L ∧ FrameEnd U o U' L ({ frames := 0, cells := 0, slots := 0, locals := 0 } : Room).cells ({ frames := 0, cells := 0, slots := 0, locals := 0 } : Room).slots) := by
  refine MetFree.of_bodySF (plainFor_of_name pn_7) hisR ?_
  intro p e s m args below meth c s₁ Bd hml0 hP hK
  obtain ⟨rfl, hZ, hh⟩ := hP
  have hx := Bd.exec
  have hby := Bd.bytes
  have hlk := Bd.notSynchronized
  have hml : c.maxLocals = 4 := hml0
  have hown : s.vm.findClass "com/example/fulltext_workbench/fulltextworkbench/index/VarintReaderAtEndPinLaw" = some m.cls := findClass_of_methodNamed Bd.named
  have hnm := (name_of_methodNamed Bd.named Bd.method).1
  have X0 : Stand p l e ({ frames := 0, cells := 0, slots := 0, locals := 0 } : Room) s m #[(.int p1), (.int p2), (.int p3), (.int p4)] below meth c s₁ [] 0 0 := Stand.of_body Bd
  have e0 : s₁.heap = h0 := by rw [← hh, Bd.state]; rfl
  have N0 := Fr.nil n0
  have K0 : Keep h0 h0 [] := Keep.refl h0 _
  show OutW p e below s ({ frames := 0, cells := 0, slots := 0, locals := 0 } : Room).cells ({ frames := 0, cells := 0, slots := 0, locals := 0 } : Room).slots (Q7 Z p1 p2 p3 p4 h0 n0) _
  refine OutW.back (fun t k => castTop (ef_7 m p1 p2 p3 p4) k) ?_
  show OutW _ _ _ _ _ _ _ (s₁.setTop (mkF m 0 #[.val (.int p1), .val (.int p2), .val (.int p3), .val (.int p4)] []))
  refine OutW.back (fun t k => XS.iloadN X0.here hx rfl (hb hby d7_0) rfl  k) ?_
  show OutW _ _ _ _ _ _ _ (s₁.setTop (mkF m 1 #[.val (.int p1), .val (.int p2), .val (.int p3), .val (.int p4)] [(.int p1)]))
  by_cases c1_1 : p1 = (0 : Int32)
  · skip
    refine OutW.back (fun t k => XS.ifNo X0.here hx rfl (hb hby d7_1) rfl ((if0 _ _).trans (teq c1_1).2) k) ?_
    show OutW _ _ _ _ _ _ _ (s₁.setTop (mkF m 4 #[.val (.int p1), .val (.int p2), .val (.int p3), .val (.int p4)] []))
    refine OutW.back (fun t k => XS.iloadN X0.here hx rfl (hb hby d7_4) rfl  k) ?_
    show OutW _ _ _ _ _ _ _ (s₁.setTop (mkF m 5 #[.val (.int p1), .val (.int p2), .val (.int p3), .val (.int p4)] [(.int p2)]))
    refine OutW.retI X0 hx Bd.returns hlk (hb hby d7_5) (by decide) (by decide) ?_
    show Q7 Z p1 p2 p3 p4 h0 n0 _ s₁.heap _
    rw [e0]
    exact ⟨by rw [byteF_0, if_pos c1_1], N0, rfl⟩
  · skip
    refine OutW.back (fun t k => XS.ifYes X0.here hx rfl (pc0 := 1) (pc' := 6) rfl (hb hby d7_1) rfl ((if0 _ _).trans (feq c1_1).2) (by decide) (by decide) k) ?_
    show OutW _ _ _ _ _ _ _ (s₁.setTop (mkF m 6 #[.val (.int p1), .val (.int p2), .val (.int p3), .val (.int p4)] []))
    refine OutW.back (fun t k => XS.iloadN X0.here hx rfl (hb hby d7_6) rfl  k) ?_
    show OutW _ _ _ _ _ _ _ (s₁.setTop (mkF m 7 #[.val (.int p1), .val (.int p2), .val (.int p3), .val (.int p4)] [(.int p1)]))
    refine OutW.back (fun t k => XS.iconst X0.here hx rfl (hb hby d7_7) k) ?_
    show OutW _ _ _ _ _ _ _ (s₁.setTop (mkF m 8 #[.val (.int p1), .val (.int p2), .val (.int p3), .val (.int p4)] [(.int (1 : Int32)), (.int p1)]))
    by_cases c8_2 : p1 = (1 : Int32)
    · skip
      refine OutW.back (fun t k => XS.icmpNo X0.here hx rfl (hb hby d7_8) rfl (teq c8_2).2 k) ?_
      show OutW _ _ _ _ _ _ _ (s₁.setTop (mkF m 11 #[.val (.int p1), .val (.int p2), .val (.int p3), .val (.int p4)] []))
      refine OutW.back (fun t k => XS.iloadN X0.here hx rfl (hb hby d7_11) rfl  k) ?_
      show OutW _ _ _ _ _ _ _ (s₁.setTop (mkF m 12 #[.val (.int p1), .val (.int p2), .val (.int p3), .val (.int p4)] [(.int p3)]))
      refine OutW.retI X0 hx Bd.returns hlk (hb hby d7_12) (by decide) (by decide) ?_
      show Q7 Z p1 p2 p3 p4 h0 n0 _ s₁.heap _
      rw [e0]
      exact ⟨by rw [byteF_0, if_neg c1_1, if_pos c8_2], N0, rfl⟩
    · skip
      refine OutW.back (fun t k => XS.icmpYes X0.here hx rfl (pc0 := 8) (pc' := 13) rfl (hb hby d7_8) rfl (feq c8_2).2 (by decide) (by decide) k) ?_
      show OutW _ _ _ _ _ _ _ (s₁.setTop (mkF m 13 #[.val (.int p1), .val (.int p2), .val (.int p3), .val (.int p4)] []))
      refine OutW.back (fun t k => XS.iloadN X0.here hx rfl (hb hby d7_13) rfl  k) ?_
      show OutW _ _ _ _ _ _ _ (s₁.setTop (mkF m 14 #[.val (.int p1), .val (.int p2), .val (.int p3), .val (.int p4)] [(.int p4)]))
      refine OutW.retI X0 hx Bd.returns hlk (hb hby d7_14) (by decide) (by decide) ?_
      show Q7 Z p1 p2 p3 p4 h0 n0 _ s₁.heap _
      rw [e0]
      exact ⟨by rw [byteF_0, if_neg c1_1, if_neg c8_2], N0, rfl⟩
theorem pd_0 : parseMethodDescriptor "(IIII)I" = some ⟨[.int, .int, .int, .int], some .int⟩ := by decide +kernel
def termF_0 (p1 : Int32) (p2 : Int32) (p3 : Int32) (p4 : Int32) (p5 : Int32) : Int32 := (if p1 < p2 then (if ((byteF_0 p1 p3 p4 p5) &&& (128 : Int32)) = (0 : Int32) then (1 : Int32) else (0 : Int32)) else (0 : Int32))
theorem d6_0 : decode method_3_code 0 = .ok (.iload_n 0, 1) := by decide +kernel
theorem d6_1 : decode method_3_code 1 = .ok (.iload_n 1, 1) := by decide +kernel
theorem d6_2 : decode method_3_code 2 = .ok (.if_icmp .ge 22, 3) := by decide +kernel
theorem d6_5 : decode method_3_code 5 = .ok (.iload_n 0, 1) := by decide +kernel
theorem d6_6 : decode method_3_code 6 = .ok (.iload_n 2, 1) := by decide +kernel
theorem d6_7 : decode method_3_code 7 = .ok (.iload_n 3, 1) := by decide +kernel
theorem d6_8 : decode method_3_code 8 = .ok (.iload 4, 2) := by decide +kernel
theorem d6_10 : decode method_3_code 10 = .ok (.invokestatic 7, 3) := by decide +kernel
theorem d6_13 : decode method_3_code 13 = .ok (.sipush 128, 3) := by decide +kernel
theorem d6_16 : decode method_3_code 16 = .ok (.iand, 1) := by decide +kernel
theorem d6_17 : decode method_3_code 17 = .ok (.ifCond .ne 7, 3) := by decide +kernel
theorem d6_20 : decode method_3_code 20 = .ok (.iconst 1, 1) := by decide +kernel
theorem d6_21 : decode method_3_code 21 = .ok (.goto 4, 3) := by decide +kernel
theorem d6_24 : decode method_3_code 24 = .ok (.iconst 0, 1) := by decide +kernel
theorem d6_25 : decode method_3_code 25 = .ok (.ireturn, 1) := by decide +kernel
theorem pn_6 : plainName "com/example/fulltext_workbench/fulltextworkbench/index/VarintReaderAtEndPinLaw" = true := by first | (simp [plainName, overriddenIn]; done) | decide +kernel
theorem ef_6 (m : MethodId) (x0 : Int32) (x1 : Int32) (x2 : Int32) (x3 : Int32) (x4 : Int32) : entryFrame m #[(.int x0), (.int x1), (.int x2), (.int x3), (.int x4)] 5 = mkF m 0 #[.val (.int x0), .val (.int x1), .val (.int x2), .val (.int x3), .val (.int x4)] [] := by first | (simp [entryFrame, mkF, argsToLocals, Value.category]; done) | rfl
def Q6 (Z : State) (p1 : Int32) (p2 : Int32) (p3 : Int32) (p4 : Int32) (p5 : Int32)  (h0 : Heap) (n0 : Nat) (v : Option Value) (h : Heap) (L : List Loc) : Prop := v = some (.int (termF_0 p1 p2 p3 p4 p5)) ∧ Fr n0 L ∧ h = h0
set_option maxRecDepth 65536 in
set_option maxHeartbeats 40000000 in
theorem rm6 (l : Launch) (Z : State) (a0 : Array Value) (hw : ∀ d ∈ tables_1, d.before a0 Z = true) (ws : List Jvm.Cond) (p1 : Int32) (p2 : Int32) (p3 : Int32) (p4 : Int32) (p5 : Int32)  (h0 : Heap) (n0 : Nat) (Z0 : n0 ≤ h0.size) :
    MetFree l (⟨"com/example/fulltext_workbench/fulltextworkbench/index/VarintReaderAtEndPinLaw", "term", "(IIIII)Z"⟩ : MethodName) (head1 (Jvm.Cond.code (⟨"com/example/fulltext_workbench/fulltextworkbench/index/VarintReaderAtEndPinLaw", "term", "(IIIII)Z"⟩ : MethodName) method_3_code 5 (some .boolean) :: ws) ({ frames := 1, cells := 0, slots := 0, locals := 15 } : Room)) (fun a U => a = #[(.int p1), (.int p2), (.int p3), (.int p4), (.int p5)] ∧ Z.Warmed39 U.vm ∧ U.heap = h0) (fun _ _ _ _ _ => True) (fun _ U o U' => ∃ v L, o = .returned v ∧ Q6 Z p1 p2 p3 p4 p5 h0 n0 v U'.heap L ∧ FrameEnd U o U' L ({ frames := 1, cells := 0, slots := 0, locals := 15 } : Room).cells ({ frames := 1, cells := 0, slots := 0, locals := 15 } : Room).slots) := by
  refine MetFree.of_bodySF (plainFor_of_name pn_6) hisR ?_
  intro p e s m args below meth c s₁ Bd hml0 hP hK
  obtain ⟨rfl, hZ, hh⟩ := hP
  have hx := Bd.exec
  have hby := Bd.bytes
  have hlk := Bd.notSynchronized
  have hml : c.maxLocals = 5 := hml0
  have hown : s.vm.findClass "com/example/fulltext_workbench/fulltextworkbench/index/VarintReaderAtEndPinLaw" = some m.cls := findClass_of_methodNamed Bd.named
  have hnm := (name_of_methodNamed Bd.named Bd.method).1
  have X0 : Stand p l e ({ frames := 1, cells := 0, slots := 0, locals := 15 } : Room) s m #[(.int p1), (.int p2), (.int p3), (.int p4), (.int p5)] below meth c s₁ [] 0 0 := Stand.of_body Bd
  have e0 : s₁.heap = h0 := by rw [← hh, Bd.state]; rfl
  have N0 := Fr.nil n0
  have K0 : Keep h0 h0 [] := Keep.refl h0 _
  show OutW p e below s ({ frames := 1, cells := 0, slots := 0, locals := 15 } : Room).cells ({ frames := 1, cells := 0, slots := 0, locals := 15 } : Room).slots (Q6 Z p1 p2 p3 p4 p5 h0 n0) _
  refine OutW.back (fun t k => castTop (ef_6 m p1 p2 p3 p4 p5) k) ?_
  show OutW _ _ _ _ _ _ _ (s₁.setTop (mkF m 0 #[.val (.int p1), .val (.int p2), .val (.int p3), .val (.int p4), .val (.int p5)] []))
  refine OutW.back (fun t k => XS.iloadN X0.here hx rfl (hb hby d6_0) rfl  k) ?_
  show OutW _ _ _ _ _ _ _ (s₁.setTop (mkF m 1 #[.val (.int p1), .val (.int p2), .val (.int p3), .val (.int p4), .val (.int p5)] [(.int p1)]))
  refine OutW.back (fun t k => XS.iloadN X0.here hx rfl (hb hby d6_1) rfl  k) ?_
  show OutW _ _ _ _ _ _ _ (s₁.setTop (mkF m 2 #[.val (.int p1), .val (.int p2), .val (.int p3), .val (.int p4), .val (.int p5)] [(.int p2), (.int p1)]))
  by_cases c2_1 : p1 < p2
  · skip
    refine OutW.back (fun t k => XS.icmpNo X0.here hx rfl (hb hby d6_2) rfl (tlt c2_1).2.1 k) ?_
    show OutW _ _ _ _ _ _ _ (s₁.setTop (mkF m 5 #[.val (.int p1), .val (.int p2), .val (.int p3), .val (.int p4), .val (.int p5)] []))
    refine OutW.back (fun t k => XS.iloadN X0.here hx rfl (hb hby d6_5) rfl  k) ?_
    show OutW _ _ _ _ _ _ _ (s₁.setTop (mkF m 6 #[.val (.int p1), .val (.int p2), .val (.int p3), .val (.int p4), .val (.int p5)] [(.int p1)]))
    refine OutW.back (fun t k => XS.iloadN X0.here hx rfl (hb hby d6_6) rfl  k) ?_
    show OutW _ _ _ _ _ _ _ (s₁.setTop (mkF m 7 #[.val (.int p1), .val (.int p2), .val (.int p3), .val (.int p4), .val (.int p5)] [(.int p3), (.int p1)]))
    refine OutW.back (fun t k => XS.iloadN X0.here hx rfl (hb hby d6_7) rfl  k) ?_
    show OutW _ _ _ _ _ _ _ (s₁.setTop (mkF m 8 #[.val (.int p1), .val (.int p2), .val (.int p3), .val (.int p4), .val (.int p5)] [(.int p4), (.int p3), (.int p1)]))
    refine OutW.back (fun t k => XS.iload X0.here hx rfl (hb hby d6_8) rfl  k) ?_
    show OutW _ _ _ _ _ _ _ (s₁.setTop (mkF m 10 #[.val (.int p1), .val (.int p2), .val (.int p3), .val (.int p4), .val (.int p5)] [(.int p5), (.int p4), (.int p3), (.int p1)]))
    obtain ⟨_, _, ⟨T2, L2, k2, n2⟩, -, X2, ⟨Lc2, hQ2, l2, y2, z2⟩, st2⟩ := Jvm.LawKit.callS X0 hx (y := (⟨"com/example/fulltext_workbench/fulltextworkbench/index/VarintReaderAtEndPinLaw", "byteAt", "(IIII)I"⟩ : MethodName)) hown (mvT hZ (hw _ (List.mem_of_getElem? (i := 31) rfl))) (mvT hZ (hw _ (List.mem_of_getElem? (i := 32) rfl))) (mvT hZ (hw _ (List.mem_of_getElem? (i := 26) rfl))) (mvT hZ (hw _ (List.mem_of_getElem? (i := 33) rfl))) (by decide) (backOf (W := 0) (rm7 l Z a0 hw [] p1 p3 p4 p5 h0 n0 Z0) hZ (hw _ (List.mem_of_getElem? (i := 33) rfl)) (hw _ (List.mem_of_getElem? (i := 26) rfl)) (by decide) (by decide)) (g := (mkF m 10 #[.val (.int p1), .val (.int p2), .val (.int p3), .val (.int p4), .val (.int p5)] [(.int p5), (.int p4), (.int p3), (.int p1)])) rfl (by rw [hml]; rfl) (argsL := [(.int p1), (.int p3), (.int p4), (.int p5)]) (rest := []) (lenOf pd_0 rfl) rfl (by show 2 * 0 + _ ≤ _; exact Nat.le_of_eq rfl) (hb hby d6_10) (fun _ _ => ⟨rfl, e0, (by decide : 0 + 0 ≤ _), (by decide : 0 + 0 ≤ _)⟩)
    dsimp only [Pt.U, Pt.locs, Pt.cells, Pt.slots] at X2 l2 y2 z2 st2 hQ2
    subst l2 y2 z2
    obtain ⟨rfl, Nq2, e2⟩ := hQ2
    have N2 := Fr.app N0 Nq2
    refine OutW.back st2 ?_
    show OutW _ _ _ _ _ _ _ (T2.setTop (mkF m 13 #[.val (.int p1), .val (.int p2), .val (.int p3), .val (.int p4), .val (.int p5)] [(.int (byteF_0 p1 p3 p4 p5))]))
    refine OutW.back (fun t k => XS.sipush X2.here hx rfl (hb hby d6_13) k) ?_
    show OutW _ _ _ _ _ _ _ (T2.setTop (mkF m 16 #[.val (.int p1), .val (.int p2), .val (.int p3), .val (.int p4), .val (.int p5)] [(.int (128 : Int32)), (.int (byteF_0 p1 p3 p4 p5))]))
    refine OutW.back (fun t k => XS.iand X2.here hx rfl (hb hby d6_16) rfl k) ?_
    show OutW _ _ _ _ _ _ _ (T2.setTop (mkF m 17 #[.val (.int p1), .val (.int p2), .val (.int p3), .val (.int p4), .val (.int p5)] [(.int ((byteF_0 p1 p3 p4 p5) &&& (128 : Int32)))]))
    by_cases c17_3 : ((byteF_0 p1 p3 p4 p5) &&& (128 : Int32)) = (0 : Int32)
    · skip
      refine OutW.back (fun t k => XS.ifNo X2.here hx rfl (hb hby d6_17) rfl ((if0 _ _).trans (teq c17_3).2) k) ?_
      show OutW _ _ _ _ _ _ _ (T2.setTop (mkF m 20 #[.val (.int p1), .val (.int p2), .val (.int p3), .val (.int p4), .val (.int p5)] []))
      refine OutW.back (fun t k => XS.iconst X2.here hx rfl (hb hby d6_20) k) ?_
      show OutW _ _ _ _ _ _ _ (T2.setTop (mkF m 21 #[.val (.int p1), .val (.int p2), .val (.int p3), .val (.int p4), .val (.int p5)] [(.int (1 : Int32))]))
      refine OutW.back (fun t k => XS.goto X2.here hx rfl (pc0 := 21) (pc' := 25) rfl (hb hby d6_21) (by decide) (by decide) k) ?_
      show OutW _ _ _ _ _ _ _ (T2.setTop (mkF m 25 #[.val (.int p1), .val (.int p2), .val (.int p3), .val (.int p4), .val (.int p5)] [(.int (1 : Int32))]))
      refine OutW.retN X2 hx (t := .boolean) (z' := (1 : Int32)) Bd.returns (by simp) hlk (hb hby d6_25) ?hz (by decide) (by decide) ?_
      case hz =>
        rfl
      show Q6 Z p1 p2 p3 p4 p5 h0 n0 _ T2.heap _
      rw [e2]
      exact ⟨by rw [termF_0, if_pos c2_1, if_pos c17_3], N2, rfl⟩
    · skip
      refine OutW.back (fun t k => XS.ifYes X2.here hx rfl (pc0 := 17) (pc' := 24) rfl (hb hby d6_17) rfl ((if0 _ _).trans (feq c17_3).2) (by decide) (by decide) k) ?_
      show OutW _ _ _ _ _ _ _ (T2.setTop (mkF m 24 #[.val (.int p1), .val (.int p2), .val (.int p3), .val (.int p4), .val (.int p5)] []))
      refine OutW.back (fun t k => XS.iconst X2.here hx rfl (hb hby d6_24) k) ?_
      show OutW _ _ _ _ _ _ _ (T2.setTop (mkF m 25 #[.val (.int p1), .val (.int p2), .val (.int p3), .val (.int p4), .val (.int p5)] [(.int (0 : Int32))]))
      refine OutW.retN X2 hx (t := .boolean) (z' := (0 : Int32)) Bd.returns (by simp) hlk (hb hby d6_25) ?hz (by decide) (by decide) ?_
      case hz =>
        rfl
      show Q6 Z p1 p2 p3 p4 p5 h0 n0 _ T2.heap _
      rw [e2]
      exact ⟨by rw [termF_0, if_pos c2_1, if_neg c17_3], N2, rfl⟩
  · skip
    refine OutW.back (fun t k => XS.icmpYes X0.here hx rfl (pc0 := 2) (pc' := 24) rfl (hb hby d6_2) rfl (flt c2_1).2.1 (by decide) (by decide) k) ?_
    show OutW _ _ _ _ _ _ _ (s₁.setTop (mkF m 24 #[.val (.int p1), .val (.int p2), .val (.int p3), .val (.int p4), .val (.int p5)] []))
    refine OutW.back (fun t k => XS.iconst X0.here hx rfl (hb hby d6_24) k) ?_
    show OutW _ _ _ _ _ _ _ (s₁.setTop (mkF m 25 #[.val (.int p1), .val (.int p2), .val (.int p3), .val (.int p4), .val (.int p5)] [(.int (0 : Int32))]))
    refine OutW.retN X0 hx (t := .boolean) (z' := (0 : Int32)) Bd.returns (by simp) hlk (hb hby d6_25) ?hz (by decide) (by decide) ?_
    case hz =>
      rfl
    show Q6 Z p1 p2 p3 p4 p5 h0 n0 _ s₁.heap _
    rw [e0]
    exact ⟨by rw [termF_0, if_neg c2_1], N0, rfl⟩
theorem pd_1 : parseMethodDescriptor "(IIIII)Z" = some ⟨[.int, .int, .int, .int, .int], some .boolean⟩ := by decide +kernel
def stepF_0 (p1 : Int32) (p2 : Int32) (p3 : Int32) (p4 : Int32) (p5 : Int32) : Int32 := (if p1 < p2 then (if (termF_0 p1 p2 p3 p4 p5) = (0 : Int32) then (if (p1 + (1 : Int32)) < p2 then (if (termF_0 (p1 + (1 : Int32)) p2 p3 p4 p5) = (0 : Int32) then (if (p1 + (2 : Int32)) < p2 then (if (termF_0 (p1 + (2 : Int32)) p2 p3 p4 p5) = (0 : Int32) then p2 else (p1 + (3 : Int32))) else p2) else (p1 + (2 : Int32))) else p2) else (p1 + (1 : Int32))) else p1)
theorem d5_0 : decode method_4_code 0 = .ok (.iload_n 0, 1) := by decide +kernel
theorem d5_1 : decode method_4_code 1 = .ok (.iload_n 1, 1) := by decide +kernel
theorem d5_2 : decode method_4_code 2 = .ok (.if_icmp .lt 5, 3) := by decide +kernel
theorem d5_5 : decode method_4_code 5 = .ok (.iload_n 0, 1) := by decide +kernel
theorem d5_6 : decode method_4_code 6 = .ok (.ireturn, 1) := by decide +kernel
theorem d5_7 : decode method_4_code 7 = .ok (.iload_n 0, 1) := by decide +kernel
theorem d5_8 : decode method_4_code 8 = .ok (.iload_n 1, 1) := by decide +kernel
theorem d5_9 : decode method_4_code 9 = .ok (.iload_n 2, 1) := by decide +kernel
theorem d5_10 : decode method_4_code 10 = .ok (.iload_n 3, 1) := by decide +kernel
theorem d5_11 : decode method_4_code 11 = .ok (.iload 4, 2) := by decide +kernel
theorem d5_13 : decode method_4_code 13 = .ok (.invokestatic 13, 3) := by decide +kernel
theorem d5_16 : decode method_4_code 16 = .ok (.ifCond .eq 7, 3) := by decide +kernel
theorem d5_19 : decode method_4_code 19 = .ok (.iload_n 0, 1) := by decide +kernel
theorem d5_20 : decode method_4_code 20 = .ok (.iconst 1, 1) := by decide +kernel
theorem d5_21 : decode method_4_code 21 = .ok (.iadd, 1) := by decide +kernel
theorem d5_22 : decode method_4_code 22 = .ok (.ireturn, 1) := by decide +kernel
theorem d5_23 : decode method_4_code 23 = .ok (.iload_n 0, 1) := by decide +kernel
theorem d5_24 : decode method_4_code 24 = .ok (.iconst 1, 1) := by decide +kernel
theorem d5_25 : decode method_4_code 25 = .ok (.iadd, 1) := by decide +kernel
theorem d5_26 : decode method_4_code 26 = .ok (.iload_n 1, 1) := by decide +kernel
theorem d5_27 : decode method_4_code 27 = .ok (.if_icmp .lt 5, 3) := by decide +kernel
theorem d5_30 : decode method_4_code 30 = .ok (.iload_n 1, 1) := by decide +kernel
theorem d5_31 : decode method_4_code 31 = .ok (.ireturn, 1) := by decide +kernel
theorem d5_32 : decode method_4_code 32 = .ok (.iload_n 0, 1) := by decide +kernel
theorem d5_33 : decode method_4_code 33 = .ok (.iconst 1, 1) := by decide +kernel
theorem d5_34 : decode method_4_code 34 = .ok (.iadd, 1) := by decide +kernel
theorem d5_35 : decode method_4_code 35 = .ok (.iload_n 1, 1) := by decide +kernel
theorem d5_36 : decode method_4_code 36 = .ok (.iload_n 2, 1) := by decide +kernel
theorem d5_37 : decode method_4_code 37 = .ok (.iload_n 3, 1) := by decide +kernel
theorem d5_38 : decode method_4_code 38 = .ok (.iload 4, 2) := by decide +kernel
theorem d5_40 : decode method_4_code 40 = .ok (.invokestatic 13, 3) := by decide +kernel
theorem d5_43 : decode method_4_code 43 = .ok (.ifCond .eq 7, 3) := by decide +kernel
theorem d5_46 : decode method_4_code 46 = .ok (.iload_n 0, 1) := by decide +kernel
theorem d5_47 : decode method_4_code 47 = .ok (.iconst 2, 1) := by decide +kernel
theorem d5_48 : decode method_4_code 48 = .ok (.iadd, 1) := by decide +kernel
theorem d5_49 : decode method_4_code 49 = .ok (.ireturn, 1) := by decide +kernel
theorem d5_50 : decode method_4_code 50 = .ok (.iload_n 0, 1) := by decide +kernel
theorem d5_51 : decode method_4_code 51 = .ok (.iconst 2, 1) := by decide +kernel
theorem d5_52 : decode method_4_code 52 = .ok (.iadd, 1) := by decide +kernel
theorem d5_53 : decode method_4_code 53 = .ok (.iload_n 1, 1) := by decide +kernel
theorem d5_54 : decode method_4_code 54 = .ok (.if_icmp .lt 5, 3) := by decide +kernel
theorem d5_57 : decode method_4_code 57 = .ok (.iload_n 1, 1) := by decide +kernel
theorem d5_58 : decode method_4_code 58 = .ok (.ireturn, 1) := by decide +kernel
theorem d5_59 : decode method_4_code 59 = .ok (.iload_n 0, 1) := by decide +kernel
theorem d5_60 : decode method_4_code 60 = .ok (.iconst 2, 1) := by decide +kernel
theorem d5_61 : decode method_4_code 61 = .ok (.iadd, 1) := by decide +kernel
theorem d5_62 : decode method_4_code 62 = .ok (.iload_n 1, 1) := by decide +kernel
theorem d5_63 : decode method_4_code 63 = .ok (.iload_n 2, 1) := by decide +kernel
theorem d5_64 : decode method_4_code 64 = .ok (.iload_n 3, 1) := by decide +kernel
theorem d5_65 : decode method_4_code 65 = .ok (.iload 4, 2) := by decide +kernel
theorem d5_67 : decode method_4_code 67 = .ok (.invokestatic 13, 3) := by decide +kernel
theorem d5_70 : decode method_4_code 70 = .ok (.ifCond .eq 7, 3) := by decide +kernel
theorem d5_73 : decode method_4_code 73 = .ok (.iload_n 0, 1) := by decide +kernel
theorem d5_74 : decode method_4_code 74 = .ok (.iconst 3, 1) := by decide +kernel
theorem d5_75 : decode method_4_code 75 = .ok (.iadd, 1) := by decide +kernel
theorem d5_76 : decode method_4_code 76 = .ok (.ireturn, 1) := by decide +kernel
theorem d5_77 : decode method_4_code 77 = .ok (.iload_n 1, 1) := by decide +kernel
theorem d5_78 : decode method_4_code 78 = .ok (.ireturn, 1) := by decide +kernel
theorem pn_5 : plainName "com/example/fulltext_workbench/fulltextworkbench/index/VarintReaderAtEndPinLaw" = true := by first | (simp [plainName, overriddenIn]; done) | decide +kernel
theorem ef_5 (m : MethodId) (x0 : Int32) (x1 : Int32) (x2 : Int32) (x3 : Int32) (x4 : Int32) : entryFrame m #[(.int x0), (.int x1), (.int x2), (.int x3), (.int x4)] 5 = mkF m 0 #[.val (.int x0), .val (.int x1), .val (.int x2), .val (.int x3), .val (.int x4)] [] := by first | (simp [entryFrame, mkF, argsToLocals, Value.category]; done) | rfl
def Q5 (Z : State) (p1 : Int32) (p2 : Int32) (p3 : Int32) (p4 : Int32) (p5 : Int32)  (h0 : Heap) (n0 : Nat) (v : Option Value) (h : Heap) (L : List Loc) : Prop := v = some (.int (stepF_0 p1 p2 p3 p4 p5)) ∧ Fr n0 L ∧ h = h0
set_option maxRecDepth 65536 in
set_option maxHeartbeats 40000000 in
theorem rm5 (l : Launch) (Z : State) (a0 : Array Value) (hw : ∀ d ∈ tables_1, d.before a0 Z = true) (ws : List Jvm.Cond) (p1 : Int32) (p2 : Int32) (p3 : Int32) (p4 : Int32) (p5 : Int32)  (h0 : Heap) (n0 : Nat) (Z0 : n0 ≤ h0.size) :
    MetFree l (⟨"com/example/fulltext_workbench/fulltextworkbench/index/VarintReaderAtEndPinLaw", "step", "(IIIII)I"⟩ : MethodName) (head1 (Jvm.Cond.code (⟨"com/example/fulltext_workbench/fulltextworkbench/index/VarintReaderAtEndPinLaw", "step", "(IIIII)I"⟩ : MethodName) method_4_code 5 (some .int) :: ws) ({ frames := 2, cells := 0, slots := 0, locals := 31 } : Room)) (fun a U => a = #[(.int p1), (.int p2), (.int p3), (.int p4), (.int p5)] ∧ Z.Warmed39 U.vm ∧ U.heap = h0) (fun _ _ _ _ _ => True) (fun _ U o U' => ∃ v L, o = .returned v ∧ Q5 Z p1 p2 p3 p4 p5 h0 n0 v U'.heap L ∧ FrameEnd U o U' L ({ frames := 2, cells := 0, slots := 0, locals := 31 } : Room).cells ({ frames := 2, cells := 0, slots := 0, locals := 31 } : Room).slots) := by
  refine MetFree.of_bodySF (plainFor_of_name pn_5) hisR ?_
  intro p e s m args below meth c s₁ Bd hml0 hP hK
  obtain ⟨rfl, hZ, hh⟩ := hP
  have hx := Bd.exec
  have hby := Bd.bytes
  have hlk := Bd.notSynchronized
  have hml : c.maxLocals = 5 := hml0
  have hown : s.vm.findClass "com/example/fulltext_workbench/fulltextworkbench/index/VarintReaderAtEndPinLaw" = some m.cls := findClass_of_methodNamed Bd.named
  have hnm := (name_of_methodNamed Bd.named Bd.method).1
  have X0 : Stand p l e ({ frames := 2, cells := 0, slots := 0, locals := 31 } : Room) s m #[(.int p1), (.int p2), (.int p3), (.int p4), (.int p5)] below meth c s₁ [] 0 0 := Stand.of_body Bd
  have e0 : s₁.heap = h0 := by rw [← hh, Bd.state]; rfl
  have N0 := Fr.nil n0
  have K0 : Keep h0 h0 [] := Keep.refl h0 _
  show OutW p e below s ({ frames := 2, cells := 0, slots := 0, locals := 31 } : Room).cells ({ frames := 2, cells := 0, slots := 0, locals := 31 } : Room).slots (Q5 Z p1 p2 p3 p4 p5 h0 n0) _
  refine OutW.back (fun t k => castTop (ef_5 m p1 p2 p3 p4 p5) k) ?_
  show OutW _ _ _ _ _ _ _ (s₁.setTop (mkF m 0 #[.val (.int p1), .val (.int p2), .val (.int p3), .val (.int p4), .val (.int p5)] []))
  refine OutW.back (fun t k => XS.iloadN X0.here hx rfl (hb hby d5_0) rfl  k) ?_
  show OutW _ _ _ _ _ _ _ (s₁.setTop (mkF m 1 #[.val (.int p1), .val (.int p2), .val (.int p3), .val (.int p4), .val (.int p5)] [(.int p1)]))
  refine OutW.back (fun t k => XS.iloadN X0.here hx rfl (hb hby d5_1) rfl  k) ?_
  show OutW _ _ _ _ _ _ _ (s₁.setTop (mkF m 2 #[.val (.int p1), .val (.int p2), .val (.int p3), .val (.int p4), .val (.int p5)] [(.int p2), (.int p1)]))
  by_cases c2_1 : p1 < p2
  · skip
    refine OutW.back (fun t k => XS.icmpYes X0.here hx rfl (pc0 := 2) (pc' := 7) rfl (hb hby d5_2) rfl (tlt c2_1).1 (by decide) (by decide) k) ?_
    show OutW _ _ _ _ _ _ _ (s₁.setTop (mkF m 7 #[.val (.int p1), .val (.int p2), .val (.int p3), .val (.int p4), .val (.int p5)] []))
    refine OutW.back (fun t k => XS.iloadN X0.here hx rfl (hb hby d5_7) rfl  k) ?_
    show OutW _ _ _ _ _ _ _ (s₁.setTop (mkF m 8 #[.val (.int p1), .val (.int p2), .val (.int p3), .val (.int p4), .val (.int p5)] [(.int p1)]))
    refine OutW.back (fun t k => XS.iloadN X0.here hx rfl (hb hby d5_8) rfl  k) ?_
    show OutW _ _ _ _ _ _ _ (s₁.setTop (mkF m 9 #[.val (.int p1), .val (.int p2), .val (.int p3), .val (.int p4), .val (.int p5)] [(.int p2), (.int p1)]))
    refine OutW.back (fun t k => XS.iloadN X0.here hx rfl (hb hby d5_9) rfl  k) ?_
    show OutW _ _ _ _ _ _ _ (s₁.setTop (mkF m 10 #[.val (.int p1), .val (.int p2), .val (.int p3), .val (.int p4), .val (.int p5)] [(.int p3), (.int p2), (.int p1)]))
    refine OutW.back (fun t k => XS.iloadN X0.here hx rfl (hb hby d5_10) rfl  k) ?_
    show OutW _ _ _ _ _ _ _ (s₁.setTop (mkF m 11 #[.val (.int p1), .val (.int p2), .val (.int p3), .val (.int p4), .val (.int p5)] [(.int p4), (.int p3), (.int p2), (.int p1)]))
    refine OutW.back (fun t k => XS.iload X0.here hx rfl (hb hby d5_11) rfl  k) ?_
    show OutW _ _ _ _ _ _ _ (s₁.setTop (mkF m 13 #[.val (.int p1), .val (.int p2), .val (.int p3), .val (.int p4), .val (.int p5)] [(.int p5), (.int p4), (.int p3), (.int p2), (.int p1)]))
    obtain ⟨_, _, ⟨T2, L2, k2, n2⟩, -, X2, ⟨Lc2, hQ2, l2, y2, z2⟩, st2⟩ := Jvm.LawKit.callS X0 hx (y := (⟨"com/example/fulltext_workbench/fulltextworkbench/index/VarintReaderAtEndPinLaw", "term", "(IIIII)Z"⟩ : MethodName)) hown (mvT hZ (hw _ (List.mem_of_getElem? (i := 28) rfl))) (mvT hZ (hw _ (List.mem_of_getElem? (i := 29) rfl))) (mvT hZ (hw _ (List.mem_of_getElem? (i := 26) rfl))) (mvT hZ (hw _ (List.mem_of_getElem? (i := 30) rfl))) (by decide) (backOf (W := 0) (rm6 l Z a0 hw [] p1 p2 p3 p4 p5 h0 n0 Z0) hZ (hw _ (List.mem_of_getElem? (i := 30) rfl)) (hw _ (List.mem_of_getElem? (i := 26) rfl)) (by decide) (by decide)) (g := (mkF m 13 #[.val (.int p1), .val (.int p2), .val (.int p3), .val (.int p4), .val (.int p5)] [(.int p5), (.int p4), (.int p3), (.int p2), (.int p1)])) rfl (by rw [hml]; rfl) (argsL := [(.int p1), (.int p2), (.int p3), (.int p4), (.int p5)]) (rest := []) (lenOf pd_1 rfl) rfl (by show 2 * 0 + _ ≤ _; exact Nat.le_of_eq rfl) (hb hby d5_13) (fun _ _ => ⟨rfl, e0, (by decide : 0 + 0 ≤ _), (by decide : 0 + 0 ≤ _)⟩)
    dsimp only [Pt.U, Pt.locs, Pt.cells, Pt.slots] at X2 l2 y2 z2 st2 hQ2
    subst l2 y2 z2
    obtain ⟨rfl, Nq2, e2⟩ := hQ2
    have N2 := Fr.app N0 Nq2
    refine OutW.back st2 ?_
    show OutW _ _ _ _ _ _ _ (T2.setTop (mkF m 16 #[.val (.int p1), .val (.int p2), .val (.int p3), .val (.int p4), .val (.int p5)] [(.int (termF_0 p1 p2 p3 p4 p5))]))
    by_cases c16_3 : (termF_0 p1 p2 p3 p4 p5) = (0 : Int32)
    · skip
      refine OutW.back (fun t k => XS.ifYes X2.here hx rfl (pc0 := 16) (pc' := 23) rfl (hb hby d5_16) rfl ((if0 _ _).trans (teq c16_3).1) (by decide) (by decide) k) ?_
      show OutW _ _ _ _ _ _ _ (T2.setTop (mkF m 23 #[.val (.int p1), .val (.int p2), .val (.int p3), .val (.int p4), .val (.int p5)] []))
      refine OutW.back (fun t k => XS.iloadN X2.here hx rfl (hb hby d5_23) rfl  k) ?_
      show OutW _ _ _ _ _ _ _ (T2.setTop (mkF m 24 #[.val (.int p1), .val (.int p2), .val (.int p3), .val (.int p4), .val (.int p5)] [(.int p1)]))
      refine OutW.back (fun t k => XS.iconst X2.here hx rfl (hb hby d5_24) k) ?_
      show OutW _ _ _ _ _ _ _ (T2.setTop (mkF m 25 #[.val (.int p1), .val (.int p2), .val (.int p3), .val (.int p4), .val (.int p5)] [(.int (1 : Int32)), (.int p1)]))
      refine OutW.back (fun t k => XS.iadd X2.here hx rfl (hb hby d5_25) rfl k) ?_
      show OutW _ _ _ _ _ _ _ (T2.setTop (mkF m 26 #[.val (.int p1), .val (.int p2), .val (.int p3), .val (.int p4), .val (.int p5)] [(.int (p1 + (1 : Int32)))]))
      refine OutW.back (fun t k => XS.iloadN X2.here hx rfl (hb hby d5_26) rfl  k) ?_
      show OutW _ _ _ _ _ _ _ (T2.setTop (mkF m 27 #[.val (.int p1), .val (.int p2), .val (.int p3), .val (.int p4), .val (.int p5)] [(.int p2), (.int (p1 + (1 : Int32)))]))
      by_cases c27_4 : (p1 + (1 : Int32)) < p2
      · skip
        refine OutW.back (fun t k => XS.icmpYes X2.here hx rfl (pc0 := 27) (pc' := 32) rfl (hb hby d5_27) rfl (tlt c27_4).1 (by decide) (by decide) k) ?_
        show OutW _ _ _ _ _ _ _ (T2.setTop (mkF m 32 #[.val (.int p1), .val (.int p2), .val (.int p3), .val (.int p4), .val (.int p5)] []))
        refine OutW.back (fun t k => XS.iloadN X2.here hx rfl (hb hby d5_32) rfl  k) ?_
        show OutW _ _ _ _ _ _ _ (T2.setTop (mkF m 33 #[.val (.int p1), .val (.int p2), .val (.int p3), .val (.int p4), .val (.int p5)] [(.int p1)]))
        refine OutW.back (fun t k => XS.iconst X2.here hx rfl (hb hby d5_33) k) ?_
        show OutW _ _ _ _ _ _ _ (T2.setTop (mkF m 34 #[.val (.int p1), .val (.int p2), .val (.int p3), .val (.int p4), .val (.int p5)] [(.int (1 : Int32)), (.int p1)]))
        refine OutW.back (fun t k => XS.iadd X2.here hx rfl (hb hby d5_34) rfl k) ?_
        show OutW _ _ _ _ _ _ _ (T2.setTop (mkF m 35 #[.val (.int p1), .val (.int p2), .val (.int p3), .val (.int p4), .val (.int p5)] [(.int (p1 + (1 : Int32)))]))
        refine OutW.back (fun t k => XS.iloadN X2.here hx rfl (hb hby d5_35) rfl  k) ?_
        show OutW _ _ _ _ _ _ _ (T2.setTop (mkF m 36 #[.val (.int p1), .val (.int p2), .val (.int p3), .val (.int p4), .val (.int p5)] [(.int p2), (.int (p1 + (1 : Int32)))]))
        refine OutW.back (fun t k => XS.iloadN X2.here hx rfl (hb hby d5_36) rfl  k) ?_
        show OutW _ _ _ _ _ _ _ (T2.setTop (mkF m 37 #[.val (.int p1), .val (.int p2), .val (.int p3), .val (.int p4), .val (.int p5)] [(.int p3), (.int p2), (.int (p1 + (1 : Int32)))]))
        refine OutW.back (fun t k => XS.iloadN X2.here hx rfl (hb hby d5_37) rfl  k) ?_
        show OutW _ _ _ _ _ _ _ (T2.setTop (mkF m 38 #[.val (.int p1), .val (.int p2), .val (.int p3), .val (.int p4), .val (.int p5)] [(.int p4), (.int p3), (.int p2), (.int (p1 + (1 : Int32)))]))
        refine OutW.back (fun t k => XS.iload X2.here hx rfl (hb hby d5_38) rfl  k) ?_
        show OutW _ _ _ _ _ _ _ (T2.setTop (mkF m 40 #[.val (.int p1), .val (.int p2), .val (.int p3), .val (.int p4), .val (.int p5)] [(.int p5), (.int p4), (.int p3), (.int p2), (.int (p1 + (1 : Int32)))]))
        obtain ⟨_, _, ⟨T5, L5, k5, n5⟩, -, X5, ⟨Lc5, hQ5, l5, y5, z5⟩, st5⟩ := Jvm.LawKit.callS X2 hx (y := (⟨"com/example/fulltext_workbench/fulltextworkbench/index/VarintReaderAtEndPinLaw", "term", "(IIIII)Z"⟩ : MethodName)) hown (mvT hZ (hw _ (List.mem_of_getElem? (i := 28) rfl))) (mvT hZ (hw _ (List.mem_of_getElem? (i := 29) rfl))) (mvT hZ (hw _ (List.mem_of_getElem? (i := 26) rfl))) (mvT hZ (hw _ (List.mem_of_getElem? (i := 30) rfl))) (by decide) (backOf (W := 0) (rm6 l Z a0 hw [] (p1 + (1 : Int32)) p2 p3 p4 p5 h0 n0 Z0) hZ (hw _ (List.mem_of_getElem? (i := 30) rfl)) (hw _ (List.mem_of_getElem? (i := 26) rfl)) (by decide) (by decide)) (g := (mkF m 40 #[.val (.int p1), .val (.int p2), .val (.int p3), .val (.int p4), .val (.int p5)] [(.int p5), (.int p4), (.int p3), (.int p2), (.int (p1 + (1 : Int32)))])) rfl (by rw [hml]; rfl) (argsL := [(.int (p1 + (1 : Int32))), (.int p2), (.int p3), (.int p4), (.int p5)]) (rest := []) (lenOf pd_1 rfl) rfl (by show 2 * 0 + _ ≤ _; exact Nat.le_of_eq rfl) (hb hby d5_40) (fun _ _ => ⟨rfl, e2, (by decide : 0 + 0 ≤ _), (by decide : 0 + 0 ≤ _)⟩)
        dsimp only [Pt.U, Pt.locs, Pt.cells, Pt.slots] at X5 l5 y5 z5 st5 hQ5
        subst l5 y5 z5
        obtain ⟨rfl, Nq5, e5⟩ := hQ5
        have N5 := Fr.app N2 Nq5
        refine OutW.back st5 ?_
        show OutW _ _ _ _ _ _ _ (T5.setTop (mkF m 43 #[.val (.int p1), .val (.int p2), .val (.int p3), .val (.int p4), .val (.int p5)] [(.int (termF_0 (p1 + (1 : Int32)) p2 p3 p4 p5))]))
        by_cases c43_6 : (termF_0 (p1 + (1 : Int32)) p2 p3 p4 p5) = (0 : Int32)
        · skip
          refine OutW.back (fun t k => XS.ifYes X5.here hx rfl (pc0 := 43) (pc' := 50) rfl (hb hby d5_43) rfl ((if0 _ _).trans (teq c43_6).1) (by decide) (by decide) k) ?_
          show OutW _ _ _ _ _ _ _ (T5.setTop (mkF m 50 #[.val (.int p1), .val (.int p2), .val (.int p3), .val (.int p4), .val (.int p5)] []))
          refine OutW.back (fun t k => XS.iloadN X5.here hx rfl (hb hby d5_50) rfl  k) ?_
          show OutW _ _ _ _ _ _ _ (T5.setTop (mkF m 51 #[.val (.int p1), .val (.int p2), .val (.int p3), .val (.int p4), .val (.int p5)] [(.int p1)]))
          refine OutW.back (fun t k => XS.iconst X5.here hx rfl (hb hby d5_51) k) ?_
          show OutW _ _ _ _ _ _ _ (T5.setTop (mkF m 52 #[.val (.int p1), .val (.int p2), .val (.int p3), .val (.int p4), .val (.int p5)] [(.int (2 : Int32)), (.int p1)]))
          refine OutW.back (fun t k => XS.iadd X5.here hx rfl (hb hby d5_52) rfl k) ?_
          show OutW _ _ _ _ _ _ _ (T5.setTop (mkF m 53 #[.val (.int p1), .val (.int p2), .val (.int p3), .val (.int p4), .val (.int p5)] [(.int (p1 + (2 : Int32)))]))
          refine OutW.back (fun t k => XS.iloadN X5.here hx rfl (hb hby d5_53) rfl  k) ?_
          show OutW _ _ _ _ _ _ _ (T5.setTop (mkF m 54 #[.val (.int p1), .val (.int p2), .val (.int p3), .val (.int p4), .val (.int p5)] [(.int p2), (.int (p1 + (2 : Int32)))]))
          by_cases c54_7 : (p1 + (2 : Int32)) < p2
          · skip
            refine OutW.back (fun t k => XS.icmpYes X5.here hx rfl (pc0 := 54) (pc' := 59) rfl (hb hby d5_54) rfl (tlt c54_7).1 (by decide) (by decide) k) ?_
            show OutW _ _ _ _ _ _ _ (T5.setTop (mkF m 59 #[.val (.int p1), .val (.int p2), .val (.int p3), .val (.int p4), .val (.int p5)] []))
            refine OutW.back (fun t k => XS.iloadN X5.here hx rfl (hb hby d5_59) rfl  k) ?_
            show OutW _ _ _ _ _ _ _ (T5.setTop (mkF m 60 #[.val (.int p1), .val (.int p2), .val (.int p3), .val (.int p4), .val (.int p5)] [(.int p1)]))
            refine OutW.back (fun t k => XS.iconst X5.here hx rfl (hb hby d5_60) k) ?_
            show OutW _ _ _ _ _ _ _ (T5.setTop (mkF m 61 #[.val (.int p1), .val (.int p2), .val (.int p3), .val (.int p4), .val (.int p5)] [(.int (2 : Int32)), (.int p1)]))
            refine OutW.back (fun t k => XS.iadd X5.here hx rfl (hb hby d5_61) rfl k) ?_
            show OutW _ _ _ _ _ _ _ (T5.setTop (mkF m 62 #[.val (.int p1), .val (.int p2), .val (.int p3), .val (.int p4), .val (.int p5)] [(.int (p1 + (2 : Int32)))]))
            refine OutW.back (fun t k => XS.iloadN X5.here hx rfl (hb hby d5_62) rfl  k) ?_
            show OutW _ _ _ _ _ _ _ (T5.setTop (mkF m 63 #[.val (.int p1), .val (.int p2), .val (.int p3), .val (.int p4), .val (.int p5)] [(.int p2), (.int (p1 + (2 : Int32)))]))
            refine OutW.back (fun t k => XS.iloadN X5.here hx rfl (hb hby d5_63) rfl  k) ?_
            show OutW _ _ _ _ _ _ _ (T5.setTop (mkF m 64 #[.val (.int p1), .val (.int p2), .val (.int p3), .val (.int p4), .val (.int p5)] [(.int p3), (.int p2), (.int (p1 + (2 : Int32)))]))
            refine OutW.back (fun t k => XS.iloadN X5.here hx rfl (hb hby d5_64) rfl  k) ?_
            show OutW _ _ _ _ _ _ _ (T5.setTop (mkF m 65 #[.val (.int p1), .val (.int p2), .val (.int p3), .val (.int p4), .val (.int p5)] [(.int p4), (.int p3), (.int p2), (.int (p1 + (2 : Int32)))]))
            refine OutW.back (fun t k => XS.iload X5.here hx rfl (hb hby d5_65) rfl  k) ?_
            show OutW _ _ _ _ _ _ _ (T5.setTop (mkF m 67 #[.val (.int p1), .val (.int p2), .val (.int p3), .val (.int p4), .val (.int p5)] [(.int p5), (.int p4), (.int p3), (.int p2), (.int (p1 + (2 : Int32)))]))
            obtain ⟨_, _, ⟨T8, L8, k8, n8⟩, -, X8, ⟨Lc8, hQ8, l8, y8, z8⟩, st8⟩ := Jvm.LawKit.callS X5 hx (y := (⟨"com/example/fulltext_workbench/fulltextworkbench/index/VarintReaderAtEndPinLaw", "term", "(IIIII)Z"⟩ : MethodName)) hown (mvT hZ (hw _ (List.mem_of_getElem? (i := 28) rfl))) (mvT hZ (hw _ (List.mem_of_getElem? (i := 29) rfl))) (mvT hZ (hw _ (List.mem_of_getElem? (i := 26) rfl))) (mvT hZ (hw _ (List.mem_of_getElem? (i := 30) rfl))) (by decide) (backOf (W := 0) (rm6 l Z a0 hw [] (p1 + (2 : Int32)) p2 p3 p4 p5 h0 n0 Z0) hZ (hw _ (List.mem_of_getElem? (i := 30) rfl)) (hw _ (List.mem_of_getElem? (i := 26) rfl)) (by decide) (by decide)) (g := (mkF m 67 #[.val (.int p1), .val (.int p2), .val (.int p3), .val (.int p4), .val (.int p5)] [(.int p5), (.int p4), (.int p3), (.int p2), (.int (p1 + (2 : Int32)))])) rfl (by rw [hml]; rfl) (argsL := [(.int (p1 + (2 : Int32))), (.int p2), (.int p3), (.int p4), (.int p5)]) (rest := []) (lenOf pd_1 rfl) rfl (by show 2 * 0 + _ ≤ _; exact Nat.le_of_eq rfl) (hb hby d5_67) (fun _ _ => ⟨rfl, e5, (by decide : 0 + 0 ≤ _), (by decide : 0 + 0 ≤ _)⟩)
            dsimp only [Pt.U, Pt.locs, Pt.cells, Pt.slots] at X8 l8 y8 z8 st8 hQ8
            subst l8 y8 z8
            obtain ⟨rfl, Nq8, e8⟩ := hQ8
            have N8 := Fr.app N5 Nq8
            refine OutW.back st8 ?_
            show OutW _ _ _ _ _ _ _ (T8.setTop (mkF m 70 #[.val (.int p1), .val (.int p2), .val (.int p3), .val (.int p4), .val (.int p5)] [(.int (termF_0 (p1 + (2 : Int32)) p2 p3 p4 p5))]))
            by_cases c70_9 : (termF_0 (p1 + (2 : Int32)) p2 p3 p4 p5) = (0 : Int32)
            · skip
              refine OutW.back (fun t k => XS.ifYes X8.here hx rfl (pc0 := 70) (pc' := 77) rfl (hb hby d5_70) rfl ((if0 _ _).trans (teq c70_9).1) (by decide) (by decide) k) ?_
              show OutW _ _ _ _ _ _ _ (T8.setTop (mkF m 77 #[.val (.int p1), .val (.int p2), .val (.int p3), .val (.int p4), .val (.int p5)] []))
              refine OutW.back (fun t k => XS.iloadN X8.here hx rfl (hb hby d5_77) rfl  k) ?_
              show OutW _ _ _ _ _ _ _ (T8.setTop (mkF m 78 #[.val (.int p1), .val (.int p2), .val (.int p3), .val (.int p4), .val (.int p5)] [(.int p2)]))
              refine OutW.retI X8 hx Bd.returns hlk (hb hby d5_78) (by decide) (by decide) ?_
              show Q5 Z p1 p2 p3 p4 p5 h0 n0 _ T8.heap _
              rw [e8]
              exact ⟨by rw [stepF_0, if_pos c2_1, if_pos c16_3, if_pos c27_4, if_pos c43_6, if_pos c54_7, if_pos c70_9], N8, rfl⟩
            · skip
              refine OutW.back (fun t k => XS.ifNo X8.here hx rfl (hb hby d5_70) rfl ((if0 _ _).trans (feq c70_9).1) k) ?_
              show OutW _ _ _ _ _ _ _ (T8.setTop (mkF m 73 #[.val (.int p1), .val (.int p2), .val (.int p3), .val (.int p4), .val (.int p5)] []))
              refine OutW.back (fun t k => XS.iloadN X8.here hx rfl (hb hby d5_73) rfl  k) ?_
              show OutW _ _ _ _ _ _ _ (T8.setTop (mkF m 74 #[.val (.int p1), .val (.int p2), .val (.int p3), .val (.int p4), .val (.int p5)] [(.int p1)]))
              refine OutW.back (fun t k => XS.iconst X8.here hx rfl (hb hby d5_74) k) ?_
              show OutW _ _ _ _ _ _ _ (T8.setTop (mkF m 75 #[.val (.int p1), .val (.int p2), .val (.int p3), .val (.int p4), .val (.int p5)] [(.int (3 : Int32)), (.int p1)]))
              refine OutW.back (fun t k => XS.iadd X8.here hx rfl (hb hby d5_75) rfl k) ?_
              show OutW _ _ _ _ _ _ _ (T8.setTop (mkF m 76 #[.val (.int p1), .val (.int p2), .val (.int p3), .val (.int p4), .val (.int p5)] [(.int (p1 + (3 : Int32)))]))
              refine OutW.retI X8 hx Bd.returns hlk (hb hby d5_76) (by decide) (by decide) ?_
              show Q5 Z p1 p2 p3 p4 p5 h0 n0 _ T8.heap _
              rw [e8]
              exact ⟨by rw [stepF_0, if_pos c2_1, if_pos c16_3, if_pos c27_4, if_pos c43_6, if_pos c54_7, if_neg c70_9], N8, rfl⟩
          · skip
            refine OutW.back (fun t k => XS.icmpNo X5.here hx rfl (hb hby d5_54) rfl (flt c54_7).1 k) ?_
            show OutW _ _ _ _ _ _ _ (T5.setTop (mkF m 57 #[.val (.int p1), .val (.int p2), .val (.int p3), .val (.int p4), .val (.int p5)] []))
            refine OutW.back (fun t k => XS.iloadN X5.here hx rfl (hb hby d5_57) rfl  k) ?_
            show OutW _ _ _ _ _ _ _ (T5.setTop (mkF m 58 #[.val (.int p1), .val (.int p2), .val (.int p3), .val (.int p4), .val (.int p5)] [(.int p2)]))
            refine OutW.retI X5 hx Bd.returns hlk (hb hby d5_58) (by decide) (by decide) ?_
            show Q5 Z p1 p2 p3 p4 p5 h0 n0 _ T5.heap _
            rw [e5]
            exact ⟨by rw [stepF_0, if_pos c2_1, if_pos c16_3, if_pos c27_4, if_pos c43_6, if_neg c54_7], N5, rfl⟩
        · skip
          refine OutW.back (fun t k => XS.ifNo X5.here hx rfl (hb hby d5_43) rfl ((if0 _ _).trans (feq c43_6).1) k) ?_
          show OutW _ _ _ _ _ _ _ (T5.setTop (mkF m 46 #[.val (.int p1), .val (.int p2), .val (.int p3), .val (.int p4), .val (.int p5)] []))
          refine OutW.back (fun t k => XS.iloadN X5.here hx rfl (hb hby d5_46) rfl  k) ?_
          show OutW _ _ _ _ _ _ _ (T5.setTop (mkF m 47 #[.val (.int p1), .val (.int p2), .val (.int p3), .val (.int p4), .val (.int p5)] [(.int p1)]))
          refine OutW.back (fun t k => XS.iconst X5.here hx rfl (hb hby d5_47) k) ?_
          show OutW _ _ _ _ _ _ _ (T5.setTop (mkF m 48 #[.val (.int p1), .val (.int p2), .val (.int p3), .val (.int p4), .val (.int p5)] [(.int (2 : Int32)), (.int p1)]))
          refine OutW.back (fun t k => XS.iadd X5.here hx rfl (hb hby d5_48) rfl k) ?_
          show OutW _ _ _ _ _ _ _ (T5.setTop (mkF m 49 #[.val (.int p1), .val (.int p2), .val (.int p3), .val (.int p4), .val (.int p5)] [(.int (p1 + (2 : Int32)))]))
          refine OutW.retI X5 hx Bd.returns hlk (hb hby d5_49) (by decide) (by decide) ?_
          show Q5 Z p1 p2 p3 p4 p5 h0 n0 _ T5.heap _
          rw [e5]
          exact ⟨by rw [stepF_0, if_pos c2_1, if_pos c16_3, if_pos c27_4, if_neg c43_6], N5, rfl⟩
      · skip
        refine OutW.back (fun t k => XS.icmpNo X2.here hx rfl (hb hby d5_27) rfl (flt c27_4).1 k) ?_
        show OutW _ _ _ _ _ _ _ (T2.setTop (mkF m 30 #[.val (.int p1), .val (.int p2), .val (.int p3), .val (.int p4), .val (.int p5)] []))
        refine OutW.back (fun t k => XS.iloadN X2.here hx rfl (hb hby d5_30) rfl  k) ?_
        show OutW _ _ _ _ _ _ _ (T2.setTop (mkF m 31 #[.val (.int p1), .val (.int p2), .val (.int p3), .val (.int p4), .val (.int p5)] [(.int p2)]))
        refine OutW.retI X2 hx Bd.returns hlk (hb hby d5_31) (by decide) (by decide) ?_
        show Q5 Z p1 p2 p3 p4 p5 h0 n0 _ T2.heap _
        rw [e2]
        exact ⟨by rw [stepF_0, if_pos c2_1, if_pos c16_3, if_neg c27_4], N2, rfl⟩
    · skip
      refine OutW.back (fun t k => XS.ifNo X2.here hx rfl (hb hby d5_16) rfl ((if0 _ _).trans (feq c16_3).1) k) ?_
      show OutW _ _ _ _ _ _ _ (T2.setTop (mkF m 19 #[.val (.int p1), .val (.int p2), .val (.int p3), .val (.int p4), .val (.int p5)] []))
      refine OutW.back (fun t k => XS.iloadN X2.here hx rfl (hb hby d5_19) rfl  k) ?_
      show OutW _ _ _ _ _ _ _ (T2.setTop (mkF m 20 #[.val (.int p1), .val (.int p2), .val (.int p3), .val (.int p4), .val (.int p5)] [(.int p1)]))
      refine OutW.back (fun t k => XS.iconst X2.here hx rfl (hb hby d5_20) k) ?_
      show OutW _ _ _ _ _ _ _ (T2.setTop (mkF m 21 #[.val (.int p1), .val (.int p2), .val (.int p3), .val (.int p4), .val (.int p5)] [(.int (1 : Int32)), (.int p1)]))
      refine OutW.back (fun t k => XS.iadd X2.here hx rfl (hb hby d5_21) rfl k) ?_
      show OutW _ _ _ _ _ _ _ (T2.setTop (mkF m 22 #[.val (.int p1), .val (.int p2), .val (.int p3), .val (.int p4), .val (.int p5)] [(.int (p1 + (1 : Int32)))]))
      refine OutW.retI X2 hx Bd.returns hlk (hb hby d5_22) (by decide) (by decide) ?_
      show Q5 Z p1 p2 p3 p4 p5 h0 n0 _ T2.heap _
      rw [e2]
      exact ⟨by rw [stepF_0, if_pos c2_1, if_neg c16_3], N2, rfl⟩
  · skip
    refine OutW.back (fun t k => XS.icmpNo X0.here hx rfl (hb hby d5_2) rfl (flt c2_1).1 k) ?_
    show OutW _ _ _ _ _ _ _ (s₁.setTop (mkF m 5 #[.val (.int p1), .val (.int p2), .val (.int p3), .val (.int p4), .val (.int p5)] []))
    refine OutW.back (fun t k => XS.iloadN X0.here hx rfl (hb hby d5_5) rfl  k) ?_
    show OutW _ _ _ _ _ _ _ (s₁.setTop (mkF m 6 #[.val (.int p1), .val (.int p2), .val (.int p3), .val (.int p4), .val (.int p5)] [(.int p1)]))
    refine OutW.retI X0 hx Bd.returns hlk (hb hby d5_6) (by decide) (by decide) ?_
    show Q5 Z p1 p2 p3 p4 p5 h0 n0 _ s₁.heap _
    rw [e0]
    exact ⟨by rw [stepF_0, if_neg c2_1], N0, rfl⟩
def Bn (l : List Int32) (j : Int32) : Int32 := l.getD j.toNatClampNeg 0
theorem own_getD (l : List Int32) (n : Nat) (d : Int32) : (l.map Value.int).getD n (.int d) = .int (l.getD n d) := by
  induction l generalizing n with
  | nil => cases n <;> rfl
  | cons a t ih =>
    cases n with
    | zero => rfl
    | succ n => exact ih n
theorem own_bit (x : Int32) : (nar .byte x.toInt8.toInt32 &&& (128 : Int32)) = (x &&& (128 : Int32)) := by
  show (x.toInt8.toInt32.toInt8.toInt32 &&& (128 : Int32)) = _
  have e : (x.toInt8.toInt32.toInt8.toInt32 &&& (255 : Int32)) = (x &&& (255 : Int32)) := by
    apply Int32.toInt_inj.mp
    rw [c_mask _ (255 : Int32) 8 (by decide) (by decide), c_mask _ (255 : Int32) 8 (by decide) (by decide)]
    have a := c_i2b x
    have b := c_i2b x.toInt8.toInt32
    simp only [Nat.reducePow]
    omega
  have k : (128 : Int32) = (255 : Int32) &&& (128 : Int32) := by decide
  rw [k, ← Int32.and_assoc, ← Int32.and_assoc, e]
theorem Bn0 (l : List Int32) : Bn l (0 : Int32) = l.getD 0 0 := rfl
theorem Bn1 (l : List Int32) : Bn l (1 : Int32) = l.getD 1 0 := rfl
theorem Bn2 (l : List Int32) : Bn l (2 : Int32) = l.getD 2 0 := rfl
set_option maxRecDepth 65536 in
theorem own_pos0 (p2 p3 p4 p : Int32) (h0 : ¬ p < 0) (h1 : ¬ (0 : Int32) < p) : nxt_position (Bn []) (0 : Int32) p = stepF_0 p (0 : Int32) p2 p3 p4 ∧ ¬ stepF_0 p (0 : Int32) p2 p3 p4 < 0 ∧ ¬ (0 : Int32) < stepF_0 p (0 : Int32) p2 p3 p4 := by
  have hp : p = (0 : Int32) := by
    simp only [← Int32.toInt_inj, Int32.lt_iff_toInt_lt, Int32.reduceToInt] at *
    omega
  rcases hp with rfl
  all_goals
    by_cases q0 : (p2 &&& (128 : Int32)) = 0 <;> by_cases q1 : (p3 &&& (128 : Int32)) = 0 <;> by_cases q2 : (p4 &&& (128 : Int32)) = 0 <;>
      simp [nxt_position, stepF_0, termF_0, byteF_0, Bn0, Bn1, Bn2, own_bit, q0, q1, q2]
set_option maxRecDepth 65536 in
theorem own_pos1 (p2 p3 p4 p : Int32) (h0 : ¬ p < 0) (h1 : ¬ (1 : Int32) < p) : nxt_position (Bn [(nar .byte p2.toInt8.toInt32)]) (1 : Int32) p = stepF_0 p (1 : Int32) p2 p3 p4 ∧ ¬ stepF_0 p (1 : Int32) p2 p3 p4 < 0 ∧ ¬ (1 : Int32) < stepF_0 p (1 : Int32) p2 p3 p4 := by
  have hp : p = (0 : Int32) ∨ p = (1 : Int32) := by
    simp only [← Int32.toInt_inj, Int32.lt_iff_toInt_lt, Int32.reduceToInt] at *
    omega
  rcases hp with rfl | rfl
  all_goals
    by_cases q0 : (p2 &&& (128 : Int32)) = 0 <;> by_cases q1 : (p3 &&& (128 : Int32)) = 0 <;> by_cases q2 : (p4 &&& (128 : Int32)) = 0 <;>
      simp [nxt_position, stepF_0, termF_0, byteF_0, Bn0, Bn1, Bn2, own_bit, q0, q1, q2]
set_option maxRecDepth 65536 in
theorem own_pos2 (p2 p3 p4 p : Int32) (h0 : ¬ p < 0) (h1 : ¬ (2 : Int32) < p) : nxt_position (Bn [(nar .byte p2.toInt8.toInt32), (nar .byte p3.toInt8.toInt32)]) (2 : Int32) p = stepF_0 p (2 : Int32) p2 p3 p4 ∧ ¬ stepF_0 p (2 : Int32) p2 p3 p4 < 0 ∧ ¬ (2 : Int32) < stepF_0 p (2 : Int32) p2 p3 p4 := by
  have hp : p = (0 : Int32) ∨ p = (1 : Int32) ∨ p = (2 : Int32) := by
    simp only [← Int32.toInt_inj, Int32.lt_iff_toInt_lt, Int32.reduceToInt] at *
    omega
  rcases hp with rfl | rfl | rfl
  all_goals
    by_cases q0 : (p2 &&& (128 : Int32)) = 0 <;> by_cases q1 : (p3 &&& (128 : Int32)) = 0 <;> by_cases q2 : (p4 &&& (128 : Int32)) = 0 <;>
      simp [nxt_position, stepF_0, termF_0, byteF_0, Bn0, Bn1, Bn2, own_bit, q0, q1, q2]
set_option maxRecDepth 65536 in
theorem own_pos3 (p2 p3 p4 p : Int32) (h0 : ¬ p < 0) (h1 : ¬ (3 : Int32) < p) : nxt_position (Bn [(nar .byte p2.toInt8.toInt32), (nar .byte p3.toInt8.toInt32), (nar .byte p4.toInt8.toInt32)]) (3 : Int32) p = stepF_0 p (3 : Int32) p2 p3 p4 ∧ ¬ stepF_0 p (3 : Int32) p2 p3 p4 < 0 ∧ ¬ (3 : Int32) < stepF_0 p (3 : Int32) p2 p3 p4 := by
  have hp : p = (0 : Int32) ∨ p = (1 : Int32) ∨ p = (2 : Int32) ∨ p = (3 : Int32) := by
    simp only [← Int32.toInt_inj, Int32.lt_iff_toInt_lt, Int32.reduceToInt] at *
    omega
  rcases hp with rfl | rfl | rfl | rfl
  all_goals
    by_cases q0 : (p2 &&& (128 : Int32)) = 0 <;> by_cases q1 : (p3 &&& (128 : Int32)) = 0 <;> by_cases q2 : (p4 &&& (128 : Int32)) = 0 <;>
      simp [nxt_position, stepF_0, termF_0, byteF_0, Bn0, Bn1, Bn2, own_bit, q0, q1, q2]
theorem own_four (m v : Int32) (h : (m &&& (3 : Int32)) = v) : v = (0 : Int32) ∨ v = (1 : Int32) ∨ v = (2 : Int32) ∨ v = (3 : Int32) := by
  have q := c_and m (3 : Int32) (by decide)
  rw [h] at q
  simp only [← Int32.toInt_inj, Int32.reduceToInt] at q ⊢
  omega
theorem pd_2 : parseMethodDescriptor "([B)V" = some ⟨[(.array .byte)], none⟩ := by decide +kernel
theorem pd_3 : parseMethodDescriptor "()Z" = some ⟨[], some .boolean⟩ := by decide +kernel
theorem pd_4 : parseMethodDescriptor "()I" = some ⟨[], some .int⟩ := by decide +kernel
theorem pd_5 : parseMethodDescriptor "(IIIII)I" = some ⟨[.int, .int, .int, .int, .int], some .int⟩ := by decide +kernel
theorem pn_0 : plainName "com/example/fulltext_workbench/fulltextworkbench/index/VarintReaderAtEndPinLaw" = true := by first | (simp [plainName, overriddenIn]; done) | decide +kernel
theorem ef_0 (m : MethodId) (x0 : Int32) (x1 : Int32) (x2 : Int32) (x3 : Int32) : entryFrame m #[(.int x0), (.int x1), (.int x2), (.int x3)] maxLocals = mkF m 0 #[.val (.int x0), .val (.int x1), .val (.int x2), .val (.int x3), .unset, .unset, .unset, .unset, .unset, .unset, .unset, .unset] [] := by first | (simp [entryFrame, mkF, argsToLocals, Value.category, maxLocals]; done) | rfl
def Q0 (Z : State) (p1 : Int32) (p2 : Int32) (p3 : Int32) (p4 : Int32)  (h0 : Heap) (n0 : Nat) (v : Option Value) (h : Heap) (L : List Loc) : Prop := v = some (.int 1) ∧ Fr n0 L
set_option maxRecDepth 65536 in
set_option maxHeartbeats 40000000 in
theorem rm0 (l : Launch) (Z : State) (a0 : Array Value) (hw : ∀ d ∈ tables_1, d.before a0 Z = true) (ws : List Jvm.Cond) (p1 : Int32) (p2 : Int32) (p3 : Int32) (p4 : Int32)  (h0 : Heap) (n0 : Nat) (Z0 : n0 ≤ h0.size) :
    MetFree l x (head1 (Jvm.Cond.code x code maxLocals ret :: ws) room_1) (fun a U => a = #[(.int p1), (.int p2), (.int p3), (.int p4)] ∧ Z.Warmed39 U.vm ∧ U.heap = h0) (fun _ _ _ _ _ => True) (fun _ U o U' => ∃ v L, o = .returned v ∧ Q0 Z p1 p2 p3 p4 h0 n0 v U'.heap L ∧ FrameEnd U o U' L room_1.cells room_1.slots) := by
  refine MetFree.of_bodySF (plainFor_of_name pn_0) hisR ?_
  intro p e s m args below meth c s₁ Bd hml0 hP hK
  obtain ⟨rfl, hZ, hh⟩ := hP
  have hx := Bd.exec
  have hby := Bd.bytes
  have hlk := Bd.notSynchronized
  have hml : c.maxLocals = 12 := hml0
  have hown : s.vm.findClass "com/example/fulltext_workbench/fulltextworkbench/index/VarintReaderAtEndPinLaw" = some m.cls := findClass_of_methodNamed Bd.named
  have hnm := (name_of_methodNamed Bd.named Bd.method).1
  have X0 : Stand p l e room_1 s m #[(.int p1), (.int p2), (.int p3), (.int p4)] below meth c s₁ [] 0 0 := Stand.of_body Bd
  have e0 : s₁.heap = h0 := by rw [← hh, Bd.state]; rfl
  have N0 := Fr.nil n0
  have K0 : Keep h0 h0 [] := Keep.refl h0 _
  show OutW p e below s room_1.cells room_1.slots (Q0 Z p1 p2 p3 p4 h0 n0) _
  refine OutW.back (fun t k => castTop (ef_0 m p1 p2 p3 p4) k) ?_
  show OutW _ _ _ _ _ _ _ (s₁.setTop (mkF m 0 #[.val (.int p1), .val (.int p2), .val (.int p3), .val (.int p4), .unset, .unset, .unset, .unset, .unset, .unset, .unset, .unset] []))
  refine OutW.back (fun t k => XS.iloadN X0.here hx rfl (hb hby at_0) rfl  k) ?_
  show OutW _ _ _ _ _ _ _ (s₁.setTop (mkF m 1 #[.val (.int p1), .val (.int p2), .val (.int p3), .val (.int p4), .unset, .unset, .unset, .unset, .unset, .unset, .unset, .unset] [(.int p1)]))
  refine OutW.back (fun t k => XS.iconst X0.here hx rfl (hb hby at_1) k) ?_
  show OutW _ _ _ _ _ _ _ (s₁.setTop (mkF m 2 #[.val (.int p1), .val (.int p2), .val (.int p3), .val (.int p4), .unset, .unset, .unset, .unset, .unset, .unset, .unset, .unset] [(.int (3 : Int32)), (.int p1)]))
  refine OutW.back (fun t k => XS.iand X0.here hx rfl (hb hby at_2) rfl k) ?_
  show OutW _ _ _ _ _ _ _ (s₁.setTop (mkF m 3 #[.val (.int p1), .val (.int p2), .val (.int p3), .val (.int p4), .unset, .unset, .unset, .unset, .unset, .unset, .unset, .unset] [(.int (p1 &&& (3 : Int32)))]))
  generalize hv_v1 : (p1 &&& (3 : Int32)) = v1
  refine OutW.back (fun t k => XS.istore X0.here hx rfl (hb hby at_3) rfl (l' := #[.val (.int p1), .val (.int p2), .val (.int p3), .val (.int p4), .val (.int v1), .unset, .unset, .unset, .unset, .unset, .unset, .unset]) rfl k) ?_
  show OutW _ _ _ _ _ _ _ (s₁.setTop (mkF m 5 #[.val (.int p1), .val (.int p2), .val (.int p3), .val (.int p4), .val (.int v1), .unset, .unset, .unset, .unset, .unset, .unset, .unset] []))
  have sp2 : v1 = (0 : Int32) ∨ v1 = (1 : Int32) ∨ v1 = (2 : Int32) ∨ v1 = (3 : Int32) := own_four _ _ hv_v1
  rcases sp2 with rfl | rfl | rfl | rfl
  · skip
    show OutW _ _ _ _ _ _ _ (s₁.setTop (mkF m 5 #[.val (.int p1), .val (.int p2), .val (.int p3), .val (.int p4), .val (.int (0 : Int32)), .unset, .unset, .unset, .unset, .unset, .unset, .unset] []))
    refine OutW.back (fun t k => XS.iload X0.here hx rfl (hb hby at_5) rfl  k) ?_
    show OutW _ _ _ _ _ _ _ (s₁.setTop (mkF m 7 #[.val (.int p1), .val (.int p2), .val (.int p3), .val (.int p4), .val (.int (0 : Int32)), .unset, .unset, .unset, .unset, .unset, .unset, .unset] [(.int (0 : Int32))]))
    obtain ⟨T3, h3, k3, X3, e3, E3, A3, st3⟩ := newP X0 hx hZ (hw _ (List.mem_of_getElem? (i := 0) rfl)) e0 (g := (mkF m 7 #[.val (.int p1), .val (.int p2), .val (.int p3), .val (.int p4), .val (.int (0 : Int32)), .unset, .unset, .unset, .unset, .unset, .unset, .unset] [(.int (0 : Int32))])) rfl (hb hby at_7) rfl (by decide) (cap := 0) (by decide) (by decide) (by decide) (by decide)
    obtain ⟨b3, g3⟩ : ∃ z, z = h0.size := ⟨_, rfl⟩
    rw [← g3] at A3 st3
    have g_b3 : n0 ≤ b3 := Nat.le_trans Z0 (Nat.le_of_eq g3.symm)
    have sz_b3 : h0.size ≤ b3 := Nat.le_trans K0.1 (Nat.le_of_eq g3.symm)
    have Z3 : n0 ≤ h3.size := Nat.le_trans Z0 E3.1
    have K3 := K0.ext E3
    have V_b3 : Arv Z h3 b3 k3 .byte (0 : Int32) [] (.int (0 : Int32)) := (Arv.new A3 (by decide)).pad (pad_rep [] (.int (0 : Int32)) 0)
    refine OutW.back st3 ?_
    show OutW _ _ _ _ _ _ _ (T3.setTop (mkF m 9 #[.val (.int p1), .val (.int p2), .val (.int p3), .val (.int p4), .val (.int (0 : Int32)), .unset, .unset, .unset, .unset, .unset, .unset, .unset] [(.ref b3)]))
    refine OutW.back (fun t k => XS.astore X3.here hx rfl (hb hby at_9) rfl rfl (l' := #[.val (.int p1), .val (.int p2), .val (.int p3), .val (.int p4), .val (.int (0 : Int32)), .val (.ref b3), .unset, .unset, .unset, .unset, .unset, .unset]) rfl k) ?_
    show OutW _ _ _ _ _ _ _ (T3.setTop (mkF m 11 #[.val (.int p1), .val (.int p2), .val (.int p3), .val (.int p4), .val (.int (0 : Int32)), .val (.ref b3), .unset, .unset, .unset, .unset, .unset, .unset] []))
    refine OutW.back (fun t k => XS.iload X3.here hx rfl (hb hby at_11) rfl  k) ?_
    show OutW _ _ _ _ _ _ _ (T3.setTop (mkF m 13 #[.val (.int p1), .val (.int p2), .val (.int p3), .val (.int p4), .val (.int (0 : Int32)), .val (.ref b3), .unset, .unset, .unset, .unset, .unset, .unset] [(.int (0 : Int32))]))
    refine OutW.back (fun t k => XS.ifYes X3.here hx rfl (pc0 := 13) (pc' := 22) rfl (hb hby at_13) rfl ((if0 _ _).trans (flt (by decide : ¬ ((0 : Int32) < (0 : Int32)))).2.2.2) (by decide) (by decide) k) ?_
    show OutW _ _ _ _ _ _ _ (T3.setTop (mkF m 22 #[.val (.int p1), .val (.int p2), .val (.int p3), .val (.int p4), .val (.int (0 : Int32)), .val (.ref b3), .unset, .unset, .unset, .unset, .unset, .unset] []))
    refine OutW.back (fun t k => XS.iload X3.here hx rfl (hb hby at_22) rfl  k) ?_
    show OutW _ _ _ _ _ _ _ (T3.setTop (mkF m 24 #[.val (.int p1), .val (.int p2), .val (.int p3), .val (.int p4), .val (.int (0 : Int32)), .val (.ref b3), .unset, .unset, .unset, .unset, .unset, .unset] [(.int (0 : Int32))]))
    refine OutW.back (fun t k => XS.iconst X3.here hx rfl (hb hby at_24) k) ?_
    show OutW _ _ _ _ _ _ _ (T3.setTop (mkF m 25 #[.val (.int p1), .val (.int p2), .val (.int p3), .val (.int p4), .val (.int (0 : Int32)), .val (.ref b3), .unset, .unset, .unset, .unset, .unset, .unset] [(.int (1 : Int32)), (.int (0 : Int32))]))
    refine OutW.back (fun t k => XS.icmpYes X3.here hx rfl (pc0 := 25) (pc' := 34) rfl (hb hby at_25) rfl (flt (by decide : ¬ ((1 : Int32) < (0 : Int32)))).2.2.2 (by decide) (by decide) k) ?_
    show OutW _ _ _ _ _ _ _ (T3.setTop (mkF m 34 #[.val (.int p1), .val (.int p2), .val (.int p3), .val (.int p4), .val (.int (0 : Int32)), .val (.ref b3), .unset, .unset, .unset, .unset, .unset, .unset] []))
    refine OutW.back (fun t k => XS.iload X3.here hx rfl (hb hby at_34) rfl  k) ?_
    show OutW _ _ _ _ _ _ _ (T3.setTop (mkF m 36 #[.val (.int p1), .val (.int p2), .val (.int p3), .val (.int p4), .val (.int (0 : Int32)), .val (.ref b3), .unset, .unset, .unset, .unset, .unset, .unset] [(.int (0 : Int32))]))
    refine OutW.back (fun t k => XS.iconst X3.here hx rfl (hb hby at_36) k) ?_
    show OutW _ _ _ _ _ _ _ (T3.setTop (mkF m 37 #[.val (.int p1), .val (.int p2), .val (.int p3), .val (.int p4), .val (.int (0 : Int32)), .val (.ref b3), .unset, .unset, .unset, .unset, .unset, .unset] [(.int (2 : Int32)), (.int (0 : Int32))]))
    refine OutW.back (fun t k => XS.icmpYes X3.here hx rfl (pc0 := 37) (pc' := 46) rfl (hb hby at_37) rfl (flt (by decide : ¬ ((2 : Int32) < (0 : Int32)))).2.2.2 (by decide) (by decide) k) ?_
    show OutW _ _ _ _ _ _ _ (T3.setTop (mkF m 46 #[.val (.int p1), .val (.int p2), .val (.int p3), .val (.int p4), .val (.int (0 : Int32)), .val (.ref b3), .unset, .unset, .unset, .unset, .unset, .unset] []))
    obtain ⟨T4, h4, X4, e4, E4, A4, D4, -, st4⟩ := newO X3 hx hZ hown (hw _ (List.mem_of_getElem? (i := 1) rfl)) (hw _ (List.mem_of_getElem? (i := 2) rfl)) (hw _ (List.mem_of_getElem? (i := 3) rfl)) e3 (g := (mkF m 46 #[.val (.int p1), .val (.int p2), .val (.int p3), .val (.int p4), .val (.int (0 : Int32)), .val (.ref b3), .unset, .unset, .unset, .unset, .unset, .unset] [])) rfl (hb hby at_46) (by decide) (by decide)
    obtain ⟨b4, g4⟩ : ∃ z, z = h3.size := ⟨_, rfl⟩
    rw [← g4] at A4 D4 st4
    have ne_b3_b4 : b3 ≠ b4 := Nat.ne_of_lt (Nat.lt_of_lt_of_le V_b3.lt (Nat.le_of_eq g4.symm))
    have g_b4 : n0 ≤ b4 := Nat.le_trans Z3 (Nat.le_of_eq g4.symm)
    have sz_b4 : h0.size ≤ b4 := Nat.le_trans K3.1 (Nat.le_of_eq g4.symm)
    have V_b3 := V_b3.ext E4
    have Z4 : n0 ≤ h4.size := Nat.le_trans Z3 E4.1
    have K4 := K3.ext E4
    have E_b4 := A4
    have F_bytes_b4 : Fld Z h4 b4 "com/example/fulltext_workbench/fulltextworkbench/index/VarintReader" "bytes" "[B" .null := D4 (Or.inr (hw _ (List.mem_of_getElem? (i := 11) rfl))) (ty := (.array .byte)) (by decide)
    have F_position_b4 : Fld Z h4 b4 "com/example/fulltext_workbench/fulltextworkbench/index/VarintReader" "position" "I" (.int (0 : Int32)) := D4 (Or.inl (hw _ (List.mem_of_getElem? (i := 18) rfl))) (ty := .int) (by decide)
    refine OutW.back st4 ?_
    show OutW _ _ _ _ _ _ _ (T4.setTop (mkF m 49 #[.val (.int p1), .val (.int p2), .val (.int p3), .val (.int p4), .val (.int (0 : Int32)), .val (.ref b3), .unset, .unset, .unset, .unset, .unset, .unset] [(.ref b4)]))
    refine OutW.back (fun t k => XS.dup X4.here hx rfl (hb hby at_49) rfl rfl k) ?_
    show OutW _ _ _ _ _ _ _ (T4.setTop (mkF m 50 #[.val (.int p1), .val (.int p2), .val (.int p3), .val (.int p4), .val (.int (0 : Int32)), .val (.ref b3), .unset, .unset, .unset, .unset, .unset, .unset] [(.ref b4), (.ref b4)]))
    refine OutW.back (fun t k => XS.aload X4.here hx rfl (hb hby at_50) rfl rfl  k) ?_
    show OutW _ _ _ _ _ _ _ (T4.setTop (mkF m 52 #[.val (.int p1), .val (.int p2), .val (.int p3), .val (.int p4), .val (.int (0 : Int32)), .val (.ref b3), .unset, .unset, .unset, .unset, .unset, .unset] [(.ref b3), (.ref b4), (.ref b4)]))
    obtain ⟨_, _, ⟨T5, L5, k5, n5⟩, -, X5, ⟨Lc5, hQ5, l5, y5, z5⟩, st5⟩ := X4.specialBack hx (y := (⟨"com/example/fulltext_workbench/fulltextworkbench/index/VarintReader", "<init>", "([B)V"⟩ : MethodName)) rfl hown (mvT hZ (hw _ (List.mem_of_getElem? (i := 4) rfl))) (mvT hZ (hw _ (List.mem_of_getElem? (i := 5) rfl))) (mvT hZ (hw _ (List.mem_of_getElem? (i := 6) rfl))) (by decide) (backOf (W := 1) (rm1 l Z a0 hw [] b4 b3 (0 : Int32) h4 n0 Z4 E_b4 g_b4 F_bytes_b4 F_position_b4) hZ (hw _ (List.mem_of_getElem? (i := 6) rfl)) (hw _ (List.mem_of_getElem? (i := 3) rfl)) (by decide) (by decide)) (g := (mkF m 52 #[.val (.int p1), .val (.int p2), .val (.int p3), .val (.int p4), .val (.int (0 : Int32)), .val (.ref b3), .unset, .unset, .unset, .unset, .unset, .unset] [(.ref b3), (.ref b4), (.ref b4)])) rfl (by rw [hml]; rfl) (Steps.refl _) (a := b4) (argsL := [(.ref b3)]) (rest := [(.ref b4)]) (lenOf pd_2 rfl) rfl (by show 2 * 0 + _ ≤ _; exact Nat.le_of_eq rfl) (hb hby at_52) (fun _ _ => ⟨rfl, e4, (by decide : 2 + 0 ≤ _), (by decide : 2 + 0 ≤ _)⟩)
    dsimp only [Pt.U, Pt.locs, Pt.cells, Pt.slots] at X5 l5 y5 z5 st5 hQ5
    subst l5 y5 z5
    obtain ⟨h5, eh5⟩ : ∃ z, z = T5.heap := ⟨_, rfl⟩
    rw [← eh5] at hQ5
    have e5 : T5.heap = h5 := eh5.symm
    obtain ⟨rfl, Nq5, Kq5, F_bytes_b4, F_position_b4⟩ := hQ5
    have V_b3 := V_b3.keep Kq5 (ninS ne_b3_b4 nin0)
    have E_b4 := E_b4.keep Kq5
    have Z5 : n0 ≤ h5.size := Nat.le_trans Z4 Kq5.1
    have K5 := K4.trans Kq5 (allS (Or.inr sz_b4) all0)
    have N5 := Fr.app N0 Nq5
    refine OutW.via st5 ?_
    show OutW _ _ _ _ _ _ _ (T5.setTop (mkF m 55 #[.val (.int p1), .val (.int p2), .val (.int p3), .val (.int p4), .val (.int (0 : Int32)), .val (.ref b3), .unset, .unset, .unset, .unset, .unset, .unset] [(.ref b4)]))
    refine OutW.back (fun t k => XS.astore X5.here hx rfl (hb hby at_55) rfl rfl (l' := #[.val (.int p1), .val (.int p2), .val (.int p3), .val (.int p4), .val (.int (0 : Int32)), .val (.ref b3), .val (.ref b4), .unset, .unset, .unset, .unset, .unset]) rfl k) ?_
    show OutW _ _ _ _ _ _ _ (T5.setTop (mkF m 57 #[.val (.int p1), .val (.int p2), .val (.int p3), .val (.int p4), .val (.int (0 : Int32)), .val (.ref b3), .val (.ref b4), .unset, .unset, .unset, .unset, .unset] []))
    refine OutW.back (fun t k => XS.iconst X5.here hx rfl (hb hby at_57) k) ?_
    show OutW _ _ _ _ _ _ _ (T5.setTop (mkF m 58 #[.val (.int p1), .val (.int p2), .val (.int p3), .val (.int p4), .val (.int (0 : Int32)), .val (.ref b3), .val (.ref b4), .unset, .unset, .unset, .unset, .unset] [(.int (0 : Int32))]))
    refine OutW.back (fun t k => XS.istore X5.here hx rfl (hb hby at_58) rfl (l' := #[.val (.int p1), .val (.int p2), .val (.int p3), .val (.int p4), .val (.int (0 : Int32)), .val (.ref b3), .val (.ref b4), .val (.int (0 : Int32)), .unset, .unset, .unset, .unset]) rfl k) ?_
    show OutW _ _ _ _ _ _ _ (T5.setTop (mkF m 60 #[.val (.int p1), .val (.int p2), .val (.int p3), .val (.int p4), .val (.int (0 : Int32)), .val (.ref b3), .val (.ref b4), .val (.int (0 : Int32)), .unset, .unset, .unset, .unset] []))
    refine OutW.back (fun t k => XS.aload X5.here hx rfl (hb hby at_60) rfl rfl  k) ?_
    show OutW _ _ _ _ _ _ _ (T5.setTop (mkF m 62 #[.val (.int p1), .val (.int p2), .val (.int p3), .val (.int p4), .val (.int (0 : Int32)), .val (.ref b3), .val (.ref b4), .val (.int (0 : Int32)), .unset, .unset, .unset, .unset] [(.ref b4)]))
    obtain ⟨cq6, kq6, qa6, qb6, qc6⟩ := isOf hZ e5 E_b4
    obtain ⟨_, _, ⟨T6, L6, k6, n6⟩, -, X6, ⟨Lc6, hQ6, l6, y6, z6⟩, st6⟩ := X5.virtualBack hx (y := (⟨"com/example/fulltext_workbench/fulltextworkbench/index/VarintReader", "atEnd", "()Z"⟩ : MethodName)) (z := (⟨"com/example/fulltext_workbench/fulltextworkbench/index/VarintReader", "atEnd", "()Z"⟩ : MethodName)) hown (mvT hZ (hw _ (List.mem_of_getElem? (i := 12) rfl))) (mvT hZ (hw _ (List.mem_of_getElem? (i := 13) rfl))) (notFace_of_selects (args := #[]) (mvT hZ (hw _ (List.mem_of_getElem? (i := 15) rfl)))) (mvT hZ (hw _ (List.mem_of_getElem? (i := 15) rfl))) (mvT hZ (hw _ (List.mem_of_getElem? (i := 14) rfl))) (by decide) (backOf (W := 0) (rm3 l Z a0 hw [] b4 b3 (0 : Int32) (0 : Int32) [] k3 h5 n0 Z5 F_bytes_b4 F_position_b4 V_b3) hZ (hw _ (List.mem_of_getElem? (i := 16) rfl)) (hw _ (List.mem_of_getElem? (i := 3) rfl)) (by decide) (by decide)) qa6 qc6 (g := (mkF m 62 #[.val (.int p1), .val (.int p2), .val (.int p3), .val (.int p4), .val (.int (0 : Int32)), .val (.ref b3), .val (.ref b4), .val (.int (0 : Int32)), .unset, .unset, .unset, .unset] [(.ref b4)])) rfl (by rw [hml]; rfl) (Steps.refl _) (argsL := []) (rest := []) (lenOf pd_3 rfl) rfl (by show 2 * 0 + _ ≤ _; exact Nat.le_of_eq rfl) (hb hby at_62) (fun _ _ => ⟨rfl, e5, (by decide : 2 + 0 ≤ _), (by decide : 2 + 0 ≤ _)⟩)
    dsimp only [Pt.U, Pt.locs, Pt.cells, Pt.slots] at X6 l6 y6 z6 st6 hQ6
    subst l6 y6 z6
    obtain ⟨rfl, Nq6, e6⟩ := hQ6
    have N6 := Fr.app N5 Nq6
    refine OutW.via st6 ?_
    show OutW _ _ _ _ _ _ _ (T6.setTop (mkF m 65 #[.val (.int p1), .val (.int p2), .val (.int p3), .val (.int p4), .val (.int (0 : Int32)), .val (.ref b3), .val (.ref b4), .val (.int (0 : Int32)), .unset, .unset, .unset, .unset] [(.int (atE (0 : Int32) (0 : Int32)))]))
    refine OutW.back (fun t k => XS.iload X6.here hx rfl (hb hby at_65) rfl  k) ?_
    show OutW _ _ _ _ _ _ _ (T6.setTop (mkF m 67 #[.val (.int p1), .val (.int p2), .val (.int p3), .val (.int p4), .val (.int (0 : Int32)), .val (.ref b3), .val (.ref b4), .val (.int (0 : Int32)), .unset, .unset, .unset, .unset] [(.int (0 : Int32)), (.int (atE (0 : Int32) (0 : Int32)))]))
    refine OutW.back (fun t k => XS.iload X6.here hx rfl (hb hby at_67) rfl  k) ?_
    show OutW _ _ _ _ _ _ _ (T6.setTop (mkF m 69 #[.val (.int p1), .val (.int p2), .val (.int p3), .val (.int p4), .val (.int (0 : Int32)), .val (.ref b3), .val (.ref b4), .val (.int (0 : Int32)), .unset, .unset, .unset, .unset] [(.int (0 : Int32)), (.int (0 : Int32)), (.int (atE (0 : Int32) (0 : Int32)))]))
    refine OutW.back (fun t k => XS.icmpNo X6.here hx rfl (hb hby at_69) rfl (teq (by decide : (0 : Int32) = (0 : Int32))).2 k) ?_
    show OutW _ _ _ _ _ _ _ (T6.setTop (mkF m 72 #[.val (.int p1), .val (.int p2), .val (.int p3), .val (.int p4), .val (.int (0 : Int32)), .val (.ref b3), .val (.ref b4), .val (.int (0 : Int32)), .unset, .unset, .unset, .unset] [(.int (atE (0 : Int32) (0 : Int32)))]))
    refine OutW.back (fun t k => XS.iconst X6.here hx rfl (hb hby at_72) k) ?_
    show OutW _ _ _ _ _ _ _ (T6.setTop (mkF m 73 #[.val (.int p1), .val (.int p2), .val (.int p3), .val (.int p4), .val (.int (0 : Int32)), .val (.ref b3), .val (.ref b4), .val (.int (0 : Int32)), .unset, .unset, .unset, .unset] [(.int (1 : Int32)), (.int (atE (0 : Int32) (0 : Int32)))]))
    refine OutW.back (fun t k => XS.goto X6.here hx rfl (pc0 := 73) (pc' := 77) rfl (hb hby at_73) (by decide) (by decide) k) ?_
    show OutW _ _ _ _ _ _ _ (T6.setTop (mkF m 77 #[.val (.int p1), .val (.int p2), .val (.int p3), .val (.int p4), .val (.int (0 : Int32)), .val (.ref b3), .val (.ref b4), .val (.int (0 : Int32)), .unset, .unset, .unset, .unset] [(.int (1 : Int32)), (.int (atE (0 : Int32) (0 : Int32)))]))
    refine OutW.back (fun t k => XS.icmpNo X6.here hx rfl (hb hby at_77) rfl (teq (by decide)).2 k) ?_
    show OutW _ _ _ _ _ _ _ (T6.setTop (mkF m 80 #[.val (.int p1), .val (.int p2), .val (.int p3), .val (.int p4), .val (.int (0 : Int32)), .val (.ref b3), .val (.ref b4), .val (.int (0 : Int32)), .unset, .unset, .unset, .unset] []))
    refine OutW.back (fun t k => XS.iconst X6.here hx rfl (hb hby at_80) k) ?_
    show OutW _ _ _ _ _ _ _ (T6.setTop (mkF m 81 #[.val (.int p1), .val (.int p2), .val (.int p3), .val (.int p4), .val (.int (0 : Int32)), .val (.ref b3), .val (.ref b4), .val (.int (0 : Int32)), .unset, .unset, .unset, .unset] [(.int (1 : Int32))]))
    refine OutW.back (fun t k => XS.goto X6.here hx rfl (pc0 := 81) (pc' := 85) rfl (hb hby at_81) (by decide) (by decide) k) ?_
    show OutW _ _ _ _ _ _ _ (T6.setTop (mkF m 85 #[.val (.int p1), .val (.int p2), .val (.int p3), .val (.int p4), .val (.int (0 : Int32)), .val (.ref b3), .val (.ref b4), .val (.int (0 : Int32)), .unset, .unset, .unset, .unset] [(.int (1 : Int32))]))
    refine OutW.back (fun t k => XS.istore X6.here hx rfl (hb hby at_85) rfl (l' := #[.val (.int p1), .val (.int p2), .val (.int p3), .val (.int p4), .val (.int (0 : Int32)), .val (.ref b3), .val (.ref b4), .val (.int (0 : Int32)), .val (.int (1 : Int32)), .unset, .unset, .unset]) rfl k) ?_
    show OutW _ _ _ _ _ _ _ (T6.setTop (mkF m 87 #[.val (.int p1), .val (.int p2), .val (.int p3), .val (.int p4), .val (.int (0 : Int32)), .val (.ref b3), .val (.ref b4), .val (.int (0 : Int32)), .val (.int (1 : Int32)), .unset, .unset, .unset] []))
    refine OutW.back (fun t k => XS.aload X6.here hx rfl (hb hby at_87) rfl rfl  k) ?_
    show OutW _ _ _ _ _ _ _ (T6.setTop (mkF m 89 #[.val (.int p1), .val (.int p2), .val (.int p3), .val (.int p4), .val (.int (0 : Int32)), .val (.ref b3), .val (.ref b4), .val (.int (0 : Int32)), .val (.int (1 : Int32)), .unset, .unset, .unset] [(.ref b4)]))
    obtain ⟨cq7, kq7, qa7, qb7, qc7⟩ := isOf hZ e6 E_b4
    obtain ⟨_, _, ⟨T7, L7, k7, n7⟩, -, X7, ⟨Lc7, hQ7, l7, y7, z7⟩, st7⟩ := X6.virtualBack hx (y := (⟨"com/example/fulltext_workbench/fulltextworkbench/index/VarintReader", "next", "()I"⟩ : MethodName)) (z := (⟨"com/example/fulltext_workbench/fulltextworkbench/index/VarintReader", "next", "()I"⟩ : MethodName)) hown (mvT hZ (hw _ (List.mem_of_getElem? (i := 19) rfl))) (mvT hZ (hw _ (List.mem_of_getElem? (i := 20) rfl))) (notFace_of_selects (args := #[]) (mvT hZ (hw _ (List.mem_of_getElem? (i := 22) rfl)))) (mvT hZ (hw _ (List.mem_of_getElem? (i := 22) rfl))) (mvT hZ (hw _ (List.mem_of_getElem? (i := 21) rfl))) (by decide) (backOf (W := 0) (rm4 l Z a0 hw [] b4 b3 (0 : Int32) (0 : Int32) [] k3 (Bn []) h5 n0 Z5 E_b4 g_b4 F_bytes_b4 F_position_b4 V_b3 ne_b3_b4 (fun j _ _ => own_getD [] _ 0) (by decide)) hZ (hw _ (List.mem_of_getElem? (i := 23) rfl)) (hw _ (List.mem_of_getElem? (i := 3) rfl)) (by decide) (by decide)) qa7 qc7 (g := (mkF m 89 #[.val (.int p1), .val (.int p2), .val (.int p3), .val (.int p4), .val (.int (0 : Int32)), .val (.ref b3), .val (.ref b4), .val (.int (0 : Int32)), .val (.int (1 : Int32)), .unset, .unset, .unset] [(.ref b4)])) rfl (by rw [hml]; rfl) (Steps.refl _) (argsL := []) (rest := []) (lenOf pd_4 rfl) rfl (by show 2 * 0 + _ ≤ _; exact Nat.le_of_eq rfl) (hb hby at_89) (fun _ _ => ⟨rfl, e6, (by decide : 2 + 0 ≤ _), (by decide : 2 + 0 ≤ _)⟩)
    dsimp only [Pt.U, Pt.locs, Pt.cells, Pt.slots] at X7 l7 y7 z7 st7 hQ7
    subst l7 y7 z7
    obtain ⟨h7, eh7⟩ : ∃ z, z = T7.heap := ⟨_, rfl⟩
    rw [← eh7] at hQ7
    have e7 : T7.heap = h7 := eh7.symm
    obtain ⟨rfl, Nq7, Kq7, F_position_b4, F_bytes_b4⟩ := hQ7
    have V_b3 := V_b3.keep Kq7 (ninS ne_b3_b4 nin0)
    have E_b4 := E_b4.keep Kq7
    have Z7 : n0 ≤ h7.size := Nat.le_trans Z5 Kq7.1
    have K7 := K5.trans Kq7 (allS (Or.inr sz_b4) all0)
    have N7 := Fr.app N6 Nq7
    refine OutW.via st7 ?_
    show OutW _ _ _ _ _ _ _ (T7.setTop (mkF m 92 #[.val (.int p1), .val (.int p2), .val (.int p3), .val (.int p4), .val (.int (0 : Int32)), .val (.ref b3), .val (.ref b4), .val (.int (0 : Int32)), .val (.int (1 : Int32)), .unset, .unset, .unset] [(.int (nxt (Bn []) (0 : Int32) (0 : Int32)))]))
    refine OutW.back (fun t k => XS.pop X7.here hx rfl (hb hby at_92) rfl rfl k) ?_
    show OutW _ _ _ _ _ _ _ (T7.setTop (mkF m 93 #[.val (.int p1), .val (.int p2), .val (.int p3), .val (.int p4), .val (.int (0 : Int32)), .val (.ref b3), .val (.ref b4), .val (.int (0 : Int32)), .val (.int (1 : Int32)), .unset, .unset, .unset] []))
    refine OutW.back (fun t k => XS.iload X7.here hx rfl (hb hby at_93) rfl  k) ?_
    show OutW _ _ _ _ _ _ _ (T7.setTop (mkF m 95 #[.val (.int p1), .val (.int p2), .val (.int p3), .val (.int p4), .val (.int (0 : Int32)), .val (.ref b3), .val (.ref b4), .val (.int (0 : Int32)), .val (.int (1 : Int32)), .unset, .unset, .unset] [(.int (0 : Int32))]))
    refine OutW.back (fun t k => XS.iload X7.here hx rfl (hb hby at_95) rfl  k) ?_
    show OutW _ _ _ _ _ _ _ (T7.setTop (mkF m 97 #[.val (.int p1), .val (.int p2), .val (.int p3), .val (.int p4), .val (.int (0 : Int32)), .val (.ref b3), .val (.ref b4), .val (.int (0 : Int32)), .val (.int (1 : Int32)), .unset, .unset, .unset] [(.int (0 : Int32)), (.int (0 : Int32))]))
    refine OutW.back (fun t k => XS.iloadN X7.here hx rfl (hb hby at_97) rfl  k) ?_
    show OutW _ _ _ _ _ _ _ (T7.setTop (mkF m 98 #[.val (.int p1), .val (.int p2), .val (.int p3), .val (.int p4), .val (.int (0 : Int32)), .val (.ref b3), .val (.ref b4), .val (.int (0 : Int32)), .val (.int (1 : Int32)), .unset, .unset, .unset] [(.int p2), (.int (0 : Int32)), (.int (0 : Int32))]))
    refine OutW.back (fun t k => XS.iloadN X7.here hx rfl (hb hby at_98) rfl  k) ?_
    show OutW _ _ _ _ _ _ _ (T7.setTop (mkF m 99 #[.val (.int p1), .val (.int p2), .val (.int p3), .val (.int p4), .val (.int (0 : Int32)), .val (.ref b3), .val (.ref b4), .val (.int (0 : Int32)), .val (.int (1 : Int32)), .unset, .unset, .unset] [(.int p3), (.int p2), (.int (0 : Int32)), (.int (0 : Int32))]))
    refine OutW.back (fun t k => XS.iloadN X7.here hx rfl (hb hby at_99) rfl  k) ?_
    show OutW _ _ _ _ _ _ _ (T7.setTop (mkF m 100 #[.val (.int p1), .val (.int p2), .val (.int p3), .val (.int p4), .val (.int (0 : Int32)), .val (.ref b3), .val (.ref b4), .val (.int (0 : Int32)), .val (.int (1 : Int32)), .unset, .unset, .unset] [(.int p4), (.int p3), (.int p2), (.int (0 : Int32)), (.int (0 : Int32))]))
    obtain ⟨_, _, ⟨T8, L8, k8, n8⟩, -, X8, ⟨Lc8, hQ8, l8, y8, z8⟩, st8⟩ := Jvm.LawKit.callS X7 hx (y := (⟨"com/example/fulltext_workbench/fulltextworkbench/index/VarintReaderAtEndPinLaw", "step", "(IIIII)I"⟩ : MethodName)) hown (mvT hZ (hw _ (List.mem_of_getElem? (i := 24) rfl))) (mvT hZ (hw _ (List.mem_of_getElem? (i := 25) rfl))) (mvT hZ (hw _ (List.mem_of_getElem? (i := 26) rfl))) (mvT hZ (hw _ (List.mem_of_getElem? (i := 27) rfl))) (by decide) (backOf (W := 0) (rm5 l Z a0 hw [] (0 : Int32) (0 : Int32) p2 p3 p4 h7 n0 Z7) hZ (hw _ (List.mem_of_getElem? (i := 27) rfl)) (hw _ (List.mem_of_getElem? (i := 26) rfl)) (by decide) (by decide)) (g := (mkF m 100 #[.val (.int p1), .val (.int p2), .val (.int p3), .val (.int p4), .val (.int (0 : Int32)), .val (.ref b3), .val (.ref b4), .val (.int (0 : Int32)), .val (.int (1 : Int32)), .unset, .unset, .unset] [(.int p4), (.int p3), (.int p2), (.int (0 : Int32)), (.int (0 : Int32))])) rfl (by rw [hml]; rfl) (argsL := [(.int (0 : Int32)), (.int (0 : Int32)), (.int p2), (.int p3), (.int p4)]) (rest := []) (lenOf pd_5 rfl) rfl (by show 2 * 0 + _ ≤ _; exact Nat.le_of_eq rfl) (hb hby at_100) (fun _ _ => ⟨rfl, e7, (by decide : 2 + 0 ≤ _), (by decide : 2 + 0 ≤ _)⟩)
    dsimp only [Pt.U, Pt.locs, Pt.cells, Pt.slots] at X8 l8 y8 z8 st8 hQ8
    subst l8 y8 z8
    obtain ⟨rfl, Nq8, e8⟩ := hQ8
    have N8 := Fr.app N7 Nq8
    refine OutW.back st8 ?_
    show OutW _ _ _ _ _ _ _ (T8.setTop (mkF m 103 #[.val (.int p1), .val (.int p2), .val (.int p3), .val (.int p4), .val (.int (0 : Int32)), .val (.ref b3), .val (.ref b4), .val (.int (0 : Int32)), .val (.int (1 : Int32)), .unset, .unset, .unset] [(.int (stepF_0 (0 : Int32) (0 : Int32) p2 p3 p4))]))
    generalize hv_v9 : (stepF_0 (0 : Int32) (0 : Int32) p2 p3 p4) = v9
    refine OutW.back (fun t k => XS.istore X8.here hx rfl (hb hby at_103) rfl (l' := #[.val (.int p1), .val (.int p2), .val (.int p3), .val (.int p4), .val (.int (0 : Int32)), .val (.ref b3), .val (.ref b4), .val (.int (0 : Int32)), .val (.int (1 : Int32)), .val (.int v9), .unset, .unset]) rfl k) ?_
    show OutW _ _ _ _ _ _ _ (T8.setTop (mkF m 105 #[.val (.int p1), .val (.int p2), .val (.int p3), .val (.int p4), .val (.int (0 : Int32)), .val (.ref b3), .val (.ref b4), .val (.int (0 : Int32)), .val (.int (1 : Int32)), .val (.int v9), .unset, .unset] []))
    have pr10 := own_pos0 p2 p3 p4 (0 : Int32) (by decide) (by decide)
    rw [hv_v9] at pr10
    rw [pr10.1] at F_position_b4
    refine OutW.back (fun t k => XS.iload X8.here hx rfl (hb hby at_105) rfl  k) ?_
    show OutW _ _ _ _ _ _ _ (T8.setTop (mkF m 107 #[.val (.int p1), .val (.int p2), .val (.int p3), .val (.int p4), .val (.int (0 : Int32)), .val (.ref b3), .val (.ref b4), .val (.int (0 : Int32)), .val (.int (1 : Int32)), .val (.int v9), .unset, .unset] [(.int (1 : Int32))]))
    refine OutW.back (fun t k => XS.ifNo X8.here hx rfl (hb hby at_107) rfl ((if0 _ _).trans (feq (by decide : ¬ ((1 : Int32) = (0 : Int32)))).1) k) ?_
    show OutW _ _ _ _ _ _ _ (T8.setTop (mkF m 110 #[.val (.int p1), .val (.int p2), .val (.int p3), .val (.int p4), .val (.int (0 : Int32)), .val (.ref b3), .val (.ref b4), .val (.int (0 : Int32)), .val (.int (1 : Int32)), .val (.int v9), .unset, .unset] []))
    refine OutW.back (fun t k => XS.aload X8.here hx rfl (hb hby at_110) rfl rfl  k) ?_
    show OutW _ _ _ _ _ _ _ (T8.setTop (mkF m 112 #[.val (.int p1), .val (.int p2), .val (.int p3), .val (.int p4), .val (.int (0 : Int32)), .val (.ref b3), .val (.ref b4), .val (.int (0 : Int32)), .val (.int (1 : Int32)), .val (.int v9), .unset, .unset] [(.ref b4)]))
    obtain ⟨cq11, kq11, qa11, qb11, qc11⟩ := isOf hZ e8 E_b4
    obtain ⟨_, _, ⟨T11, L11, k11, n11⟩, -, X11, ⟨Lc11, hQ11, l11, y11, z11⟩, st11⟩ := X8.virtualBack hx (y := (⟨"com/example/fulltext_workbench/fulltextworkbench/index/VarintReader", "atEnd", "()Z"⟩ : MethodName)) (z := (⟨"com/example/fulltext_workbench/fulltextworkbench/index/VarintReader", "atEnd", "()Z"⟩ : MethodName)) hown (mvT hZ (hw _ (List.mem_of_getElem? (i := 12) rfl))) (mvT hZ (hw _ (List.mem_of_getElem? (i := 13) rfl))) (notFace_of_selects (args := #[]) (mvT hZ (hw _ (List.mem_of_getElem? (i := 15) rfl)))) (mvT hZ (hw _ (List.mem_of_getElem? (i := 15) rfl))) (mvT hZ (hw _ (List.mem_of_getElem? (i := 14) rfl))) (by decide) (backOf (W := 0) (rm3 l Z a0 hw [] b4 b3 v9 (0 : Int32) [] k3 h7 n0 Z7 F_bytes_b4 F_position_b4 V_b3) hZ (hw _ (List.mem_of_getElem? (i := 16) rfl)) (hw _ (List.mem_of_getElem? (i := 3) rfl)) (by decide) (by decide)) qa11 qc11 (g := (mkF m 112 #[.val (.int p1), .val (.int p2), .val (.int p3), .val (.int p4), .val (.int (0 : Int32)), .val (.ref b3), .val (.ref b4), .val (.int (0 : Int32)), .val (.int (1 : Int32)), .val (.int v9), .unset, .unset] [(.ref b4)])) rfl (by rw [hml]; rfl) (Steps.refl _) (argsL := []) (rest := []) (lenOf pd_3 rfl) rfl (by show 2 * 0 + _ ≤ _; exact Nat.le_of_eq rfl) (hb hby at_112) (fun _ _ => ⟨rfl, e8, (by decide : 2 + 0 ≤ _), (by decide : 2 + 0 ≤ _)⟩)
    dsimp only [Pt.U, Pt.locs, Pt.cells, Pt.slots] at X11 l11 y11 z11 st11 hQ11
    subst l11 y11 z11
    obtain ⟨rfl, Nq11, e11⟩ := hQ11
    have N11 := Fr.app N8 Nq11
    refine OutW.via st11 ?_
    show OutW _ _ _ _ _ _ _ (T11.setTop (mkF m 115 #[.val (.int p1), .val (.int p2), .val (.int p3), .val (.int p4), .val (.int (0 : Int32)), .val (.ref b3), .val (.ref b4), .val (.int (0 : Int32)), .val (.int (1 : Int32)), .val (.int v9), .unset, .unset] [(.int (atE v9 (0 : Int32)))]))
    refine OutW.back (fun t k => XS.iload X11.here hx rfl (hb hby at_115) rfl  k) ?_
    show OutW _ _ _ _ _ _ _ (T11.setTop (mkF m 117 #[.val (.int p1), .val (.int p2), .val (.int p3), .val (.int p4), .val (.int (0 : Int32)), .val (.ref b3), .val (.ref b4), .val (.int (0 : Int32)), .val (.int (1 : Int32)), .val (.int v9), .unset, .unset] [(.int v9), (.int (atE v9 (0 : Int32)))]))
    refine OutW.back (fun t k => XS.iload X11.here hx rfl (hb hby at_117) rfl  k) ?_
    show OutW _ _ _ _ _ _ _ (T11.setTop (mkF m 119 #[.val (.int p1), .val (.int p2), .val (.int p3), .val (.int p4), .val (.int (0 : Int32)), .val (.ref b3), .val (.ref b4), .val (.int (0 : Int32)), .val (.int (1 : Int32)), .val (.int v9), .unset, .unset] [(.int (0 : Int32)), (.int v9), (.int (atE v9 (0 : Int32)))]))
    obtain ⟨v13, hv_v13⟩ : ∃ z : Int32, z = (if v9 = (0 : Int32) then (1 : Int32) else (0 : Int32)) := ⟨_, rfl⟩
    have j14 : ∀ t, Steps p.tables e below (T11.setTop (mkF m 127 #[.val (.int p1), .val (.int p2), .val (.int p3), .val (.int p4), .val (.int (0 : Int32)), .val (.ref b3), .val (.ref b4), .val (.int (0 : Int32)), .val (.int (1 : Int32)), .val (.int v9), .unset, .unset] [(.int v13), (.int (atE v9 (0 : Int32)))])) t → Steps p.tables e below (T11.setTop (mkF m 119 #[.val (.int p1), .val (.int p2), .val (.int p3), .val (.int p4), .val (.int (0 : Int32)), .val (.ref b3), .val (.ref b4), .val (.int (0 : Int32)), .val (.int (1 : Int32)), .val (.int v9), .unset, .unset] [(.int (0 : Int32)), (.int v9), (.int (atE v9 (0 : Int32)))])) t := by
      intro t k
      by_cases c119_15 : v9 = (0 : Int32)
      · skip
        refine XS.icmpNo X11.here hx rfl (hb hby at_119) rfl (teq c119_15).2 ?_
        show Steps p.tables e below (T11.setTop (mkF m 122 #[.val (.int p1), .val (.int p2), .val (.int p3), .val (.int p4), .val (.int (0 : Int32)), .val (.ref b3), .val (.ref b4), .val (.int (0 : Int32)), .val (.int (1 : Int32)), .val (.int v9), .unset, .unset] [(.int (atE v9 (0 : Int32)))])) t
        refine XS.iconst X11.here hx rfl (hb hby at_122) ?_
        show Steps p.tables e below (T11.setTop (mkF m 123 #[.val (.int p1), .val (.int p2), .val (.int p3), .val (.int p4), .val (.int (0 : Int32)), .val (.ref b3), .val (.ref b4), .val (.int (0 : Int32)), .val (.int (1 : Int32)), .val (.int v9), .unset, .unset] [(.int (1 : Int32)), (.int (atE v9 (0 : Int32)))])) t
        refine XS.goto X11.here hx rfl (pc0 := 123) (pc' := 127) rfl (hb hby at_123) (by decide) (by decide) ?_
        show Steps p.tables e below (T11.setTop (mkF m 127 #[.val (.int p1), .val (.int p2), .val (.int p3), .val (.int p4), .val (.int (0 : Int32)), .val (.ref b3), .val (.ref b4), .val (.int (0 : Int32)), .val (.int (1 : Int32)), .val (.int v9), .unset, .unset] [(.int (1 : Int32)), (.int (atE v9 (0 : Int32)))])) t
        have q_v13 : v13 = (1 : Int32) := by rw [hv_v13, if_pos c119_15]
        rw [q_v13] at k
        exact k
      · skip
        refine XS.icmpYes X11.here hx rfl (pc0 := 119) (pc' := 126) rfl (hb hby at_119) rfl (feq c119_15).2 (by decide) (by decide) ?_
        show Steps p.tables e below (T11.setTop (mkF m 126 #[.val (.int p1), .val (.int p2), .val (.int p3), .val (.int p4), .val (.int (0 : Int32)), .val (.ref b3), .val (.ref b4), .val (.int (0 : Int32)), .val (.int (1 : Int32)), .val (.int v9), .unset, .unset] [(.int (atE v9 (0 : Int32)))])) t
        refine XS.iconst X11.here hx rfl (hb hby at_126) ?_
        show Steps p.tables e below (T11.setTop (mkF m 127 #[.val (.int p1), .val (.int p2), .val (.int p3), .val (.int p4), .val (.int (0 : Int32)), .val (.ref b3), .val (.ref b4), .val (.int (0 : Int32)), .val (.int (1 : Int32)), .val (.int v9), .unset, .unset] [(.int (0 : Int32)), (.int (atE v9 (0 : Int32)))])) t
        have q_v13 : v13 = (0 : Int32) := by rw [hv_v13, if_neg c119_15]
        rw [q_v13] at k
        exact k
    refine OutW.back j14 ?_
    show OutW _ _ _ _ _ _ _ (T11.setTop (mkF m 127 #[.val (.int p1), .val (.int p2), .val (.int p3), .val (.int p4), .val (.int (0 : Int32)), .val (.ref b3), .val (.ref b4), .val (.int (0 : Int32)), .val (.int (1 : Int32)), .val (.int v9), .unset, .unset] [(.int v13), (.int (atE v9 (0 : Int32)))]))
    refine OutW.back (fun t k => XS.icmpNo X11.here hx rfl (hb hby at_127) rfl (teq (by rw [hv_v13]; rfl)).2 k) ?_
    show OutW _ _ _ _ _ _ _ (T11.setTop (mkF m 130 #[.val (.int p1), .val (.int p2), .val (.int p3), .val (.int p4), .val (.int (0 : Int32)), .val (.ref b3), .val (.ref b4), .val (.int (0 : Int32)), .val (.int (1 : Int32)), .val (.int v9), .unset, .unset] []))
    refine OutW.back (fun t k => XS.iconst X11.here hx rfl (hb hby at_130) k) ?_
    show OutW _ _ _ _ _ _ _ (T11.setTop (mkF m 131 #[.val (.int p1), .val (.int p2), .val (.int p3), .val (.int p4), .val (.int (0 : Int32)), .val (.ref b3), .val (.ref b4), .val (.int (0 : Int32)), .val (.int (1 : Int32)), .val (.int v9), .unset, .unset] [(.int (1 : Int32))]))
    refine OutW.back (fun t k => XS.goto X11.here hx rfl (pc0 := 131) (pc' := 135) rfl (hb hby at_131) (by decide) (by decide) k) ?_
    show OutW _ _ _ _ _ _ _ (T11.setTop (mkF m 135 #[.val (.int p1), .val (.int p2), .val (.int p3), .val (.int p4), .val (.int (0 : Int32)), .val (.ref b3), .val (.ref b4), .val (.int (0 : Int32)), .val (.int (1 : Int32)), .val (.int v9), .unset, .unset] [(.int (1 : Int32))]))
    refine OutW.back (fun t k => XS.istore X11.here hx rfl (hb hby at_135) rfl (l' := #[.val (.int p1), .val (.int p2), .val (.int p3), .val (.int p4), .val (.int (0 : Int32)), .val (.ref b3), .val (.ref b4), .val (.int (0 : Int32)), .val (.int (1 : Int32)), .val (.int v9), .unset, .unset]) rfl k) ?_
    show OutW _ _ _ _ _ _ _ (T11.setTop (mkF m 137 #[.val (.int p1), .val (.int p2), .val (.int p3), .val (.int p4), .val (.int (0 : Int32)), .val (.ref b3), .val (.ref b4), .val (.int (0 : Int32)), .val (.int (1 : Int32)), .val (.int v9), .unset, .unset] []))
    refine OutW.back (fun t k => XS.aload X11.here hx rfl (hb hby at_137) rfl rfl  k) ?_
    show OutW _ _ _ _ _ _ _ (T11.setTop (mkF m 139 #[.val (.int p1), .val (.int p2), .val (.int p3), .val (.int p4), .val (.int (0 : Int32)), .val (.ref b3), .val (.ref b4), .val (.int (0 : Int32)), .val (.int (1 : Int32)), .val (.int v9), .unset, .unset] [(.ref b4)]))
    obtain ⟨cq16, kq16, qa16, qb16, qc16⟩ := isOf hZ e11 E_b4
    obtain ⟨_, _, ⟨T16, L16, k16, n16⟩, -, X16, ⟨Lc16, hQ16, l16, y16, z16⟩, st16⟩ := X11.virtualBack hx (y := (⟨"com/example/fulltext_workbench/fulltextworkbench/index/VarintReader", "next", "()I"⟩ : MethodName)) (z := (⟨"com/example/fulltext_workbench/fulltextworkbench/index/VarintReader", "next", "()I"⟩ : MethodName)) hown (mvT hZ (hw _ (List.mem_of_getElem? (i := 19) rfl))) (mvT hZ (hw _ (List.mem_of_getElem? (i := 20) rfl))) (notFace_of_selects (args := #[]) (mvT hZ (hw _ (List.mem_of_getElem? (i := 22) rfl)))) (mvT hZ (hw _ (List.mem_of_getElem? (i := 22) rfl))) (mvT hZ (hw _ (List.mem_of_getElem? (i := 21) rfl))) (by decide) (backOf (W := 0) (rm4 l Z a0 hw [] b4 b3 v9 (0 : Int32) [] k3 (Bn []) h7 n0 Z7 E_b4 g_b4 F_bytes_b4 F_position_b4 V_b3 ne_b3_b4 (fun j _ _ => own_getD [] _ 0) pr10.2.1) hZ (hw _ (List.mem_of_getElem? (i := 23) rfl)) (hw _ (List.mem_of_getElem? (i := 3) rfl)) (by decide) (by decide)) qa16 qc16 (g := (mkF m 139 #[.val (.int p1), .val (.int p2), .val (.int p3), .val (.int p4), .val (.int (0 : Int32)), .val (.ref b3), .val (.ref b4), .val (.int (0 : Int32)), .val (.int (1 : Int32)), .val (.int v9), .unset, .unset] [(.ref b4)])) rfl (by rw [hml]; rfl) (Steps.refl _) (argsL := []) (rest := []) (lenOf pd_4 rfl) rfl (by show 2 * 0 + _ ≤ _; exact Nat.le_of_eq rfl) (hb hby at_139) (fun _ _ => ⟨rfl, e11, (by decide : 2 + 0 ≤ _), (by decide : 2 + 0 ≤ _)⟩)
    dsimp only [Pt.U, Pt.locs, Pt.cells, Pt.slots] at X16 l16 y16 z16 st16 hQ16
    subst l16 y16 z16
    obtain ⟨h16, eh16⟩ : ∃ z, z = T16.heap := ⟨_, rfl⟩
    rw [← eh16] at hQ16
    have e16 : T16.heap = h16 := eh16.symm
    obtain ⟨rfl, Nq16, Kq16, F_position_b4, F_bytes_b4⟩ := hQ16
    have V_b3 := V_b3.keep Kq16 (ninS ne_b3_b4 nin0)
    have E_b4 := E_b4.keep Kq16
    have Z16 : n0 ≤ h16.size := Nat.le_trans Z7 Kq16.1
    have K16 := K7.trans Kq16 (allS (Or.inr sz_b4) all0)
    have N16 := Fr.app N11 Nq16
    refine OutW.via st16 ?_
    show OutW _ _ _ _ _ _ _ (T16.setTop (mkF m 142 #[.val (.int p1), .val (.int p2), .val (.int p3), .val (.int p4), .val (.int (0 : Int32)), .val (.ref b3), .val (.ref b4), .val (.int (0 : Int32)), .val (.int (1 : Int32)), .val (.int v9), .unset, .unset] [(.int (nxt (Bn []) (0 : Int32) v9))]))
    refine OutW.back (fun t k => XS.pop X16.here hx rfl (hb hby at_142) rfl rfl k) ?_
    show OutW _ _ _ _ _ _ _ (T16.setTop (mkF m 143 #[.val (.int p1), .val (.int p2), .val (.int p3), .val (.int p4), .val (.int (0 : Int32)), .val (.ref b3), .val (.ref b4), .val (.int (0 : Int32)), .val (.int (1 : Int32)), .val (.int v9), .unset, .unset] []))
    refine OutW.back (fun t k => XS.iload X16.here hx rfl (hb hby at_143) rfl  k) ?_
    show OutW _ _ _ _ _ _ _ (T16.setTop (mkF m 145 #[.val (.int p1), .val (.int p2), .val (.int p3), .val (.int p4), .val (.int (0 : Int32)), .val (.ref b3), .val (.ref b4), .val (.int (0 : Int32)), .val (.int (1 : Int32)), .val (.int v9), .unset, .unset] [(.int v9)]))
    refine OutW.back (fun t k => XS.iload X16.here hx rfl (hb hby at_145) rfl  k) ?_
    show OutW _ _ _ _ _ _ _ (T16.setTop (mkF m 147 #[.val (.int p1), .val (.int p2), .val (.int p3), .val (.int p4), .val (.int (0 : Int32)), .val (.ref b3), .val (.ref b4), .val (.int (0 : Int32)), .val (.int (1 : Int32)), .val (.int v9), .unset, .unset] [(.int (0 : Int32)), (.int v9)]))
    refine OutW.back (fun t k => XS.iloadN X16.here hx rfl (hb hby at_147) rfl  k) ?_
    show OutW _ _ _ _ _ _ _ (T16.setTop (mkF m 148 #[.val (.int p1), .val (.int p2), .val (.int p3), .val (.int p4), .val (.int (0 : Int32)), .val (.ref b3), .val (.ref b4), .val (.int (0 : Int32)), .val (.int (1 : Int32)), .val (.int v9), .unset, .unset] [(.int p2), (.int (0 : Int32)), (.int v9)]))
    refine OutW.back (fun t k => XS.iloadN X16.here hx rfl (hb hby at_148) rfl  k) ?_
    show OutW _ _ _ _ _ _ _ (T16.setTop (mkF m 149 #[.val (.int p1), .val (.int p2), .val (.int p3), .val (.int p4), .val (.int (0 : Int32)), .val (.ref b3), .val (.ref b4), .val (.int (0 : Int32)), .val (.int (1 : Int32)), .val (.int v9), .unset, .unset] [(.int p3), (.int p2), (.int (0 : Int32)), (.int v9)]))
    refine OutW.back (fun t k => XS.iloadN X16.here hx rfl (hb hby at_149) rfl  k) ?_
    show OutW _ _ _ _ _ _ _ (T16.setTop (mkF m 150 #[.val (.int p1), .val (.int p2), .val (.int p3), .val (.int p4), .val (.int (0 : Int32)), .val (.ref b3), .val (.ref b4), .val (.int (0 : Int32)), .val (.int (1 : Int32)), .val (.int v9), .unset, .unset] [(.int p4), (.int p3), (.int p2), (.int (0 : Int32)), (.int v9)]))
    obtain ⟨_, _, ⟨T17, L17, k17, n17⟩, -, X17, ⟨Lc17, hQ17, l17, y17, z17⟩, st17⟩ := Jvm.LawKit.callS X16 hx (y := (⟨"com/example/fulltext_workbench/fulltextworkbench/index/VarintReaderAtEndPinLaw", "step", "(IIIII)I"⟩ : MethodName)) hown (mvT hZ (hw _ (List.mem_of_getElem? (i := 24) rfl))) (mvT hZ (hw _ (List.mem_of_getElem? (i := 25) rfl))) (mvT hZ (hw _ (List.mem_of_getElem? (i := 26) rfl))) (mvT hZ (hw _ (List.mem_of_getElem? (i := 27) rfl))) (by decide) (backOf (W := 0) (rm5 l Z a0 hw [] v9 (0 : Int32) p2 p3 p4 h16 n0 Z16) hZ (hw _ (List.mem_of_getElem? (i := 27) rfl)) (hw _ (List.mem_of_getElem? (i := 26) rfl)) (by decide) (by decide)) (g := (mkF m 150 #[.val (.int p1), .val (.int p2), .val (.int p3), .val (.int p4), .val (.int (0 : Int32)), .val (.ref b3), .val (.ref b4), .val (.int (0 : Int32)), .val (.int (1 : Int32)), .val (.int v9), .unset, .unset] [(.int p4), (.int p3), (.int p2), (.int (0 : Int32)), (.int v9)])) rfl (by rw [hml]; rfl) (argsL := [(.int v9), (.int (0 : Int32)), (.int p2), (.int p3), (.int p4)]) (rest := []) (lenOf pd_5 rfl) rfl (by show 2 * 0 + _ ≤ _; exact Nat.le_of_eq rfl) (hb hby at_150) (fun _ _ => ⟨rfl, e16, (by decide : 2 + 0 ≤ _), (by decide : 2 + 0 ≤ _)⟩)
    dsimp only [Pt.U, Pt.locs, Pt.cells, Pt.slots] at X17 l17 y17 z17 st17 hQ17
    subst l17 y17 z17
    obtain ⟨rfl, Nq17, e17⟩ := hQ17
    have N17 := Fr.app N16 Nq17
    refine OutW.back st17 ?_
    show OutW _ _ _ _ _ _ _ (T17.setTop (mkF m 153 #[.val (.int p1), .val (.int p2), .val (.int p3), .val (.int p4), .val (.int (0 : Int32)), .val (.ref b3), .val (.ref b4), .val (.int (0 : Int32)), .val (.int (1 : Int32)), .val (.int v9), .unset, .unset] [(.int (stepF_0 v9 (0 : Int32) p2 p3 p4))]))
    generalize hv_v18 : (stepF_0 v9 (0 : Int32) p2 p3 p4) = v18
    refine OutW.back (fun t k => XS.istore X17.here hx rfl (hb hby at_153) rfl (l' := #[.val (.int p1), .val (.int p2), .val (.int p3), .val (.int p4), .val (.int (0 : Int32)), .val (.ref b3), .val (.ref b4), .val (.int (0 : Int32)), .val (.int (1 : Int32)), .val (.int v9), .val (.int v18), .unset]) rfl k) ?_
    show OutW _ _ _ _ _ _ _ (T17.setTop (mkF m 155 #[.val (.int p1), .val (.int p2), .val (.int p3), .val (.int p4), .val (.int (0 : Int32)), .val (.ref b3), .val (.ref b4), .val (.int (0 : Int32)), .val (.int (1 : Int32)), .val (.int v9), .val (.int v18), .unset] []))
    have pr19 := own_pos0 p2 p3 p4 v9 pr10.2.1 pr10.2.2
    rw [hv_v18] at pr19
    rw [pr19.1] at F_position_b4
    refine OutW.back (fun t k => XS.iload X17.here hx rfl (hb hby at_155) rfl  k) ?_
    show OutW _ _ _ _ _ _ _ (T17.setTop (mkF m 157 #[.val (.int p1), .val (.int p2), .val (.int p3), .val (.int p4), .val (.int (0 : Int32)), .val (.ref b3), .val (.ref b4), .val (.int (0 : Int32)), .val (.int (1 : Int32)), .val (.int v9), .val (.int v18), .unset] [(.int (1 : Int32))]))
    refine OutW.back (fun t k => XS.ifNo X17.here hx rfl (hb hby at_157) rfl ((if0 _ _).trans (feq (by decide : ¬ ((1 : Int32) = (0 : Int32)))).1) k) ?_
    show OutW _ _ _ _ _ _ _ (T17.setTop (mkF m 160 #[.val (.int p1), .val (.int p2), .val (.int p3), .val (.int p4), .val (.int (0 : Int32)), .val (.ref b3), .val (.ref b4), .val (.int (0 : Int32)), .val (.int (1 : Int32)), .val (.int v9), .val (.int v18), .unset] []))
    refine OutW.back (fun t k => XS.aload X17.here hx rfl (hb hby at_160) rfl rfl  k) ?_
    show OutW _ _ _ _ _ _ _ (T17.setTop (mkF m 162 #[.val (.int p1), .val (.int p2), .val (.int p3), .val (.int p4), .val (.int (0 : Int32)), .val (.ref b3), .val (.ref b4), .val (.int (0 : Int32)), .val (.int (1 : Int32)), .val (.int v9), .val (.int v18), .unset] [(.ref b4)]))
    obtain ⟨cq20, kq20, qa20, qb20, qc20⟩ := isOf hZ e17 E_b4
    obtain ⟨_, _, ⟨T20, L20, k20, n20⟩, -, X20, ⟨Lc20, hQ20, l20, y20, z20⟩, st20⟩ := X17.virtualBack hx (y := (⟨"com/example/fulltext_workbench/fulltextworkbench/index/VarintReader", "atEnd", "()Z"⟩ : MethodName)) (z := (⟨"com/example/fulltext_workbench/fulltextworkbench/index/VarintReader", "atEnd", "()Z"⟩ : MethodName)) hown (mvT hZ (hw _ (List.mem_of_getElem? (i := 12) rfl))) (mvT hZ (hw _ (List.mem_of_getElem? (i := 13) rfl))) (notFace_of_selects (args := #[]) (mvT hZ (hw _ (List.mem_of_getElem? (i := 15) rfl)))) (mvT hZ (hw _ (List.mem_of_getElem? (i := 15) rfl))) (mvT hZ (hw _ (List.mem_of_getElem? (i := 14) rfl))) (by decide) (backOf (W := 0) (rm3 l Z a0 hw [] b4 b3 v18 (0 : Int32) [] k3 h16 n0 Z16 F_bytes_b4 F_position_b4 V_b3) hZ (hw _ (List.mem_of_getElem? (i := 16) rfl)) (hw _ (List.mem_of_getElem? (i := 3) rfl)) (by decide) (by decide)) qa20 qc20 (g := (mkF m 162 #[.val (.int p1), .val (.int p2), .val (.int p3), .val (.int p4), .val (.int (0 : Int32)), .val (.ref b3), .val (.ref b4), .val (.int (0 : Int32)), .val (.int (1 : Int32)), .val (.int v9), .val (.int v18), .unset] [(.ref b4)])) rfl (by rw [hml]; rfl) (Steps.refl _) (argsL := []) (rest := []) (lenOf pd_3 rfl) rfl (by show 2 * 0 + _ ≤ _; exact Nat.le_of_eq rfl) (hb hby at_162) (fun _ _ => ⟨rfl, e17, (by decide : 2 + 0 ≤ _), (by decide : 2 + 0 ≤ _)⟩)
    dsimp only [Pt.U, Pt.locs, Pt.cells, Pt.slots] at X20 l20 y20 z20 st20 hQ20
    subst l20 y20 z20
    obtain ⟨rfl, Nq20, e20⟩ := hQ20
    have N20 := Fr.app N17 Nq20
    refine OutW.via st20 ?_
    show OutW _ _ _ _ _ _ _ (T20.setTop (mkF m 165 #[.val (.int p1), .val (.int p2), .val (.int p3), .val (.int p4), .val (.int (0 : Int32)), .val (.ref b3), .val (.ref b4), .val (.int (0 : Int32)), .val (.int (1 : Int32)), .val (.int v9), .val (.int v18), .unset] [(.int (atE v18 (0 : Int32)))]))
    refine OutW.back (fun t k => XS.iload X20.here hx rfl (hb hby at_165) rfl  k) ?_
    show OutW _ _ _ _ _ _ _ (T20.setTop (mkF m 167 #[.val (.int p1), .val (.int p2), .val (.int p3), .val (.int p4), .val (.int (0 : Int32)), .val (.ref b3), .val (.ref b4), .val (.int (0 : Int32)), .val (.int (1 : Int32)), .val (.int v9), .val (.int v18), .unset] [(.int v18), (.int (atE v18 (0 : Int32)))]))
    refine OutW.back (fun t k => XS.iload X20.here hx rfl (hb hby at_167) rfl  k) ?_
    show OutW _ _ _ _ _ _ _ (T20.setTop (mkF m 169 #[.val (.int p1), .val (.int p2), .val (.int p3), .val (.int p4), .val (.int (0 : Int32)), .val (.ref b3), .val (.ref b4), .val (.int (0 : Int32)), .val (.int (1 : Int32)), .val (.int v9), .val (.int v18), .unset] [(.int (0 : Int32)), (.int v18), (.int (atE v18 (0 : Int32)))]))
    obtain ⟨v22, hv_v22⟩ : ∃ z : Int32, z = (if v18 = (0 : Int32) then (1 : Int32) else (0 : Int32)) := ⟨_, rfl⟩
    have j23 : ∀ t, Steps p.tables e below (T20.setTop (mkF m 177 #[.val (.int p1), .val (.int p2), .val (.int p3), .val (.int p4), .val (.int (0 : Int32)), .val (.ref b3), .val (.ref b4), .val (.int (0 : Int32)), .val (.int (1 : Int32)), .val (.int v9), .val (.int v18), .unset] [(.int v22), (.int (atE v18 (0 : Int32)))])) t → Steps p.tables e below (T20.setTop (mkF m 169 #[.val (.int p1), .val (.int p2), .val (.int p3), .val (.int p4), .val (.int (0 : Int32)), .val (.ref b3), .val (.ref b4), .val (.int (0 : Int32)), .val (.int (1 : Int32)), .val (.int v9), .val (.int v18), .unset] [(.int (0 : Int32)), (.int v18), (.int (atE v18 (0 : Int32)))])) t := by
      intro t k
      by_cases c169_24 : v18 = (0 : Int32)
      · skip
        refine XS.icmpNo X20.here hx rfl (hb hby at_169) rfl (teq c169_24).2 ?_
        show Steps p.tables e below (T20.setTop (mkF m 172 #[.val (.int p1), .val (.int p2), .val (.int p3), .val (.int p4), .val (.int (0 : Int32)), .val (.ref b3), .val (.ref b4), .val (.int (0 : Int32)), .val (.int (1 : Int32)), .val (.int v9), .val (.int v18), .unset] [(.int (atE v18 (0 : Int32)))])) t
        refine XS.iconst X20.here hx rfl (hb hby at_172) ?_
        show Steps p.tables e below (T20.setTop (mkF m 173 #[.val (.int p1), .val (.int p2), .val (.int p3), .val (.int p4), .val (.int (0 : Int32)), .val (.ref b3), .val (.ref b4), .val (.int (0 : Int32)), .val (.int (1 : Int32)), .val (.int v9), .val (.int v18), .unset] [(.int (1 : Int32)), (.int (atE v18 (0 : Int32)))])) t
        refine XS.goto X20.here hx rfl (pc0 := 173) (pc' := 177) rfl (hb hby at_173) (by decide) (by decide) ?_
        show Steps p.tables e below (T20.setTop (mkF m 177 #[.val (.int p1), .val (.int p2), .val (.int p3), .val (.int p4), .val (.int (0 : Int32)), .val (.ref b3), .val (.ref b4), .val (.int (0 : Int32)), .val (.int (1 : Int32)), .val (.int v9), .val (.int v18), .unset] [(.int (1 : Int32)), (.int (atE v18 (0 : Int32)))])) t
        have q_v22 : v22 = (1 : Int32) := by rw [hv_v22, if_pos c169_24]
        rw [q_v22] at k
        exact k
      · skip
        refine XS.icmpYes X20.here hx rfl (pc0 := 169) (pc' := 176) rfl (hb hby at_169) rfl (feq c169_24).2 (by decide) (by decide) ?_
        show Steps p.tables e below (T20.setTop (mkF m 176 #[.val (.int p1), .val (.int p2), .val (.int p3), .val (.int p4), .val (.int (0 : Int32)), .val (.ref b3), .val (.ref b4), .val (.int (0 : Int32)), .val (.int (1 : Int32)), .val (.int v9), .val (.int v18), .unset] [(.int (atE v18 (0 : Int32)))])) t
        refine XS.iconst X20.here hx rfl (hb hby at_176) ?_
        show Steps p.tables e below (T20.setTop (mkF m 177 #[.val (.int p1), .val (.int p2), .val (.int p3), .val (.int p4), .val (.int (0 : Int32)), .val (.ref b3), .val (.ref b4), .val (.int (0 : Int32)), .val (.int (1 : Int32)), .val (.int v9), .val (.int v18), .unset] [(.int (0 : Int32)), (.int (atE v18 (0 : Int32)))])) t
        have q_v22 : v22 = (0 : Int32) := by rw [hv_v22, if_neg c169_24]
        rw [q_v22] at k
        exact k
    refine OutW.back j23 ?_
    show OutW _ _ _ _ _ _ _ (T20.setTop (mkF m 177 #[.val (.int p1), .val (.int p2), .val (.int p3), .val (.int p4), .val (.int (0 : Int32)), .val (.ref b3), .val (.ref b4), .val (.int (0 : Int32)), .val (.int (1 : Int32)), .val (.int v9), .val (.int v18), .unset] [(.int v22), (.int (atE v18 (0 : Int32)))]))
    refine OutW.back (fun t k => XS.icmpNo X20.here hx rfl (hb hby at_177) rfl (teq (by rw [hv_v22]; rfl)).2 k) ?_
    show OutW _ _ _ _ _ _ _ (T20.setTop (mkF m 180 #[.val (.int p1), .val (.int p2), .val (.int p3), .val (.int p4), .val (.int (0 : Int32)), .val (.ref b3), .val (.ref b4), .val (.int (0 : Int32)), .val (.int (1 : Int32)), .val (.int v9), .val (.int v18), .unset] []))
    refine OutW.back (fun t k => XS.iconst X20.here hx rfl (hb hby at_180) k) ?_
    show OutW _ _ _ _ _ _ _ (T20.setTop (mkF m 181 #[.val (.int p1), .val (.int p2), .val (.int p3), .val (.int p4), .val (.int (0 : Int32)), .val (.ref b3), .val (.ref b4), .val (.int (0 : Int32)), .val (.int (1 : Int32)), .val (.int v9), .val (.int v18), .unset] [(.int (1 : Int32))]))
    refine OutW.back (fun t k => XS.goto X20.here hx rfl (pc0 := 181) (pc' := 185) rfl (hb hby at_181) (by decide) (by decide) k) ?_
    show OutW _ _ _ _ _ _ _ (T20.setTop (mkF m 185 #[.val (.int p1), .val (.int p2), .val (.int p3), .val (.int p4), .val (.int (0 : Int32)), .val (.ref b3), .val (.ref b4), .val (.int (0 : Int32)), .val (.int (1 : Int32)), .val (.int v9), .val (.int v18), .unset] [(.int (1 : Int32))]))
    refine OutW.back (fun t k => XS.istore X20.here hx rfl (hb hby at_185) rfl (l' := #[.val (.int p1), .val (.int p2), .val (.int p3), .val (.int p4), .val (.int (0 : Int32)), .val (.ref b3), .val (.ref b4), .val (.int (0 : Int32)), .val (.int (1 : Int32)), .val (.int v9), .val (.int v18), .unset]) rfl k) ?_
    show OutW _ _ _ _ _ _ _ (T20.setTop (mkF m 187 #[.val (.int p1), .val (.int p2), .val (.int p3), .val (.int p4), .val (.int (0 : Int32)), .val (.ref b3), .val (.ref b4), .val (.int (0 : Int32)), .val (.int (1 : Int32)), .val (.int v9), .val (.int v18), .unset] []))
    refine OutW.back (fun t k => XS.aload X20.here hx rfl (hb hby at_187) rfl rfl  k) ?_
    show OutW _ _ _ _ _ _ _ (T20.setTop (mkF m 189 #[.val (.int p1), .val (.int p2), .val (.int p3), .val (.int p4), .val (.int (0 : Int32)), .val (.ref b3), .val (.ref b4), .val (.int (0 : Int32)), .val (.int (1 : Int32)), .val (.int v9), .val (.int v18), .unset] [(.ref b4)]))
    obtain ⟨cq25, kq25, qa25, qb25, qc25⟩ := isOf hZ e20 E_b4
    obtain ⟨_, _, ⟨T25, L25, k25, n25⟩, -, X25, ⟨Lc25, hQ25, l25, y25, z25⟩, st25⟩ := X20.virtualBack hx (y := (⟨"com/example/fulltext_workbench/fulltextworkbench/index/VarintReader", "next", "()I"⟩ : MethodName)) (z := (⟨"com/example/fulltext_workbench/fulltextworkbench/index/VarintReader", "next", "()I"⟩ : MethodName)) hown (mvT hZ (hw _ (List.mem_of_getElem? (i := 19) rfl))) (mvT hZ (hw _ (List.mem_of_getElem? (i := 20) rfl))) (notFace_of_selects (args := #[]) (mvT hZ (hw _ (List.mem_of_getElem? (i := 22) rfl)))) (mvT hZ (hw _ (List.mem_of_getElem? (i := 22) rfl))) (mvT hZ (hw _ (List.mem_of_getElem? (i := 21) rfl))) (by decide) (backOf (W := 0) (rm4 l Z a0 hw [] b4 b3 v18 (0 : Int32) [] k3 (Bn []) h16 n0 Z16 E_b4 g_b4 F_bytes_b4 F_position_b4 V_b3 ne_b3_b4 (fun j _ _ => own_getD [] _ 0) pr19.2.1) hZ (hw _ (List.mem_of_getElem? (i := 23) rfl)) (hw _ (List.mem_of_getElem? (i := 3) rfl)) (by decide) (by decide)) qa25 qc25 (g := (mkF m 189 #[.val (.int p1), .val (.int p2), .val (.int p3), .val (.int p4), .val (.int (0 : Int32)), .val (.ref b3), .val (.ref b4), .val (.int (0 : Int32)), .val (.int (1 : Int32)), .val (.int v9), .val (.int v18), .unset] [(.ref b4)])) rfl (by rw [hml]; rfl) (Steps.refl _) (argsL := []) (rest := []) (lenOf pd_4 rfl) rfl (by show 2 * 0 + _ ≤ _; exact Nat.le_of_eq rfl) (hb hby at_189) (fun _ _ => ⟨rfl, e20, (by decide : 2 + 0 ≤ _), (by decide : 2 + 0 ≤ _)⟩)
    dsimp only [Pt.U, Pt.locs, Pt.cells, Pt.slots] at X25 l25 y25 z25 st25 hQ25
    subst l25 y25 z25
    obtain ⟨h25, eh25⟩ : ∃ z, z = T25.heap := ⟨_, rfl⟩
    rw [← eh25] at hQ25
    have e25 : T25.heap = h25 := eh25.symm
    obtain ⟨rfl, Nq25, Kq25, F_position_b4, F_bytes_b4⟩ := hQ25
    have V_b3 := V_b3.keep Kq25 (ninS ne_b3_b4 nin0)
    have E_b4 := E_b4.keep Kq25
    have Z25 : n0 ≤ h25.size := Nat.le_trans Z16 Kq25.1
    have K25 := K16.trans Kq25 (allS (Or.inr sz_b4) all0)
    have N25 := Fr.app N20 Nq25
    refine OutW.via st25 ?_
    show OutW _ _ _ _ _ _ _ (T25.setTop (mkF m 192 #[.val (.int p1), .val (.int p2), .val (.int p3), .val (.int p4), .val (.int (0 : Int32)), .val (.ref b3), .val (.ref b4), .val (.int (0 : Int32)), .val (.int (1 : Int32)), .val (.int v9), .val (.int v18), .unset] [(.int (nxt (Bn []) (0 : Int32) v18))]))
    refine OutW.back (fun t k => XS.pop X25.here hx rfl (hb hby at_192) rfl rfl k) ?_
    show OutW _ _ _ _ _ _ _ (T25.setTop (mkF m 193 #[.val (.int p1), .val (.int p2), .val (.int p3), .val (.int p4), .val (.int (0 : Int32)), .val (.ref b3), .val (.ref b4), .val (.int (0 : Int32)), .val (.int (1 : Int32)), .val (.int v9), .val (.int v18), .unset] []))
    refine OutW.back (fun t k => XS.iload X25.here hx rfl (hb hby at_193) rfl  k) ?_
    show OutW _ _ _ _ _ _ _ (T25.setTop (mkF m 195 #[.val (.int p1), .val (.int p2), .val (.int p3), .val (.int p4), .val (.int (0 : Int32)), .val (.ref b3), .val (.ref b4), .val (.int (0 : Int32)), .val (.int (1 : Int32)), .val (.int v9), .val (.int v18), .unset] [(.int v18)]))
    refine OutW.back (fun t k => XS.iload X25.here hx rfl (hb hby at_195) rfl  k) ?_
    show OutW _ _ _ _ _ _ _ (T25.setTop (mkF m 197 #[.val (.int p1), .val (.int p2), .val (.int p3), .val (.int p4), .val (.int (0 : Int32)), .val (.ref b3), .val (.ref b4), .val (.int (0 : Int32)), .val (.int (1 : Int32)), .val (.int v9), .val (.int v18), .unset] [(.int (0 : Int32)), (.int v18)]))
    refine OutW.back (fun t k => XS.iloadN X25.here hx rfl (hb hby at_197) rfl  k) ?_
    show OutW _ _ _ _ _ _ _ (T25.setTop (mkF m 198 #[.val (.int p1), .val (.int p2), .val (.int p3), .val (.int p4), .val (.int (0 : Int32)), .val (.ref b3), .val (.ref b4), .val (.int (0 : Int32)), .val (.int (1 : Int32)), .val (.int v9), .val (.int v18), .unset] [(.int p2), (.int (0 : Int32)), (.int v18)]))
    refine OutW.back (fun t k => XS.iloadN X25.here hx rfl (hb hby at_198) rfl  k) ?_
    show OutW _ _ _ _ _ _ _ (T25.setTop (mkF m 199 #[.val (.int p1), .val (.int p2), .val (.int p3), .val (.int p4), .val (.int (0 : Int32)), .val (.ref b3), .val (.ref b4), .val (.int (0 : Int32)), .val (.int (1 : Int32)), .val (.int v9), .val (.int v18), .unset] [(.int p3), (.int p2), (.int (0 : Int32)), (.int v18)]))
    refine OutW.back (fun t k => XS.iloadN X25.here hx rfl (hb hby at_199) rfl  k) ?_
    show OutW _ _ _ _ _ _ _ (T25.setTop (mkF m 200 #[.val (.int p1), .val (.int p2), .val (.int p3), .val (.int p4), .val (.int (0 : Int32)), .val (.ref b3), .val (.ref b4), .val (.int (0 : Int32)), .val (.int (1 : Int32)), .val (.int v9), .val (.int v18), .unset] [(.int p4), (.int p3), (.int p2), (.int (0 : Int32)), (.int v18)]))
    obtain ⟨_, _, ⟨T26, L26, k26, n26⟩, -, X26, ⟨Lc26, hQ26, l26, y26, z26⟩, st26⟩ := Jvm.LawKit.callS X25 hx (y := (⟨"com/example/fulltext_workbench/fulltextworkbench/index/VarintReaderAtEndPinLaw", "step", "(IIIII)I"⟩ : MethodName)) hown (mvT hZ (hw _ (List.mem_of_getElem? (i := 24) rfl))) (mvT hZ (hw _ (List.mem_of_getElem? (i := 25) rfl))) (mvT hZ (hw _ (List.mem_of_getElem? (i := 26) rfl))) (mvT hZ (hw _ (List.mem_of_getElem? (i := 27) rfl))) (by decide) (backOf (W := 0) (rm5 l Z a0 hw [] v18 (0 : Int32) p2 p3 p4 h25 n0 Z25) hZ (hw _ (List.mem_of_getElem? (i := 27) rfl)) (hw _ (List.mem_of_getElem? (i := 26) rfl)) (by decide) (by decide)) (g := (mkF m 200 #[.val (.int p1), .val (.int p2), .val (.int p3), .val (.int p4), .val (.int (0 : Int32)), .val (.ref b3), .val (.ref b4), .val (.int (0 : Int32)), .val (.int (1 : Int32)), .val (.int v9), .val (.int v18), .unset] [(.int p4), (.int p3), (.int p2), (.int (0 : Int32)), (.int v18)])) rfl (by rw [hml]; rfl) (argsL := [(.int v18), (.int (0 : Int32)), (.int p2), (.int p3), (.int p4)]) (rest := []) (lenOf pd_5 rfl) rfl (by show 2 * 0 + _ ≤ _; exact Nat.le_of_eq rfl) (hb hby at_200) (fun _ _ => ⟨rfl, e25, (by decide : 2 + 0 ≤ _), (by decide : 2 + 0 ≤ _)⟩)
    dsimp only [Pt.U, Pt.locs, Pt.cells, Pt.slots] at X26 l26 y26 z26 st26 hQ26
    subst l26 y26 z26
    obtain ⟨rfl, Nq26, e26⟩ := hQ26
    have N26 := Fr.app N25 Nq26
    refine OutW.back st26 ?_
    show OutW _ _ _ _ _ _ _ (T26.setTop (mkF m 203 #[.val (.int p1), .val (.int p2), .val (.int p3), .val (.int p4), .val (.int (0 : Int32)), .val (.ref b3), .val (.ref b4), .val (.int (0 : Int32)), .val (.int (1 : Int32)), .val (.int v9), .val (.int v18), .unset] [(.int (stepF_0 v18 (0 : Int32) p2 p3 p4))]))
    generalize hv_v27 : (stepF_0 v18 (0 : Int32) p2 p3 p4) = v27
    refine OutW.back (fun t k => XS.istore X26.here hx rfl (hb hby at_203) rfl (l' := #[.val (.int p1), .val (.int p2), .val (.int p3), .val (.int p4), .val (.int (0 : Int32)), .val (.ref b3), .val (.ref b4), .val (.int (0 : Int32)), .val (.int (1 : Int32)), .val (.int v9), .val (.int v18), .val (.int v27)]) rfl k) ?_
    show OutW _ _ _ _ _ _ _ (T26.setTop (mkF m 205 #[.val (.int p1), .val (.int p2), .val (.int p3), .val (.int p4), .val (.int (0 : Int32)), .val (.ref b3), .val (.ref b4), .val (.int (0 : Int32)), .val (.int (1 : Int32)), .val (.int v9), .val (.int v18), .val (.int v27)] []))
    have pr28 := own_pos0 p2 p3 p4 v18 pr19.2.1 pr19.2.2
    rw [hv_v27] at pr28
    rw [pr28.1] at F_position_b4
    refine OutW.back (fun t k => XS.iload X26.here hx rfl (hb hby at_205) rfl  k) ?_
    show OutW _ _ _ _ _ _ _ (T26.setTop (mkF m 207 #[.val (.int p1), .val (.int p2), .val (.int p3), .val (.int p4), .val (.int (0 : Int32)), .val (.ref b3), .val (.ref b4), .val (.int (0 : Int32)), .val (.int (1 : Int32)), .val (.int v9), .val (.int v18), .val (.int v27)] [(.int (1 : Int32))]))
    refine OutW.back (fun t k => XS.ifNo X26.here hx rfl (hb hby at_207) rfl ((if0 _ _).trans (feq (by decide : ¬ ((1 : Int32) = (0 : Int32)))).1) k) ?_
    show OutW _ _ _ _ _ _ _ (T26.setTop (mkF m 210 #[.val (.int p1), .val (.int p2), .val (.int p3), .val (.int p4), .val (.int (0 : Int32)), .val (.ref b3), .val (.ref b4), .val (.int (0 : Int32)), .val (.int (1 : Int32)), .val (.int v9), .val (.int v18), .val (.int v27)] []))
    refine OutW.back (fun t k => XS.aload X26.here hx rfl (hb hby at_210) rfl rfl  k) ?_
    show OutW _ _ _ _ _ _ _ (T26.setTop (mkF m 212 #[.val (.int p1), .val (.int p2), .val (.int p3), .val (.int p4), .val (.int (0 : Int32)), .val (.ref b3), .val (.ref b4), .val (.int (0 : Int32)), .val (.int (1 : Int32)), .val (.int v9), .val (.int v18), .val (.int v27)] [(.ref b4)]))
    obtain ⟨cq29, kq29, qa29, qb29, qc29⟩ := isOf hZ e26 E_b4
    obtain ⟨_, _, ⟨T29, L29, k29, n29⟩, -, X29, ⟨Lc29, hQ29, l29, y29, z29⟩, st29⟩ := X26.virtualBack hx (y := (⟨"com/example/fulltext_workbench/fulltextworkbench/index/VarintReader", "atEnd", "()Z"⟩ : MethodName)) (z := (⟨"com/example/fulltext_workbench/fulltextworkbench/index/VarintReader", "atEnd", "()Z"⟩ : MethodName)) hown (mvT hZ (hw _ (List.mem_of_getElem? (i := 12) rfl))) (mvT hZ (hw _ (List.mem_of_getElem? (i := 13) rfl))) (notFace_of_selects (args := #[]) (mvT hZ (hw _ (List.mem_of_getElem? (i := 15) rfl)))) (mvT hZ (hw _ (List.mem_of_getElem? (i := 15) rfl))) (mvT hZ (hw _ (List.mem_of_getElem? (i := 14) rfl))) (by decide) (backOf (W := 0) (rm3 l Z a0 hw [] b4 b3 v27 (0 : Int32) [] k3 h25 n0 Z25 F_bytes_b4 F_position_b4 V_b3) hZ (hw _ (List.mem_of_getElem? (i := 16) rfl)) (hw _ (List.mem_of_getElem? (i := 3) rfl)) (by decide) (by decide)) qa29 qc29 (g := (mkF m 212 #[.val (.int p1), .val (.int p2), .val (.int p3), .val (.int p4), .val (.int (0 : Int32)), .val (.ref b3), .val (.ref b4), .val (.int (0 : Int32)), .val (.int (1 : Int32)), .val (.int v9), .val (.int v18), .val (.int v27)] [(.ref b4)])) rfl (by rw [hml]; rfl) (Steps.refl _) (argsL := []) (rest := []) (lenOf pd_3 rfl) rfl (by show 2 * 0 + _ ≤ _; exact Nat.le_of_eq rfl) (hb hby at_212) (fun _ _ => ⟨rfl, e26, (by decide : 2 + 0 ≤ _), (by decide : 2 + 0 ≤ _)⟩)
    dsimp only [Pt.U, Pt.locs, Pt.cells, Pt.slots] at X29 l29 y29 z29 st29 hQ29
    subst l29 y29 z29
    obtain ⟨rfl, Nq29, e29⟩ := hQ29
    have N29 := Fr.app N26 Nq29
    refine OutW.via st29 ?_
    show OutW _ _ _ _ _ _ _ (T29.setTop (mkF m 215 #[.val (.int p1), .val (.int p2), .val (.int p3), .val (.int p4), .val (.int (0 : Int32)), .val (.ref b3), .val (.ref b4), .val (.int (0 : Int32)), .val (.int (1 : Int32)), .val (.int v9), .val (.int v18), .val (.int v27)] [(.int (atE v27 (0 : Int32)))]))
    refine OutW.back (fun t k => XS.iload X29.here hx rfl (hb hby at_215) rfl  k) ?_
    show OutW _ _ _ _ _ _ _ (T29.setTop (mkF m 217 #[.val (.int p1), .val (.int p2), .val (.int p3), .val (.int p4), .val (.int (0 : Int32)), .val (.ref b3), .val (.ref b4), .val (.int (0 : Int32)), .val (.int (1 : Int32)), .val (.int v9), .val (.int v18), .val (.int v27)] [(.int v27), (.int (atE v27 (0 : Int32)))]))
    refine OutW.back (fun t k => XS.iload X29.here hx rfl (hb hby at_217) rfl  k) ?_
    show OutW _ _ _ _ _ _ _ (T29.setTop (mkF m 219 #[.val (.int p1), .val (.int p2), .val (.int p3), .val (.int p4), .val (.int (0 : Int32)), .val (.ref b3), .val (.ref b4), .val (.int (0 : Int32)), .val (.int (1 : Int32)), .val (.int v9), .val (.int v18), .val (.int v27)] [(.int (0 : Int32)), (.int v27), (.int (atE v27 (0 : Int32)))]))
    obtain ⟨v31, hv_v31⟩ : ∃ z : Int32, z = (if v27 = (0 : Int32) then (1 : Int32) else (0 : Int32)) := ⟨_, rfl⟩
    have j32 : ∀ t, Steps p.tables e below (T29.setTop (mkF m 227 #[.val (.int p1), .val (.int p2), .val (.int p3), .val (.int p4), .val (.int (0 : Int32)), .val (.ref b3), .val (.ref b4), .val (.int (0 : Int32)), .val (.int (1 : Int32)), .val (.int v9), .val (.int v18), .val (.int v27)] [(.int v31), (.int (atE v27 (0 : Int32)))])) t → Steps p.tables e below (T29.setTop (mkF m 219 #[.val (.int p1), .val (.int p2), .val (.int p3), .val (.int p4), .val (.int (0 : Int32)), .val (.ref b3), .val (.ref b4), .val (.int (0 : Int32)), .val (.int (1 : Int32)), .val (.int v9), .val (.int v18), .val (.int v27)] [(.int (0 : Int32)), (.int v27), (.int (atE v27 (0 : Int32)))])) t := by
      intro t k
      by_cases c219_33 : v27 = (0 : Int32)
      · skip
        refine XS.icmpNo X29.here hx rfl (hb hby at_219) rfl (teq c219_33).2 ?_
        show Steps p.tables e below (T29.setTop (mkF m 222 #[.val (.int p1), .val (.int p2), .val (.int p3), .val (.int p4), .val (.int (0 : Int32)), .val (.ref b3), .val (.ref b4), .val (.int (0 : Int32)), .val (.int (1 : Int32)), .val (.int v9), .val (.int v18), .val (.int v27)] [(.int (atE v27 (0 : Int32)))])) t
        refine XS.iconst X29.here hx rfl (hb hby at_222) ?_
        show Steps p.tables e below (T29.setTop (mkF m 223 #[.val (.int p1), .val (.int p2), .val (.int p3), .val (.int p4), .val (.int (0 : Int32)), .val (.ref b3), .val (.ref b4), .val (.int (0 : Int32)), .val (.int (1 : Int32)), .val (.int v9), .val (.int v18), .val (.int v27)] [(.int (1 : Int32)), (.int (atE v27 (0 : Int32)))])) t
        refine XS.goto X29.here hx rfl (pc0 := 223) (pc' := 227) rfl (hb hby at_223) (by decide) (by decide) ?_
        show Steps p.tables e below (T29.setTop (mkF m 227 #[.val (.int p1), .val (.int p2), .val (.int p3), .val (.int p4), .val (.int (0 : Int32)), .val (.ref b3), .val (.ref b4), .val (.int (0 : Int32)), .val (.int (1 : Int32)), .val (.int v9), .val (.int v18), .val (.int v27)] [(.int (1 : Int32)), (.int (atE v27 (0 : Int32)))])) t
        have q_v31 : v31 = (1 : Int32) := by rw [hv_v31, if_pos c219_33]
        rw [q_v31] at k
        exact k
      · skip
        refine XS.icmpYes X29.here hx rfl (pc0 := 219) (pc' := 226) rfl (hb hby at_219) rfl (feq c219_33).2 (by decide) (by decide) ?_
        show Steps p.tables e below (T29.setTop (mkF m 226 #[.val (.int p1), .val (.int p2), .val (.int p3), .val (.int p4), .val (.int (0 : Int32)), .val (.ref b3), .val (.ref b4), .val (.int (0 : Int32)), .val (.int (1 : Int32)), .val (.int v9), .val (.int v18), .val (.int v27)] [(.int (atE v27 (0 : Int32)))])) t
        refine XS.iconst X29.here hx rfl (hb hby at_226) ?_
        show Steps p.tables e below (T29.setTop (mkF m 227 #[.val (.int p1), .val (.int p2), .val (.int p3), .val (.int p4), .val (.int (0 : Int32)), .val (.ref b3), .val (.ref b4), .val (.int (0 : Int32)), .val (.int (1 : Int32)), .val (.int v9), .val (.int v18), .val (.int v27)] [(.int (0 : Int32)), (.int (atE v27 (0 : Int32)))])) t
        have q_v31 : v31 = (0 : Int32) := by rw [hv_v31, if_neg c219_33]
        rw [q_v31] at k
        exact k
    refine OutW.back j32 ?_
    show OutW _ _ _ _ _ _ _ (T29.setTop (mkF m 227 #[.val (.int p1), .val (.int p2), .val (.int p3), .val (.int p4), .val (.int (0 : Int32)), .val (.ref b3), .val (.ref b4), .val (.int (0 : Int32)), .val (.int (1 : Int32)), .val (.int v9), .val (.int v18), .val (.int v27)] [(.int v31), (.int (atE v27 (0 : Int32)))]))
    refine OutW.back (fun t k => XS.icmpNo X29.here hx rfl (hb hby at_227) rfl (teq (by rw [hv_v31]; rfl)).2 k) ?_
    show OutW _ _ _ _ _ _ _ (T29.setTop (mkF m 230 #[.val (.int p1), .val (.int p2), .val (.int p3), .val (.int p4), .val (.int (0 : Int32)), .val (.ref b3), .val (.ref b4), .val (.int (0 : Int32)), .val (.int (1 : Int32)), .val (.int v9), .val (.int v18), .val (.int v27)] []))
    refine OutW.back (fun t k => XS.iconst X29.here hx rfl (hb hby at_230) k) ?_
    show OutW _ _ _ _ _ _ _ (T29.setTop (mkF m 231 #[.val (.int p1), .val (.int p2), .val (.int p3), .val (.int p4), .val (.int (0 : Int32)), .val (.ref b3), .val (.ref b4), .val (.int (0 : Int32)), .val (.int (1 : Int32)), .val (.int v9), .val (.int v18), .val (.int v27)] [(.int (1 : Int32))]))
    refine OutW.back (fun t k => XS.goto X29.here hx rfl (pc0 := 231) (pc' := 235) rfl (hb hby at_231) (by decide) (by decide) k) ?_
    show OutW _ _ _ _ _ _ _ (T29.setTop (mkF m 235 #[.val (.int p1), .val (.int p2), .val (.int p3), .val (.int p4), .val (.int (0 : Int32)), .val (.ref b3), .val (.ref b4), .val (.int (0 : Int32)), .val (.int (1 : Int32)), .val (.int v9), .val (.int v18), .val (.int v27)] [(.int (1 : Int32))]))
    refine OutW.back (fun t k => XS.istore X29.here hx rfl (hb hby at_235) rfl (l' := #[.val (.int p1), .val (.int p2), .val (.int p3), .val (.int p4), .val (.int (0 : Int32)), .val (.ref b3), .val (.ref b4), .val (.int (0 : Int32)), .val (.int (1 : Int32)), .val (.int v9), .val (.int v18), .val (.int v27)]) rfl k) ?_
    show OutW _ _ _ _ _ _ _ (T29.setTop (mkF m 237 #[.val (.int p1), .val (.int p2), .val (.int p3), .val (.int p4), .val (.int (0 : Int32)), .val (.ref b3), .val (.ref b4), .val (.int (0 : Int32)), .val (.int (1 : Int32)), .val (.int v9), .val (.int v18), .val (.int v27)] []))
    refine OutW.back (fun t k => XS.iload X29.here hx rfl (hb hby at_237) rfl  k) ?_
    show OutW _ _ _ _ _ _ _ (T29.setTop (mkF m 239 #[.val (.int p1), .val (.int p2), .val (.int p3), .val (.int p4), .val (.int (0 : Int32)), .val (.ref b3), .val (.ref b4), .val (.int (0 : Int32)), .val (.int (1 : Int32)), .val (.int v9), .val (.int v18), .val (.int v27)] [(.int (1 : Int32))]))
    refine OutW.retN X29 hx (t := .boolean) (z' := 1) Bd.returns (by simp) hlk (hb hby at_239) ?hz (by decide) (by decide) ?_
    case hz =>
      rfl
    show Q0 Z p1 p2 p3 p4 h0 n0 _ T29.heap _
    rw [e29]
    exact ⟨rfl, N29⟩
  · skip
    show OutW _ _ _ _ _ _ _ (s₁.setTop (mkF m 5 #[.val (.int p1), .val (.int p2), .val (.int p3), .val (.int p4), .val (.int (1 : Int32)), .unset, .unset, .unset, .unset, .unset, .unset, .unset] []))
    refine OutW.back (fun t k => XS.iload X0.here hx rfl (hb hby at_5) rfl  k) ?_
    show OutW _ _ _ _ _ _ _ (s₁.setTop (mkF m 7 #[.val (.int p1), .val (.int p2), .val (.int p3), .val (.int p4), .val (.int (1 : Int32)), .unset, .unset, .unset, .unset, .unset, .unset, .unset] [(.int (1 : Int32))]))
    obtain ⟨T34, h34, k34, X34, e34, E34, A34, st34⟩ := newP X0 hx hZ (hw _ (List.mem_of_getElem? (i := 0) rfl)) e0 (g := (mkF m 7 #[.val (.int p1), .val (.int p2), .val (.int p3), .val (.int p4), .val (.int (1 : Int32)), .unset, .unset, .unset, .unset, .unset, .unset, .unset] [(.int (1 : Int32))])) rfl (hb hby at_7) rfl (by decide) (cap := 1) (by decide) (by decide) (by decide) (by decide)
    obtain ⟨b34, g34⟩ : ∃ z, z = h0.size := ⟨_, rfl⟩
    rw [← g34] at A34 st34
    have g_b34 : n0 ≤ b34 := Nat.le_trans Z0 (Nat.le_of_eq g34.symm)
    have sz_b34 : h0.size ≤ b34 := Nat.le_trans K0.1 (Nat.le_of_eq g34.symm)
    have Z34 : n0 ≤ h34.size := Nat.le_trans Z0 E34.1
    have K34 := K0.ext E34
    have V_b34 : Arv Z h34 b34 k34 .byte (1 : Int32) [(.int (0 : Int32))] (.int (0 : Int32)) := (Arv.new A34 (by decide)).pad (pad_rep [] (.int (0 : Int32)) 1)
    refine OutW.back st34 ?_
    show OutW _ _ _ _ _ _ _ (T34.setTop (mkF m 9 #[.val (.int p1), .val (.int p2), .val (.int p3), .val (.int p4), .val (.int (1 : Int32)), .unset, .unset, .unset, .unset, .unset, .unset, .unset] [(.ref b34)]))
    refine OutW.back (fun t k => XS.astore X34.here hx rfl (hb hby at_9) rfl rfl (l' := #[.val (.int p1), .val (.int p2), .val (.int p3), .val (.int p4), .val (.int (1 : Int32)), .val (.ref b34), .unset, .unset, .unset, .unset, .unset, .unset]) rfl k) ?_
    show OutW _ _ _ _ _ _ _ (T34.setTop (mkF m 11 #[.val (.int p1), .val (.int p2), .val (.int p3), .val (.int p4), .val (.int (1 : Int32)), .val (.ref b34), .unset, .unset, .unset, .unset, .unset, .unset] []))
    refine OutW.back (fun t k => XS.iload X34.here hx rfl (hb hby at_11) rfl  k) ?_
    show OutW _ _ _ _ _ _ _ (T34.setTop (mkF m 13 #[.val (.int p1), .val (.int p2), .val (.int p3), .val (.int p4), .val (.int (1 : Int32)), .val (.ref b34), .unset, .unset, .unset, .unset, .unset, .unset] [(.int (1 : Int32))]))
    refine OutW.back (fun t k => XS.ifNo X34.here hx rfl (hb hby at_13) rfl ((if0 _ _).trans (tlt (by decide : (0 : Int32) < (1 : Int32))).2.2.2) k) ?_
    show OutW _ _ _ _ _ _ _ (T34.setTop (mkF m 16 #[.val (.int p1), .val (.int p2), .val (.int p3), .val (.int p4), .val (.int (1 : Int32)), .val (.ref b34), .unset, .unset, .unset, .unset, .unset, .unset] []))
    refine OutW.back (fun t k => XS.aload X34.here hx rfl (hb hby at_16) rfl rfl  k) ?_
    show OutW _ _ _ _ _ _ _ (T34.setTop (mkF m 18 #[.val (.int p1), .val (.int p2), .val (.int p3), .val (.int p4), .val (.int (1 : Int32)), .val (.ref b34), .unset, .unset, .unset, .unset, .unset, .unset] [(.ref b34)]))
    refine OutW.back (fun t k => XS.iconst X34.here hx rfl (hb hby at_18) k) ?_
    show OutW _ _ _ _ _ _ _ (T34.setTop (mkF m 19 #[.val (.int p1), .val (.int p2), .val (.int p3), .val (.int p4), .val (.int (1 : Int32)), .val (.ref b34), .unset, .unset, .unset, .unset, .unset, .unset] [(.int (0 : Int32)), (.ref b34)]))
    refine OutW.back (fun t k => XS.iloadN X34.here hx rfl (hb hby at_19) rfl  k) ?_
    show OutW _ _ _ _ _ _ _ (T34.setTop (mkF m 20 #[.val (.int p1), .val (.int p2), .val (.int p3), .val (.int p4), .val (.int (1 : Int32)), .val (.ref b34), .unset, .unset, .unset, .unset, .unset, .unset] [(.int p2), (.int (0 : Int32)), (.ref b34)]))
    refine OutW.back (fun t k => XS.i2b X34.here hx rfl (hb hby at_20) rfl k) ?_
    show OutW _ _ _ _ _ _ _ (T34.setTop (mkF m 21 #[.val (.int p1), .val (.int p2), .val (.int p3), .val (.int p4), .val (.int (1 : Int32)), .val (.ref b34), .unset, .unset, .unset, .unset, .unset, .unset] [(.int p2.toInt8.toInt32), (.int (0 : Int32)), (.ref b34)]))
    obtain ⟨cl35, Ar35, Qk35, Sz35, Nn35, Hh35, Gg35⟩ := id V_b34
    have hin35 : ¬ ((0 : Int32) < 0 ∨ cl35.slots.size ≤ ((0 : Int32)).toNatClampNeg) := inb_of Sz35 ⟨by decide, by decide⟩
    obtain ⟨T35, h35, X35, e35, W35, st35⟩ := stB X34 hx hZ e34 Ar35 (j := (0 : Int32)) hin35 (g := (mkF m 21 #[.val (.int p1), .val (.int p2), .val (.int p3), .val (.int p4), .val (.int (1 : Int32)), .val (.ref b34), .unset, .unset, .unset, .unset, .unset, .unset] [(.int p2.toInt8.toInt32), (.int (0 : Int32)), (.ref b34)])) rfl rfl (hb hby at_21)
    have V_b34_35 : Arv Z h35 b34 k34 .byte (1 : Int32) [(.int (nar .byte p2.toInt8.toInt32))] (.int (0 : Int32)) := Arv.set Ar35 Qk35 Sz35 Nn35 Hh35 Gg35 (fits_nar_byte _) W35 0 rfl (Nat.le_of_ble_eq_true rfl)
    have N35 := Fr.snoc X35 N0 g_b34
    have Z35 : n0 ≤ h35.size := Nat.le_trans Z34 (Keep.of_wr W35).1
    have K35 := K34.wr W35 (Or.inr sz_b34)
    refine OutW.back st35 ?_
    show OutW _ _ _ _ _ _ _ (T35.setTop (mkF m 22 #[.val (.int p1), .val (.int p2), .val (.int p3), .val (.int p4), .val (.int (1 : Int32)), .val (.ref b34), .unset, .unset, .unset, .unset, .unset, .unset] []))
    refine OutW.back (fun t k => XS.iload X35.here hx rfl (hb hby at_22) rfl  k) ?_
    show OutW _ _ _ _ _ _ _ (T35.setTop (mkF m 24 #[.val (.int p1), .val (.int p2), .val (.int p3), .val (.int p4), .val (.int (1 : Int32)), .val (.ref b34), .unset, .unset, .unset, .unset, .unset, .unset] [(.int (1 : Int32))]))
    refine OutW.back (fun t k => XS.iconst X35.here hx rfl (hb hby at_24) k) ?_
    show OutW _ _ _ _ _ _ _ (T35.setTop (mkF m 25 #[.val (.int p1), .val (.int p2), .val (.int p3), .val (.int p4), .val (.int (1 : Int32)), .val (.ref b34), .unset, .unset, .unset, .unset, .unset, .unset] [(.int (1 : Int32)), (.int (1 : Int32))]))
    refine OutW.back (fun t k => XS.icmpYes X35.here hx rfl (pc0 := 25) (pc' := 34) rfl (hb hby at_25) rfl (flt (by decide : ¬ ((1 : Int32) < (1 : Int32)))).2.2.2 (by decide) (by decide) k) ?_
    show OutW _ _ _ _ _ _ _ (T35.setTop (mkF m 34 #[.val (.int p1), .val (.int p2), .val (.int p3), .val (.int p4), .val (.int (1 : Int32)), .val (.ref b34), .unset, .unset, .unset, .unset, .unset, .unset] []))
    refine OutW.back (fun t k => XS.iload X35.here hx rfl (hb hby at_34) rfl  k) ?_
    show OutW _ _ _ _ _ _ _ (T35.setTop (mkF m 36 #[.val (.int p1), .val (.int p2), .val (.int p3), .val (.int p4), .val (.int (1 : Int32)), .val (.ref b34), .unset, .unset, .unset, .unset, .unset, .unset] [(.int (1 : Int32))]))
    refine OutW.back (fun t k => XS.iconst X35.here hx rfl (hb hby at_36) k) ?_
    show OutW _ _ _ _ _ _ _ (T35.setTop (mkF m 37 #[.val (.int p1), .val (.int p2), .val (.int p3), .val (.int p4), .val (.int (1 : Int32)), .val (.ref b34), .unset, .unset, .unset, .unset, .unset, .unset] [(.int (2 : Int32)), (.int (1 : Int32))]))
    refine OutW.back (fun t k => XS.icmpYes X35.here hx rfl (pc0 := 37) (pc' := 46) rfl (hb hby at_37) rfl (flt (by decide : ¬ ((2 : Int32) < (1 : Int32)))).2.2.2 (by decide) (by decide) k) ?_
    show OutW _ _ _ _ _ _ _ (T35.setTop (mkF m 46 #[.val (.int p1), .val (.int p2), .val (.int p3), .val (.int p4), .val (.int (1 : Int32)), .val (.ref b34), .unset, .unset, .unset, .unset, .unset, .unset] []))
    obtain ⟨T36, h36, X36, e36, E36, A36, D36, -, st36⟩ := newO X35 hx hZ hown (hw _ (List.mem_of_getElem? (i := 1) rfl)) (hw _ (List.mem_of_getElem? (i := 2) rfl)) (hw _ (List.mem_of_getElem? (i := 3) rfl)) e35 (g := (mkF m 46 #[.val (.int p1), .val (.int p2), .val (.int p3), .val (.int p4), .val (.int (1 : Int32)), .val (.ref b34), .unset, .unset, .unset, .unset, .unset, .unset] [])) rfl (hb hby at_46) (by decide) (by decide)
    obtain ⟨b36, g36⟩ : ∃ z, z = h35.size := ⟨_, rfl⟩
    rw [← g36] at A36 D36 st36
    have ne_b34_b36 : b34 ≠ b36 := Nat.ne_of_lt (Nat.lt_of_lt_of_le V_b34_35.lt (Nat.le_of_eq g36.symm))
    have g_b36 : n0 ≤ b36 := Nat.le_trans Z35 (Nat.le_of_eq g36.symm)
    have sz_b36 : h0.size ≤ b36 := Nat.le_trans K35.1 (Nat.le_of_eq g36.symm)
    have V_b34_35 := V_b34_35.ext E36
    have Z36 : n0 ≤ h36.size := Nat.le_trans Z35 E36.1
    have K36 := K35.ext E36
    have E_b36 := A36
    have F_bytes_b36 : Fld Z h36 b36 "com/example/fulltext_workbench/fulltextworkbench/index/VarintReader" "bytes" "[B" .null := D36 (Or.inr (hw _ (List.mem_of_getElem? (i := 11) rfl))) (ty := (.array .byte)) (by decide)
    have F_position_b36 : Fld Z h36 b36 "com/example/fulltext_workbench/fulltextworkbench/index/VarintReader" "position" "I" (.int (0 : Int32)) := D36 (Or.inl (hw _ (List.mem_of_getElem? (i := 18) rfl))) (ty := .int) (by decide)
    refine OutW.back st36 ?_
    show OutW _ _ _ _ _ _ _ (T36.setTop (mkF m 49 #[.val (.int p1), .val (.int p2), .val (.int p3), .val (.int p4), .val (.int (1 : Int32)), .val (.ref b34), .unset, .unset, .unset, .unset, .unset, .unset] [(.ref b36)]))
    refine OutW.back (fun t k => XS.dup X36.here hx rfl (hb hby at_49) rfl rfl k) ?_
    show OutW _ _ _ _ _ _ _ (T36.setTop (mkF m 50 #[.val (.int p1), .val (.int p2), .val (.int p3), .val (.int p4), .val (.int (1 : Int32)), .val (.ref b34), .unset, .unset, .unset, .unset, .unset, .unset] [(.ref b36), (.ref b36)]))
    refine OutW.back (fun t k => XS.aload X36.here hx rfl (hb hby at_50) rfl rfl  k) ?_
    show OutW _ _ _ _ _ _ _ (T36.setTop (mkF m 52 #[.val (.int p1), .val (.int p2), .val (.int p3), .val (.int p4), .val (.int (1 : Int32)), .val (.ref b34), .unset, .unset, .unset, .unset, .unset, .unset] [(.ref b34), (.ref b36), (.ref b36)]))
    obtain ⟨_, _, ⟨T37, L37, k37, n37⟩, -, X37, ⟨Lc37, hQ37, l37, y37, z37⟩, st37⟩ := X36.specialBack hx (y := (⟨"com/example/fulltext_workbench/fulltextworkbench/index/VarintReader", "<init>", "([B)V"⟩ : MethodName)) rfl hown (mvT hZ (hw _ (List.mem_of_getElem? (i := 4) rfl))) (mvT hZ (hw _ (List.mem_of_getElem? (i := 5) rfl))) (mvT hZ (hw _ (List.mem_of_getElem? (i := 6) rfl))) (by decide) (backOf (W := 1) (rm1 l Z a0 hw [] b36 b34 (0 : Int32) h36 n0 Z36 E_b36 g_b36 F_bytes_b36 F_position_b36) hZ (hw _ (List.mem_of_getElem? (i := 6) rfl)) (hw _ (List.mem_of_getElem? (i := 3) rfl)) (by decide) (by decide)) (g := (mkF m 52 #[.val (.int p1), .val (.int p2), .val (.int p3), .val (.int p4), .val (.int (1 : Int32)), .val (.ref b34), .unset, .unset, .unset, .unset, .unset, .unset] [(.ref b34), (.ref b36), (.ref b36)])) rfl (by rw [hml]; rfl) (Steps.refl _) (a := b36) (argsL := [(.ref b34)]) (rest := [(.ref b36)]) (lenOf pd_2 rfl) rfl (by show 2 * 0 + _ ≤ _; exact Nat.le_of_eq rfl) (hb hby at_52) (fun _ _ => ⟨rfl, e36, (by decide : 2 + 0 ≤ _), (by decide : 3 + 0 ≤ _)⟩)
    dsimp only [Pt.U, Pt.locs, Pt.cells, Pt.slots] at X37 l37 y37 z37 st37 hQ37
    subst l37 y37 z37
    obtain ⟨h37, eh37⟩ : ∃ z, z = T37.heap := ⟨_, rfl⟩
    rw [← eh37] at hQ37
    have e37 : T37.heap = h37 := eh37.symm
    obtain ⟨rfl, Nq37, Kq37, F_bytes_b36, F_position_b36⟩ := hQ37
    have V_b34_35 := V_b34_35.keep Kq37 (ninS ne_b34_b36 nin0)
    have E_b36 := E_b36.keep Kq37
    have Z37 : n0 ≤ h37.size := Nat.le_trans Z36 Kq37.1
    have K37 := K36.trans Kq37 (allS (Or.inr sz_b36) all0)
    have N37 := Fr.app N35 Nq37
    refine OutW.via st37 ?_
    show OutW _ _ _ _ _ _ _ (T37.setTop (mkF m 55 #[.val (.int p1), .val (.int p2), .val (.int p3), .val (.int p4), .val (.int (1 : Int32)), .val (.ref b34), .unset, .unset, .unset, .unset, .unset, .unset] [(.ref b36)]))
    refine OutW.back (fun t k => XS.astore X37.here hx rfl (hb hby at_55) rfl rfl (l' := #[.val (.int p1), .val (.int p2), .val (.int p3), .val (.int p4), .val (.int (1 : Int32)), .val (.ref b34), .val (.ref b36), .unset, .unset, .unset, .unset, .unset]) rfl k) ?_
    show OutW _ _ _ _ _ _ _ (T37.setTop (mkF m 57 #[.val (.int p1), .val (.int p2), .val (.int p3), .val (.int p4), .val (.int (1 : Int32)), .val (.ref b34), .val (.ref b36), .unset, .unset, .unset, .unset, .unset] []))
    refine OutW.back (fun t k => XS.iconst X37.here hx rfl (hb hby at_57) k) ?_
    show OutW _ _ _ _ _ _ _ (T37.setTop (mkF m 58 #[.val (.int p1), .val (.int p2), .val (.int p3), .val (.int p4), .val (.int (1 : Int32)), .val (.ref b34), .val (.ref b36), .unset, .unset, .unset, .unset, .unset] [(.int (0 : Int32))]))
    refine OutW.back (fun t k => XS.istore X37.here hx rfl (hb hby at_58) rfl (l' := #[.val (.int p1), .val (.int p2), .val (.int p3), .val (.int p4), .val (.int (1 : Int32)), .val (.ref b34), .val (.ref b36), .val (.int (0 : Int32)), .unset, .unset, .unset, .unset]) rfl k) ?_
    show OutW _ _ _ _ _ _ _ (T37.setTop (mkF m 60 #[.val (.int p1), .val (.int p2), .val (.int p3), .val (.int p4), .val (.int (1 : Int32)), .val (.ref b34), .val (.ref b36), .val (.int (0 : Int32)), .unset, .unset, .unset, .unset] []))
    refine OutW.back (fun t k => XS.aload X37.here hx rfl (hb hby at_60) rfl rfl  k) ?_
    show OutW _ _ _ _ _ _ _ (T37.setTop (mkF m 62 #[.val (.int p1), .val (.int p2), .val (.int p3), .val (.int p4), .val (.int (1 : Int32)), .val (.ref b34), .val (.ref b36), .val (.int (0 : Int32)), .unset, .unset, .unset, .unset] [(.ref b36)]))
    obtain ⟨cq38, kq38, qa38, qb38, qc38⟩ := isOf hZ e37 E_b36
    obtain ⟨_, _, ⟨T38, L38, k38, n38⟩, -, X38, ⟨Lc38, hQ38, l38, y38, z38⟩, st38⟩ := X37.virtualBack hx (y := (⟨"com/example/fulltext_workbench/fulltextworkbench/index/VarintReader", "atEnd", "()Z"⟩ : MethodName)) (z := (⟨"com/example/fulltext_workbench/fulltextworkbench/index/VarintReader", "atEnd", "()Z"⟩ : MethodName)) hown (mvT hZ (hw _ (List.mem_of_getElem? (i := 12) rfl))) (mvT hZ (hw _ (List.mem_of_getElem? (i := 13) rfl))) (notFace_of_selects (args := #[]) (mvT hZ (hw _ (List.mem_of_getElem? (i := 15) rfl)))) (mvT hZ (hw _ (List.mem_of_getElem? (i := 15) rfl))) (mvT hZ (hw _ (List.mem_of_getElem? (i := 14) rfl))) (by decide) (backOf (W := 0) (rm3 l Z a0 hw [] b36 b34 (0 : Int32) (1 : Int32) [(.int (nar .byte p2.toInt8.toInt32))] k34 h37 n0 Z37 F_bytes_b36 F_position_b36 V_b34_35) hZ (hw _ (List.mem_of_getElem? (i := 16) rfl)) (hw _ (List.mem_of_getElem? (i := 3) rfl)) (by decide) (by decide)) qa38 qc38 (g := (mkF m 62 #[.val (.int p1), .val (.int p2), .val (.int p3), .val (.int p4), .val (.int (1 : Int32)), .val (.ref b34), .val (.ref b36), .val (.int (0 : Int32)), .unset, .unset, .unset, .unset] [(.ref b36)])) rfl (by rw [hml]; rfl) (Steps.refl _) (argsL := []) (rest := []) (lenOf pd_3 rfl) rfl (by show 2 * 0 + _ ≤ _; exact Nat.le_of_eq rfl) (hb hby at_62) (fun _ _ => ⟨rfl, e37, (by decide : 2 + 0 ≤ _), (by decide : 3 + 0 ≤ _)⟩)
    dsimp only [Pt.U, Pt.locs, Pt.cells, Pt.slots] at X38 l38 y38 z38 st38 hQ38
    subst l38 y38 z38
    obtain ⟨rfl, Nq38, e38⟩ := hQ38
    have N38 := Fr.app N37 Nq38
    refine OutW.via st38 ?_
    show OutW _ _ _ _ _ _ _ (T38.setTop (mkF m 65 #[.val (.int p1), .val (.int p2), .val (.int p3), .val (.int p4), .val (.int (1 : Int32)), .val (.ref b34), .val (.ref b36), .val (.int (0 : Int32)), .unset, .unset, .unset, .unset] [(.int (atE (0 : Int32) (1 : Int32)))]))
    refine OutW.back (fun t k => XS.iload X38.here hx rfl (hb hby at_65) rfl  k) ?_
    show OutW _ _ _ _ _ _ _ (T38.setTop (mkF m 67 #[.val (.int p1), .val (.int p2), .val (.int p3), .val (.int p4), .val (.int (1 : Int32)), .val (.ref b34), .val (.ref b36), .val (.int (0 : Int32)), .unset, .unset, .unset, .unset] [(.int (0 : Int32)), (.int (atE (0 : Int32) (1 : Int32)))]))
    refine OutW.back (fun t k => XS.iload X38.here hx rfl (hb hby at_67) rfl  k) ?_
    show OutW _ _ _ _ _ _ _ (T38.setTop (mkF m 69 #[.val (.int p1), .val (.int p2), .val (.int p3), .val (.int p4), .val (.int (1 : Int32)), .val (.ref b34), .val (.ref b36), .val (.int (0 : Int32)), .unset, .unset, .unset, .unset] [(.int (1 : Int32)), (.int (0 : Int32)), (.int (atE (0 : Int32) (1 : Int32)))]))
    refine OutW.back (fun t k => XS.icmpYes X38.here hx rfl (pc0 := 69) (pc' := 76) rfl (hb hby at_69) rfl (feq (by decide : ¬ ((0 : Int32) = (1 : Int32)))).2 (by decide) (by decide) k) ?_
    show OutW _ _ _ _ _ _ _ (T38.setTop (mkF m 76 #[.val (.int p1), .val (.int p2), .val (.int p3), .val (.int p4), .val (.int (1 : Int32)), .val (.ref b34), .val (.ref b36), .val (.int (0 : Int32)), .unset, .unset, .unset, .unset] [(.int (atE (0 : Int32) (1 : Int32)))]))
    refine OutW.back (fun t k => XS.iconst X38.here hx rfl (hb hby at_76) k) ?_
    show OutW _ _ _ _ _ _ _ (T38.setTop (mkF m 77 #[.val (.int p1), .val (.int p2), .val (.int p3), .val (.int p4), .val (.int (1 : Int32)), .val (.ref b34), .val (.ref b36), .val (.int (0 : Int32)), .unset, .unset, .unset, .unset] [(.int (0 : Int32)), (.int (atE (0 : Int32) (1 : Int32)))]))
    refine OutW.back (fun t k => XS.icmpNo X38.here hx rfl (hb hby at_77) rfl (teq (by decide)).2 k) ?_
    show OutW _ _ _ _ _ _ _ (T38.setTop (mkF m 80 #[.val (.int p1), .val (.int p2), .val (.int p3), .val (.int p4), .val (.int (1 : Int32)), .val (.ref b34), .val (.ref b36), .val (.int (0 : Int32)), .unset, .unset, .unset, .unset] []))
    refine OutW.back (fun t k => XS.iconst X38.here hx rfl (hb hby at_80) k) ?_
    show OutW _ _ _ _ _ _ _ (T38.setTop (mkF m 81 #[.val (.int p1), .val (.int p2), .val (.int p3), .val (.int p4), .val (.int (1 : Int32)), .val (.ref b34), .val (.ref b36), .val (.int (0 : Int32)), .unset, .unset, .unset, .unset] [(.int (1 : Int32))]))
    refine OutW.back (fun t k => XS.goto X38.here hx rfl (pc0 := 81) (pc' := 85) rfl (hb hby at_81) (by decide) (by decide) k) ?_
    show OutW _ _ _ _ _ _ _ (T38.setTop (mkF m 85 #[.val (.int p1), .val (.int p2), .val (.int p3), .val (.int p4), .val (.int (1 : Int32)), .val (.ref b34), .val (.ref b36), .val (.int (0 : Int32)), .unset, .unset, .unset, .unset] [(.int (1 : Int32))]))
    refine OutW.back (fun t k => XS.istore X38.here hx rfl (hb hby at_85) rfl (l' := #[.val (.int p1), .val (.int p2), .val (.int p3), .val (.int p4), .val (.int (1 : Int32)), .val (.ref b34), .val (.ref b36), .val (.int (0 : Int32)), .val (.int (1 : Int32)), .unset, .unset, .unset]) rfl k) ?_
    show OutW _ _ _ _ _ _ _ (T38.setTop (mkF m 87 #[.val (.int p1), .val (.int p2), .val (.int p3), .val (.int p4), .val (.int (1 : Int32)), .val (.ref b34), .val (.ref b36), .val (.int (0 : Int32)), .val (.int (1 : Int32)), .unset, .unset, .unset] []))
    refine OutW.back (fun t k => XS.aload X38.here hx rfl (hb hby at_87) rfl rfl  k) ?_
    show OutW _ _ _ _ _ _ _ (T38.setTop (mkF m 89 #[.val (.int p1), .val (.int p2), .val (.int p3), .val (.int p4), .val (.int (1 : Int32)), .val (.ref b34), .val (.ref b36), .val (.int (0 : Int32)), .val (.int (1 : Int32)), .unset, .unset, .unset] [(.ref b36)]))
    obtain ⟨cq39, kq39, qa39, qb39, qc39⟩ := isOf hZ e38 E_b36
    obtain ⟨_, _, ⟨T39, L39, k39, n39⟩, -, X39, ⟨Lc39, hQ39, l39, y39, z39⟩, st39⟩ := X38.virtualBack hx (y := (⟨"com/example/fulltext_workbench/fulltextworkbench/index/VarintReader", "next", "()I"⟩ : MethodName)) (z := (⟨"com/example/fulltext_workbench/fulltextworkbench/index/VarintReader", "next", "()I"⟩ : MethodName)) hown (mvT hZ (hw _ (List.mem_of_getElem? (i := 19) rfl))) (mvT hZ (hw _ (List.mem_of_getElem? (i := 20) rfl))) (notFace_of_selects (args := #[]) (mvT hZ (hw _ (List.mem_of_getElem? (i := 22) rfl)))) (mvT hZ (hw _ (List.mem_of_getElem? (i := 22) rfl))) (mvT hZ (hw _ (List.mem_of_getElem? (i := 21) rfl))) (by decide) (backOf (W := 0) (rm4 l Z a0 hw [] b36 b34 (0 : Int32) (1 : Int32) [(.int (nar .byte p2.toInt8.toInt32))] k34 (Bn [(nar .byte p2.toInt8.toInt32)]) h37 n0 Z37 E_b36 g_b36 F_bytes_b36 F_position_b36 V_b34_35 ne_b34_b36 (fun j _ _ => own_getD [(nar .byte p2.toInt8.toInt32)] _ 0) (by decide)) hZ (hw _ (List.mem_of_getElem? (i := 23) rfl)) (hw _ (List.mem_of_getElem? (i := 3) rfl)) (by decide) (by decide)) qa39 qc39 (g := (mkF m 89 #[.val (.int p1), .val (.int p2), .val (.int p3), .val (.int p4), .val (.int (1 : Int32)), .val (.ref b34), .val (.ref b36), .val (.int (0 : Int32)), .val (.int (1 : Int32)), .unset, .unset, .unset] [(.ref b36)])) rfl (by rw [hml]; rfl) (Steps.refl _) (argsL := []) (rest := []) (lenOf pd_4 rfl) rfl (by show 2 * 0 + _ ≤ _; exact Nat.le_of_eq rfl) (hb hby at_89) (fun _ _ => ⟨rfl, e38, (by decide : 2 + 0 ≤ _), (by decide : 3 + 0 ≤ _)⟩)
    dsimp only [Pt.U, Pt.locs, Pt.cells, Pt.slots] at X39 l39 y39 z39 st39 hQ39
    subst l39 y39 z39
    obtain ⟨h39, eh39⟩ : ∃ z, z = T39.heap := ⟨_, rfl⟩
    rw [← eh39] at hQ39
    have e39 : T39.heap = h39 := eh39.symm
    obtain ⟨rfl, Nq39, Kq39, F_position_b36, F_bytes_b36⟩ := hQ39
    have V_b34_35 := V_b34_35.keep Kq39 (ninS ne_b34_b36 nin0)
    have E_b36 := E_b36.keep Kq39
    have Z39 : n0 ≤ h39.size := Nat.le_trans Z37 Kq39.1
    have K39 := K37.trans Kq39 (allS (Or.inr sz_b36) all0)
    have N39 := Fr.app N38 Nq39
    refine OutW.via st39 ?_
    show OutW _ _ _ _ _ _ _ (T39.setTop (mkF m 92 #[.val (.int p1), .val (.int p2), .val (.int p3), .val (.int p4), .val (.int (1 : Int32)), .val (.ref b34), .val (.ref b36), .val (.int (0 : Int32)), .val (.int (1 : Int32)), .unset, .unset, .unset] [(.int (nxt (Bn [(nar .byte p2.toInt8.toInt32)]) (1 : Int32) (0 : Int32)))]))
    refine OutW.back (fun t k => XS.pop X39.here hx rfl (hb hby at_92) rfl rfl k) ?_
    show OutW _ _ _ _ _ _ _ (T39.setTop (mkF m 93 #[.val (.int p1), .val (.int p2), .val (.int p3), .val (.int p4), .val (.int (1 : Int32)), .val (.ref b34), .val (.ref b36), .val (.int (0 : Int32)), .val (.int (1 : Int32)), .unset, .unset, .unset] []))
    refine OutW.back (fun t k => XS.iload X39.here hx rfl (hb hby at_93) rfl  k) ?_
    show OutW _ _ _ _ _ _ _ (T39.setTop (mkF m 95 #[.val (.int p1), .val (.int p2), .val (.int p3), .val (.int p4), .val (.int (1 : Int32)), .val (.ref b34), .val (.ref b36), .val (.int (0 : Int32)), .val (.int (1 : Int32)), .unset, .unset, .unset] [(.int (0 : Int32))]))
    refine OutW.back (fun t k => XS.iload X39.here hx rfl (hb hby at_95) rfl  k) ?_
    show OutW _ _ _ _ _ _ _ (T39.setTop (mkF m 97 #[.val (.int p1), .val (.int p2), .val (.int p3), .val (.int p4), .val (.int (1 : Int32)), .val (.ref b34), .val (.ref b36), .val (.int (0 : Int32)), .val (.int (1 : Int32)), .unset, .unset, .unset] [(.int (1 : Int32)), (.int (0 : Int32))]))
    refine OutW.back (fun t k => XS.iloadN X39.here hx rfl (hb hby at_97) rfl  k) ?_
    show OutW _ _ _ _ _ _ _ (T39.setTop (mkF m 98 #[.val (.int p1), .val (.int p2), .val (.int p3), .val (.int p4), .val (.int (1 : Int32)), .val (.ref b34), .val (.ref b36), .val (.int (0 : Int32)), .val (.int (1 : Int32)), .unset, .unset, .unset] [(.int p2), (.int (1 : Int32)), (.int (0 : Int32))]))
    refine OutW.back (fun t k => XS.iloadN X39.here hx rfl (hb hby at_98) rfl  k) ?_
    show OutW _ _ _ _ _ _ _ (T39.setTop (mkF m 99 #[.val (.int p1), .val (.int p2), .val (.int p3), .val (.int p4), .val (.int (1 : Int32)), .val (.ref b34), .val (.ref b36), .val (.int (0 : Int32)), .val (.int (1 : Int32)), .unset, .unset, .unset] [(.int p3), (.int p2), (.int (1 : Int32)), (.int (0 : Int32))]))
    refine OutW.back (fun t k => XS.iloadN X39.here hx rfl (hb hby at_99) rfl  k) ?_
    show OutW _ _ _ _ _ _ _ (T39.setTop (mkF m 100 #[.val (.int p1), .val (.int p2), .val (.int p3), .val (.int p4), .val (.int (1 : Int32)), .val (.ref b34), .val (.ref b36), .val (.int (0 : Int32)), .val (.int (1 : Int32)), .unset, .unset, .unset] [(.int p4), (.int p3), (.int p2), (.int (1 : Int32)), (.int (0 : Int32))]))
    obtain ⟨_, _, ⟨T40, L40, k40, n40⟩, -, X40, ⟨Lc40, hQ40, l40, y40, z40⟩, st40⟩ := Jvm.LawKit.callS X39 hx (y := (⟨"com/example/fulltext_workbench/fulltextworkbench/index/VarintReaderAtEndPinLaw", "step", "(IIIII)I"⟩ : MethodName)) hown (mvT hZ (hw _ (List.mem_of_getElem? (i := 24) rfl))) (mvT hZ (hw _ (List.mem_of_getElem? (i := 25) rfl))) (mvT hZ (hw _ (List.mem_of_getElem? (i := 26) rfl))) (mvT hZ (hw _ (List.mem_of_getElem? (i := 27) rfl))) (by decide) (backOf (W := 0) (rm5 l Z a0 hw [] (0 : Int32) (1 : Int32) p2 p3 p4 h39 n0 Z39) hZ (hw _ (List.mem_of_getElem? (i := 27) rfl)) (hw _ (List.mem_of_getElem? (i := 26) rfl)) (by decide) (by decide)) (g := (mkF m 100 #[.val (.int p1), .val (.int p2), .val (.int p3), .val (.int p4), .val (.int (1 : Int32)), .val (.ref b34), .val (.ref b36), .val (.int (0 : Int32)), .val (.int (1 : Int32)), .unset, .unset, .unset] [(.int p4), (.int p3), (.int p2), (.int (1 : Int32)), (.int (0 : Int32))])) rfl (by rw [hml]; rfl) (argsL := [(.int (0 : Int32)), (.int (1 : Int32)), (.int p2), (.int p3), (.int p4)]) (rest := []) (lenOf pd_5 rfl) rfl (by show 2 * 0 + _ ≤ _; exact Nat.le_of_eq rfl) (hb hby at_100) (fun _ _ => ⟨rfl, e39, (by decide : 2 + 0 ≤ _), (by decide : 3 + 0 ≤ _)⟩)
    dsimp only [Pt.U, Pt.locs, Pt.cells, Pt.slots] at X40 l40 y40 z40 st40 hQ40
    subst l40 y40 z40
    obtain ⟨rfl, Nq40, e40⟩ := hQ40
    have N40 := Fr.app N39 Nq40
    refine OutW.back st40 ?_
    show OutW _ _ _ _ _ _ _ (T40.setTop (mkF m 103 #[.val (.int p1), .val (.int p2), .val (.int p3), .val (.int p4), .val (.int (1 : Int32)), .val (.ref b34), .val (.ref b36), .val (.int (0 : Int32)), .val (.int (1 : Int32)), .unset, .unset, .unset] [(.int (stepF_0 (0 : Int32) (1 : Int32) p2 p3 p4))]))
    generalize hv_v41 : (stepF_0 (0 : Int32) (1 : Int32) p2 p3 p4) = v41
    refine OutW.back (fun t k => XS.istore X40.here hx rfl (hb hby at_103) rfl (l' := #[.val (.int p1), .val (.int p2), .val (.int p3), .val (.int p4), .val (.int (1 : Int32)), .val (.ref b34), .val (.ref b36), .val (.int (0 : Int32)), .val (.int (1 : Int32)), .val (.int v41), .unset, .unset]) rfl k) ?_
    show OutW _ _ _ _ _ _ _ (T40.setTop (mkF m 105 #[.val (.int p1), .val (.int p2), .val (.int p3), .val (.int p4), .val (.int (1 : Int32)), .val (.ref b34), .val (.ref b36), .val (.int (0 : Int32)), .val (.int (1 : Int32)), .val (.int v41), .unset, .unset] []))
    have pr42 := own_pos1 p2 p3 p4 (0 : Int32) (by decide) (by decide)
    rw [hv_v41] at pr42
    rw [pr42.1] at F_position_b36
    refine OutW.back (fun t k => XS.iload X40.here hx rfl (hb hby at_105) rfl  k) ?_
    show OutW _ _ _ _ _ _ _ (T40.setTop (mkF m 107 #[.val (.int p1), .val (.int p2), .val (.int p3), .val (.int p4), .val (.int (1 : Int32)), .val (.ref b34), .val (.ref b36), .val (.int (0 : Int32)), .val (.int (1 : Int32)), .val (.int v41), .unset, .unset] [(.int (1 : Int32))]))
    refine OutW.back (fun t k => XS.ifNo X40.here hx rfl (hb hby at_107) rfl ((if0 _ _).trans (feq (by decide : ¬ ((1 : Int32) = (0 : Int32)))).1) k) ?_
    show OutW _ _ _ _ _ _ _ (T40.setTop (mkF m 110 #[.val (.int p1), .val (.int p2), .val (.int p3), .val (.int p4), .val (.int (1 : Int32)), .val (.ref b34), .val (.ref b36), .val (.int (0 : Int32)), .val (.int (1 : Int32)), .val (.int v41), .unset, .unset] []))
    refine OutW.back (fun t k => XS.aload X40.here hx rfl (hb hby at_110) rfl rfl  k) ?_
    show OutW _ _ _ _ _ _ _ (T40.setTop (mkF m 112 #[.val (.int p1), .val (.int p2), .val (.int p3), .val (.int p4), .val (.int (1 : Int32)), .val (.ref b34), .val (.ref b36), .val (.int (0 : Int32)), .val (.int (1 : Int32)), .val (.int v41), .unset, .unset] [(.ref b36)]))
    obtain ⟨cq43, kq43, qa43, qb43, qc43⟩ := isOf hZ e40 E_b36
    obtain ⟨_, _, ⟨T43, L43, k43, n43⟩, -, X43, ⟨Lc43, hQ43, l43, y43, z43⟩, st43⟩ := X40.virtualBack hx (y := (⟨"com/example/fulltext_workbench/fulltextworkbench/index/VarintReader", "atEnd", "()Z"⟩ : MethodName)) (z := (⟨"com/example/fulltext_workbench/fulltextworkbench/index/VarintReader", "atEnd", "()Z"⟩ : MethodName)) hown (mvT hZ (hw _ (List.mem_of_getElem? (i := 12) rfl))) (mvT hZ (hw _ (List.mem_of_getElem? (i := 13) rfl))) (notFace_of_selects (args := #[]) (mvT hZ (hw _ (List.mem_of_getElem? (i := 15) rfl)))) (mvT hZ (hw _ (List.mem_of_getElem? (i := 15) rfl))) (mvT hZ (hw _ (List.mem_of_getElem? (i := 14) rfl))) (by decide) (backOf (W := 0) (rm3 l Z a0 hw [] b36 b34 v41 (1 : Int32) [(.int (nar .byte p2.toInt8.toInt32))] k34 h39 n0 Z39 F_bytes_b36 F_position_b36 V_b34_35) hZ (hw _ (List.mem_of_getElem? (i := 16) rfl)) (hw _ (List.mem_of_getElem? (i := 3) rfl)) (by decide) (by decide)) qa43 qc43 (g := (mkF m 112 #[.val (.int p1), .val (.int p2), .val (.int p3), .val (.int p4), .val (.int (1 : Int32)), .val (.ref b34), .val (.ref b36), .val (.int (0 : Int32)), .val (.int (1 : Int32)), .val (.int v41), .unset, .unset] [(.ref b36)])) rfl (by rw [hml]; rfl) (Steps.refl _) (argsL := []) (rest := []) (lenOf pd_3 rfl) rfl (by show 2 * 0 + _ ≤ _; exact Nat.le_of_eq rfl) (hb hby at_112) (fun _ _ => ⟨rfl, e40, (by decide : 2 + 0 ≤ _), (by decide : 3 + 0 ≤ _)⟩)
    dsimp only [Pt.U, Pt.locs, Pt.cells, Pt.slots] at X43 l43 y43 z43 st43 hQ43
    subst l43 y43 z43
    obtain ⟨rfl, Nq43, e43⟩ := hQ43
    have N43 := Fr.app N40 Nq43
    refine OutW.via st43 ?_
    show OutW _ _ _ _ _ _ _ (T43.setTop (mkF m 115 #[.val (.int p1), .val (.int p2), .val (.int p3), .val (.int p4), .val (.int (1 : Int32)), .val (.ref b34), .val (.ref b36), .val (.int (0 : Int32)), .val (.int (1 : Int32)), .val (.int v41), .unset, .unset] [(.int (atE v41 (1 : Int32)))]))
    refine OutW.back (fun t k => XS.iload X43.here hx rfl (hb hby at_115) rfl  k) ?_
    show OutW _ _ _ _ _ _ _ (T43.setTop (mkF m 117 #[.val (.int p1), .val (.int p2), .val (.int p3), .val (.int p4), .val (.int (1 : Int32)), .val (.ref b34), .val (.ref b36), .val (.int (0 : Int32)), .val (.int (1 : Int32)), .val (.int v41), .unset, .unset] [(.int v41), (.int (atE v41 (1 : Int32)))]))
    refine OutW.back (fun t k => XS.iload X43.here hx rfl (hb hby at_117) rfl  k) ?_
    show OutW _ _ _ _ _ _ _ (T43.setTop (mkF m 119 #[.val (.int p1), .val (.int p2), .val (.int p3), .val (.int p4), .val (.int (1 : Int32)), .val (.ref b34), .val (.ref b36), .val (.int (0 : Int32)), .val (.int (1 : Int32)), .val (.int v41), .unset, .unset] [(.int (1 : Int32)), (.int v41), (.int (atE v41 (1 : Int32)))]))
    obtain ⟨v45, hv_v45⟩ : ∃ z : Int32, z = (if v41 = (1 : Int32) then (1 : Int32) else (0 : Int32)) := ⟨_, rfl⟩
    have j46 : ∀ t, Steps p.tables e below (T43.setTop (mkF m 127 #[.val (.int p1), .val (.int p2), .val (.int p3), .val (.int p4), .val (.int (1 : Int32)), .val (.ref b34), .val (.ref b36), .val (.int (0 : Int32)), .val (.int (1 : Int32)), .val (.int v41), .unset, .unset] [(.int v45), (.int (atE v41 (1 : Int32)))])) t → Steps p.tables e below (T43.setTop (mkF m 119 #[.val (.int p1), .val (.int p2), .val (.int p3), .val (.int p4), .val (.int (1 : Int32)), .val (.ref b34), .val (.ref b36), .val (.int (0 : Int32)), .val (.int (1 : Int32)), .val (.int v41), .unset, .unset] [(.int (1 : Int32)), (.int v41), (.int (atE v41 (1 : Int32)))])) t := by
      intro t k
      by_cases c119_47 : v41 = (1 : Int32)
      · skip
        refine XS.icmpNo X43.here hx rfl (hb hby at_119) rfl (teq c119_47).2 ?_
        show Steps p.tables e below (T43.setTop (mkF m 122 #[.val (.int p1), .val (.int p2), .val (.int p3), .val (.int p4), .val (.int (1 : Int32)), .val (.ref b34), .val (.ref b36), .val (.int (0 : Int32)), .val (.int (1 : Int32)), .val (.int v41), .unset, .unset] [(.int (atE v41 (1 : Int32)))])) t
        refine XS.iconst X43.here hx rfl (hb hby at_122) ?_
        show Steps p.tables e below (T43.setTop (mkF m 123 #[.val (.int p1), .val (.int p2), .val (.int p3), .val (.int p4), .val (.int (1 : Int32)), .val (.ref b34), .val (.ref b36), .val (.int (0 : Int32)), .val (.int (1 : Int32)), .val (.int v41), .unset, .unset] [(.int (1 : Int32)), (.int (atE v41 (1 : Int32)))])) t
        refine XS.goto X43.here hx rfl (pc0 := 123) (pc' := 127) rfl (hb hby at_123) (by decide) (by decide) ?_
        show Steps p.tables e below (T43.setTop (mkF m 127 #[.val (.int p1), .val (.int p2), .val (.int p3), .val (.int p4), .val (.int (1 : Int32)), .val (.ref b34), .val (.ref b36), .val (.int (0 : Int32)), .val (.int (1 : Int32)), .val (.int v41), .unset, .unset] [(.int (1 : Int32)), (.int (atE v41 (1 : Int32)))])) t
        have q_v45 : v45 = (1 : Int32) := by rw [hv_v45, if_pos c119_47]
        rw [q_v45] at k
        exact k
      · skip
        refine XS.icmpYes X43.here hx rfl (pc0 := 119) (pc' := 126) rfl (hb hby at_119) rfl (feq c119_47).2 (by decide) (by decide) ?_
        show Steps p.tables e below (T43.setTop (mkF m 126 #[.val (.int p1), .val (.int p2), .val (.int p3), .val (.int p4), .val (.int (1 : Int32)), .val (.ref b34), .val (.ref b36), .val (.int (0 : Int32)), .val (.int (1 : Int32)), .val (.int v41), .unset, .unset] [(.int (atE v41 (1 : Int32)))])) t
        refine XS.iconst X43.here hx rfl (hb hby at_126) ?_
        show Steps p.tables e below (T43.setTop (mkF m 127 #[.val (.int p1), .val (.int p2), .val (.int p3), .val (.int p4), .val (.int (1 : Int32)), .val (.ref b34), .val (.ref b36), .val (.int (0 : Int32)), .val (.int (1 : Int32)), .val (.int v41), .unset, .unset] [(.int (0 : Int32)), (.int (atE v41 (1 : Int32)))])) t
        have q_v45 : v45 = (0 : Int32) := by rw [hv_v45, if_neg c119_47]
        rw [q_v45] at k
        exact k
    refine OutW.back j46 ?_
    show OutW _ _ _ _ _ _ _ (T43.setTop (mkF m 127 #[.val (.int p1), .val (.int p2), .val (.int p3), .val (.int p4), .val (.int (1 : Int32)), .val (.ref b34), .val (.ref b36), .val (.int (0 : Int32)), .val (.int (1 : Int32)), .val (.int v41), .unset, .unset] [(.int v45), (.int (atE v41 (1 : Int32)))]))
    refine OutW.back (fun t k => XS.icmpNo X43.here hx rfl (hb hby at_127) rfl (teq (by rw [hv_v45]; rfl)).2 k) ?_
    show OutW _ _ _ _ _ _ _ (T43.setTop (mkF m 130 #[.val (.int p1), .val (.int p2), .val (.int p3), .val (.int p4), .val (.int (1 : Int32)), .val (.ref b34), .val (.ref b36), .val (.int (0 : Int32)), .val (.int (1 : Int32)), .val (.int v41), .unset, .unset] []))
    refine OutW.back (fun t k => XS.iconst X43.here hx rfl (hb hby at_130) k) ?_
    show OutW _ _ _ _ _ _ _ (T43.setTop (mkF m 131 #[.val (.int p1), .val (.int p2), .val (.int p3), .val (.int p4), .val (.int (1 : Int32)), .val (.ref b34), .val (.ref b36), .val (.int (0 : Int32)), .val (.int (1 : Int32)), .val (.int v41), .unset, .unset] [(.int (1 : Int32))]))
    refine OutW.back (fun t k => XS.goto X43.here hx rfl (pc0 := 131) (pc' := 135) rfl (hb hby at_131) (by decide) (by decide) k) ?_
    show OutW _ _ _ _ _ _ _ (T43.setTop (mkF m 135 #[.val (.int p1), .val (.int p2), .val (.int p3), .val (.int p4), .val (.int (1 : Int32)), .val (.ref b34), .val (.ref b36), .val (.int (0 : Int32)), .val (.int (1 : Int32)), .val (.int v41), .unset, .unset] [(.int (1 : Int32))]))
    refine OutW.back (fun t k => XS.istore X43.here hx rfl (hb hby at_135) rfl (l' := #[.val (.int p1), .val (.int p2), .val (.int p3), .val (.int p4), .val (.int (1 : Int32)), .val (.ref b34), .val (.ref b36), .val (.int (0 : Int32)), .val (.int (1 : Int32)), .val (.int v41), .unset, .unset]) rfl k) ?_
    show OutW _ _ _ _ _ _ _ (T43.setTop (mkF m 137 #[.val (.int p1), .val (.int p2), .val (.int p3), .val (.int p4), .val (.int (1 : Int32)), .val (.ref b34), .val (.ref b36), .val (.int (0 : Int32)), .val (.int (1 : Int32)), .val (.int v41), .unset, .unset] []))
    refine OutW.back (fun t k => XS.aload X43.here hx rfl (hb hby at_137) rfl rfl  k) ?_
    show OutW _ _ _ _ _ _ _ (T43.setTop (mkF m 139 #[.val (.int p1), .val (.int p2), .val (.int p3), .val (.int p4), .val (.int (1 : Int32)), .val (.ref b34), .val (.ref b36), .val (.int (0 : Int32)), .val (.int (1 : Int32)), .val (.int v41), .unset, .unset] [(.ref b36)]))
    obtain ⟨cq48, kq48, qa48, qb48, qc48⟩ := isOf hZ e43 E_b36
    obtain ⟨_, _, ⟨T48, L48, k48, n48⟩, -, X48, ⟨Lc48, hQ48, l48, y48, z48⟩, st48⟩ := X43.virtualBack hx (y := (⟨"com/example/fulltext_workbench/fulltextworkbench/index/VarintReader", "next", "()I"⟩ : MethodName)) (z := (⟨"com/example/fulltext_workbench/fulltextworkbench/index/VarintReader", "next", "()I"⟩ : MethodName)) hown (mvT hZ (hw _ (List.mem_of_getElem? (i := 19) rfl))) (mvT hZ (hw _ (List.mem_of_getElem? (i := 20) rfl))) (notFace_of_selects (args := #[]) (mvT hZ (hw _ (List.mem_of_getElem? (i := 22) rfl)))) (mvT hZ (hw _ (List.mem_of_getElem? (i := 22) rfl))) (mvT hZ (hw _ (List.mem_of_getElem? (i := 21) rfl))) (by decide) (backOf (W := 0) (rm4 l Z a0 hw [] b36 b34 v41 (1 : Int32) [(.int (nar .byte p2.toInt8.toInt32))] k34 (Bn [(nar .byte p2.toInt8.toInt32)]) h39 n0 Z39 E_b36 g_b36 F_bytes_b36 F_position_b36 V_b34_35 ne_b34_b36 (fun j _ _ => own_getD [(nar .byte p2.toInt8.toInt32)] _ 0) pr42.2.1) hZ (hw _ (List.mem_of_getElem? (i := 23) rfl)) (hw _ (List.mem_of_getElem? (i := 3) rfl)) (by decide) (by decide)) qa48 qc48 (g := (mkF m 139 #[.val (.int p1), .val (.int p2), .val (.int p3), .val (.int p4), .val (.int (1 : Int32)), .val (.ref b34), .val (.ref b36), .val (.int (0 : Int32)), .val (.int (1 : Int32)), .val (.int v41), .unset, .unset] [(.ref b36)])) rfl (by rw [hml]; rfl) (Steps.refl _) (argsL := []) (rest := []) (lenOf pd_4 rfl) rfl (by show 2 * 0 + _ ≤ _; exact Nat.le_of_eq rfl) (hb hby at_139) (fun _ _ => ⟨rfl, e43, (by decide : 2 + 0 ≤ _), (by decide : 3 + 0 ≤ _)⟩)
    dsimp only [Pt.U, Pt.locs, Pt.cells, Pt.slots] at X48 l48 y48 z48 st48 hQ48
    subst l48 y48 z48
    obtain ⟨h48, eh48⟩ : ∃ z, z = T48.heap := ⟨_, rfl⟩
    rw [← eh48] at hQ48
    have e48 : T48.heap = h48 := eh48.symm
    obtain ⟨rfl, Nq48, Kq48, F_position_b36, F_bytes_b36⟩ := hQ48
    have V_b34_35 := V_b34_35.keep Kq48 (ninS ne_b34_b36 nin0)
    have E_b36 := E_b36.keep Kq48
    have Z48 : n0 ≤ h48.size := Nat.le_trans Z39 Kq48.1
    have K48 := K39.trans Kq48 (allS (Or.inr sz_b36) all0)
    have N48 := Fr.app N43 Nq48
    refine OutW.via st48 ?_
    show OutW _ _ _ _ _ _ _ (T48.setTop (mkF m 142 #[.val (.int p1), .val (.int p2), .val (.int p3), .val (.int p4), .val (.int (1 : Int32)), .val (.ref b34), .val (.ref b36), .val (.int (0 : Int32)), .val (.int (1 : Int32)), .val (.int v41), .unset, .unset] [(.int (nxt (Bn [(nar .byte p2.toInt8.toInt32)]) (1 : Int32) v41))]))
    refine OutW.back (fun t k => XS.pop X48.here hx rfl (hb hby at_142) rfl rfl k) ?_
    show OutW _ _ _ _ _ _ _ (T48.setTop (mkF m 143 #[.val (.int p1), .val (.int p2), .val (.int p3), .val (.int p4), .val (.int (1 : Int32)), .val (.ref b34), .val (.ref b36), .val (.int (0 : Int32)), .val (.int (1 : Int32)), .val (.int v41), .unset, .unset] []))
    refine OutW.back (fun t k => XS.iload X48.here hx rfl (hb hby at_143) rfl  k) ?_
    show OutW _ _ _ _ _ _ _ (T48.setTop (mkF m 145 #[.val (.int p1), .val (.int p2), .val (.int p3), .val (.int p4), .val (.int (1 : Int32)), .val (.ref b34), .val (.ref b36), .val (.int (0 : Int32)), .val (.int (1 : Int32)), .val (.int v41), .unset, .unset] [(.int v41)]))
    refine OutW.back (fun t k => XS.iload X48.here hx rfl (hb hby at_145) rfl  k) ?_
    show OutW _ _ _ _ _ _ _ (T48.setTop (mkF m 147 #[.val (.int p1), .val (.int p2), .val (.int p3), .val (.int p4), .val (.int (1 : Int32)), .val (.ref b34), .val (.ref b36), .val (.int (0 : Int32)), .val (.int (1 : Int32)), .val (.int v41), .unset, .unset] [(.int (1 : Int32)), (.int v41)]))
    refine OutW.back (fun t k => XS.iloadN X48.here hx rfl (hb hby at_147) rfl  k) ?_
    show OutW _ _ _ _ _ _ _ (T48.setTop (mkF m 148 #[.val (.int p1), .val (.int p2), .val (.int p3), .val (.int p4), .val (.int (1 : Int32)), .val (.ref b34), .val (.ref b36), .val (.int (0 : Int32)), .val (.int (1 : Int32)), .val (.int v41), .unset, .unset] [(.int p2), (.int (1 : Int32)), (.int v41)]))
    refine OutW.back (fun t k => XS.iloadN X48.here hx rfl (hb hby at_148) rfl  k) ?_
    show OutW _ _ _ _ _ _ _ (T48.setTop (mkF m 149 #[.val (.int p1), .val (.int p2), .val (.int p3), .val (.int p4), .val (.int (1 : Int32)), .val (.ref b34), .val (.ref b36), .val (.int (0 : Int32)), .val (.int (1 : Int32)), .val (.int v41), .unset, .unset] [(.int p3), (.int p2), (.int (1 : Int32)), (.int v41)]))
    refine OutW.back (fun t k => XS.iloadN X48.here hx rfl (hb hby at_149) rfl  k) ?_
    show OutW _ _ _ _ _ _ _ (T48.setTop (mkF m 150 #[.val (.int p1), .val (.int p2), .val (.int p3), .val (.int p4), .val (.int (1 : Int32)), .val (.ref b34), .val (.ref b36), .val (.int (0 : Int32)), .val (.int (1 : Int32)), .val (.int v41), .unset, .unset] [(.int p4), (.int p3), (.int p2), (.int (1 : Int32)), (.int v41)]))
    obtain ⟨_, _, ⟨T49, L49, k49, n49⟩, -, X49, ⟨Lc49, hQ49, l49, y49, z49⟩, st49⟩ := Jvm.LawKit.callS X48 hx (y := (⟨"com/example/fulltext_workbench/fulltextworkbench/index/VarintReaderAtEndPinLaw", "step", "(IIIII)I"⟩ : MethodName)) hown (mvT hZ (hw _ (List.mem_of_getElem? (i := 24) rfl))) (mvT hZ (hw _ (List.mem_of_getElem? (i := 25) rfl))) (mvT hZ (hw _ (List.mem_of_getElem? (i := 26) rfl))) (mvT hZ (hw _ (List.mem_of_getElem? (i := 27) rfl))) (by decide) (backOf (W := 0) (rm5 l Z a0 hw [] v41 (1 : Int32) p2 p3 p4 h48 n0 Z48) hZ (hw _ (List.mem_of_getElem? (i := 27) rfl)) (hw _ (List.mem_of_getElem? (i := 26) rfl)) (by decide) (by decide)) (g := (mkF m 150 #[.val (.int p1), .val (.int p2), .val (.int p3), .val (.int p4), .val (.int (1 : Int32)), .val (.ref b34), .val (.ref b36), .val (.int (0 : Int32)), .val (.int (1 : Int32)), .val (.int v41), .unset, .unset] [(.int p4), (.int p3), (.int p2), (.int (1 : Int32)), (.int v41)])) rfl (by rw [hml]; rfl) (argsL := [(.int v41), (.int (1 : Int32)), (.int p2), (.int p3), (.int p4)]) (rest := []) (lenOf pd_5 rfl) rfl (by show 2 * 0 + _ ≤ _; exact Nat.le_of_eq rfl) (hb hby at_150) (fun _ _ => ⟨rfl, e48, (by decide : 2 + 0 ≤ _), (by decide : 3 + 0 ≤ _)⟩)
    dsimp only [Pt.U, Pt.locs, Pt.cells, Pt.slots] at X49 l49 y49 z49 st49 hQ49
    subst l49 y49 z49
    obtain ⟨rfl, Nq49, e49⟩ := hQ49
    have N49 := Fr.app N48 Nq49
    refine OutW.back st49 ?_
    show OutW _ _ _ _ _ _ _ (T49.setTop (mkF m 153 #[.val (.int p1), .val (.int p2), .val (.int p3), .val (.int p4), .val (.int (1 : Int32)), .val (.ref b34), .val (.ref b36), .val (.int (0 : Int32)), .val (.int (1 : Int32)), .val (.int v41), .unset, .unset] [(.int (stepF_0 v41 (1 : Int32) p2 p3 p4))]))
    generalize hv_v50 : (stepF_0 v41 (1 : Int32) p2 p3 p4) = v50
    refine OutW.back (fun t k => XS.istore X49.here hx rfl (hb hby at_153) rfl (l' := #[.val (.int p1), .val (.int p2), .val (.int p3), .val (.int p4), .val (.int (1 : Int32)), .val (.ref b34), .val (.ref b36), .val (.int (0 : Int32)), .val (.int (1 : Int32)), .val (.int v41), .val (.int v50), .unset]) rfl k) ?_
    show OutW _ _ _ _ _ _ _ (T49.setTop (mkF m 155 #[.val (.int p1), .val (.int p2), .val (.int p3), .val (.int p4), .val (.int (1 : Int32)), .val (.ref b34), .val (.ref b36), .val (.int (0 : Int32)), .val (.int (1 : Int32)), .val (.int v41), .val (.int v50), .unset] []))
    have pr51 := own_pos1 p2 p3 p4 v41 pr42.2.1 pr42.2.2
    rw [hv_v50] at pr51
    rw [pr51.1] at F_position_b36
    refine OutW.back (fun t k => XS.iload X49.here hx rfl (hb hby at_155) rfl  k) ?_
    show OutW _ _ _ _ _ _ _ (T49.setTop (mkF m 157 #[.val (.int p1), .val (.int p2), .val (.int p3), .val (.int p4), .val (.int (1 : Int32)), .val (.ref b34), .val (.ref b36), .val (.int (0 : Int32)), .val (.int (1 : Int32)), .val (.int v41), .val (.int v50), .unset] [(.int (1 : Int32))]))
    refine OutW.back (fun t k => XS.ifNo X49.here hx rfl (hb hby at_157) rfl ((if0 _ _).trans (feq (by decide : ¬ ((1 : Int32) = (0 : Int32)))).1) k) ?_
    show OutW _ _ _ _ _ _ _ (T49.setTop (mkF m 160 #[.val (.int p1), .val (.int p2), .val (.int p3), .val (.int p4), .val (.int (1 : Int32)), .val (.ref b34), .val (.ref b36), .val (.int (0 : Int32)), .val (.int (1 : Int32)), .val (.int v41), .val (.int v50), .unset] []))
    refine OutW.back (fun t k => XS.aload X49.here hx rfl (hb hby at_160) rfl rfl  k) ?_
    show OutW _ _ _ _ _ _ _ (T49.setTop (mkF m 162 #[.val (.int p1), .val (.int p2), .val (.int p3), .val (.int p4), .val (.int (1 : Int32)), .val (.ref b34), .val (.ref b36), .val (.int (0 : Int32)), .val (.int (1 : Int32)), .val (.int v41), .val (.int v50), .unset] [(.ref b36)]))
    obtain ⟨cq52, kq52, qa52, qb52, qc52⟩ := isOf hZ e49 E_b36
    obtain ⟨_, _, ⟨T52, L52, k52, n52⟩, -, X52, ⟨Lc52, hQ52, l52, y52, z52⟩, st52⟩ := X49.virtualBack hx (y := (⟨"com/example/fulltext_workbench/fulltextworkbench/index/VarintReader", "atEnd", "()Z"⟩ : MethodName)) (z := (⟨"com/example/fulltext_workbench/fulltextworkbench/index/VarintReader", "atEnd", "()Z"⟩ : MethodName)) hown (mvT hZ (hw _ (List.mem_of_getElem? (i := 12) rfl))) (mvT hZ (hw _ (List.mem_of_getElem? (i := 13) rfl))) (notFace_of_selects (args := #[]) (mvT hZ (hw _ (List.mem_of_getElem? (i := 15) rfl)))) (mvT hZ (hw _ (List.mem_of_getElem? (i := 15) rfl))) (mvT hZ (hw _ (List.mem_of_getElem? (i := 14) rfl))) (by decide) (backOf (W := 0) (rm3 l Z a0 hw [] b36 b34 v50 (1 : Int32) [(.int (nar .byte p2.toInt8.toInt32))] k34 h48 n0 Z48 F_bytes_b36 F_position_b36 V_b34_35) hZ (hw _ (List.mem_of_getElem? (i := 16) rfl)) (hw _ (List.mem_of_getElem? (i := 3) rfl)) (by decide) (by decide)) qa52 qc52 (g := (mkF m 162 #[.val (.int p1), .val (.int p2), .val (.int p3), .val (.int p4), .val (.int (1 : Int32)), .val (.ref b34), .val (.ref b36), .val (.int (0 : Int32)), .val (.int (1 : Int32)), .val (.int v41), .val (.int v50), .unset] [(.ref b36)])) rfl (by rw [hml]; rfl) (Steps.refl _) (argsL := []) (rest := []) (lenOf pd_3 rfl) rfl (by show 2 * 0 + _ ≤ _; exact Nat.le_of_eq rfl) (hb hby at_162) (fun _ _ => ⟨rfl, e49, (by decide : 2 + 0 ≤ _), (by decide : 3 + 0 ≤ _)⟩)
    dsimp only [Pt.U, Pt.locs, Pt.cells, Pt.slots] at X52 l52 y52 z52 st52 hQ52
    subst l52 y52 z52
    obtain ⟨rfl, Nq52, e52⟩ := hQ52
    have N52 := Fr.app N49 Nq52
    refine OutW.via st52 ?_
    show OutW _ _ _ _ _ _ _ (T52.setTop (mkF m 165 #[.val (.int p1), .val (.int p2), .val (.int p3), .val (.int p4), .val (.int (1 : Int32)), .val (.ref b34), .val (.ref b36), .val (.int (0 : Int32)), .val (.int (1 : Int32)), .val (.int v41), .val (.int v50), .unset] [(.int (atE v50 (1 : Int32)))]))
    refine OutW.back (fun t k => XS.iload X52.here hx rfl (hb hby at_165) rfl  k) ?_
    show OutW _ _ _ _ _ _ _ (T52.setTop (mkF m 167 #[.val (.int p1), .val (.int p2), .val (.int p3), .val (.int p4), .val (.int (1 : Int32)), .val (.ref b34), .val (.ref b36), .val (.int (0 : Int32)), .val (.int (1 : Int32)), .val (.int v41), .val (.int v50), .unset] [(.int v50), (.int (atE v50 (1 : Int32)))]))
    refine OutW.back (fun t k => XS.iload X52.here hx rfl (hb hby at_167) rfl  k) ?_
    show OutW _ _ _ _ _ _ _ (T52.setTop (mkF m 169 #[.val (.int p1), .val (.int p2), .val (.int p3), .val (.int p4), .val (.int (1 : Int32)), .val (.ref b34), .val (.ref b36), .val (.int (0 : Int32)), .val (.int (1 : Int32)), .val (.int v41), .val (.int v50), .unset] [(.int (1 : Int32)), (.int v50), (.int (atE v50 (1 : Int32)))]))
    obtain ⟨v54, hv_v54⟩ : ∃ z : Int32, z = (if v50 = (1 : Int32) then (1 : Int32) else (0 : Int32)) := ⟨_, rfl⟩
    have j55 : ∀ t, Steps p.tables e below (T52.setTop (mkF m 177 #[.val (.int p1), .val (.int p2), .val (.int p3), .val (.int p4), .val (.int (1 : Int32)), .val (.ref b34), .val (.ref b36), .val (.int (0 : Int32)), .val (.int (1 : Int32)), .val (.int v41), .val (.int v50), .unset] [(.int v54), (.int (atE v50 (1 : Int32)))])) t → Steps p.tables e below (T52.setTop (mkF m 169 #[.val (.int p1), .val (.int p2), .val (.int p3), .val (.int p4), .val (.int (1 : Int32)), .val (.ref b34), .val (.ref b36), .val (.int (0 : Int32)), .val (.int (1 : Int32)), .val (.int v41), .val (.int v50), .unset] [(.int (1 : Int32)), (.int v50), (.int (atE v50 (1 : Int32)))])) t := by
      intro t k
      by_cases c169_56 : v50 = (1 : Int32)
      · skip
        refine XS.icmpNo X52.here hx rfl (hb hby at_169) rfl (teq c169_56).2 ?_
        show Steps p.tables e below (T52.setTop (mkF m 172 #[.val (.int p1), .val (.int p2), .val (.int p3), .val (.int p4), .val (.int (1 : Int32)), .val (.ref b34), .val (.ref b36), .val (.int (0 : Int32)), .val (.int (1 : Int32)), .val (.int v41), .val (.int v50), .unset] [(.int (atE v50 (1 : Int32)))])) t
        refine XS.iconst X52.here hx rfl (hb hby at_172) ?_
        show Steps p.tables e below (T52.setTop (mkF m 173 #[.val (.int p1), .val (.int p2), .val (.int p3), .val (.int p4), .val (.int (1 : Int32)), .val (.ref b34), .val (.ref b36), .val (.int (0 : Int32)), .val (.int (1 : Int32)), .val (.int v41), .val (.int v50), .unset] [(.int (1 : Int32)), (.int (atE v50 (1 : Int32)))])) t
        refine XS.goto X52.here hx rfl (pc0 := 173) (pc' := 177) rfl (hb hby at_173) (by decide) (by decide) ?_
        show Steps p.tables e below (T52.setTop (mkF m 177 #[.val (.int p1), .val (.int p2), .val (.int p3), .val (.int p4), .val (.int (1 : Int32)), .val (.ref b34), .val (.ref b36), .val (.int (0 : Int32)), .val (.int (1 : Int32)), .val (.int v41), .val (.int v50), .unset] [(.int (1 : Int32)), (.int (atE v50 (1 : Int32)))])) t
        have q_v54 : v54 = (1 : Int32) := by rw [hv_v54, if_pos c169_56]
        rw [q_v54] at k
        exact k
      · skip
        refine XS.icmpYes X52.here hx rfl (pc0 := 169) (pc' := 176) rfl (hb hby at_169) rfl (feq c169_56).2 (by decide) (by decide) ?_
        show Steps p.tables e below (T52.setTop (mkF m 176 #[.val (.int p1), .val (.int p2), .val (.int p3), .val (.int p4), .val (.int (1 : Int32)), .val (.ref b34), .val (.ref b36), .val (.int (0 : Int32)), .val (.int (1 : Int32)), .val (.int v41), .val (.int v50), .unset] [(.int (atE v50 (1 : Int32)))])) t
        refine XS.iconst X52.here hx rfl (hb hby at_176) ?_
        show Steps p.tables e below (T52.setTop (mkF m 177 #[.val (.int p1), .val (.int p2), .val (.int p3), .val (.int p4), .val (.int (1 : Int32)), .val (.ref b34), .val (.ref b36), .val (.int (0 : Int32)), .val (.int (1 : Int32)), .val (.int v41), .val (.int v50), .unset] [(.int (0 : Int32)), (.int (atE v50 (1 : Int32)))])) t
        have q_v54 : v54 = (0 : Int32) := by rw [hv_v54, if_neg c169_56]
        rw [q_v54] at k
        exact k
    refine OutW.back j55 ?_
    show OutW _ _ _ _ _ _ _ (T52.setTop (mkF m 177 #[.val (.int p1), .val (.int p2), .val (.int p3), .val (.int p4), .val (.int (1 : Int32)), .val (.ref b34), .val (.ref b36), .val (.int (0 : Int32)), .val (.int (1 : Int32)), .val (.int v41), .val (.int v50), .unset] [(.int v54), (.int (atE v50 (1 : Int32)))]))
    refine OutW.back (fun t k => XS.icmpNo X52.here hx rfl (hb hby at_177) rfl (teq (by rw [hv_v54]; rfl)).2 k) ?_
    show OutW _ _ _ _ _ _ _ (T52.setTop (mkF m 180 #[.val (.int p1), .val (.int p2), .val (.int p3), .val (.int p4), .val (.int (1 : Int32)), .val (.ref b34), .val (.ref b36), .val (.int (0 : Int32)), .val (.int (1 : Int32)), .val (.int v41), .val (.int v50), .unset] []))
    refine OutW.back (fun t k => XS.iconst X52.here hx rfl (hb hby at_180) k) ?_
    show OutW _ _ _ _ _ _ _ (T52.setTop (mkF m 181 #[.val (.int p1), .val (.int p2), .val (.int p3), .val (.int p4), .val (.int (1 : Int32)), .val (.ref b34), .val (.ref b36), .val (.int (0 : Int32)), .val (.int (1 : Int32)), .val (.int v41), .val (.int v50), .unset] [(.int (1 : Int32))]))
    refine OutW.back (fun t k => XS.goto X52.here hx rfl (pc0 := 181) (pc' := 185) rfl (hb hby at_181) (by decide) (by decide) k) ?_
    show OutW _ _ _ _ _ _ _ (T52.setTop (mkF m 185 #[.val (.int p1), .val (.int p2), .val (.int p3), .val (.int p4), .val (.int (1 : Int32)), .val (.ref b34), .val (.ref b36), .val (.int (0 : Int32)), .val (.int (1 : Int32)), .val (.int v41), .val (.int v50), .unset] [(.int (1 : Int32))]))
    refine OutW.back (fun t k => XS.istore X52.here hx rfl (hb hby at_185) rfl (l' := #[.val (.int p1), .val (.int p2), .val (.int p3), .val (.int p4), .val (.int (1 : Int32)), .val (.ref b34), .val (.ref b36), .val (.int (0 : Int32)), .val (.int (1 : Int32)), .val (.int v41), .val (.int v50), .unset]) rfl k) ?_
    show OutW _ _ _ _ _ _ _ (T52.setTop (mkF m 187 #[.val (.int p1), .val (.int p2), .val (.int p3), .val (.int p4), .val (.int (1 : Int32)), .val (.ref b34), .val (.ref b36), .val (.int (0 : Int32)), .val (.int (1 : Int32)), .val (.int v41), .val (.int v50), .unset] []))
    refine OutW.back (fun t k => XS.aload X52.here hx rfl (hb hby at_187) rfl rfl  k) ?_
    show OutW _ _ _ _ _ _ _ (T52.setTop (mkF m 189 #[.val (.int p1), .val (.int p2), .val (.int p3), .val (.int p4), .val (.int (1 : Int32)), .val (.ref b34), .val (.ref b36), .val (.int (0 : Int32)), .val (.int (1 : Int32)), .val (.int v41), .val (.int v50), .unset] [(.ref b36)]))
    obtain ⟨cq57, kq57, qa57, qb57, qc57⟩ := isOf hZ e52 E_b36
    obtain ⟨_, _, ⟨T57, L57, k57, n57⟩, -, X57, ⟨Lc57, hQ57, l57, y57, z57⟩, st57⟩ := X52.virtualBack hx (y := (⟨"com/example/fulltext_workbench/fulltextworkbench/index/VarintReader", "next", "()I"⟩ : MethodName)) (z := (⟨"com/example/fulltext_workbench/fulltextworkbench/index/VarintReader", "next", "()I"⟩ : MethodName)) hown (mvT hZ (hw _ (List.mem_of_getElem? (i := 19) rfl))) (mvT hZ (hw _ (List.mem_of_getElem? (i := 20) rfl))) (notFace_of_selects (args := #[]) (mvT hZ (hw _ (List.mem_of_getElem? (i := 22) rfl)))) (mvT hZ (hw _ (List.mem_of_getElem? (i := 22) rfl))) (mvT hZ (hw _ (List.mem_of_getElem? (i := 21) rfl))) (by decide) (backOf (W := 0) (rm4 l Z a0 hw [] b36 b34 v50 (1 : Int32) [(.int (nar .byte p2.toInt8.toInt32))] k34 (Bn [(nar .byte p2.toInt8.toInt32)]) h48 n0 Z48 E_b36 g_b36 F_bytes_b36 F_position_b36 V_b34_35 ne_b34_b36 (fun j _ _ => own_getD [(nar .byte p2.toInt8.toInt32)] _ 0) pr51.2.1) hZ (hw _ (List.mem_of_getElem? (i := 23) rfl)) (hw _ (List.mem_of_getElem? (i := 3) rfl)) (by decide) (by decide)) qa57 qc57 (g := (mkF m 189 #[.val (.int p1), .val (.int p2), .val (.int p3), .val (.int p4), .val (.int (1 : Int32)), .val (.ref b34), .val (.ref b36), .val (.int (0 : Int32)), .val (.int (1 : Int32)), .val (.int v41), .val (.int v50), .unset] [(.ref b36)])) rfl (by rw [hml]; rfl) (Steps.refl _) (argsL := []) (rest := []) (lenOf pd_4 rfl) rfl (by show 2 * 0 + _ ≤ _; exact Nat.le_of_eq rfl) (hb hby at_189) (fun _ _ => ⟨rfl, e52, (by decide : 2 + 0 ≤ _), (by decide : 3 + 0 ≤ _)⟩)
    dsimp only [Pt.U, Pt.locs, Pt.cells, Pt.slots] at X57 l57 y57 z57 st57 hQ57
    subst l57 y57 z57
    obtain ⟨h57, eh57⟩ : ∃ z, z = T57.heap := ⟨_, rfl⟩
    rw [← eh57] at hQ57
    have e57 : T57.heap = h57 := eh57.symm
    obtain ⟨rfl, Nq57, Kq57, F_position_b36, F_bytes_b36⟩ := hQ57
    have V_b34_35 := V_b34_35.keep Kq57 (ninS ne_b34_b36 nin0)
    have E_b36 := E_b36.keep Kq57
    have Z57 : n0 ≤ h57.size := Nat.le_trans Z48 Kq57.1
    have K57 := K48.trans Kq57 (allS (Or.inr sz_b36) all0)
    have N57 := Fr.app N52 Nq57
    refine OutW.via st57 ?_
    show OutW _ _ _ _ _ _ _ (T57.setTop (mkF m 192 #[.val (.int p1), .val (.int p2), .val (.int p3), .val (.int p4), .val (.int (1 : Int32)), .val (.ref b34), .val (.ref b36), .val (.int (0 : Int32)), .val (.int (1 : Int32)), .val (.int v41), .val (.int v50), .unset] [(.int (nxt (Bn [(nar .byte p2.toInt8.toInt32)]) (1 : Int32) v50))]))
    refine OutW.back (fun t k => XS.pop X57.here hx rfl (hb hby at_192) rfl rfl k) ?_
    show OutW _ _ _ _ _ _ _ (T57.setTop (mkF m 193 #[.val (.int p1), .val (.int p2), .val (.int p3), .val (.int p4), .val (.int (1 : Int32)), .val (.ref b34), .val (.ref b36), .val (.int (0 : Int32)), .val (.int (1 : Int32)), .val (.int v41), .val (.int v50), .unset] []))
    refine OutW.back (fun t k => XS.iload X57.here hx rfl (hb hby at_193) rfl  k) ?_
    show OutW _ _ _ _ _ _ _ (T57.setTop (mkF m 195 #[.val (.int p1), .val (.int p2), .val (.int p3), .val (.int p4), .val (.int (1 : Int32)), .val (.ref b34), .val (.ref b36), .val (.int (0 : Int32)), .val (.int (1 : Int32)), .val (.int v41), .val (.int v50), .unset] [(.int v50)]))
    refine OutW.back (fun t k => XS.iload X57.here hx rfl (hb hby at_195) rfl  k) ?_
    show OutW _ _ _ _ _ _ _ (T57.setTop (mkF m 197 #[.val (.int p1), .val (.int p2), .val (.int p3), .val (.int p4), .val (.int (1 : Int32)), .val (.ref b34), .val (.ref b36), .val (.int (0 : Int32)), .val (.int (1 : Int32)), .val (.int v41), .val (.int v50), .unset] [(.int (1 : Int32)), (.int v50)]))
    refine OutW.back (fun t k => XS.iloadN X57.here hx rfl (hb hby at_197) rfl  k) ?_
    show OutW _ _ _ _ _ _ _ (T57.setTop (mkF m 198 #[.val (.int p1), .val (.int p2), .val (.int p3), .val (.int p4), .val (.int (1 : Int32)), .val (.ref b34), .val (.ref b36), .val (.int (0 : Int32)), .val (.int (1 : Int32)), .val (.int v41), .val (.int v50), .unset] [(.int p2), (.int (1 : Int32)), (.int v50)]))
    refine OutW.back (fun t k => XS.iloadN X57.here hx rfl (hb hby at_198) rfl  k) ?_
    show OutW _ _ _ _ _ _ _ (T57.setTop (mkF m 199 #[.val (.int p1), .val (.int p2), .val (.int p3), .val (.int p4), .val (.int (1 : Int32)), .val (.ref b34), .val (.ref b36), .val (.int (0 : Int32)), .val (.int (1 : Int32)), .val (.int v41), .val (.int v50), .unset] [(.int p3), (.int p2), (.int (1 : Int32)), (.int v50)]))
    refine OutW.back (fun t k => XS.iloadN X57.here hx rfl (hb hby at_199) rfl  k) ?_
    show OutW _ _ _ _ _ _ _ (T57.setTop (mkF m 200 #[.val (.int p1), .val (.int p2), .val (.int p3), .val (.int p4), .val (.int (1 : Int32)), .val (.ref b34), .val (.ref b36), .val (.int (0 : Int32)), .val (.int (1 : Int32)), .val (.int v41), .val (.int v50), .unset] [(.int p4), (.int p3), (.int p2), (.int (1 : Int32)), (.int v50)]))
    obtain ⟨_, _, ⟨T58, L58, k58, n58⟩, -, X58, ⟨Lc58, hQ58, l58, y58, z58⟩, st58⟩ := Jvm.LawKit.callS X57 hx (y := (⟨"com/example/fulltext_workbench/fulltextworkbench/index/VarintReaderAtEndPinLaw", "step", "(IIIII)I"⟩ : MethodName)) hown (mvT hZ (hw _ (List.mem_of_getElem? (i := 24) rfl))) (mvT hZ (hw _ (List.mem_of_getElem? (i := 25) rfl))) (mvT hZ (hw _ (List.mem_of_getElem? (i := 26) rfl))) (mvT hZ (hw _ (List.mem_of_getElem? (i := 27) rfl))) (by decide) (backOf (W := 0) (rm5 l Z a0 hw [] v50 (1 : Int32) p2 p3 p4 h57 n0 Z57) hZ (hw _ (List.mem_of_getElem? (i := 27) rfl)) (hw _ (List.mem_of_getElem? (i := 26) rfl)) (by decide) (by decide)) (g := (mkF m 200 #[.val (.int p1), .val (.int p2), .val (.int p3), .val (.int p4), .val (.int (1 : Int32)), .val (.ref b34), .val (.ref b36), .val (.int (0 : Int32)), .val (.int (1 : Int32)), .val (.int v41), .val (.int v50), .unset] [(.int p4), (.int p3), (.int p2), (.int (1 : Int32)), (.int v50)])) rfl (by rw [hml]; rfl) (argsL := [(.int v50), (.int (1 : Int32)), (.int p2), (.int p3), (.int p4)]) (rest := []) (lenOf pd_5 rfl) rfl (by show 2 * 0 + _ ≤ _; exact Nat.le_of_eq rfl) (hb hby at_200) (fun _ _ => ⟨rfl, e57, (by decide : 2 + 0 ≤ _), (by decide : 3 + 0 ≤ _)⟩)
    dsimp only [Pt.U, Pt.locs, Pt.cells, Pt.slots] at X58 l58 y58 z58 st58 hQ58
    subst l58 y58 z58
    obtain ⟨rfl, Nq58, e58⟩ := hQ58
    have N58 := Fr.app N57 Nq58
    refine OutW.back st58 ?_
    show OutW _ _ _ _ _ _ _ (T58.setTop (mkF m 203 #[.val (.int p1), .val (.int p2), .val (.int p3), .val (.int p4), .val (.int (1 : Int32)), .val (.ref b34), .val (.ref b36), .val (.int (0 : Int32)), .val (.int (1 : Int32)), .val (.int v41), .val (.int v50), .unset] [(.int (stepF_0 v50 (1 : Int32) p2 p3 p4))]))
    generalize hv_v59 : (stepF_0 v50 (1 : Int32) p2 p3 p4) = v59
    refine OutW.back (fun t k => XS.istore X58.here hx rfl (hb hby at_203) rfl (l' := #[.val (.int p1), .val (.int p2), .val (.int p3), .val (.int p4), .val (.int (1 : Int32)), .val (.ref b34), .val (.ref b36), .val (.int (0 : Int32)), .val (.int (1 : Int32)), .val (.int v41), .val (.int v50), .val (.int v59)]) rfl k) ?_
    show OutW _ _ _ _ _ _ _ (T58.setTop (mkF m 205 #[.val (.int p1), .val (.int p2), .val (.int p3), .val (.int p4), .val (.int (1 : Int32)), .val (.ref b34), .val (.ref b36), .val (.int (0 : Int32)), .val (.int (1 : Int32)), .val (.int v41), .val (.int v50), .val (.int v59)] []))
    have pr60 := own_pos1 p2 p3 p4 v50 pr51.2.1 pr51.2.2
    rw [hv_v59] at pr60
    rw [pr60.1] at F_position_b36
    refine OutW.back (fun t k => XS.iload X58.here hx rfl (hb hby at_205) rfl  k) ?_
    show OutW _ _ _ _ _ _ _ (T58.setTop (mkF m 207 #[.val (.int p1), .val (.int p2), .val (.int p3), .val (.int p4), .val (.int (1 : Int32)), .val (.ref b34), .val (.ref b36), .val (.int (0 : Int32)), .val (.int (1 : Int32)), .val (.int v41), .val (.int v50), .val (.int v59)] [(.int (1 : Int32))]))
    refine OutW.back (fun t k => XS.ifNo X58.here hx rfl (hb hby at_207) rfl ((if0 _ _).trans (feq (by decide : ¬ ((1 : Int32) = (0 : Int32)))).1) k) ?_
    show OutW _ _ _ _ _ _ _ (T58.setTop (mkF m 210 #[.val (.int p1), .val (.int p2), .val (.int p3), .val (.int p4), .val (.int (1 : Int32)), .val (.ref b34), .val (.ref b36), .val (.int (0 : Int32)), .val (.int (1 : Int32)), .val (.int v41), .val (.int v50), .val (.int v59)] []))
    refine OutW.back (fun t k => XS.aload X58.here hx rfl (hb hby at_210) rfl rfl  k) ?_
    show OutW _ _ _ _ _ _ _ (T58.setTop (mkF m 212 #[.val (.int p1), .val (.int p2), .val (.int p3), .val (.int p4), .val (.int (1 : Int32)), .val (.ref b34), .val (.ref b36), .val (.int (0 : Int32)), .val (.int (1 : Int32)), .val (.int v41), .val (.int v50), .val (.int v59)] [(.ref b36)]))
    obtain ⟨cq61, kq61, qa61, qb61, qc61⟩ := isOf hZ e58 E_b36
    obtain ⟨_, _, ⟨T61, L61, k61, n61⟩, -, X61, ⟨Lc61, hQ61, l61, y61, z61⟩, st61⟩ := X58.virtualBack hx (y := (⟨"com/example/fulltext_workbench/fulltextworkbench/index/VarintReader", "atEnd", "()Z"⟩ : MethodName)) (z := (⟨"com/example/fulltext_workbench/fulltextworkbench/index/VarintReader", "atEnd", "()Z"⟩ : MethodName)) hown (mvT hZ (hw _ (List.mem_of_getElem? (i := 12) rfl))) (mvT hZ (hw _ (List.mem_of_getElem? (i := 13) rfl))) (notFace_of_selects (args := #[]) (mvT hZ (hw _ (List.mem_of_getElem? (i := 15) rfl)))) (mvT hZ (hw _ (List.mem_of_getElem? (i := 15) rfl))) (mvT hZ (hw _ (List.mem_of_getElem? (i := 14) rfl))) (by decide) (backOf (W := 0) (rm3 l Z a0 hw [] b36 b34 v59 (1 : Int32) [(.int (nar .byte p2.toInt8.toInt32))] k34 h57 n0 Z57 F_bytes_b36 F_position_b36 V_b34_35) hZ (hw _ (List.mem_of_getElem? (i := 16) rfl)) (hw _ (List.mem_of_getElem? (i := 3) rfl)) (by decide) (by decide)) qa61 qc61 (g := (mkF m 212 #[.val (.int p1), .val (.int p2), .val (.int p3), .val (.int p4), .val (.int (1 : Int32)), .val (.ref b34), .val (.ref b36), .val (.int (0 : Int32)), .val (.int (1 : Int32)), .val (.int v41), .val (.int v50), .val (.int v59)] [(.ref b36)])) rfl (by rw [hml]; rfl) (Steps.refl _) (argsL := []) (rest := []) (lenOf pd_3 rfl) rfl (by show 2 * 0 + _ ≤ _; exact Nat.le_of_eq rfl) (hb hby at_212) (fun _ _ => ⟨rfl, e58, (by decide : 2 + 0 ≤ _), (by decide : 3 + 0 ≤ _)⟩)
    dsimp only [Pt.U, Pt.locs, Pt.cells, Pt.slots] at X61 l61 y61 z61 st61 hQ61
    subst l61 y61 z61
    obtain ⟨rfl, Nq61, e61⟩ := hQ61
    have N61 := Fr.app N58 Nq61
    refine OutW.via st61 ?_
    show OutW _ _ _ _ _ _ _ (T61.setTop (mkF m 215 #[.val (.int p1), .val (.int p2), .val (.int p3), .val (.int p4), .val (.int (1 : Int32)), .val (.ref b34), .val (.ref b36), .val (.int (0 : Int32)), .val (.int (1 : Int32)), .val (.int v41), .val (.int v50), .val (.int v59)] [(.int (atE v59 (1 : Int32)))]))
    refine OutW.back (fun t k => XS.iload X61.here hx rfl (hb hby at_215) rfl  k) ?_
    show OutW _ _ _ _ _ _ _ (T61.setTop (mkF m 217 #[.val (.int p1), .val (.int p2), .val (.int p3), .val (.int p4), .val (.int (1 : Int32)), .val (.ref b34), .val (.ref b36), .val (.int (0 : Int32)), .val (.int (1 : Int32)), .val (.int v41), .val (.int v50), .val (.int v59)] [(.int v59), (.int (atE v59 (1 : Int32)))]))
    refine OutW.back (fun t k => XS.iload X61.here hx rfl (hb hby at_217) rfl  k) ?_
    show OutW _ _ _ _ _ _ _ (T61.setTop (mkF m 219 #[.val (.int p1), .val (.int p2), .val (.int p3), .val (.int p4), .val (.int (1 : Int32)), .val (.ref b34), .val (.ref b36), .val (.int (0 : Int32)), .val (.int (1 : Int32)), .val (.int v41), .val (.int v50), .val (.int v59)] [(.int (1 : Int32)), (.int v59), (.int (atE v59 (1 : Int32)))]))
    obtain ⟨v63, hv_v63⟩ : ∃ z : Int32, z = (if v59 = (1 : Int32) then (1 : Int32) else (0 : Int32)) := ⟨_, rfl⟩
    have j64 : ∀ t, Steps p.tables e below (T61.setTop (mkF m 227 #[.val (.int p1), .val (.int p2), .val (.int p3), .val (.int p4), .val (.int (1 : Int32)), .val (.ref b34), .val (.ref b36), .val (.int (0 : Int32)), .val (.int (1 : Int32)), .val (.int v41), .val (.int v50), .val (.int v59)] [(.int v63), (.int (atE v59 (1 : Int32)))])) t → Steps p.tables e below (T61.setTop (mkF m 219 #[.val (.int p1), .val (.int p2), .val (.int p3), .val (.int p4), .val (.int (1 : Int32)), .val (.ref b34), .val (.ref b36), .val (.int (0 : Int32)), .val (.int (1 : Int32)), .val (.int v41), .val (.int v50), .val (.int v59)] [(.int (1 : Int32)), (.int v59), (.int (atE v59 (1 : Int32)))])) t := by
      intro t k
      by_cases c219_65 : v59 = (1 : Int32)
      · skip
        refine XS.icmpNo X61.here hx rfl (hb hby at_219) rfl (teq c219_65).2 ?_
        show Steps p.tables e below (T61.setTop (mkF m 222 #[.val (.int p1), .val (.int p2), .val (.int p3), .val (.int p4), .val (.int (1 : Int32)), .val (.ref b34), .val (.ref b36), .val (.int (0 : Int32)), .val (.int (1 : Int32)), .val (.int v41), .val (.int v50), .val (.int v59)] [(.int (atE v59 (1 : Int32)))])) t
        refine XS.iconst X61.here hx rfl (hb hby at_222) ?_
        show Steps p.tables e below (T61.setTop (mkF m 223 #[.val (.int p1), .val (.int p2), .val (.int p3), .val (.int p4), .val (.int (1 : Int32)), .val (.ref b34), .val (.ref b36), .val (.int (0 : Int32)), .val (.int (1 : Int32)), .val (.int v41), .val (.int v50), .val (.int v59)] [(.int (1 : Int32)), (.int (atE v59 (1 : Int32)))])) t
        refine XS.goto X61.here hx rfl (pc0 := 223) (pc' := 227) rfl (hb hby at_223) (by decide) (by decide) ?_
        show Steps p.tables e below (T61.setTop (mkF m 227 #[.val (.int p1), .val (.int p2), .val (.int p3), .val (.int p4), .val (.int (1 : Int32)), .val (.ref b34), .val (.ref b36), .val (.int (0 : Int32)), .val (.int (1 : Int32)), .val (.int v41), .val (.int v50), .val (.int v59)] [(.int (1 : Int32)), (.int (atE v59 (1 : Int32)))])) t
        have q_v63 : v63 = (1 : Int32) := by rw [hv_v63, if_pos c219_65]
        rw [q_v63] at k
        exact k
      · skip
        refine XS.icmpYes X61.here hx rfl (pc0 := 219) (pc' := 226) rfl (hb hby at_219) rfl (feq c219_65).2 (by decide) (by decide) ?_
        show Steps p.tables e below (T61.setTop (mkF m 226 #[.val (.int p1), .val (.int p2), .val (.int p3), .val (.int p4), .val (.int (1 : Int32)), .val (.ref b34), .val (.ref b36), .val (.int (0 : Int32)), .val (.int (1 : Int32)), .val (.int v41), .val (.int v50), .val (.int v59)] [(.int (atE v59 (1 : Int32)))])) t
        refine XS.iconst X61.here hx rfl (hb hby at_226) ?_
        show Steps p.tables e below (T61.setTop (mkF m 227 #[.val (.int p1), .val (.int p2), .val (.int p3), .val (.int p4), .val (.int (1 : Int32)), .val (.ref b34), .val (.ref b36), .val (.int (0 : Int32)), .val (.int (1 : Int32)), .val (.int v41), .val (.int v50), .val (.int v59)] [(.int (0 : Int32)), (.int (atE v59 (1 : Int32)))])) t
        have q_v63 : v63 = (0 : Int32) := by rw [hv_v63, if_neg c219_65]
        rw [q_v63] at k
        exact k
    refine OutW.back j64 ?_
    show OutW _ _ _ _ _ _ _ (T61.setTop (mkF m 227 #[.val (.int p1), .val (.int p2), .val (.int p3), .val (.int p4), .val (.int (1 : Int32)), .val (.ref b34), .val (.ref b36), .val (.int (0 : Int32)), .val (.int (1 : Int32)), .val (.int v41), .val (.int v50), .val (.int v59)] [(.int v63), (.int (atE v59 (1 : Int32)))]))
    refine OutW.back (fun t k => XS.icmpNo X61.here hx rfl (hb hby at_227) rfl (teq (by rw [hv_v63]; rfl)).2 k) ?_
    show OutW _ _ _ _ _ _ _ (T61.setTop (mkF m 230 #[.val (.int p1), .val (.int p2), .val (.int p3), .val (.int p4), .val (.int (1 : Int32)), .val (.ref b34), .val (.ref b36), .val (.int (0 : Int32)), .val (.int (1 : Int32)), .val (.int v41), .val (.int v50), .val (.int v59)] []))
    refine OutW.back (fun t k => XS.iconst X61.here hx rfl (hb hby at_230) k) ?_
    show OutW _ _ _ _ _ _ _ (T61.setTop (mkF m 231 #[.val (.int p1), .val (.int p2), .val (.int p3), .val (.int p4), .val (.int (1 : Int32)), .val (.ref b34), .val (.ref b36), .val (.int (0 : Int32)), .val (.int (1 : Int32)), .val (.int v41), .val (.int v50), .val (.int v59)] [(.int (1 : Int32))]))
    refine OutW.back (fun t k => XS.goto X61.here hx rfl (pc0 := 231) (pc' := 235) rfl (hb hby at_231) (by decide) (by decide) k) ?_
    show OutW _ _ _ _ _ _ _ (T61.setTop (mkF m 235 #[.val (.int p1), .val (.int p2), .val (.int p3), .val (.int p4), .val (.int (1 : Int32)), .val (.ref b34), .val (.ref b36), .val (.int (0 : Int32)), .val (.int (1 : Int32)), .val (.int v41), .val (.int v50), .val (.int v59)] [(.int (1 : Int32))]))
    refine OutW.back (fun t k => XS.istore X61.here hx rfl (hb hby at_235) rfl (l' := #[.val (.int p1), .val (.int p2), .val (.int p3), .val (.int p4), .val (.int (1 : Int32)), .val (.ref b34), .val (.ref b36), .val (.int (0 : Int32)), .val (.int (1 : Int32)), .val (.int v41), .val (.int v50), .val (.int v59)]) rfl k) ?_
    show OutW _ _ _ _ _ _ _ (T61.setTop (mkF m 237 #[.val (.int p1), .val (.int p2), .val (.int p3), .val (.int p4), .val (.int (1 : Int32)), .val (.ref b34), .val (.ref b36), .val (.int (0 : Int32)), .val (.int (1 : Int32)), .val (.int v41), .val (.int v50), .val (.int v59)] []))
    refine OutW.back (fun t k => XS.iload X61.here hx rfl (hb hby at_237) rfl  k) ?_
    show OutW _ _ _ _ _ _ _ (T61.setTop (mkF m 239 #[.val (.int p1), .val (.int p2), .val (.int p3), .val (.int p4), .val (.int (1 : Int32)), .val (.ref b34), .val (.ref b36), .val (.int (0 : Int32)), .val (.int (1 : Int32)), .val (.int v41), .val (.int v50), .val (.int v59)] [(.int (1 : Int32))]))
    refine OutW.retN X61 hx (t := .boolean) (z' := 1) Bd.returns (by simp) hlk (hb hby at_239) ?hz (by decide) (by decide) ?_
    case hz =>
      rfl
    show Q0 Z p1 p2 p3 p4 h0 n0 _ T61.heap _
    rw [e61]
    exact ⟨rfl, N61⟩
  · skip
    show OutW _ _ _ _ _ _ _ (s₁.setTop (mkF m 5 #[.val (.int p1), .val (.int p2), .val (.int p3), .val (.int p4), .val (.int (2 : Int32)), .unset, .unset, .unset, .unset, .unset, .unset, .unset] []))
    refine OutW.back (fun t k => XS.iload X0.here hx rfl (hb hby at_5) rfl  k) ?_
    show OutW _ _ _ _ _ _ _ (s₁.setTop (mkF m 7 #[.val (.int p1), .val (.int p2), .val (.int p3), .val (.int p4), .val (.int (2 : Int32)), .unset, .unset, .unset, .unset, .unset, .unset, .unset] [(.int (2 : Int32))]))
    obtain ⟨T66, h66, k66, X66, e66, E66, A66, st66⟩ := newP X0 hx hZ (hw _ (List.mem_of_getElem? (i := 0) rfl)) e0 (g := (mkF m 7 #[.val (.int p1), .val (.int p2), .val (.int p3), .val (.int p4), .val (.int (2 : Int32)), .unset, .unset, .unset, .unset, .unset, .unset, .unset] [(.int (2 : Int32))])) rfl (hb hby at_7) rfl (by decide) (cap := 2) (by decide) (by decide) (by decide) (by decide)
    obtain ⟨b66, g66⟩ : ∃ z, z = h0.size := ⟨_, rfl⟩
    rw [← g66] at A66 st66
    have g_b66 : n0 ≤ b66 := Nat.le_trans Z0 (Nat.le_of_eq g66.symm)
    have sz_b66 : h0.size ≤ b66 := Nat.le_trans K0.1 (Nat.le_of_eq g66.symm)
    have Z66 : n0 ≤ h66.size := Nat.le_trans Z0 E66.1
    have K66 := K0.ext E66
    have V_b66 : Arv Z h66 b66 k66 .byte (2 : Int32) [(.int (0 : Int32)), (.int (0 : Int32))] (.int (0 : Int32)) := (Arv.new A66 (by decide)).pad (pad_rep [] (.int (0 : Int32)) 2)
    refine OutW.back st66 ?_
    show OutW _ _ _ _ _ _ _ (T66.setTop (mkF m 9 #[.val (.int p1), .val (.int p2), .val (.int p3), .val (.int p4), .val (.int (2 : Int32)), .unset, .unset, .unset, .unset, .unset, .unset, .unset] [(.ref b66)]))
    refine OutW.back (fun t k => XS.astore X66.here hx rfl (hb hby at_9) rfl rfl (l' := #[.val (.int p1), .val (.int p2), .val (.int p3), .val (.int p4), .val (.int (2 : Int32)), .val (.ref b66), .unset, .unset, .unset, .unset, .unset, .unset]) rfl k) ?_
    show OutW _ _ _ _ _ _ _ (T66.setTop (mkF m 11 #[.val (.int p1), .val (.int p2), .val (.int p3), .val (.int p4), .val (.int (2 : Int32)), .val (.ref b66), .unset, .unset, .unset, .unset, .unset, .unset] []))
    refine OutW.back (fun t k => XS.iload X66.here hx rfl (hb hby at_11) rfl  k) ?_
    show OutW _ _ _ _ _ _ _ (T66.setTop (mkF m 13 #[.val (.int p1), .val (.int p2), .val (.int p3), .val (.int p4), .val (.int (2 : Int32)), .val (.ref b66), .unset, .unset, .unset, .unset, .unset, .unset] [(.int (2 : Int32))]))
    refine OutW.back (fun t k => XS.ifNo X66.here hx rfl (hb hby at_13) rfl ((if0 _ _).trans (tlt (by decide : (0 : Int32) < (2 : Int32))).2.2.2) k) ?_
    show OutW _ _ _ _ _ _ _ (T66.setTop (mkF m 16 #[.val (.int p1), .val (.int p2), .val (.int p3), .val (.int p4), .val (.int (2 : Int32)), .val (.ref b66), .unset, .unset, .unset, .unset, .unset, .unset] []))
    refine OutW.back (fun t k => XS.aload X66.here hx rfl (hb hby at_16) rfl rfl  k) ?_
    show OutW _ _ _ _ _ _ _ (T66.setTop (mkF m 18 #[.val (.int p1), .val (.int p2), .val (.int p3), .val (.int p4), .val (.int (2 : Int32)), .val (.ref b66), .unset, .unset, .unset, .unset, .unset, .unset] [(.ref b66)]))
    refine OutW.back (fun t k => XS.iconst X66.here hx rfl (hb hby at_18) k) ?_
    show OutW _ _ _ _ _ _ _ (T66.setTop (mkF m 19 #[.val (.int p1), .val (.int p2), .val (.int p3), .val (.int p4), .val (.int (2 : Int32)), .val (.ref b66), .unset, .unset, .unset, .unset, .unset, .unset] [(.int (0 : Int32)), (.ref b66)]))
    refine OutW.back (fun t k => XS.iloadN X66.here hx rfl (hb hby at_19) rfl  k) ?_
    show OutW _ _ _ _ _ _ _ (T66.setTop (mkF m 20 #[.val (.int p1), .val (.int p2), .val (.int p3), .val (.int p4), .val (.int (2 : Int32)), .val (.ref b66), .unset, .unset, .unset, .unset, .unset, .unset] [(.int p2), (.int (0 : Int32)), (.ref b66)]))
    refine OutW.back (fun t k => XS.i2b X66.here hx rfl (hb hby at_20) rfl k) ?_
    show OutW _ _ _ _ _ _ _ (T66.setTop (mkF m 21 #[.val (.int p1), .val (.int p2), .val (.int p3), .val (.int p4), .val (.int (2 : Int32)), .val (.ref b66), .unset, .unset, .unset, .unset, .unset, .unset] [(.int p2.toInt8.toInt32), (.int (0 : Int32)), (.ref b66)]))
    obtain ⟨cl67, Ar67, Qk67, Sz67, Nn67, Hh67, Gg67⟩ := id V_b66
    have hin67 : ¬ ((0 : Int32) < 0 ∨ cl67.slots.size ≤ ((0 : Int32)).toNatClampNeg) := inb_of Sz67 ⟨by decide, by decide⟩
    obtain ⟨T67, h67, X67, e67, W67, st67⟩ := stB X66 hx hZ e66 Ar67 (j := (0 : Int32)) hin67 (g := (mkF m 21 #[.val (.int p1), .val (.int p2), .val (.int p3), .val (.int p4), .val (.int (2 : Int32)), .val (.ref b66), .unset, .unset, .unset, .unset, .unset, .unset] [(.int p2.toInt8.toInt32), (.int (0 : Int32)), (.ref b66)])) rfl rfl (hb hby at_21)
    have V_b66_67 : Arv Z h67 b66 k66 .byte (2 : Int32) [(.int (nar .byte p2.toInt8.toInt32)), (.int (0 : Int32))] (.int (0 : Int32)) := Arv.set Ar67 Qk67 Sz67 Nn67 Hh67 Gg67 (fits_nar_byte _) W67 0 rfl (Nat.le_of_ble_eq_true rfl)
    have N67 := Fr.snoc X67 N0 g_b66
    have Z67 : n0 ≤ h67.size := Nat.le_trans Z66 (Keep.of_wr W67).1
    have K67 := K66.wr W67 (Or.inr sz_b66)
    refine OutW.back st67 ?_
    show OutW _ _ _ _ _ _ _ (T67.setTop (mkF m 22 #[.val (.int p1), .val (.int p2), .val (.int p3), .val (.int p4), .val (.int (2 : Int32)), .val (.ref b66), .unset, .unset, .unset, .unset, .unset, .unset] []))
    refine OutW.back (fun t k => XS.iload X67.here hx rfl (hb hby at_22) rfl  k) ?_
    show OutW _ _ _ _ _ _ _ (T67.setTop (mkF m 24 #[.val (.int p1), .val (.int p2), .val (.int p3), .val (.int p4), .val (.int (2 : Int32)), .val (.ref b66), .unset, .unset, .unset, .unset, .unset, .unset] [(.int (2 : Int32))]))
    refine OutW.back (fun t k => XS.iconst X67.here hx rfl (hb hby at_24) k) ?_
    show OutW _ _ _ _ _ _ _ (T67.setTop (mkF m 25 #[.val (.int p1), .val (.int p2), .val (.int p3), .val (.int p4), .val (.int (2 : Int32)), .val (.ref b66), .unset, .unset, .unset, .unset, .unset, .unset] [(.int (1 : Int32)), (.int (2 : Int32))]))
    refine OutW.back (fun t k => XS.icmpNo X67.here hx rfl (hb hby at_25) rfl (tlt (by decide : (1 : Int32) < (2 : Int32))).2.2.2 k) ?_
    show OutW _ _ _ _ _ _ _ (T67.setTop (mkF m 28 #[.val (.int p1), .val (.int p2), .val (.int p3), .val (.int p4), .val (.int (2 : Int32)), .val (.ref b66), .unset, .unset, .unset, .unset, .unset, .unset] []))
    refine OutW.back (fun t k => XS.aload X67.here hx rfl (hb hby at_28) rfl rfl  k) ?_
    show OutW _ _ _ _ _ _ _ (T67.setTop (mkF m 30 #[.val (.int p1), .val (.int p2), .val (.int p3), .val (.int p4), .val (.int (2 : Int32)), .val (.ref b66), .unset, .unset, .unset, .unset, .unset, .unset] [(.ref b66)]))
    refine OutW.back (fun t k => XS.iconst X67.here hx rfl (hb hby at_30) k) ?_
    show OutW _ _ _ _ _ _ _ (T67.setTop (mkF m 31 #[.val (.int p1), .val (.int p2), .val (.int p3), .val (.int p4), .val (.int (2 : Int32)), .val (.ref b66), .unset, .unset, .unset, .unset, .unset, .unset] [(.int (1 : Int32)), (.ref b66)]))
    refine OutW.back (fun t k => XS.iloadN X67.here hx rfl (hb hby at_31) rfl  k) ?_
    show OutW _ _ _ _ _ _ _ (T67.setTop (mkF m 32 #[.val (.int p1), .val (.int p2), .val (.int p3), .val (.int p4), .val (.int (2 : Int32)), .val (.ref b66), .unset, .unset, .unset, .unset, .unset, .unset] [(.int p3), (.int (1 : Int32)), (.ref b66)]))
    refine OutW.back (fun t k => XS.i2b X67.here hx rfl (hb hby at_32) rfl k) ?_
    show OutW _ _ _ _ _ _ _ (T67.setTop (mkF m 33 #[.val (.int p1), .val (.int p2), .val (.int p3), .val (.int p4), .val (.int (2 : Int32)), .val (.ref b66), .unset, .unset, .unset, .unset, .unset, .unset] [(.int p3.toInt8.toInt32), (.int (1 : Int32)), (.ref b66)]))
    obtain ⟨cl68, Ar68, Qk68, Sz68, Nn68, Hh68, Gg68⟩ := id V_b66_67
    have hin68 : ¬ ((1 : Int32) < 0 ∨ cl68.slots.size ≤ ((1 : Int32)).toNatClampNeg) := inb_of Sz68 ⟨by decide, by decide⟩
    obtain ⟨T68, h68, X68, e68, W68, st68⟩ := stB X67 hx hZ e67 Ar68 (j := (1 : Int32)) hin68 (g := (mkF m 33 #[.val (.int p1), .val (.int p2), .val (.int p3), .val (.int p4), .val (.int (2 : Int32)), .val (.ref b66), .unset, .unset, .unset, .unset, .unset, .unset] [(.int p3.toInt8.toInt32), (.int (1 : Int32)), (.ref b66)])) rfl rfl (hb hby at_33)
    have V_b66_68 : Arv Z h68 b66 k66 .byte (2 : Int32) [(.int (nar .byte p2.toInt8.toInt32)), (.int (nar .byte p3.toInt8.toInt32))] (.int (0 : Int32)) := Arv.set Ar68 Qk68 Sz68 Nn68 Hh68 Gg68 (fits_nar_byte _) W68 1 rfl (Nat.le_of_ble_eq_true rfl)
    have N68 := Fr.snoc X68 N67 g_b66
    have Z68 : n0 ≤ h68.size := Nat.le_trans Z67 (Keep.of_wr W68).1
    have K68 := K67.wr W68 (Or.inr sz_b66)
    refine OutW.back st68 ?_
    show OutW _ _ _ _ _ _ _ (T68.setTop (mkF m 34 #[.val (.int p1), .val (.int p2), .val (.int p3), .val (.int p4), .val (.int (2 : Int32)), .val (.ref b66), .unset, .unset, .unset, .unset, .unset, .unset] []))
    refine OutW.back (fun t k => XS.iload X68.here hx rfl (hb hby at_34) rfl  k) ?_
    show OutW _ _ _ _ _ _ _ (T68.setTop (mkF m 36 #[.val (.int p1), .val (.int p2), .val (.int p3), .val (.int p4), .val (.int (2 : Int32)), .val (.ref b66), .unset, .unset, .unset, .unset, .unset, .unset] [(.int (2 : Int32))]))
    refine OutW.back (fun t k => XS.iconst X68.here hx rfl (hb hby at_36) k) ?_
    show OutW _ _ _ _ _ _ _ (T68.setTop (mkF m 37 #[.val (.int p1), .val (.int p2), .val (.int p3), .val (.int p4), .val (.int (2 : Int32)), .val (.ref b66), .unset, .unset, .unset, .unset, .unset, .unset] [(.int (2 : Int32)), (.int (2 : Int32))]))
    refine OutW.back (fun t k => XS.icmpYes X68.here hx rfl (pc0 := 37) (pc' := 46) rfl (hb hby at_37) rfl (flt (by decide : ¬ ((2 : Int32) < (2 : Int32)))).2.2.2 (by decide) (by decide) k) ?_
    show OutW _ _ _ _ _ _ _ (T68.setTop (mkF m 46 #[.val (.int p1), .val (.int p2), .val (.int p3), .val (.int p4), .val (.int (2 : Int32)), .val (.ref b66), .unset, .unset, .unset, .unset, .unset, .unset] []))
    obtain ⟨T69, h69, X69, e69, E69, A69, D69, -, st69⟩ := newO X68 hx hZ hown (hw _ (List.mem_of_getElem? (i := 1) rfl)) (hw _ (List.mem_of_getElem? (i := 2) rfl)) (hw _ (List.mem_of_getElem? (i := 3) rfl)) e68 (g := (mkF m 46 #[.val (.int p1), .val (.int p2), .val (.int p3), .val (.int p4), .val (.int (2 : Int32)), .val (.ref b66), .unset, .unset, .unset, .unset, .unset, .unset] [])) rfl (hb hby at_46) (by decide) (by decide)
    obtain ⟨b69, g69⟩ : ∃ z, z = h68.size := ⟨_, rfl⟩
    rw [← g69] at A69 D69 st69
    have ne_b66_b69 : b66 ≠ b69 := Nat.ne_of_lt (Nat.lt_of_lt_of_le V_b66_68.lt (Nat.le_of_eq g69.symm))
    have g_b69 : n0 ≤ b69 := Nat.le_trans Z68 (Nat.le_of_eq g69.symm)
    have sz_b69 : h0.size ≤ b69 := Nat.le_trans K68.1 (Nat.le_of_eq g69.symm)
    have V_b66_68 := V_b66_68.ext E69
    have Z69 : n0 ≤ h69.size := Nat.le_trans Z68 E69.1
    have K69 := K68.ext E69
    have E_b69 := A69
    have F_bytes_b69 : Fld Z h69 b69 "com/example/fulltext_workbench/fulltextworkbench/index/VarintReader" "bytes" "[B" .null := D69 (Or.inr (hw _ (List.mem_of_getElem? (i := 11) rfl))) (ty := (.array .byte)) (by decide)
    have F_position_b69 : Fld Z h69 b69 "com/example/fulltext_workbench/fulltextworkbench/index/VarintReader" "position" "I" (.int (0 : Int32)) := D69 (Or.inl (hw _ (List.mem_of_getElem? (i := 18) rfl))) (ty := .int) (by decide)
    refine OutW.back st69 ?_
    show OutW _ _ _ _ _ _ _ (T69.setTop (mkF m 49 #[.val (.int p1), .val (.int p2), .val (.int p3), .val (.int p4), .val (.int (2 : Int32)), .val (.ref b66), .unset, .unset, .unset, .unset, .unset, .unset] [(.ref b69)]))
    refine OutW.back (fun t k => XS.dup X69.here hx rfl (hb hby at_49) rfl rfl k) ?_
    show OutW _ _ _ _ _ _ _ (T69.setTop (mkF m 50 #[.val (.int p1), .val (.int p2), .val (.int p3), .val (.int p4), .val (.int (2 : Int32)), .val (.ref b66), .unset, .unset, .unset, .unset, .unset, .unset] [(.ref b69), (.ref b69)]))
    refine OutW.back (fun t k => XS.aload X69.here hx rfl (hb hby at_50) rfl rfl  k) ?_
    show OutW _ _ _ _ _ _ _ (T69.setTop (mkF m 52 #[.val (.int p1), .val (.int p2), .val (.int p3), .val (.int p4), .val (.int (2 : Int32)), .val (.ref b66), .unset, .unset, .unset, .unset, .unset, .unset] [(.ref b66), (.ref b69), (.ref b69)]))
    obtain ⟨_, _, ⟨T70, L70, k70, n70⟩, -, X70, ⟨Lc70, hQ70, l70, y70, z70⟩, st70⟩ := X69.specialBack hx (y := (⟨"com/example/fulltext_workbench/fulltextworkbench/index/VarintReader", "<init>", "([B)V"⟩ : MethodName)) rfl hown (mvT hZ (hw _ (List.mem_of_getElem? (i := 4) rfl))) (mvT hZ (hw _ (List.mem_of_getElem? (i := 5) rfl))) (mvT hZ (hw _ (List.mem_of_getElem? (i := 6) rfl))) (by decide) (backOf (W := 1) (rm1 l Z a0 hw [] b69 b66 (0 : Int32) h69 n0 Z69 E_b69 g_b69 F_bytes_b69 F_position_b69) hZ (hw _ (List.mem_of_getElem? (i := 6) rfl)) (hw _ (List.mem_of_getElem? (i := 3) rfl)) (by decide) (by decide)) (g := (mkF m 52 #[.val (.int p1), .val (.int p2), .val (.int p3), .val (.int p4), .val (.int (2 : Int32)), .val (.ref b66), .unset, .unset, .unset, .unset, .unset, .unset] [(.ref b66), (.ref b69), (.ref b69)])) rfl (by rw [hml]; rfl) (Steps.refl _) (a := b69) (argsL := [(.ref b66)]) (rest := [(.ref b69)]) (lenOf pd_2 rfl) rfl (by show 2 * 0 + _ ≤ _; exact Nat.le_of_eq rfl) (hb hby at_52) (fun _ _ => ⟨rfl, e69, (by decide : 2 + 0 ≤ _), (by decide : 4 + 0 ≤ _)⟩)
    dsimp only [Pt.U, Pt.locs, Pt.cells, Pt.slots] at X70 l70 y70 z70 st70 hQ70
    subst l70 y70 z70
    obtain ⟨h70, eh70⟩ : ∃ z, z = T70.heap := ⟨_, rfl⟩
    rw [← eh70] at hQ70
    have e70 : T70.heap = h70 := eh70.symm
    obtain ⟨rfl, Nq70, Kq70, F_bytes_b69, F_position_b69⟩ := hQ70
    have V_b66_68 := V_b66_68.keep Kq70 (ninS ne_b66_b69 nin0)
    have E_b69 := E_b69.keep Kq70
    have Z70 : n0 ≤ h70.size := Nat.le_trans Z69 Kq70.1
    have K70 := K69.trans Kq70 (allS (Or.inr sz_b69) all0)
    have N70 := Fr.app N68 Nq70
    refine OutW.via st70 ?_
    show OutW _ _ _ _ _ _ _ (T70.setTop (mkF m 55 #[.val (.int p1), .val (.int p2), .val (.int p3), .val (.int p4), .val (.int (2 : Int32)), .val (.ref b66), .unset, .unset, .unset, .unset, .unset, .unset] [(.ref b69)]))
    refine OutW.back (fun t k => XS.astore X70.here hx rfl (hb hby at_55) rfl rfl (l' := #[.val (.int p1), .val (.int p2), .val (.int p3), .val (.int p4), .val (.int (2 : Int32)), .val (.ref b66), .val (.ref b69), .unset, .unset, .unset, .unset, .unset]) rfl k) ?_
    show OutW _ _ _ _ _ _ _ (T70.setTop (mkF m 57 #[.val (.int p1), .val (.int p2), .val (.int p3), .val (.int p4), .val (.int (2 : Int32)), .val (.ref b66), .val (.ref b69), .unset, .unset, .unset, .unset, .unset] []))
    refine OutW.back (fun t k => XS.iconst X70.here hx rfl (hb hby at_57) k) ?_
    show OutW _ _ _ _ _ _ _ (T70.setTop (mkF m 58 #[.val (.int p1), .val (.int p2), .val (.int p3), .val (.int p4), .val (.int (2 : Int32)), .val (.ref b66), .val (.ref b69), .unset, .unset, .unset, .unset, .unset] [(.int (0 : Int32))]))
    refine OutW.back (fun t k => XS.istore X70.here hx rfl (hb hby at_58) rfl (l' := #[.val (.int p1), .val (.int p2), .val (.int p3), .val (.int p4), .val (.int (2 : Int32)), .val (.ref b66), .val (.ref b69), .val (.int (0 : Int32)), .unset, .unset, .unset, .unset]) rfl k) ?_
    show OutW _ _ _ _ _ _ _ (T70.setTop (mkF m 60 #[.val (.int p1), .val (.int p2), .val (.int p3), .val (.int p4), .val (.int (2 : Int32)), .val (.ref b66), .val (.ref b69), .val (.int (0 : Int32)), .unset, .unset, .unset, .unset] []))
    refine OutW.back (fun t k => XS.aload X70.here hx rfl (hb hby at_60) rfl rfl  k) ?_
    show OutW _ _ _ _ _ _ _ (T70.setTop (mkF m 62 #[.val (.int p1), .val (.int p2), .val (.int p3), .val (.int p4), .val (.int (2 : Int32)), .val (.ref b66), .val (.ref b69), .val (.int (0 : Int32)), .unset, .unset, .unset, .unset] [(.ref b69)]))
    obtain ⟨cq71, kq71, qa71, qb71, qc71⟩ := isOf hZ e70 E_b69
    obtain ⟨_, _, ⟨T71, L71, k71, n71⟩, -, X71, ⟨Lc71, hQ71, l71, y71, z71⟩, st71⟩ := X70.virtualBack hx (y := (⟨"com/example/fulltext_workbench/fulltextworkbench/index/VarintReader", "atEnd", "()Z"⟩ : MethodName)) (z := (⟨"com/example/fulltext_workbench/fulltextworkbench/index/VarintReader", "atEnd", "()Z"⟩ : MethodName)) hown (mvT hZ (hw _ (List.mem_of_getElem? (i := 12) rfl))) (mvT hZ (hw _ (List.mem_of_getElem? (i := 13) rfl))) (notFace_of_selects (args := #[]) (mvT hZ (hw _ (List.mem_of_getElem? (i := 15) rfl)))) (mvT hZ (hw _ (List.mem_of_getElem? (i := 15) rfl))) (mvT hZ (hw _ (List.mem_of_getElem? (i := 14) rfl))) (by decide) (backOf (W := 0) (rm3 l Z a0 hw [] b69 b66 (0 : Int32) (2 : Int32) [(.int (nar .byte p2.toInt8.toInt32)), (.int (nar .byte p3.toInt8.toInt32))] k66 h70 n0 Z70 F_bytes_b69 F_position_b69 V_b66_68) hZ (hw _ (List.mem_of_getElem? (i := 16) rfl)) (hw _ (List.mem_of_getElem? (i := 3) rfl)) (by decide) (by decide)) qa71 qc71 (g := (mkF m 62 #[.val (.int p1), .val (.int p2), .val (.int p3), .val (.int p4), .val (.int (2 : Int32)), .val (.ref b66), .val (.ref b69), .val (.int (0 : Int32)), .unset, .unset, .unset, .unset] [(.ref b69)])) rfl (by rw [hml]; rfl) (Steps.refl _) (argsL := []) (rest := []) (lenOf pd_3 rfl) rfl (by show 2 * 0 + _ ≤ _; exact Nat.le_of_eq rfl) (hb hby at_62) (fun _ _ => ⟨rfl, e70, (by decide : 2 + 0 ≤ _), (by decide : 4 + 0 ≤ _)⟩)
    dsimp only [Pt.U, Pt.locs, Pt.cells, Pt.slots] at X71 l71 y71 z71 st71 hQ71
    subst l71 y71 z71
    obtain ⟨rfl, Nq71, e71⟩ := hQ71
    have N71 := Fr.app N70 Nq71
    refine OutW.via st71 ?_
    show OutW _ _ _ _ _ _ _ (T71.setTop (mkF m 65 #[.val (.int p1), .val (.int p2), .val (.int p3), .val (.int p4), .val (.int (2 : Int32)), .val (.ref b66), .val (.ref b69), .val (.int (0 : Int32)), .unset, .unset, .unset, .unset] [(.int (atE (0 : Int32) (2 : Int32)))]))
    refine OutW.back (fun t k => XS.iload X71.here hx rfl (hb hby at_65) rfl  k) ?_
    show OutW _ _ _ _ _ _ _ (T71.setTop (mkF m 67 #[.val (.int p1), .val (.int p2), .val (.int p3), .val (.int p4), .val (.int (2 : Int32)), .val (.ref b66), .val (.ref b69), .val (.int (0 : Int32)), .unset, .unset, .unset, .unset] [(.int (0 : Int32)), (.int (atE (0 : Int32) (2 : Int32)))]))
    refine OutW.back (fun t k => XS.iload X71.here hx rfl (hb hby at_67) rfl  k) ?_
    show OutW _ _ _ _ _ _ _ (T71.setTop (mkF m 69 #[.val (.int p1), .val (.int p2), .val (.int p3), .val (.int p4), .val (.int (2 : Int32)), .val (.ref b66), .val (.ref b69), .val (.int (0 : Int32)), .unset, .unset, .unset, .unset] [(.int (2 : Int32)), (.int (0 : Int32)), (.int (atE (0 : Int32) (2 : Int32)))]))
    refine OutW.back (fun t k => XS.icmpYes X71.here hx rfl (pc0 := 69) (pc' := 76) rfl (hb hby at_69) rfl (feq (by decide : ¬ ((0 : Int32) = (2 : Int32)))).2 (by decide) (by decide) k) ?_
    show OutW _ _ _ _ _ _ _ (T71.setTop (mkF m 76 #[.val (.int p1), .val (.int p2), .val (.int p3), .val (.int p4), .val (.int (2 : Int32)), .val (.ref b66), .val (.ref b69), .val (.int (0 : Int32)), .unset, .unset, .unset, .unset] [(.int (atE (0 : Int32) (2 : Int32)))]))
    refine OutW.back (fun t k => XS.iconst X71.here hx rfl (hb hby at_76) k) ?_
    show OutW _ _ _ _ _ _ _ (T71.setTop (mkF m 77 #[.val (.int p1), .val (.int p2), .val (.int p3), .val (.int p4), .val (.int (2 : Int32)), .val (.ref b66), .val (.ref b69), .val (.int (0 : Int32)), .unset, .unset, .unset, .unset] [(.int (0 : Int32)), (.int (atE (0 : Int32) (2 : Int32)))]))
    refine OutW.back (fun t k => XS.icmpNo X71.here hx rfl (hb hby at_77) rfl (teq (by decide)).2 k) ?_
    show OutW _ _ _ _ _ _ _ (T71.setTop (mkF m 80 #[.val (.int p1), .val (.int p2), .val (.int p3), .val (.int p4), .val (.int (2 : Int32)), .val (.ref b66), .val (.ref b69), .val (.int (0 : Int32)), .unset, .unset, .unset, .unset] []))
    refine OutW.back (fun t k => XS.iconst X71.here hx rfl (hb hby at_80) k) ?_
    show OutW _ _ _ _ _ _ _ (T71.setTop (mkF m 81 #[.val (.int p1), .val (.int p2), .val (.int p3), .val (.int p4), .val (.int (2 : Int32)), .val (.ref b66), .val (.ref b69), .val (.int (0 : Int32)), .unset, .unset, .unset, .unset] [(.int (1 : Int32))]))
    refine OutW.back (fun t k => XS.goto X71.here hx rfl (pc0 := 81) (pc' := 85) rfl (hb hby at_81) (by decide) (by decide) k) ?_
    show OutW _ _ _ _ _ _ _ (T71.setTop (mkF m 85 #[.val (.int p1), .val (.int p2), .val (.int p3), .val (.int p4), .val (.int (2 : Int32)), .val (.ref b66), .val (.ref b69), .val (.int (0 : Int32)), .unset, .unset, .unset, .unset] [(.int (1 : Int32))]))
    refine OutW.back (fun t k => XS.istore X71.here hx rfl (hb hby at_85) rfl (l' := #[.val (.int p1), .val (.int p2), .val (.int p3), .val (.int p4), .val (.int (2 : Int32)), .val (.ref b66), .val (.ref b69), .val (.int (0 : Int32)), .val (.int (1 : Int32)), .unset, .unset, .unset]) rfl k) ?_
    show OutW _ _ _ _ _ _ _ (T71.setTop (mkF m 87 #[.val (.int p1), .val (.int p2), .val (.int p3), .val (.int p4), .val (.int (2 : Int32)), .val (.ref b66), .val (.ref b69), .val (.int (0 : Int32)), .val (.int (1 : Int32)), .unset, .unset, .unset] []))
    refine OutW.back (fun t k => XS.aload X71.here hx rfl (hb hby at_87) rfl rfl  k) ?_
    show OutW _ _ _ _ _ _ _ (T71.setTop (mkF m 89 #[.val (.int p1), .val (.int p2), .val (.int p3), .val (.int p4), .val (.int (2 : Int32)), .val (.ref b66), .val (.ref b69), .val (.int (0 : Int32)), .val (.int (1 : Int32)), .unset, .unset, .unset] [(.ref b69)]))
    obtain ⟨cq72, kq72, qa72, qb72, qc72⟩ := isOf hZ e71 E_b69
    obtain ⟨_, _, ⟨T72, L72, k72, n72⟩, -, X72, ⟨Lc72, hQ72, l72, y72, z72⟩, st72⟩ := X71.virtualBack hx (y := (⟨"com/example/fulltext_workbench/fulltextworkbench/index/VarintReader", "next", "()I"⟩ : MethodName)) (z := (⟨"com/example/fulltext_workbench/fulltextworkbench/index/VarintReader", "next", "()I"⟩ : MethodName)) hown (mvT hZ (hw _ (List.mem_of_getElem? (i := 19) rfl))) (mvT hZ (hw _ (List.mem_of_getElem? (i := 20) rfl))) (notFace_of_selects (args := #[]) (mvT hZ (hw _ (List.mem_of_getElem? (i := 22) rfl)))) (mvT hZ (hw _ (List.mem_of_getElem? (i := 22) rfl))) (mvT hZ (hw _ (List.mem_of_getElem? (i := 21) rfl))) (by decide) (backOf (W := 0) (rm4 l Z a0 hw [] b69 b66 (0 : Int32) (2 : Int32) [(.int (nar .byte p2.toInt8.toInt32)), (.int (nar .byte p3.toInt8.toInt32))] k66 (Bn [(nar .byte p2.toInt8.toInt32), (nar .byte p3.toInt8.toInt32)]) h70 n0 Z70 E_b69 g_b69 F_bytes_b69 F_position_b69 V_b66_68 ne_b66_b69 (fun j _ _ => own_getD [(nar .byte p2.toInt8.toInt32), (nar .byte p3.toInt8.toInt32)] _ 0) (by decide)) hZ (hw _ (List.mem_of_getElem? (i := 23) rfl)) (hw _ (List.mem_of_getElem? (i := 3) rfl)) (by decide) (by decide)) qa72 qc72 (g := (mkF m 89 #[.val (.int p1), .val (.int p2), .val (.int p3), .val (.int p4), .val (.int (2 : Int32)), .val (.ref b66), .val (.ref b69), .val (.int (0 : Int32)), .val (.int (1 : Int32)), .unset, .unset, .unset] [(.ref b69)])) rfl (by rw [hml]; rfl) (Steps.refl _) (argsL := []) (rest := []) (lenOf pd_4 rfl) rfl (by show 2 * 0 + _ ≤ _; exact Nat.le_of_eq rfl) (hb hby at_89) (fun _ _ => ⟨rfl, e71, (by decide : 2 + 0 ≤ _), (by decide : 4 + 0 ≤ _)⟩)
    dsimp only [Pt.U, Pt.locs, Pt.cells, Pt.slots] at X72 l72 y72 z72 st72 hQ72
    subst l72 y72 z72
    obtain ⟨h72, eh72⟩ : ∃ z, z = T72.heap := ⟨_, rfl⟩
    rw [← eh72] at hQ72
    have e72 : T72.heap = h72 := eh72.symm
    obtain ⟨rfl, Nq72, Kq72, F_position_b69, F_bytes_b69⟩ := hQ72
    have V_b66_68 := V_b66_68.keep Kq72 (ninS ne_b66_b69 nin0)
    have E_b69 := E_b69.keep Kq72
    have Z72 : n0 ≤ h72.size := Nat.le_trans Z70 Kq72.1
    have K72 := K70.trans Kq72 (allS (Or.inr sz_b69) all0)
    have N72 := Fr.app N71 Nq72
    refine OutW.via st72 ?_
    show OutW _ _ _ _ _ _ _ (T72.setTop (mkF m 92 #[.val (.int p1), .val (.int p2), .val (.int p3), .val (.int p4), .val (.int (2 : Int32)), .val (.ref b66), .val (.ref b69), .val (.int (0 : Int32)), .val (.int (1 : Int32)), .unset, .unset, .unset] [(.int (nxt (Bn [(nar .byte p2.toInt8.toInt32), (nar .byte p3.toInt8.toInt32)]) (2 : Int32) (0 : Int32)))]))
    refine OutW.back (fun t k => XS.pop X72.here hx rfl (hb hby at_92) rfl rfl k) ?_
    show OutW _ _ _ _ _ _ _ (T72.setTop (mkF m 93 #[.val (.int p1), .val (.int p2), .val (.int p3), .val (.int p4), .val (.int (2 : Int32)), .val (.ref b66), .val (.ref b69), .val (.int (0 : Int32)), .val (.int (1 : Int32)), .unset, .unset, .unset] []))
    refine OutW.back (fun t k => XS.iload X72.here hx rfl (hb hby at_93) rfl  k) ?_
    show OutW _ _ _ _ _ _ _ (T72.setTop (mkF m 95 #[.val (.int p1), .val (.int p2), .val (.int p3), .val (.int p4), .val (.int (2 : Int32)), .val (.ref b66), .val (.ref b69), .val (.int (0 : Int32)), .val (.int (1 : Int32)), .unset, .unset, .unset] [(.int (0 : Int32))]))
    refine OutW.back (fun t k => XS.iload X72.here hx rfl (hb hby at_95) rfl  k) ?_
    show OutW _ _ _ _ _ _ _ (T72.setTop (mkF m 97 #[.val (.int p1), .val (.int p2), .val (.int p3), .val (.int p4), .val (.int (2 : Int32)), .val (.ref b66), .val (.ref b69), .val (.int (0 : Int32)), .val (.int (1 : Int32)), .unset, .unset, .unset] [(.int (2 : Int32)), (.int (0 : Int32))]))
    refine OutW.back (fun t k => XS.iloadN X72.here hx rfl (hb hby at_97) rfl  k) ?_
    show OutW _ _ _ _ _ _ _ (T72.setTop (mkF m 98 #[.val (.int p1), .val (.int p2), .val (.int p3), .val (.int p4), .val (.int (2 : Int32)), .val (.ref b66), .val (.ref b69), .val (.int (0 : Int32)), .val (.int (1 : Int32)), .unset, .unset, .unset] [(.int p2), (.int (2 : Int32)), (.int (0 : Int32))]))
    refine OutW.back (fun t k => XS.iloadN X72.here hx rfl (hb hby at_98) rfl  k) ?_
    show OutW _ _ _ _ _ _ _ (T72.setTop (mkF m 99 #[.val (.int p1), .val (.int p2), .val (.int p3), .val (.int p4), .val (.int (2 : Int32)), .val (.ref b66), .val (.ref b69), .val (.int (0 : Int32)), .val (.int (1 : Int32)), .unset, .unset, .unset] [(.int p3), (.int p2), (.int (2 : Int32)), (.int (0 : Int32))]))
    refine OutW.back (fun t k => XS.iloadN X72.here hx rfl (hb hby at_99) rfl  k) ?_
    show OutW _ _ _ _ _ _ _ (T72.setTop (mkF m 100 #[.val (.int p1), .val (.int p2), .val (.int p3), .val (.int p4), .val (.int (2 : Int32)), .val (.ref b66), .val (.ref b69), .val (.int (0 : Int32)), .val (.int (1 : Int32)), .unset, .unset, .unset] [(.int p4), (.int p3), (.int p2), (.int (2 : Int32)), (.int (0 : Int32))]))
    obtain ⟨_, _, ⟨T73, L73, k73, n73⟩, -, X73, ⟨Lc73, hQ73, l73, y73, z73⟩, st73⟩ := Jvm.LawKit.callS X72 hx (y := (⟨"com/example/fulltext_workbench/fulltextworkbench/index/VarintReaderAtEndPinLaw", "step", "(IIIII)I"⟩ : MethodName)) hown (mvT hZ (hw _ (List.mem_of_getElem? (i := 24) rfl))) (mvT hZ (hw _ (List.mem_of_getElem? (i := 25) rfl))) (mvT hZ (hw _ (List.mem_of_getElem? (i := 26) rfl))) (mvT hZ (hw _ (List.mem_of_getElem? (i := 27) rfl))) (by decide) (backOf (W := 0) (rm5 l Z a0 hw [] (0 : Int32) (2 : Int32) p2 p3 p4 h72 n0 Z72) hZ (hw _ (List.mem_of_getElem? (i := 27) rfl)) (hw _ (List.mem_of_getElem? (i := 26) rfl)) (by decide) (by decide)) (g := (mkF m 100 #[.val (.int p1), .val (.int p2), .val (.int p3), .val (.int p4), .val (.int (2 : Int32)), .val (.ref b66), .val (.ref b69), .val (.int (0 : Int32)), .val (.int (1 : Int32)), .unset, .unset, .unset] [(.int p4), (.int p3), (.int p2), (.int (2 : Int32)), (.int (0 : Int32))])) rfl (by rw [hml]; rfl) (argsL := [(.int (0 : Int32)), (.int (2 : Int32)), (.int p2), (.int p3), (.int p4)]) (rest := []) (lenOf pd_5 rfl) rfl (by show 2 * 0 + _ ≤ _; exact Nat.le_of_eq rfl) (hb hby at_100) (fun _ _ => ⟨rfl, e72, (by decide : 2 + 0 ≤ _), (by decide : 4 + 0 ≤ _)⟩)
    dsimp only [Pt.U, Pt.locs, Pt.cells, Pt.slots] at X73 l73 y73 z73 st73 hQ73
    subst l73 y73 z73
    obtain ⟨rfl, Nq73, e73⟩ := hQ73
    have N73 := Fr.app N72 Nq73
    refine OutW.back st73 ?_
    show OutW _ _ _ _ _ _ _ (T73.setTop (mkF m 103 #[.val (.int p1), .val (.int p2), .val (.int p3), .val (.int p4), .val (.int (2 : Int32)), .val (.ref b66), .val (.ref b69), .val (.int (0 : Int32)), .val (.int (1 : Int32)), .unset, .unset, .unset] [(.int (stepF_0 (0 : Int32) (2 : Int32) p2 p3 p4))]))
    generalize hv_v74 : (stepF_0 (0 : Int32) (2 : Int32) p2 p3 p4) = v74
    refine OutW.back (fun t k => XS.istore X73.here hx rfl (hb hby at_103) rfl (l' := #[.val (.int p1), .val (.int p2), .val (.int p3), .val (.int p4), .val (.int (2 : Int32)), .val (.ref b66), .val (.ref b69), .val (.int (0 : Int32)), .val (.int (1 : Int32)), .val (.int v74), .unset, .unset]) rfl k) ?_
    show OutW _ _ _ _ _ _ _ (T73.setTop (mkF m 105 #[.val (.int p1), .val (.int p2), .val (.int p3), .val (.int p4), .val (.int (2 : Int32)), .val (.ref b66), .val (.ref b69), .val (.int (0 : Int32)), .val (.int (1 : Int32)), .val (.int v74), .unset, .unset] []))
    have pr75 := own_pos2 p2 p3 p4 (0 : Int32) (by decide) (by decide)
    rw [hv_v74] at pr75
    rw [pr75.1] at F_position_b69
    refine OutW.back (fun t k => XS.iload X73.here hx rfl (hb hby at_105) rfl  k) ?_
    show OutW _ _ _ _ _ _ _ (T73.setTop (mkF m 107 #[.val (.int p1), .val (.int p2), .val (.int p3), .val (.int p4), .val (.int (2 : Int32)), .val (.ref b66), .val (.ref b69), .val (.int (0 : Int32)), .val (.int (1 : Int32)), .val (.int v74), .unset, .unset] [(.int (1 : Int32))]))
    refine OutW.back (fun t k => XS.ifNo X73.here hx rfl (hb hby at_107) rfl ((if0 _ _).trans (feq (by decide : ¬ ((1 : Int32) = (0 : Int32)))).1) k) ?_
    show OutW _ _ _ _ _ _ _ (T73.setTop (mkF m 110 #[.val (.int p1), .val (.int p2), .val (.int p3), .val (.int p4), .val (.int (2 : Int32)), .val (.ref b66), .val (.ref b69), .val (.int (0 : Int32)), .val (.int (1 : Int32)), .val (.int v74), .unset, .unset] []))
    refine OutW.back (fun t k => XS.aload X73.here hx rfl (hb hby at_110) rfl rfl  k) ?_
    show OutW _ _ _ _ _ _ _ (T73.setTop (mkF m 112 #[.val (.int p1), .val (.int p2), .val (.int p3), .val (.int p4), .val (.int (2 : Int32)), .val (.ref b66), .val (.ref b69), .val (.int (0 : Int32)), .val (.int (1 : Int32)), .val (.int v74), .unset, .unset] [(.ref b69)]))
    obtain ⟨cq76, kq76, qa76, qb76, qc76⟩ := isOf hZ e73 E_b69
    obtain ⟨_, _, ⟨T76, L76, k76, n76⟩, -, X76, ⟨Lc76, hQ76, l76, y76, z76⟩, st76⟩ := X73.virtualBack hx (y := (⟨"com/example/fulltext_workbench/fulltextworkbench/index/VarintReader", "atEnd", "()Z"⟩ : MethodName)) (z := (⟨"com/example/fulltext_workbench/fulltextworkbench/index/VarintReader", "atEnd", "()Z"⟩ : MethodName)) hown (mvT hZ (hw _ (List.mem_of_getElem? (i := 12) rfl))) (mvT hZ (hw _ (List.mem_of_getElem? (i := 13) rfl))) (notFace_of_selects (args := #[]) (mvT hZ (hw _ (List.mem_of_getElem? (i := 15) rfl)))) (mvT hZ (hw _ (List.mem_of_getElem? (i := 15) rfl))) (mvT hZ (hw _ (List.mem_of_getElem? (i := 14) rfl))) (by decide) (backOf (W := 0) (rm3 l Z a0 hw [] b69 b66 v74 (2 : Int32) [(.int (nar .byte p2.toInt8.toInt32)), (.int (nar .byte p3.toInt8.toInt32))] k66 h72 n0 Z72 F_bytes_b69 F_position_b69 V_b66_68) hZ (hw _ (List.mem_of_getElem? (i := 16) rfl)) (hw _ (List.mem_of_getElem? (i := 3) rfl)) (by decide) (by decide)) qa76 qc76 (g := (mkF m 112 #[.val (.int p1), .val (.int p2), .val (.int p3), .val (.int p4), .val (.int (2 : Int32)), .val (.ref b66), .val (.ref b69), .val (.int (0 : Int32)), .val (.int (1 : Int32)), .val (.int v74), .unset, .unset] [(.ref b69)])) rfl (by rw [hml]; rfl) (Steps.refl _) (argsL := []) (rest := []) (lenOf pd_3 rfl) rfl (by show 2 * 0 + _ ≤ _; exact Nat.le_of_eq rfl) (hb hby at_112) (fun _ _ => ⟨rfl, e73, (by decide : 2 + 0 ≤ _), (by decide : 4 + 0 ≤ _)⟩)
    dsimp only [Pt.U, Pt.locs, Pt.cells, Pt.slots] at X76 l76 y76 z76 st76 hQ76
    subst l76 y76 z76
    obtain ⟨rfl, Nq76, e76⟩ := hQ76
    have N76 := Fr.app N73 Nq76
    refine OutW.via st76 ?_
    show OutW _ _ _ _ _ _ _ (T76.setTop (mkF m 115 #[.val (.int p1), .val (.int p2), .val (.int p3), .val (.int p4), .val (.int (2 : Int32)), .val (.ref b66), .val (.ref b69), .val (.int (0 : Int32)), .val (.int (1 : Int32)), .val (.int v74), .unset, .unset] [(.int (atE v74 (2 : Int32)))]))
    refine OutW.back (fun t k => XS.iload X76.here hx rfl (hb hby at_115) rfl  k) ?_
    show OutW _ _ _ _ _ _ _ (T76.setTop (mkF m 117 #[.val (.int p1), .val (.int p2), .val (.int p3), .val (.int p4), .val (.int (2 : Int32)), .val (.ref b66), .val (.ref b69), .val (.int (0 : Int32)), .val (.int (1 : Int32)), .val (.int v74), .unset, .unset] [(.int v74), (.int (atE v74 (2 : Int32)))]))
    refine OutW.back (fun t k => XS.iload X76.here hx rfl (hb hby at_117) rfl  k) ?_
    show OutW _ _ _ _ _ _ _ (T76.setTop (mkF m 119 #[.val (.int p1), .val (.int p2), .val (.int p3), .val (.int p4), .val (.int (2 : Int32)), .val (.ref b66), .val (.ref b69), .val (.int (0 : Int32)), .val (.int (1 : Int32)), .val (.int v74), .unset, .unset] [(.int (2 : Int32)), (.int v74), (.int (atE v74 (2 : Int32)))]))
    obtain ⟨v78, hv_v78⟩ : ∃ z : Int32, z = (if v74 = (2 : Int32) then (1 : Int32) else (0 : Int32)) := ⟨_, rfl⟩
    have j79 : ∀ t, Steps p.tables e below (T76.setTop (mkF m 127 #[.val (.int p1), .val (.int p2), .val (.int p3), .val (.int p4), .val (.int (2 : Int32)), .val (.ref b66), .val (.ref b69), .val (.int (0 : Int32)), .val (.int (1 : Int32)), .val (.int v74), .unset, .unset] [(.int v78), (.int (atE v74 (2 : Int32)))])) t → Steps p.tables e below (T76.setTop (mkF m 119 #[.val (.int p1), .val (.int p2), .val (.int p3), .val (.int p4), .val (.int (2 : Int32)), .val (.ref b66), .val (.ref b69), .val (.int (0 : Int32)), .val (.int (1 : Int32)), .val (.int v74), .unset, .unset] [(.int (2 : Int32)), (.int v74), (.int (atE v74 (2 : Int32)))])) t := by
      intro t k
      by_cases c119_80 : v74 = (2 : Int32)
      · skip
        refine XS.icmpNo X76.here hx rfl (hb hby at_119) rfl (teq c119_80).2 ?_
        show Steps p.tables e below (T76.setTop (mkF m 122 #[.val (.int p1), .val (.int p2), .val (.int p3), .val (.int p4), .val (.int (2 : Int32)), .val (.ref b66), .val (.ref b69), .val (.int (0 : Int32)), .val (.int (1 : Int32)), .val (.int v74), .unset, .unset] [(.int (atE v74 (2 : Int32)))])) t
        refine XS.iconst X76.here hx rfl (hb hby at_122) ?_
        show Steps p.tables e below (T76.setTop (mkF m 123 #[.val (.int p1), .val (.int p2), .val (.int p3), .val (.int p4), .val (.int (2 : Int32)), .val (.ref b66), .val (.ref b69), .val (.int (0 : Int32)), .val (.int (1 : Int32)), .val (.int v74), .unset, .unset] [(.int (1 : Int32)), (.int (atE v74 (2 : Int32)))])) t
        refine XS.goto X76.here hx rfl (pc0 := 123) (pc' := 127) rfl (hb hby at_123) (by decide) (by decide) ?_
        show Steps p.tables e below (T76.setTop (mkF m 127 #[.val (.int p1), .val (.int p2), .val (.int p3), .val (.int p4), .val (.int (2 : Int32)), .val (.ref b66), .val (.ref b69), .val (.int (0 : Int32)), .val (.int (1 : Int32)), .val (.int v74), .unset, .unset] [(.int (1 : Int32)), (.int (atE v74 (2 : Int32)))])) t
        have q_v78 : v78 = (1 : Int32) := by rw [hv_v78, if_pos c119_80]
        rw [q_v78] at k
        exact k
      · skip
        refine XS.icmpYes X76.here hx rfl (pc0 := 119) (pc' := 126) rfl (hb hby at_119) rfl (feq c119_80).2 (by decide) (by decide) ?_
        show Steps p.tables e below (T76.setTop (mkF m 126 #[.val (.int p1), .val (.int p2), .val (.int p3), .val (.int p4), .val (.int (2 : Int32)), .val (.ref b66), .val (.ref b69), .val (.int (0 : Int32)), .val (.int (1 : Int32)), .val (.int v74), .unset, .unset] [(.int (atE v74 (2 : Int32)))])) t
        refine XS.iconst X76.here hx rfl (hb hby at_126) ?_
        show Steps p.tables e below (T76.setTop (mkF m 127 #[.val (.int p1), .val (.int p2), .val (.int p3), .val (.int p4), .val (.int (2 : Int32)), .val (.ref b66), .val (.ref b69), .val (.int (0 : Int32)), .val (.int (1 : Int32)), .val (.int v74), .unset, .unset] [(.int (0 : Int32)), (.int (atE v74 (2 : Int32)))])) t
        have q_v78 : v78 = (0 : Int32) := by rw [hv_v78, if_neg c119_80]
        rw [q_v78] at k
        exact k
    refine OutW.back j79 ?_
    show OutW _ _ _ _ _ _ _ (T76.setTop (mkF m 127 #[.val (.int p1), .val (.int p2), .val (.int p3), .val (.int p4), .val (.int (2 : Int32)), .val (.ref b66), .val (.ref b69), .val (.int (0 : Int32)), .val (.int (1 : Int32)), .val (.int v74), .unset, .unset] [(.int v78), (.int (atE v74 (2 : Int32)))]))
    refine OutW.back (fun t k => XS.icmpNo X76.here hx rfl (hb hby at_127) rfl (teq (by rw [hv_v78]; rfl)).2 k) ?_
    show OutW _ _ _ _ _ _ _ (T76.setTop (mkF m 130 #[.val (.int p1), .val (.int p2), .val (.int p3), .val (.int p4), .val (.int (2 : Int32)), .val (.ref b66), .val (.ref b69), .val (.int (0 : Int32)), .val (.int (1 : Int32)), .val (.int v74), .unset, .unset] []))
    refine OutW.back (fun t k => XS.iconst X76.here hx rfl (hb hby at_130) k) ?_
    show OutW _ _ _ _ _ _ _ (T76.setTop (mkF m 131 #[.val (.int p1), .val (.int p2), .val (.int p3), .val (.int p4), .val (.int (2 : Int32)), .val (.ref b66), .val (.ref b69), .val (.int (0 : Int32)), .val (.int (1 : Int32)), .val (.int v74), .unset, .unset] [(.int (1 : Int32))]))
    refine OutW.back (fun t k => XS.goto X76.here hx rfl (pc0 := 131) (pc' := 135) rfl (hb hby at_131) (by decide) (by decide) k) ?_
    show OutW _ _ _ _ _ _ _ (T76.setTop (mkF m 135 #[.val (.int p1), .val (.int p2), .val (.int p3), .val (.int p4), .val (.int (2 : Int32)), .val (.ref b66), .val (.ref b69), .val (.int (0 : Int32)), .val (.int (1 : Int32)), .val (.int v74), .unset, .unset] [(.int (1 : Int32))]))
    refine OutW.back (fun t k => XS.istore X76.here hx rfl (hb hby at_135) rfl (l' := #[.val (.int p1), .val (.int p2), .val (.int p3), .val (.int p4), .val (.int (2 : Int32)), .val (.ref b66), .val (.ref b69), .val (.int (0 : Int32)), .val (.int (1 : Int32)), .val (.int v74), .unset, .unset]) rfl k) ?_
    show OutW _ _ _ _ _ _ _ (T76.setTop (mkF m 137 #[.val (.int p1), .val (.int p2), .val (.int p3), .val (.int p4), .val (.int (2 : Int32)), .val (.ref b66), .val (.ref b69), .val (.int (0 : Int32)), .val (.int (1 : Int32)), .val (.int v74), .unset, .unset] []))
    refine OutW.back (fun t k => XS.aload X76.here hx rfl (hb hby at_137) rfl rfl  k) ?_
    show OutW _ _ _ _ _ _ _ (T76.setTop (mkF m 139 #[.val (.int p1), .val (.int p2), .val (.int p3), .val (.int p4), .val (.int (2 : Int32)), .val (.ref b66), .val (.ref b69), .val (.int (0 : Int32)), .val (.int (1 : Int32)), .val (.int v74), .unset, .unset] [(.ref b69)]))
    obtain ⟨cq81, kq81, qa81, qb81, qc81⟩ := isOf hZ e76 E_b69
    obtain ⟨_, _, ⟨T81, L81, k81, n81⟩, -, X81, ⟨Lc81, hQ81, l81, y81, z81⟩, st81⟩ := X76.virtualBack hx (y := (⟨"com/example/fulltext_workbench/fulltextworkbench/index/VarintReader", "next", "()I"⟩ : MethodName)) (z := (⟨"com/example/fulltext_workbench/fulltextworkbench/index/VarintReader", "next", "()I"⟩ : MethodName)) hown (mvT hZ (hw _ (List.mem_of_getElem? (i := 19) rfl))) (mvT hZ (hw _ (List.mem_of_getElem? (i := 20) rfl))) (notFace_of_selects (args := #[]) (mvT hZ (hw _ (List.mem_of_getElem? (i := 22) rfl)))) (mvT hZ (hw _ (List.mem_of_getElem? (i := 22) rfl))) (mvT hZ (hw _ (List.mem_of_getElem? (i := 21) rfl))) (by decide) (backOf (W := 0) (rm4 l Z a0 hw [] b69 b66 v74 (2 : Int32) [(.int (nar .byte p2.toInt8.toInt32)), (.int (nar .byte p3.toInt8.toInt32))] k66 (Bn [(nar .byte p2.toInt8.toInt32), (nar .byte p3.toInt8.toInt32)]) h72 n0 Z72 E_b69 g_b69 F_bytes_b69 F_position_b69 V_b66_68 ne_b66_b69 (fun j _ _ => own_getD [(nar .byte p2.toInt8.toInt32), (nar .byte p3.toInt8.toInt32)] _ 0) pr75.2.1) hZ (hw _ (List.mem_of_getElem? (i := 23) rfl)) (hw _ (List.mem_of_getElem? (i := 3) rfl)) (by decide) (by decide)) qa81 qc81 (g := (mkF m 139 #[.val (.int p1), .val (.int p2), .val (.int p3), .val (.int p4), .val (.int (2 : Int32)), .val (.ref b66), .val (.ref b69), .val (.int (0 : Int32)), .val (.int (1 : Int32)), .val (.int v74), .unset, .unset] [(.ref b69)])) rfl (by rw [hml]; rfl) (Steps.refl _) (argsL := []) (rest := []) (lenOf pd_4 rfl) rfl (by show 2 * 0 + _ ≤ _; exact Nat.le_of_eq rfl) (hb hby at_139) (fun _ _ => ⟨rfl, e76, (by decide : 2 + 0 ≤ _), (by decide : 4 + 0 ≤ _)⟩)
    dsimp only [Pt.U, Pt.locs, Pt.cells, Pt.slots] at X81 l81 y81 z81 st81 hQ81
    subst l81 y81 z81
    obtain ⟨h81, eh81⟩ : ∃ z, z = T81.heap := ⟨_, rfl⟩
    rw [← eh81] at hQ81
    have e81 : T81.heap = h81 := eh81.symm
    obtain ⟨rfl, Nq81, Kq81, F_position_b69, F_bytes_b69⟩ := hQ81
    have V_b66_68 := V_b66_68.keep Kq81 (ninS ne_b66_b69 nin0)
    have E_b69 := E_b69.keep Kq81
    have Z81 : n0 ≤ h81.size := Nat.le_trans Z72 Kq81.1
    have K81 := K72.trans Kq81 (allS (Or.inr sz_b69) all0)
    have N81 := Fr.app N76 Nq81
    refine OutW.via st81 ?_
    show OutW _ _ _ _ _ _ _ (T81.setTop (mkF m 142 #[.val (.int p1), .val (.int p2), .val (.int p3), .val (.int p4), .val (.int (2 : Int32)), .val (.ref b66), .val (.ref b69), .val (.int (0 : Int32)), .val (.int (1 : Int32)), .val (.int v74), .unset, .unset] [(.int (nxt (Bn [(nar .byte p2.toInt8.toInt32), (nar .byte p3.toInt8.toInt32)]) (2 : Int32) v74))]))
    refine OutW.back (fun t k => XS.pop X81.here hx rfl (hb hby at_142) rfl rfl k) ?_
    show OutW _ _ _ _ _ _ _ (T81.setTop (mkF m 143 #[.val (.int p1), .val (.int p2), .val (.int p3), .val (.int p4), .val (.int (2 : Int32)), .val (.ref b66), .val (.ref b69), .val (.int (0 : Int32)), .val (.int (1 : Int32)), .val (.int v74), .unset, .unset] []))
    refine OutW.back (fun t k => XS.iload X81.here hx rfl (hb hby at_143) rfl  k) ?_
    show OutW _ _ _ _ _ _ _ (T81.setTop (mkF m 145 #[.val (.int p1), .val (.int p2), .val (.int p3), .val (.int p4), .val (.int (2 : Int32)), .val (.ref b66), .val (.ref b69), .val (.int (0 : Int32)), .val (.int (1 : Int32)), .val (.int v74), .unset, .unset] [(.int v74)]))
    refine OutW.back (fun t k => XS.iload X81.here hx rfl (hb hby at_145) rfl  k) ?_
    show OutW _ _ _ _ _ _ _ (T81.setTop (mkF m 147 #[.val (.int p1), .val (.int p2), .val (.int p3), .val (.int p4), .val (.int (2 : Int32)), .val (.ref b66), .val (.ref b69), .val (.int (0 : Int32)), .val (.int (1 : Int32)), .val (.int v74), .unset, .unset] [(.int (2 : Int32)), (.int v74)]))
    refine OutW.back (fun t k => XS.iloadN X81.here hx rfl (hb hby at_147) rfl  k) ?_
    show OutW _ _ _ _ _ _ _ (T81.setTop (mkF m 148 #[.val (.int p1), .val (.int p2), .val (.int p3), .val (.int p4), .val (.int (2 : Int32)), .val (.ref b66), .val (.ref b69), .val (.int (0 : Int32)), .val (.int (1 : Int32)), .val (.int v74), .unset, .unset] [(.int p2), (.int (2 : Int32)), (.int v74)]))
    refine OutW.back (fun t k => XS.iloadN X81.here hx rfl (hb hby at_148) rfl  k) ?_
    show OutW _ _ _ _ _ _ _ (T81.setTop (mkF m 149 #[.val (.int p1), .val (.int p2), .val (.int p3), .val (.int p4), .val (.int (2 : Int32)), .val (.ref b66), .val (.ref b69), .val (.int (0 : Int32)), .val (.int (1 : Int32)), .val (.int v74), .unset, .unset] [(.int p3), (.int p2), (.int (2 : Int32)), (.int v74)]))
    refine OutW.back (fun t k => XS.iloadN X81.here hx rfl (hb hby at_149) rfl  k) ?_
    show OutW _ _ _ _ _ _ _ (T81.setTop (mkF m 150 #[.val (.int p1), .val (.int p2), .val (.int p3), .val (.int p4), .val (.int (2 : Int32)), .val (.ref b66), .val (.ref b69), .val (.int (0 : Int32)), .val (.int (1 : Int32)), .val (.int v74), .unset, .unset] [(.int p4), (.int p3), (.int p2), (.int (2 : Int32)), (.int v74)]))
    obtain ⟨_, _, ⟨T82, L82, k82, n82⟩, -, X82, ⟨Lc82, hQ82, l82, y82, z82⟩, st82⟩ := Jvm.LawKit.callS X81 hx (y := (⟨"com/example/fulltext_workbench/fulltextworkbench/index/VarintReaderAtEndPinLaw", "step", "(IIIII)I"⟩ : MethodName)) hown (mvT hZ (hw _ (List.mem_of_getElem? (i := 24) rfl))) (mvT hZ (hw _ (List.mem_of_getElem? (i := 25) rfl))) (mvT hZ (hw _ (List.mem_of_getElem? (i := 26) rfl))) (mvT hZ (hw _ (List.mem_of_getElem? (i := 27) rfl))) (by decide) (backOf (W := 0) (rm5 l Z a0 hw [] v74 (2 : Int32) p2 p3 p4 h81 n0 Z81) hZ (hw _ (List.mem_of_getElem? (i := 27) rfl)) (hw _ (List.mem_of_getElem? (i := 26) rfl)) (by decide) (by decide)) (g := (mkF m 150 #[.val (.int p1), .val (.int p2), .val (.int p3), .val (.int p4), .val (.int (2 : Int32)), .val (.ref b66), .val (.ref b69), .val (.int (0 : Int32)), .val (.int (1 : Int32)), .val (.int v74), .unset, .unset] [(.int p4), (.int p3), (.int p2), (.int (2 : Int32)), (.int v74)])) rfl (by rw [hml]; rfl) (argsL := [(.int v74), (.int (2 : Int32)), (.int p2), (.int p3), (.int p4)]) (rest := []) (lenOf pd_5 rfl) rfl (by show 2 * 0 + _ ≤ _; exact Nat.le_of_eq rfl) (hb hby at_150) (fun _ _ => ⟨rfl, e81, (by decide : 2 + 0 ≤ _), (by decide : 4 + 0 ≤ _)⟩)
    dsimp only [Pt.U, Pt.locs, Pt.cells, Pt.slots] at X82 l82 y82 z82 st82 hQ82
    subst l82 y82 z82
    obtain ⟨rfl, Nq82, e82⟩ := hQ82
    have N82 := Fr.app N81 Nq82
    refine OutW.back st82 ?_
    show OutW _ _ _ _ _ _ _ (T82.setTop (mkF m 153 #[.val (.int p1), .val (.int p2), .val (.int p3), .val (.int p4), .val (.int (2 : Int32)), .val (.ref b66), .val (.ref b69), .val (.int (0 : Int32)), .val (.int (1 : Int32)), .val (.int v74), .unset, .unset] [(.int (stepF_0 v74 (2 : Int32) p2 p3 p4))]))
    generalize hv_v83 : (stepF_0 v74 (2 : Int32) p2 p3 p4) = v83
    refine OutW.back (fun t k => XS.istore X82.here hx rfl (hb hby at_153) rfl (l' := #[.val (.int p1), .val (.int p2), .val (.int p3), .val (.int p4), .val (.int (2 : Int32)), .val (.ref b66), .val (.ref b69), .val (.int (0 : Int32)), .val (.int (1 : Int32)), .val (.int v74), .val (.int v83), .unset]) rfl k) ?_
    show OutW _ _ _ _ _ _ _ (T82.setTop (mkF m 155 #[.val (.int p1), .val (.int p2), .val (.int p3), .val (.int p4), .val (.int (2 : Int32)), .val (.ref b66), .val (.ref b69), .val (.int (0 : Int32)), .val (.int (1 : Int32)), .val (.int v74), .val (.int v83), .unset] []))
    have pr84 := own_pos2 p2 p3 p4 v74 pr75.2.1 pr75.2.2
    rw [hv_v83] at pr84
    rw [pr84.1] at F_position_b69
    refine OutW.back (fun t k => XS.iload X82.here hx rfl (hb hby at_155) rfl  k) ?_
    show OutW _ _ _ _ _ _ _ (T82.setTop (mkF m 157 #[.val (.int p1), .val (.int p2), .val (.int p3), .val (.int p4), .val (.int (2 : Int32)), .val (.ref b66), .val (.ref b69), .val (.int (0 : Int32)), .val (.int (1 : Int32)), .val (.int v74), .val (.int v83), .unset] [(.int (1 : Int32))]))
    refine OutW.back (fun t k => XS.ifNo X82.here hx rfl (hb hby at_157) rfl ((if0 _ _).trans (feq (by decide : ¬ ((1 : Int32) = (0 : Int32)))).1) k) ?_
    show OutW _ _ _ _ _ _ _ (T82.setTop (mkF m 160 #[.val (.int p1), .val (.int p2), .val (.int p3), .val (.int p4), .val (.int (2 : Int32)), .val (.ref b66), .val (.ref b69), .val (.int (0 : Int32)), .val (.int (1 : Int32)), .val (.int v74), .val (.int v83), .unset] []))
    refine OutW.back (fun t k => XS.aload X82.here hx rfl (hb hby at_160) rfl rfl  k) ?_
    show OutW _ _ _ _ _ _ _ (T82.setTop (mkF m 162 #[.val (.int p1), .val (.int p2), .val (.int p3), .val (.int p4), .val (.int (2 : Int32)), .val (.ref b66), .val (.ref b69), .val (.int (0 : Int32)), .val (.int (1 : Int32)), .val (.int v74), .val (.int v83), .unset] [(.ref b69)]))
    obtain ⟨cq85, kq85, qa85, qb85, qc85⟩ := isOf hZ e82 E_b69
    obtain ⟨_, _, ⟨T85, L85, k85, n85⟩, -, X85, ⟨Lc85, hQ85, l85, y85, z85⟩, st85⟩ := X82.virtualBack hx (y := (⟨"com/example/fulltext_workbench/fulltextworkbench/index/VarintReader", "atEnd", "()Z"⟩ : MethodName)) (z := (⟨"com/example/fulltext_workbench/fulltextworkbench/index/VarintReader", "atEnd", "()Z"⟩ : MethodName)) hown (mvT hZ (hw _ (List.mem_of_getElem? (i := 12) rfl))) (mvT hZ (hw _ (List.mem_of_getElem? (i := 13) rfl))) (notFace_of_selects (args := #[]) (mvT hZ (hw _ (List.mem_of_getElem? (i := 15) rfl)))) (mvT hZ (hw _ (List.mem_of_getElem? (i := 15) rfl))) (mvT hZ (hw _ (List.mem_of_getElem? (i := 14) rfl))) (by decide) (backOf (W := 0) (rm3 l Z a0 hw [] b69 b66 v83 (2 : Int32) [(.int (nar .byte p2.toInt8.toInt32)), (.int (nar .byte p3.toInt8.toInt32))] k66 h81 n0 Z81 F_bytes_b69 F_position_b69 V_b66_68) hZ (hw _ (List.mem_of_getElem? (i := 16) rfl)) (hw _ (List.mem_of_getElem? (i := 3) rfl)) (by decide) (by decide)) qa85 qc85 (g := (mkF m 162 #[.val (.int p1), .val (.int p2), .val (.int p3), .val (.int p4), .val (.int (2 : Int32)), .val (.ref b66), .val (.ref b69), .val (.int (0 : Int32)), .val (.int (1 : Int32)), .val (.int v74), .val (.int v83), .unset] [(.ref b69)])) rfl (by rw [hml]; rfl) (Steps.refl _) (argsL := []) (rest := []) (lenOf pd_3 rfl) rfl (by show 2 * 0 + _ ≤ _; exact Nat.le_of_eq rfl) (hb hby at_162) (fun _ _ => ⟨rfl, e82, (by decide : 2 + 0 ≤ _), (by decide : 4 + 0 ≤ _)⟩)
    dsimp only [Pt.U, Pt.locs, Pt.cells, Pt.slots] at X85 l85 y85 z85 st85 hQ85
    subst l85 y85 z85
    obtain ⟨rfl, Nq85, e85⟩ := hQ85
    have N85 := Fr.app N82 Nq85
    refine OutW.via st85 ?_
    show OutW _ _ _ _ _ _ _ (T85.setTop (mkF m 165 #[.val (.int p1), .val (.int p2), .val (.int p3), .val (.int p4), .val (.int (2 : Int32)), .val (.ref b66), .val (.ref b69), .val (.int (0 : Int32)), .val (.int (1 : Int32)), .val (.int v74), .val (.int v83), .unset] [(.int (atE v83 (2 : Int32)))]))
    refine OutW.back (fun t k => XS.iload X85.here hx rfl (hb hby at_165) rfl  k) ?_
    show OutW _ _ _ _ _ _ _ (T85.setTop (mkF m 167 #[.val (.int p1), .val (.int p2), .val (.int p3), .val (.int p4), .val (.int (2 : Int32)), .val (.ref b66), .val (.ref b69), .val (.int (0 : Int32)), .val (.int (1 : Int32)), .val (.int v74), .val (.int v83), .unset] [(.int v83), (.int (atE v83 (2 : Int32)))]))
    refine OutW.back (fun t k => XS.iload X85.here hx rfl (hb hby at_167) rfl  k) ?_
    show OutW _ _ _ _ _ _ _ (T85.setTop (mkF m 169 #[.val (.int p1), .val (.int p2), .val (.int p3), .val (.int p4), .val (.int (2 : Int32)), .val (.ref b66), .val (.ref b69), .val (.int (0 : Int32)), .val (.int (1 : Int32)), .val (.int v74), .val (.int v83), .unset] [(.int (2 : Int32)), (.int v83), (.int (atE v83 (2 : Int32)))]))
    obtain ⟨v87, hv_v87⟩ : ∃ z : Int32, z = (if v83 = (2 : Int32) then (1 : Int32) else (0 : Int32)) := ⟨_, rfl⟩
    have j88 : ∀ t, Steps p.tables e below (T85.setTop (mkF m 177 #[.val (.int p1), .val (.int p2), .val (.int p3), .val (.int p4), .val (.int (2 : Int32)), .val (.ref b66), .val (.ref b69), .val (.int (0 : Int32)), .val (.int (1 : Int32)), .val (.int v74), .val (.int v83), .unset] [(.int v87), (.int (atE v83 (2 : Int32)))])) t → Steps p.tables e below (T85.setTop (mkF m 169 #[.val (.int p1), .val (.int p2), .val (.int p3), .val (.int p4), .val (.int (2 : Int32)), .val (.ref b66), .val (.ref b69), .val (.int (0 : Int32)), .val (.int (1 : Int32)), .val (.int v74), .val (.int v83), .unset] [(.int (2 : Int32)), (.int v83), (.int (atE v83 (2 : Int32)))])) t := by
      intro t k
      by_cases c169_89 : v83 = (2 : Int32)
      · skip
        refine XS.icmpNo X85.here hx rfl (hb hby at_169) rfl (teq c169_89).2 ?_
        show Steps p.tables e below (T85.setTop (mkF m 172 #[.val (.int p1), .val (.int p2), .val (.int p3), .val (.int p4), .val (.int (2 : Int32)), .val (.ref b66), .val (.ref b69), .val (.int (0 : Int32)), .val (.int (1 : Int32)), .val (.int v74), .val (.int v83), .unset] [(.int (atE v83 (2 : Int32)))])) t
        refine XS.iconst X85.here hx rfl (hb hby at_172) ?_
        show Steps p.tables e below (T85.setTop (mkF m 173 #[.val (.int p1), .val (.int p2), .val (.int p3), .val (.int p4), .val (.int (2 : Int32)), .val (.ref b66), .val (.ref b69), .val (.int (0 : Int32)), .val (.int (1 : Int32)), .val (.int v74), .val (.int v83), .unset] [(.int (1 : Int32)), (.int (atE v83 (2 : Int32)))])) t
        refine XS.goto X85.here hx rfl (pc0 := 173) (pc' := 177) rfl (hb hby at_173) (by decide) (by decide) ?_
        show Steps p.tables e below (T85.setTop (mkF m 177 #[.val (.int p1), .val (.int p2), .val (.int p3), .val (.int p4), .val (.int (2 : Int32)), .val (.ref b66), .val (.ref b69), .val (.int (0 : Int32)), .val (.int (1 : Int32)), .val (.int v74), .val (.int v83), .unset] [(.int (1 : Int32)), (.int (atE v83 (2 : Int32)))])) t
        have q_v87 : v87 = (1 : Int32) := by rw [hv_v87, if_pos c169_89]
        rw [q_v87] at k
        exact k
      · skip
        refine XS.icmpYes X85.here hx rfl (pc0 := 169) (pc' := 176) rfl (hb hby at_169) rfl (feq c169_89).2 (by decide) (by decide) ?_
        show Steps p.tables e below (T85.setTop (mkF m 176 #[.val (.int p1), .val (.int p2), .val (.int p3), .val (.int p4), .val (.int (2 : Int32)), .val (.ref b66), .val (.ref b69), .val (.int (0 : Int32)), .val (.int (1 : Int32)), .val (.int v74), .val (.int v83), .unset] [(.int (atE v83 (2 : Int32)))])) t
        refine XS.iconst X85.here hx rfl (hb hby at_176) ?_
        show Steps p.tables e below (T85.setTop (mkF m 177 #[.val (.int p1), .val (.int p2), .val (.int p3), .val (.int p4), .val (.int (2 : Int32)), .val (.ref b66), .val (.ref b69), .val (.int (0 : Int32)), .val (.int (1 : Int32)), .val (.int v74), .val (.int v83), .unset] [(.int (0 : Int32)), (.int (atE v83 (2 : Int32)))])) t
        have q_v87 : v87 = (0 : Int32) := by rw [hv_v87, if_neg c169_89]
        rw [q_v87] at k
        exact k
    refine OutW.back j88 ?_
    show OutW _ _ _ _ _ _ _ (T85.setTop (mkF m 177 #[.val (.int p1), .val (.int p2), .val (.int p3), .val (.int p4), .val (.int (2 : Int32)), .val (.ref b66), .val (.ref b69), .val (.int (0 : Int32)), .val (.int (1 : Int32)), .val (.int v74), .val (.int v83), .unset] [(.int v87), (.int (atE v83 (2 : Int32)))]))
    refine OutW.back (fun t k => XS.icmpNo X85.here hx rfl (hb hby at_177) rfl (teq (by rw [hv_v87]; rfl)).2 k) ?_
    show OutW _ _ _ _ _ _ _ (T85.setTop (mkF m 180 #[.val (.int p1), .val (.int p2), .val (.int p3), .val (.int p4), .val (.int (2 : Int32)), .val (.ref b66), .val (.ref b69), .val (.int (0 : Int32)), .val (.int (1 : Int32)), .val (.int v74), .val (.int v83), .unset] []))
    refine OutW.back (fun t k => XS.iconst X85.here hx rfl (hb hby at_180) k) ?_
    show OutW _ _ _ _ _ _ _ (T85.setTop (mkF m 181 #[.val (.int p1), .val (.int p2), .val (.int p3), .val (.int p4), .val (.int (2 : Int32)), .val (.ref b66), .val (.ref b69), .val (.int (0 : Int32)), .val (.int (1 : Int32)), .val (.int v74), .val (.int v83), .unset] [(.int (1 : Int32))]))
    refine OutW.back (fun t k => XS.goto X85.here hx rfl (pc0 := 181) (pc' := 185) rfl (hb hby at_181) (by decide) (by decide) k) ?_
    show OutW _ _ _ _ _ _ _ (T85.setTop (mkF m 185 #[.val (.int p1), .val (.int p2), .val (.int p3), .val (.int p4), .val (.int (2 : Int32)), .val (.ref b66), .val (.ref b69), .val (.int (0 : Int32)), .val (.int (1 : Int32)), .val (.int v74), .val (.int v83), .unset] [(.int (1 : Int32))]))
    refine OutW.back (fun t k => XS.istore X85.here hx rfl (hb hby at_185) rfl (l' := #[.val (.int p1), .val (.int p2), .val (.int p3), .val (.int p4), .val (.int (2 : Int32)), .val (.ref b66), .val (.ref b69), .val (.int (0 : Int32)), .val (.int (1 : Int32)), .val (.int v74), .val (.int v83), .unset]) rfl k) ?_
    show OutW _ _ _ _ _ _ _ (T85.setTop (mkF m 187 #[.val (.int p1), .val (.int p2), .val (.int p3), .val (.int p4), .val (.int (2 : Int32)), .val (.ref b66), .val (.ref b69), .val (.int (0 : Int32)), .val (.int (1 : Int32)), .val (.int v74), .val (.int v83), .unset] []))
    refine OutW.back (fun t k => XS.aload X85.here hx rfl (hb hby at_187) rfl rfl  k) ?_
    show OutW _ _ _ _ _ _ _ (T85.setTop (mkF m 189 #[.val (.int p1), .val (.int p2), .val (.int p3), .val (.int p4), .val (.int (2 : Int32)), .val (.ref b66), .val (.ref b69), .val (.int (0 : Int32)), .val (.int (1 : Int32)), .val (.int v74), .val (.int v83), .unset] [(.ref b69)]))
    obtain ⟨cq90, kq90, qa90, qb90, qc90⟩ := isOf hZ e85 E_b69
    obtain ⟨_, _, ⟨T90, L90, k90, n90⟩, -, X90, ⟨Lc90, hQ90, l90, y90, z90⟩, st90⟩ := X85.virtualBack hx (y := (⟨"com/example/fulltext_workbench/fulltextworkbench/index/VarintReader", "next", "()I"⟩ : MethodName)) (z := (⟨"com/example/fulltext_workbench/fulltextworkbench/index/VarintReader", "next", "()I"⟩ : MethodName)) hown (mvT hZ (hw _ (List.mem_of_getElem? (i := 19) rfl))) (mvT hZ (hw _ (List.mem_of_getElem? (i := 20) rfl))) (notFace_of_selects (args := #[]) (mvT hZ (hw _ (List.mem_of_getElem? (i := 22) rfl)))) (mvT hZ (hw _ (List.mem_of_getElem? (i := 22) rfl))) (mvT hZ (hw _ (List.mem_of_getElem? (i := 21) rfl))) (by decide) (backOf (W := 0) (rm4 l Z a0 hw [] b69 b66 v83 (2 : Int32) [(.int (nar .byte p2.toInt8.toInt32)), (.int (nar .byte p3.toInt8.toInt32))] k66 (Bn [(nar .byte p2.toInt8.toInt32), (nar .byte p3.toInt8.toInt32)]) h81 n0 Z81 E_b69 g_b69 F_bytes_b69 F_position_b69 V_b66_68 ne_b66_b69 (fun j _ _ => own_getD [(nar .byte p2.toInt8.toInt32), (nar .byte p3.toInt8.toInt32)] _ 0) pr84.2.1) hZ (hw _ (List.mem_of_getElem? (i := 23) rfl)) (hw _ (List.mem_of_getElem? (i := 3) rfl)) (by decide) (by decide)) qa90 qc90 (g := (mkF m 189 #[.val (.int p1), .val (.int p2), .val (.int p3), .val (.int p4), .val (.int (2 : Int32)), .val (.ref b66), .val (.ref b69), .val (.int (0 : Int32)), .val (.int (1 : Int32)), .val (.int v74), .val (.int v83), .unset] [(.ref b69)])) rfl (by rw [hml]; rfl) (Steps.refl _) (argsL := []) (rest := []) (lenOf pd_4 rfl) rfl (by show 2 * 0 + _ ≤ _; exact Nat.le_of_eq rfl) (hb hby at_189) (fun _ _ => ⟨rfl, e85, (by decide : 2 + 0 ≤ _), (by decide : 4 + 0 ≤ _)⟩)
    dsimp only [Pt.U, Pt.locs, Pt.cells, Pt.slots] at X90 l90 y90 z90 st90 hQ90
    subst l90 y90 z90
    obtain ⟨h90, eh90⟩ : ∃ z, z = T90.heap := ⟨_, rfl⟩
    rw [← eh90] at hQ90
    have e90 : T90.heap = h90 := eh90.symm
    obtain ⟨rfl, Nq90, Kq90, F_position_b69, F_bytes_b69⟩ := hQ90
    have V_b66_68 := V_b66_68.keep Kq90 (ninS ne_b66_b69 nin0)
    have E_b69 := E_b69.keep Kq90
    have Z90 : n0 ≤ h90.size := Nat.le_trans Z81 Kq90.1
    have K90 := K81.trans Kq90 (allS (Or.inr sz_b69) all0)
    have N90 := Fr.app N85 Nq90
    refine OutW.via st90 ?_
    show OutW _ _ _ _ _ _ _ (T90.setTop (mkF m 192 #[.val (.int p1), .val (.int p2), .val (.int p3), .val (.int p4), .val (.int (2 : Int32)), .val (.ref b66), .val (.ref b69), .val (.int (0 : Int32)), .val (.int (1 : Int32)), .val (.int v74), .val (.int v83), .unset] [(.int (nxt (Bn [(nar .byte p2.toInt8.toInt32), (nar .byte p3.toInt8.toInt32)]) (2 : Int32) v83))]))
    refine OutW.back (fun t k => XS.pop X90.here hx rfl (hb hby at_192) rfl rfl k) ?_
    show OutW _ _ _ _ _ _ _ (T90.setTop (mkF m 193 #[.val (.int p1), .val (.int p2), .val (.int p3), .val (.int p4), .val (.int (2 : Int32)), .val (.ref b66), .val (.ref b69), .val (.int (0 : Int32)), .val (.int (1 : Int32)), .val (.int v74), .val (.int v83), .unset] []))
    refine OutW.back (fun t k => XS.iload X90.here hx rfl (hb hby at_193) rfl  k) ?_
    show OutW _ _ _ _ _ _ _ (T90.setTop (mkF m 195 #[.val (.int p1), .val (.int p2), .val (.int p3), .val (.int p4), .val (.int (2 : Int32)), .val (.ref b66), .val (.ref b69), .val (.int (0 : Int32)), .val (.int (1 : Int32)), .val (.int v74), .val (.int v83), .unset] [(.int v83)]))
    refine OutW.back (fun t k => XS.iload X90.here hx rfl (hb hby at_195) rfl  k) ?_
    show OutW _ _ _ _ _ _ _ (T90.setTop (mkF m 197 #[.val (.int p1), .val (.int p2), .val (.int p3), .val (.int p4), .val (.int (2 : Int32)), .val (.ref b66), .val (.ref b69), .val (.int (0 : Int32)), .val (.int (1 : Int32)), .val (.int v74), .val (.int v83), .unset] [(.int (2 : Int32)), (.int v83)]))
    refine OutW.back (fun t k => XS.iloadN X90.here hx rfl (hb hby at_197) rfl  k) ?_
    show OutW _ _ _ _ _ _ _ (T90.setTop (mkF m 198 #[.val (.int p1), .val (.int p2), .val (.int p3), .val (.int p4), .val (.int (2 : Int32)), .val (.ref b66), .val (.ref b69), .val (.int (0 : Int32)), .val (.int (1 : Int32)), .val (.int v74), .val (.int v83), .unset] [(.int p2), (.int (2 : Int32)), (.int v83)]))
    refine OutW.back (fun t k => XS.iloadN X90.here hx rfl (hb hby at_198) rfl  k) ?_
    show OutW _ _ _ _ _ _ _ (T90.setTop (mkF m 199 #[.val (.int p1), .val (.int p2), .val (.int p3), .val (.int p4), .val (.int (2 : Int32)), .val (.ref b66), .val (.ref b69), .val (.int (0 : Int32)), .val (.int (1 : Int32)), .val (.int v74), .val (.int v83), .unset] [(.int p3), (.int p2), (.int (2 : Int32)), (.int v83)]))
    refine OutW.back (fun t k => XS.iloadN X90.here hx rfl (hb hby at_199) rfl  k) ?_
    show OutW _ _ _ _ _ _ _ (T90.setTop (mkF m 200 #[.val (.int p1), .val (.int p2), .val (.int p3), .val (.int p4), .val (.int (2 : Int32)), .val (.ref b66), .val (.ref b69), .val (.int (0 : Int32)), .val (.int (1 : Int32)), .val (.int v74), .val (.int v83), .unset] [(.int p4), (.int p3), (.int p2), (.int (2 : Int32)), (.int v83)]))
    obtain ⟨_, _, ⟨T91, L91, k91, n91⟩, -, X91, ⟨Lc91, hQ91, l91, y91, z91⟩, st91⟩ := Jvm.LawKit.callS X90 hx (y := (⟨"com/example/fulltext_workbench/fulltextworkbench/index/VarintReaderAtEndPinLaw", "step", "(IIIII)I"⟩ : MethodName)) hown (mvT hZ (hw _ (List.mem_of_getElem? (i := 24) rfl))) (mvT hZ (hw _ (List.mem_of_getElem? (i := 25) rfl))) (mvT hZ (hw _ (List.mem_of_getElem? (i := 26) rfl))) (mvT hZ (hw _ (List.mem_of_getElem? (i := 27) rfl))) (by decide) (backOf (W := 0) (rm5 l Z a0 hw [] v83 (2 : Int32) p2 p3 p4 h90 n0 Z90) hZ (hw _ (List.mem_of_getElem? (i := 27) rfl)) (hw _ (List.mem_of_getElem? (i := 26) rfl)) (by decide) (by decide)) (g := (mkF m 200 #[.val (.int p1), .val (.int p2), .val (.int p3), .val (.int p4), .val (.int (2 : Int32)), .val (.ref b66), .val (.ref b69), .val (.int (0 : Int32)), .val (.int (1 : Int32)), .val (.int v74), .val (.int v83), .unset] [(.int p4), (.int p3), (.int p2), (.int (2 : Int32)), (.int v83)])) rfl (by rw [hml]; rfl) (argsL := [(.int v83), (.int (2 : Int32)), (.int p2), (.int p3), (.int p4)]) (rest := []) (lenOf pd_5 rfl) rfl (by show 2 * 0 + _ ≤ _; exact Nat.le_of_eq rfl) (hb hby at_200) (fun _ _ => ⟨rfl, e90, (by decide : 2 + 0 ≤ _), (by decide : 4 + 0 ≤ _)⟩)
    dsimp only [Pt.U, Pt.locs, Pt.cells, Pt.slots] at X91 l91 y91 z91 st91 hQ91
    subst l91 y91 z91
    obtain ⟨rfl, Nq91, e91⟩ := hQ91
    have N91 := Fr.app N90 Nq91
    refine OutW.back st91 ?_
    show OutW _ _ _ _ _ _ _ (T91.setTop (mkF m 203 #[.val (.int p1), .val (.int p2), .val (.int p3), .val (.int p4), .val (.int (2 : Int32)), .val (.ref b66), .val (.ref b69), .val (.int (0 : Int32)), .val (.int (1 : Int32)), .val (.int v74), .val (.int v83), .unset] [(.int (stepF_0 v83 (2 : Int32) p2 p3 p4))]))
    generalize hv_v92 : (stepF_0 v83 (2 : Int32) p2 p3 p4) = v92
    refine OutW.back (fun t k => XS.istore X91.here hx rfl (hb hby at_203) rfl (l' := #[.val (.int p1), .val (.int p2), .val (.int p3), .val (.int p4), .val (.int (2 : Int32)), .val (.ref b66), .val (.ref b69), .val (.int (0 : Int32)), .val (.int (1 : Int32)), .val (.int v74), .val (.int v83), .val (.int v92)]) rfl k) ?_
    show OutW _ _ _ _ _ _ _ (T91.setTop (mkF m 205 #[.val (.int p1), .val (.int p2), .val (.int p3), .val (.int p4), .val (.int (2 : Int32)), .val (.ref b66), .val (.ref b69), .val (.int (0 : Int32)), .val (.int (1 : Int32)), .val (.int v74), .val (.int v83), .val (.int v92)] []))
    have pr93 := own_pos2 p2 p3 p4 v83 pr84.2.1 pr84.2.2
    rw [hv_v92] at pr93
    rw [pr93.1] at F_position_b69
    refine OutW.back (fun t k => XS.iload X91.here hx rfl (hb hby at_205) rfl  k) ?_
    show OutW _ _ _ _ _ _ _ (T91.setTop (mkF m 207 #[.val (.int p1), .val (.int p2), .val (.int p3), .val (.int p4), .val (.int (2 : Int32)), .val (.ref b66), .val (.ref b69), .val (.int (0 : Int32)), .val (.int (1 : Int32)), .val (.int v74), .val (.int v83), .val (.int v92)] [(.int (1 : Int32))]))
    refine OutW.back (fun t k => XS.ifNo X91.here hx rfl (hb hby at_207) rfl ((if0 _ _).trans (feq (by decide : ¬ ((1 : Int32) = (0 : Int32)))).1) k) ?_
    show OutW _ _ _ _ _ _ _ (T91.setTop (mkF m 210 #[.val (.int p1), .val (.int p2), .val (.int p3), .val (.int p4), .val (.int (2 : Int32)), .val (.ref b66), .val (.ref b69), .val (.int (0 : Int32)), .val (.int (1 : Int32)), .val (.int v74), .val (.int v83), .val (.int v92)] []))
    refine OutW.back (fun t k => XS.aload X91.here hx rfl (hb hby at_210) rfl rfl  k) ?_
    show OutW _ _ _ _ _ _ _ (T91.setTop (mkF m 212 #[.val (.int p1), .val (.int p2), .val (.int p3), .val (.int p4), .val (.int (2 : Int32)), .val (.ref b66), .val (.ref b69), .val (.int (0 : Int32)), .val (.int (1 : Int32)), .val (.int v74), .val (.int v83), .val (.int v92)] [(.ref b69)]))
    obtain ⟨cq94, kq94, qa94, qb94, qc94⟩ := isOf hZ e91 E_b69
    obtain ⟨_, _, ⟨T94, L94, k94, n94⟩, -, X94, ⟨Lc94, hQ94, l94, y94, z94⟩, st94⟩ := X91.virtualBack hx (y := (⟨"com/example/fulltext_workbench/fulltextworkbench/index/VarintReader", "atEnd", "()Z"⟩ : MethodName)) (z := (⟨"com/example/fulltext_workbench/fulltextworkbench/index/VarintReader", "atEnd", "()Z"⟩ : MethodName)) hown (mvT hZ (hw _ (List.mem_of_getElem? (i := 12) rfl))) (mvT hZ (hw _ (List.mem_of_getElem? (i := 13) rfl))) (notFace_of_selects (args := #[]) (mvT hZ (hw _ (List.mem_of_getElem? (i := 15) rfl)))) (mvT hZ (hw _ (List.mem_of_getElem? (i := 15) rfl))) (mvT hZ (hw _ (List.mem_of_getElem? (i := 14) rfl))) (by decide) (backOf (W := 0) (rm3 l Z a0 hw [] b69 b66 v92 (2 : Int32) [(.int (nar .byte p2.toInt8.toInt32)), (.int (nar .byte p3.toInt8.toInt32))] k66 h90 n0 Z90 F_bytes_b69 F_position_b69 V_b66_68) hZ (hw _ (List.mem_of_getElem? (i := 16) rfl)) (hw _ (List.mem_of_getElem? (i := 3) rfl)) (by decide) (by decide)) qa94 qc94 (g := (mkF m 212 #[.val (.int p1), .val (.int p2), .val (.int p3), .val (.int p4), .val (.int (2 : Int32)), .val (.ref b66), .val (.ref b69), .val (.int (0 : Int32)), .val (.int (1 : Int32)), .val (.int v74), .val (.int v83), .val (.int v92)] [(.ref b69)])) rfl (by rw [hml]; rfl) (Steps.refl _) (argsL := []) (rest := []) (lenOf pd_3 rfl) rfl (by show 2 * 0 + _ ≤ _; exact Nat.le_of_eq rfl) (hb hby at_212) (fun _ _ => ⟨rfl, e91, (by decide : 2 + 0 ≤ _), (by decide : 4 + 0 ≤ _)⟩)
    dsimp only [Pt.U, Pt.locs, Pt.cells, Pt.slots] at X94 l94 y94 z94 st94 hQ94
    subst l94 y94 z94
    obtain ⟨rfl, Nq94, e94⟩ := hQ94
    have N94 := Fr.app N91 Nq94
    refine OutW.via st94 ?_
    show OutW _ _ _ _ _ _ _ (T94.setTop (mkF m 215 #[.val (.int p1), .val (.int p2), .val (.int p3), .val (.int p4), .val (.int (2 : Int32)), .val (.ref b66), .val (.ref b69), .val (.int (0 : Int32)), .val (.int (1 : Int32)), .val (.int v74), .val (.int v83), .val (.int v92)] [(.int (atE v92 (2 : Int32)))]))
    refine OutW.back (fun t k => XS.iload X94.here hx rfl (hb hby at_215) rfl  k) ?_
    show OutW _ _ _ _ _ _ _ (T94.setTop (mkF m 217 #[.val (.int p1), .val (.int p2), .val (.int p3), .val (.int p4), .val (.int (2 : Int32)), .val (.ref b66), .val (.ref b69), .val (.int (0 : Int32)), .val (.int (1 : Int32)), .val (.int v74), .val (.int v83), .val (.int v92)] [(.int v92), (.int (atE v92 (2 : Int32)))]))
    refine OutW.back (fun t k => XS.iload X94.here hx rfl (hb hby at_217) rfl  k) ?_
    show OutW _ _ _ _ _ _ _ (T94.setTop (mkF m 219 #[.val (.int p1), .val (.int p2), .val (.int p3), .val (.int p4), .val (.int (2 : Int32)), .val (.ref b66), .val (.ref b69), .val (.int (0 : Int32)), .val (.int (1 : Int32)), .val (.int v74), .val (.int v83), .val (.int v92)] [(.int (2 : Int32)), (.int v92), (.int (atE v92 (2 : Int32)))]))
    obtain ⟨v96, hv_v96⟩ : ∃ z : Int32, z = (if v92 = (2 : Int32) then (1 : Int32) else (0 : Int32)) := ⟨_, rfl⟩
    have j97 : ∀ t, Steps p.tables e below (T94.setTop (mkF m 227 #[.val (.int p1), .val (.int p2), .val (.int p3), .val (.int p4), .val (.int (2 : Int32)), .val (.ref b66), .val (.ref b69), .val (.int (0 : Int32)), .val (.int (1 : Int32)), .val (.int v74), .val (.int v83), .val (.int v92)] [(.int v96), (.int (atE v92 (2 : Int32)))])) t → Steps p.tables e below (T94.setTop (mkF m 219 #[.val (.int p1), .val (.int p2), .val (.int p3), .val (.int p4), .val (.int (2 : Int32)), .val (.ref b66), .val (.ref b69), .val (.int (0 : Int32)), .val (.int (1 : Int32)), .val (.int v74), .val (.int v83), .val (.int v92)] [(.int (2 : Int32)), (.int v92), (.int (atE v92 (2 : Int32)))])) t := by
      intro t k
      by_cases c219_98 : v92 = (2 : Int32)
      · skip
        refine XS.icmpNo X94.here hx rfl (hb hby at_219) rfl (teq c219_98).2 ?_
        show Steps p.tables e below (T94.setTop (mkF m 222 #[.val (.int p1), .val (.int p2), .val (.int p3), .val (.int p4), .val (.int (2 : Int32)), .val (.ref b66), .val (.ref b69), .val (.int (0 : Int32)), .val (.int (1 : Int32)), .val (.int v74), .val (.int v83), .val (.int v92)] [(.int (atE v92 (2 : Int32)))])) t
        refine XS.iconst X94.here hx rfl (hb hby at_222) ?_
        show Steps p.tables e below (T94.setTop (mkF m 223 #[.val (.int p1), .val (.int p2), .val (.int p3), .val (.int p4), .val (.int (2 : Int32)), .val (.ref b66), .val (.ref b69), .val (.int (0 : Int32)), .val (.int (1 : Int32)), .val (.int v74), .val (.int v83), .val (.int v92)] [(.int (1 : Int32)), (.int (atE v92 (2 : Int32)))])) t
        refine XS.goto X94.here hx rfl (pc0 := 223) (pc' := 227) rfl (hb hby at_223) (by decide) (by decide) ?_
        show Steps p.tables e below (T94.setTop (mkF m 227 #[.val (.int p1), .val (.int p2), .val (.int p3), .val (.int p4), .val (.int (2 : Int32)), .val (.ref b66), .val (.ref b69), .val (.int (0 : Int32)), .val (.int (1 : Int32)), .val (.int v74), .val (.int v83), .val (.int v92)] [(.int (1 : Int32)), (.int (atE v92 (2 : Int32)))])) t
        have q_v96 : v96 = (1 : Int32) := by rw [hv_v96, if_pos c219_98]
        rw [q_v96] at k
        exact k
      · skip
        refine XS.icmpYes X94.here hx rfl (pc0 := 219) (pc' := 226) rfl (hb hby at_219) rfl (feq c219_98).2 (by decide) (by decide) ?_
        show Steps p.tables e below (T94.setTop (mkF m 226 #[.val (.int p1), .val (.int p2), .val (.int p3), .val (.int p4), .val (.int (2 : Int32)), .val (.ref b66), .val (.ref b69), .val (.int (0 : Int32)), .val (.int (1 : Int32)), .val (.int v74), .val (.int v83), .val (.int v92)] [(.int (atE v92 (2 : Int32)))])) t
        refine XS.iconst X94.here hx rfl (hb hby at_226) ?_
        show Steps p.tables e below (T94.setTop (mkF m 227 #[.val (.int p1), .val (.int p2), .val (.int p3), .val (.int p4), .val (.int (2 : Int32)), .val (.ref b66), .val (.ref b69), .val (.int (0 : Int32)), .val (.int (1 : Int32)), .val (.int v74), .val (.int v83), .val (.int v92)] [(.int (0 : Int32)), (.int (atE v92 (2 : Int32)))])) t
        have q_v96 : v96 = (0 : Int32) := by rw [hv_v96, if_neg c219_98]
        rw [q_v96] at k
        exact k
    refine OutW.back j97 ?_
    show OutW _ _ _ _ _ _ _ (T94.setTop (mkF m 227 #[.val (.int p1), .val (.int p2), .val (.int p3), .val (.int p4), .val (.int (2 : Int32)), .val (.ref b66), .val (.ref b69), .val (.int (0 : Int32)), .val (.int (1 : Int32)), .val (.int v74), .val (.int v83), .val (.int v92)] [(.int v96), (.int (atE v92 (2 : Int32)))]))
    refine OutW.back (fun t k => XS.icmpNo X94.here hx rfl (hb hby at_227) rfl (teq (by rw [hv_v96]; rfl)).2 k) ?_
    show OutW _ _ _ _ _ _ _ (T94.setTop (mkF m 230 #[.val (.int p1), .val (.int p2), .val (.int p3), .val (.int p4), .val (.int (2 : Int32)), .val (.ref b66), .val (.ref b69), .val (.int (0 : Int32)), .val (.int (1 : Int32)), .val (.int v74), .val (.int v83), .val (.int v92)] []))
    refine OutW.back (fun t k => XS.iconst X94.here hx rfl (hb hby at_230) k) ?_
    show OutW _ _ _ _ _ _ _ (T94.setTop (mkF m 231 #[.val (.int p1), .val (.int p2), .val (.int p3), .val (.int p4), .val (.int (2 : Int32)), .val (.ref b66), .val (.ref b69), .val (.int (0 : Int32)), .val (.int (1 : Int32)), .val (.int v74), .val (.int v83), .val (.int v92)] [(.int (1 : Int32))]))
    refine OutW.back (fun t k => XS.goto X94.here hx rfl (pc0 := 231) (pc' := 235) rfl (hb hby at_231) (by decide) (by decide) k) ?_
    show OutW _ _ _ _ _ _ _ (T94.setTop (mkF m 235 #[.val (.int p1), .val (.int p2), .val (.int p3), .val (.int p4), .val (.int (2 : Int32)), .val (.ref b66), .val (.ref b69), .val (.int (0 : Int32)), .val (.int (1 : Int32)), .val (.int v74), .val (.int v83), .val (.int v92)] [(.int (1 : Int32))]))
    refine OutW.back (fun t k => XS.istore X94.here hx rfl (hb hby at_235) rfl (l' := #[.val (.int p1), .val (.int p2), .val (.int p3), .val (.int p4), .val (.int (2 : Int32)), .val (.ref b66), .val (.ref b69), .val (.int (0 : Int32)), .val (.int (1 : Int32)), .val (.int v74), .val (.int v83), .val (.int v92)]) rfl k) ?_
    show OutW _ _ _ _ _ _ _ (T94.setTop (mkF m 237 #[.val (.int p1), .val (.int p2), .val (.int p3), .val (.int p4), .val (.int (2 : Int32)), .val (.ref b66), .val (.ref b69), .val (.int (0 : Int32)), .val (.int (1 : Int32)), .val (.int v74), .val (.int v83), .val (.int v92)] []))
    refine OutW.back (fun t k => XS.iload X94.here hx rfl (hb hby at_237) rfl  k) ?_
    show OutW _ _ _ _ _ _ _ (T94.setTop (mkF m 239 #[.val (.int p1), .val (.int p2), .val (.int p3), .val (.int p4), .val (.int (2 : Int32)), .val (.ref b66), .val (.ref b69), .val (.int (0 : Int32)), .val (.int (1 : Int32)), .val (.int v74), .val (.int v83), .val (.int v92)] [(.int (1 : Int32))]))
    refine OutW.retN X94 hx (t := .boolean) (z' := 1) Bd.returns (by simp) hlk (hb hby at_239) ?hz (by decide) (by decide) ?_
    case hz =>
      rfl
    show Q0 Z p1 p2 p3 p4 h0 n0 _ T94.heap _
    rw [e94]
    exact ⟨rfl, N94⟩
  · skip
    show OutW _ _ _ _ _ _ _ (s₁.setTop (mkF m 5 #[.val (.int p1), .val (.int p2), .val (.int p3), .val (.int p4), .val (.int (3 : Int32)), .unset, .unset, .unset, .unset, .unset, .unset, .unset] []))
    refine OutW.back (fun t k => XS.iload X0.here hx rfl (hb hby at_5) rfl  k) ?_
    show OutW _ _ _ _ _ _ _ (s₁.setTop (mkF m 7 #[.val (.int p1), .val (.int p2), .val (.int p3), .val (.int p4), .val (.int (3 : Int32)), .unset, .unset, .unset, .unset, .unset, .unset, .unset] [(.int (3 : Int32))]))
    obtain ⟨T99, h99, k99, X99, e99, E99, A99, st99⟩ := newP X0 hx hZ (hw _ (List.mem_of_getElem? (i := 0) rfl)) e0 (g := (mkF m 7 #[.val (.int p1), .val (.int p2), .val (.int p3), .val (.int p4), .val (.int (3 : Int32)), .unset, .unset, .unset, .unset, .unset, .unset, .unset] [(.int (3 : Int32))])) rfl (hb hby at_7) rfl (by decide) (cap := 3) (by decide) (by decide) (by decide) (by decide)
    obtain ⟨b99, g99⟩ : ∃ z, z = h0.size := ⟨_, rfl⟩
    rw [← g99] at A99 st99
    have g_b99 : n0 ≤ b99 := Nat.le_trans Z0 (Nat.le_of_eq g99.symm)
    have sz_b99 : h0.size ≤ b99 := Nat.le_trans K0.1 (Nat.le_of_eq g99.symm)
    have Z99 : n0 ≤ h99.size := Nat.le_trans Z0 E99.1
    have K99 := K0.ext E99
    have V_b99 : Arv Z h99 b99 k99 .byte (3 : Int32) [(.int (0 : Int32)), (.int (0 : Int32)), (.int (0 : Int32))] (.int (0 : Int32)) := (Arv.new A99 (by decide)).pad (pad_rep [] (.int (0 : Int32)) 3)
    refine OutW.back st99 ?_
    show OutW _ _ _ _ _ _ _ (T99.setTop (mkF m 9 #[.val (.int p1), .val (.int p2), .val (.int p3), .val (.int p4), .val (.int (3 : Int32)), .unset, .unset, .unset, .unset, .unset, .unset, .unset] [(.ref b99)]))
    refine OutW.back (fun t k => XS.astore X99.here hx rfl (hb hby at_9) rfl rfl (l' := #[.val (.int p1), .val (.int p2), .val (.int p3), .val (.int p4), .val (.int (3 : Int32)), .val (.ref b99), .unset, .unset, .unset, .unset, .unset, .unset]) rfl k) ?_
    show OutW _ _ _ _ _ _ _ (T99.setTop (mkF m 11 #[.val (.int p1), .val (.int p2), .val (.int p3), .val (.int p4), .val (.int (3 : Int32)), .val (.ref b99), .unset, .unset, .unset, .unset, .unset, .unset] []))
    refine OutW.back (fun t k => XS.iload X99.here hx rfl (hb hby at_11) rfl  k) ?_
    show OutW _ _ _ _ _ _ _ (T99.setTop (mkF m 13 #[.val (.int p1), .val (.int p2), .val (.int p3), .val (.int p4), .val (.int (3 : Int32)), .val (.ref b99), .unset, .unset, .unset, .unset, .unset, .unset] [(.int (3 : Int32))]))
    refine OutW.back (fun t k => XS.ifNo X99.here hx rfl (hb hby at_13) rfl ((if0 _ _).trans (tlt (by decide : (0 : Int32) < (3 : Int32))).2.2.2) k) ?_
    show OutW _ _ _ _ _ _ _ (T99.setTop (mkF m 16 #[.val (.int p1), .val (.int p2), .val (.int p3), .val (.int p4), .val (.int (3 : Int32)), .val (.ref b99), .unset, .unset, .unset, .unset, .unset, .unset] []))
    refine OutW.back (fun t k => XS.aload X99.here hx rfl (hb hby at_16) rfl rfl  k) ?_
    show OutW _ _ _ _ _ _ _ (T99.setTop (mkF m 18 #[.val (.int p1), .val (.int p2), .val (.int p3), .val (.int p4), .val (.int (3 : Int32)), .val (.ref b99), .unset, .unset, .unset, .unset, .unset, .unset] [(.ref b99)]))
    refine OutW.back (fun t k => XS.iconst X99.here hx rfl (hb hby at_18) k) ?_
    show OutW _ _ _ _ _ _ _ (T99.setTop (mkF m 19 #[.val (.int p1), .val (.int p2), .val (.int p3), .val (.int p4), .val (.int (3 : Int32)), .val (.ref b99), .unset, .unset, .unset, .unset, .unset, .unset] [(.int (0 : Int32)), (.ref b99)]))
    refine OutW.back (fun t k => XS.iloadN X99.here hx rfl (hb hby at_19) rfl  k) ?_
    show OutW _ _ _ _ _ _ _ (T99.setTop (mkF m 20 #[.val (.int p1), .val (.int p2), .val (.int p3), .val (.int p4), .val (.int (3 : Int32)), .val (.ref b99), .unset, .unset, .unset, .unset, .unset, .unset] [(.int p2), (.int (0 : Int32)), (.ref b99)]))
    refine OutW.back (fun t k => XS.i2b X99.here hx rfl (hb hby at_20) rfl k) ?_
    show OutW _ _ _ _ _ _ _ (T99.setTop (mkF m 21 #[.val (.int p1), .val (.int p2), .val (.int p3), .val (.int p4), .val (.int (3 : Int32)), .val (.ref b99), .unset, .unset, .unset, .unset, .unset, .unset] [(.int p2.toInt8.toInt32), (.int (0 : Int32)), (.ref b99)]))
    obtain ⟨cl100, Ar100, Qk100, Sz100, Nn100, Hh100, Gg100⟩ := id V_b99
    have hin100 : ¬ ((0 : Int32) < 0 ∨ cl100.slots.size ≤ ((0 : Int32)).toNatClampNeg) := inb_of Sz100 ⟨by decide, by decide⟩
    obtain ⟨T100, h100, X100, e100, W100, st100⟩ := stB X99 hx hZ e99 Ar100 (j := (0 : Int32)) hin100 (g := (mkF m 21 #[.val (.int p1), .val (.int p2), .val (.int p3), .val (.int p4), .val (.int (3 : Int32)), .val (.ref b99), .unset, .unset, .unset, .unset, .unset, .unset] [(.int p2.toInt8.toInt32), (.int (0 : Int32)), (.ref b99)])) rfl rfl (hb hby at_21)
    have V_b99_100 : Arv Z h100 b99 k99 .byte (3 : Int32) [(.int (nar .byte p2.toInt8.toInt32)), (.int (0 : Int32)), (.int (0 : Int32))] (.int (0 : Int32)) := Arv.set Ar100 Qk100 Sz100 Nn100 Hh100 Gg100 (fits_nar_byte _) W100 0 rfl (Nat.le_of_ble_eq_true rfl)
    have N100 := Fr.snoc X100 N0 g_b99
    have Z100 : n0 ≤ h100.size := Nat.le_trans Z99 (Keep.of_wr W100).1
    have K100 := K99.wr W100 (Or.inr sz_b99)
    refine OutW.back st100 ?_
    show OutW _ _ _ _ _ _ _ (T100.setTop (mkF m 22 #[.val (.int p1), .val (.int p2), .val (.int p3), .val (.int p4), .val (.int (3 : Int32)), .val (.ref b99), .unset, .unset, .unset, .unset, .unset, .unset] []))
    refine OutW.back (fun t k => XS.iload X100.here hx rfl (hb hby at_22) rfl  k) ?_
    show OutW _ _ _ _ _ _ _ (T100.setTop (mkF m 24 #[.val (.int p1), .val (.int p2), .val (.int p3), .val (.int p4), .val (.int (3 : Int32)), .val (.ref b99), .unset, .unset, .unset, .unset, .unset, .unset] [(.int (3 : Int32))]))
    refine OutW.back (fun t k => XS.iconst X100.here hx rfl (hb hby at_24) k) ?_
    show OutW _ _ _ _ _ _ _ (T100.setTop (mkF m 25 #[.val (.int p1), .val (.int p2), .val (.int p3), .val (.int p4), .val (.int (3 : Int32)), .val (.ref b99), .unset, .unset, .unset, .unset, .unset, .unset] [(.int (1 : Int32)), (.int (3 : Int32))]))
    refine OutW.back (fun t k => XS.icmpNo X100.here hx rfl (hb hby at_25) rfl (tlt (by decide : (1 : Int32) < (3 : Int32))).2.2.2 k) ?_
    show OutW _ _ _ _ _ _ _ (T100.setTop (mkF m 28 #[.val (.int p1), .val (.int p2), .val (.int p3), .val (.int p4), .val (.int (3 : Int32)), .val (.ref b99), .unset, .unset, .unset, .unset, .unset, .unset] []))
    refine OutW.back (fun t k => XS.aload X100.here hx rfl (hb hby at_28) rfl rfl  k) ?_
    show OutW _ _ _ _ _ _ _ (T100.setTop (mkF m 30 #[.val (.int p1), .val (.int p2), .val (.int p3), .val (.int p4), .val (.int (3 : Int32)), .val (.ref b99), .unset, .unset, .unset, .unset, .unset, .unset] [(.ref b99)]))
    refine OutW.back (fun t k => XS.iconst X100.here hx rfl (hb hby at_30) k) ?_
    show OutW _ _ _ _ _ _ _ (T100.setTop (mkF m 31 #[.val (.int p1), .val (.int p2), .val (.int p3), .val (.int p4), .val (.int (3 : Int32)), .val (.ref b99), .unset, .unset, .unset, .unset, .unset, .unset] [(.int (1 : Int32)), (.ref b99)]))
    refine OutW.back (fun t k => XS.iloadN X100.here hx rfl (hb hby at_31) rfl  k) ?_
    show OutW _ _ _ _ _ _ _ (T100.setTop (mkF m 32 #[.val (.int p1), .val (.int p2), .val (.int p3), .val (.int p4), .val (.int (3 : Int32)), .val (.ref b99), .unset, .unset, .unset, .unset, .unset, .unset] [(.int p3), (.int (1 : Int32)), (.ref b99)]))
    refine OutW.back (fun t k => XS.i2b X100.here hx rfl (hb hby at_32) rfl k) ?_
    show OutW _ _ _ _ _ _ _ (T100.setTop (mkF m 33 #[.val (.int p1), .val (.int p2), .val (.int p3), .val (.int p4), .val (.int (3 : Int32)), .val (.ref b99), .unset, .unset, .unset, .unset, .unset, .unset] [(.int p3.toInt8.toInt32), (.int (1 : Int32)), (.ref b99)]))
    obtain ⟨cl101, Ar101, Qk101, Sz101, Nn101, Hh101, Gg101⟩ := id V_b99_100
    have hin101 : ¬ ((1 : Int32) < 0 ∨ cl101.slots.size ≤ ((1 : Int32)).toNatClampNeg) := inb_of Sz101 ⟨by decide, by decide⟩
    obtain ⟨T101, h101, X101, e101, W101, st101⟩ := stB X100 hx hZ e100 Ar101 (j := (1 : Int32)) hin101 (g := (mkF m 33 #[.val (.int p1), .val (.int p2), .val (.int p3), .val (.int p4), .val (.int (3 : Int32)), .val (.ref b99), .unset, .unset, .unset, .unset, .unset, .unset] [(.int p3.toInt8.toInt32), (.int (1 : Int32)), (.ref b99)])) rfl rfl (hb hby at_33)
    have V_b99_101 : Arv Z h101 b99 k99 .byte (3 : Int32) [(.int (nar .byte p2.toInt8.toInt32)), (.int (nar .byte p3.toInt8.toInt32)), (.int (0 : Int32))] (.int (0 : Int32)) := Arv.set Ar101 Qk101 Sz101 Nn101 Hh101 Gg101 (fits_nar_byte _) W101 1 rfl (Nat.le_of_ble_eq_true rfl)
    have N101 := Fr.snoc X101 N100 g_b99
    have Z101 : n0 ≤ h101.size := Nat.le_trans Z100 (Keep.of_wr W101).1
    have K101 := K100.wr W101 (Or.inr sz_b99)
    refine OutW.back st101 ?_
    show OutW _ _ _ _ _ _ _ (T101.setTop (mkF m 34 #[.val (.int p1), .val (.int p2), .val (.int p3), .val (.int p4), .val (.int (3 : Int32)), .val (.ref b99), .unset, .unset, .unset, .unset, .unset, .unset] []))
    refine OutW.back (fun t k => XS.iload X101.here hx rfl (hb hby at_34) rfl  k) ?_
    show OutW _ _ _ _ _ _ _ (T101.setTop (mkF m 36 #[.val (.int p1), .val (.int p2), .val (.int p3), .val (.int p4), .val (.int (3 : Int32)), .val (.ref b99), .unset, .unset, .unset, .unset, .unset, .unset] [(.int (3 : Int32))]))
    refine OutW.back (fun t k => XS.iconst X101.here hx rfl (hb hby at_36) k) ?_
    show OutW _ _ _ _ _ _ _ (T101.setTop (mkF m 37 #[.val (.int p1), .val (.int p2), .val (.int p3), .val (.int p4), .val (.int (3 : Int32)), .val (.ref b99), .unset, .unset, .unset, .unset, .unset, .unset] [(.int (2 : Int32)), (.int (3 : Int32))]))
    refine OutW.back (fun t k => XS.icmpNo X101.here hx rfl (hb hby at_37) rfl (tlt (by decide : (2 : Int32) < (3 : Int32))).2.2.2 k) ?_
    show OutW _ _ _ _ _ _ _ (T101.setTop (mkF m 40 #[.val (.int p1), .val (.int p2), .val (.int p3), .val (.int p4), .val (.int (3 : Int32)), .val (.ref b99), .unset, .unset, .unset, .unset, .unset, .unset] []))
    refine OutW.back (fun t k => XS.aload X101.here hx rfl (hb hby at_40) rfl rfl  k) ?_
    show OutW _ _ _ _ _ _ _ (T101.setTop (mkF m 42 #[.val (.int p1), .val (.int p2), .val (.int p3), .val (.int p4), .val (.int (3 : Int32)), .val (.ref b99), .unset, .unset, .unset, .unset, .unset, .unset] [(.ref b99)]))
    refine OutW.back (fun t k => XS.iconst X101.here hx rfl (hb hby at_42) k) ?_
    show OutW _ _ _ _ _ _ _ (T101.setTop (mkF m 43 #[.val (.int p1), .val (.int p2), .val (.int p3), .val (.int p4), .val (.int (3 : Int32)), .val (.ref b99), .unset, .unset, .unset, .unset, .unset, .unset] [(.int (2 : Int32)), (.ref b99)]))
    refine OutW.back (fun t k => XS.iloadN X101.here hx rfl (hb hby at_43) rfl  k) ?_
    show OutW _ _ _ _ _ _ _ (T101.setTop (mkF m 44 #[.val (.int p1), .val (.int p2), .val (.int p3), .val (.int p4), .val (.int (3 : Int32)), .val (.ref b99), .unset, .unset, .unset, .unset, .unset, .unset] [(.int p4), (.int (2 : Int32)), (.ref b99)]))
    refine OutW.back (fun t k => XS.i2b X101.here hx rfl (hb hby at_44) rfl k) ?_
    show OutW _ _ _ _ _ _ _ (T101.setTop (mkF m 45 #[.val (.int p1), .val (.int p2), .val (.int p3), .val (.int p4), .val (.int (3 : Int32)), .val (.ref b99), .unset, .unset, .unset, .unset, .unset, .unset] [(.int p4.toInt8.toInt32), (.int (2 : Int32)), (.ref b99)]))
    obtain ⟨cl102, Ar102, Qk102, Sz102, Nn102, Hh102, Gg102⟩ := id V_b99_101
    have hin102 : ¬ ((2 : Int32) < 0 ∨ cl102.slots.size ≤ ((2 : Int32)).toNatClampNeg) := inb_of Sz102 ⟨by decide, by decide⟩
    obtain ⟨T102, h102, X102, e102, W102, st102⟩ := stB X101 hx hZ e101 Ar102 (j := (2 : Int32)) hin102 (g := (mkF m 45 #[.val (.int p1), .val (.int p2), .val (.int p3), .val (.int p4), .val (.int (3 : Int32)), .val (.ref b99), .unset, .unset, .unset, .unset, .unset, .unset] [(.int p4.toInt8.toInt32), (.int (2 : Int32)), (.ref b99)])) rfl rfl (hb hby at_45)
    have V_b99_102 : Arv Z h102 b99 k99 .byte (3 : Int32) [(.int (nar .byte p2.toInt8.toInt32)), (.int (nar .byte p3.toInt8.toInt32)), (.int (nar .byte p4.toInt8.toInt32))] (.int (0 : Int32)) := Arv.set Ar102 Qk102 Sz102 Nn102 Hh102 Gg102 (fits_nar_byte _) W102 2 rfl (Nat.le_of_ble_eq_true rfl)
    have N102 := Fr.snoc X102 N101 g_b99
    have Z102 : n0 ≤ h102.size := Nat.le_trans Z101 (Keep.of_wr W102).1
    have K102 := K101.wr W102 (Or.inr sz_b99)
    refine OutW.back st102 ?_
    show OutW _ _ _ _ _ _ _ (T102.setTop (mkF m 46 #[.val (.int p1), .val (.int p2), .val (.int p3), .val (.int p4), .val (.int (3 : Int32)), .val (.ref b99), .unset, .unset, .unset, .unset, .unset, .unset] []))
    obtain ⟨T103, h103, X103, e103, E103, A103, D103, -, st103⟩ := newO X102 hx hZ hown (hw _ (List.mem_of_getElem? (i := 1) rfl)) (hw _ (List.mem_of_getElem? (i := 2) rfl)) (hw _ (List.mem_of_getElem? (i := 3) rfl)) e102 (g := (mkF m 46 #[.val (.int p1), .val (.int p2), .val (.int p3), .val (.int p4), .val (.int (3 : Int32)), .val (.ref b99), .unset, .unset, .unset, .unset, .unset, .unset] [])) rfl (hb hby at_46) (by decide) (by decide)
    obtain ⟨b103, g103⟩ : ∃ z, z = h102.size := ⟨_, rfl⟩
    rw [← g103] at A103 D103 st103
    have ne_b99_b103 : b99 ≠ b103 := Nat.ne_of_lt (Nat.lt_of_lt_of_le V_b99_102.lt (Nat.le_of_eq g103.symm))
    have g_b103 : n0 ≤ b103 := Nat.le_trans Z102 (Nat.le_of_eq g103.symm)
    have sz_b103 : h0.size ≤ b103 := Nat.le_trans K102.1 (Nat.le_of_eq g103.symm)
    have V_b99_102 := V_b99_102.ext E103
    have Z103 : n0 ≤ h103.size := Nat.le_trans Z102 E103.1
    have K103 := K102.ext E103
    have E_b103 := A103
    have F_bytes_b103 : Fld Z h103 b103 "com/example/fulltext_workbench/fulltextworkbench/index/VarintReader" "bytes" "[B" .null := D103 (Or.inr (hw _ (List.mem_of_getElem? (i := 11) rfl))) (ty := (.array .byte)) (by decide)
    have F_position_b103 : Fld Z h103 b103 "com/example/fulltext_workbench/fulltextworkbench/index/VarintReader" "position" "I" (.int (0 : Int32)) := D103 (Or.inl (hw _ (List.mem_of_getElem? (i := 18) rfl))) (ty := .int) (by decide)
    refine OutW.back st103 ?_
    show OutW _ _ _ _ _ _ _ (T103.setTop (mkF m 49 #[.val (.int p1), .val (.int p2), .val (.int p3), .val (.int p4), .val (.int (3 : Int32)), .val (.ref b99), .unset, .unset, .unset, .unset, .unset, .unset] [(.ref b103)]))
    refine OutW.back (fun t k => XS.dup X103.here hx rfl (hb hby at_49) rfl rfl k) ?_
    show OutW _ _ _ _ _ _ _ (T103.setTop (mkF m 50 #[.val (.int p1), .val (.int p2), .val (.int p3), .val (.int p4), .val (.int (3 : Int32)), .val (.ref b99), .unset, .unset, .unset, .unset, .unset, .unset] [(.ref b103), (.ref b103)]))
    refine OutW.back (fun t k => XS.aload X103.here hx rfl (hb hby at_50) rfl rfl  k) ?_
    show OutW _ _ _ _ _ _ _ (T103.setTop (mkF m 52 #[.val (.int p1), .val (.int p2), .val (.int p3), .val (.int p4), .val (.int (3 : Int32)), .val (.ref b99), .unset, .unset, .unset, .unset, .unset, .unset] [(.ref b99), (.ref b103), (.ref b103)]))
    obtain ⟨_, _, ⟨T104, L104, k104, n104⟩, -, X104, ⟨Lc104, hQ104, l104, y104, z104⟩, st104⟩ := X103.specialBack hx (y := (⟨"com/example/fulltext_workbench/fulltextworkbench/index/VarintReader", "<init>", "([B)V"⟩ : MethodName)) rfl hown (mvT hZ (hw _ (List.mem_of_getElem? (i := 4) rfl))) (mvT hZ (hw _ (List.mem_of_getElem? (i := 5) rfl))) (mvT hZ (hw _ (List.mem_of_getElem? (i := 6) rfl))) (by decide) (backOf (W := 1) (rm1 l Z a0 hw [] b103 b99 (0 : Int32) h103 n0 Z103 E_b103 g_b103 F_bytes_b103 F_position_b103) hZ (hw _ (List.mem_of_getElem? (i := 6) rfl)) (hw _ (List.mem_of_getElem? (i := 3) rfl)) (by decide) (by decide)) (g := (mkF m 52 #[.val (.int p1), .val (.int p2), .val (.int p3), .val (.int p4), .val (.int (3 : Int32)), .val (.ref b99), .unset, .unset, .unset, .unset, .unset, .unset] [(.ref b99), (.ref b103), (.ref b103)])) rfl (by rw [hml]; rfl) (Steps.refl _) (a := b103) (argsL := [(.ref b99)]) (rest := [(.ref b103)]) (lenOf pd_2 rfl) rfl (by show 2 * 0 + _ ≤ _; exact Nat.le_of_eq rfl) (hb hby at_52) (fun _ _ => ⟨rfl, e103, (by decide : 2 + 0 ≤ _), (by decide : 5 + 0 ≤ _)⟩)
    dsimp only [Pt.U, Pt.locs, Pt.cells, Pt.slots] at X104 l104 y104 z104 st104 hQ104
    subst l104 y104 z104
    obtain ⟨h104, eh104⟩ : ∃ z, z = T104.heap := ⟨_, rfl⟩
    rw [← eh104] at hQ104
    have e104 : T104.heap = h104 := eh104.symm
    obtain ⟨rfl, Nq104, Kq104, F_bytes_b103, F_position_b103⟩ := hQ104
    have V_b99_102 := V_b99_102.keep Kq104 (ninS ne_b99_b103 nin0)
    have E_b103 := E_b103.keep Kq104
    have Z104 : n0 ≤ h104.size := Nat.le_trans Z103 Kq104.1
    have K104 := K103.trans Kq104 (allS (Or.inr sz_b103) all0)
    have N104 := Fr.app N102 Nq104
    refine OutW.via st104 ?_
    show OutW _ _ _ _ _ _ _ (T104.setTop (mkF m 55 #[.val (.int p1), .val (.int p2), .val (.int p3), .val (.int p4), .val (.int (3 : Int32)), .val (.ref b99), .unset, .unset, .unset, .unset, .unset, .unset] [(.ref b103)]))
    refine OutW.back (fun t k => XS.astore X104.here hx rfl (hb hby at_55) rfl rfl (l' := #[.val (.int p1), .val (.int p2), .val (.int p3), .val (.int p4), .val (.int (3 : Int32)), .val (.ref b99), .val (.ref b103), .unset, .unset, .unset, .unset, .unset]) rfl k) ?_
    show OutW _ _ _ _ _ _ _ (T104.setTop (mkF m 57 #[.val (.int p1), .val (.int p2), .val (.int p3), .val (.int p4), .val (.int (3 : Int32)), .val (.ref b99), .val (.ref b103), .unset, .unset, .unset, .unset, .unset] []))
    refine OutW.back (fun t k => XS.iconst X104.here hx rfl (hb hby at_57) k) ?_
    show OutW _ _ _ _ _ _ _ (T104.setTop (mkF m 58 #[.val (.int p1), .val (.int p2), .val (.int p3), .val (.int p4), .val (.int (3 : Int32)), .val (.ref b99), .val (.ref b103), .unset, .unset, .unset, .unset, .unset] [(.int (0 : Int32))]))
    refine OutW.back (fun t k => XS.istore X104.here hx rfl (hb hby at_58) rfl (l' := #[.val (.int p1), .val (.int p2), .val (.int p3), .val (.int p4), .val (.int (3 : Int32)), .val (.ref b99), .val (.ref b103), .val (.int (0 : Int32)), .unset, .unset, .unset, .unset]) rfl k) ?_
    show OutW _ _ _ _ _ _ _ (T104.setTop (mkF m 60 #[.val (.int p1), .val (.int p2), .val (.int p3), .val (.int p4), .val (.int (3 : Int32)), .val (.ref b99), .val (.ref b103), .val (.int (0 : Int32)), .unset, .unset, .unset, .unset] []))
    refine OutW.back (fun t k => XS.aload X104.here hx rfl (hb hby at_60) rfl rfl  k) ?_
    show OutW _ _ _ _ _ _ _ (T104.setTop (mkF m 62 #[.val (.int p1), .val (.int p2), .val (.int p3), .val (.int p4), .val (.int (3 : Int32)), .val (.ref b99), .val (.ref b103), .val (.int (0 : Int32)), .unset, .unset, .unset, .unset] [(.ref b103)]))
    obtain ⟨cq105, kq105, qa105, qb105, qc105⟩ := isOf hZ e104 E_b103
    obtain ⟨_, _, ⟨T105, L105, k105, n105⟩, -, X105, ⟨Lc105, hQ105, l105, y105, z105⟩, st105⟩ := X104.virtualBack hx (y := (⟨"com/example/fulltext_workbench/fulltextworkbench/index/VarintReader", "atEnd", "()Z"⟩ : MethodName)) (z := (⟨"com/example/fulltext_workbench/fulltextworkbench/index/VarintReader", "atEnd", "()Z"⟩ : MethodName)) hown (mvT hZ (hw _ (List.mem_of_getElem? (i := 12) rfl))) (mvT hZ (hw _ (List.mem_of_getElem? (i := 13) rfl))) (notFace_of_selects (args := #[]) (mvT hZ (hw _ (List.mem_of_getElem? (i := 15) rfl)))) (mvT hZ (hw _ (List.mem_of_getElem? (i := 15) rfl))) (mvT hZ (hw _ (List.mem_of_getElem? (i := 14) rfl))) (by decide) (backOf (W := 0) (rm3 l Z a0 hw [] b103 b99 (0 : Int32) (3 : Int32) [(.int (nar .byte p2.toInt8.toInt32)), (.int (nar .byte p3.toInt8.toInt32)), (.int (nar .byte p4.toInt8.toInt32))] k99 h104 n0 Z104 F_bytes_b103 F_position_b103 V_b99_102) hZ (hw _ (List.mem_of_getElem? (i := 16) rfl)) (hw _ (List.mem_of_getElem? (i := 3) rfl)) (by decide) (by decide)) qa105 qc105 (g := (mkF m 62 #[.val (.int p1), .val (.int p2), .val (.int p3), .val (.int p4), .val (.int (3 : Int32)), .val (.ref b99), .val (.ref b103), .val (.int (0 : Int32)), .unset, .unset, .unset, .unset] [(.ref b103)])) rfl (by rw [hml]; rfl) (Steps.refl _) (argsL := []) (rest := []) (lenOf pd_3 rfl) rfl (by show 2 * 0 + _ ≤ _; exact Nat.le_of_eq rfl) (hb hby at_62) (fun _ _ => ⟨rfl, e104, (by decide : 2 + 0 ≤ _), (by decide : 5 + 0 ≤ _)⟩)
    dsimp only [Pt.U, Pt.locs, Pt.cells, Pt.slots] at X105 l105 y105 z105 st105 hQ105
    subst l105 y105 z105
    obtain ⟨rfl, Nq105, e105⟩ := hQ105
    have N105 := Fr.app N104 Nq105
    refine OutW.via st105 ?_
    show OutW _ _ _ _ _ _ _ (T105.setTop (mkF m 65 #[.val (.int p1), .val (.int p2), .val (.int p3), .val (.int p4), .val (.int (3 : Int32)), .val (.ref b99), .val (.ref b103), .val (.int (0 : Int32)), .unset, .unset, .unset, .unset] [(.int (atE (0 : Int32) (3 : Int32)))]))
    refine OutW.back (fun t k => XS.iload X105.here hx rfl (hb hby at_65) rfl  k) ?_
    show OutW _ _ _ _ _ _ _ (T105.setTop (mkF m 67 #[.val (.int p1), .val (.int p2), .val (.int p3), .val (.int p4), .val (.int (3 : Int32)), .val (.ref b99), .val (.ref b103), .val (.int (0 : Int32)), .unset, .unset, .unset, .unset] [(.int (0 : Int32)), (.int (atE (0 : Int32) (3 : Int32)))]))
    refine OutW.back (fun t k => XS.iload X105.here hx rfl (hb hby at_67) rfl  k) ?_
    show OutW _ _ _ _ _ _ _ (T105.setTop (mkF m 69 #[.val (.int p1), .val (.int p2), .val (.int p3), .val (.int p4), .val (.int (3 : Int32)), .val (.ref b99), .val (.ref b103), .val (.int (0 : Int32)), .unset, .unset, .unset, .unset] [(.int (3 : Int32)), (.int (0 : Int32)), (.int (atE (0 : Int32) (3 : Int32)))]))
    refine OutW.back (fun t k => XS.icmpYes X105.here hx rfl (pc0 := 69) (pc' := 76) rfl (hb hby at_69) rfl (feq (by decide : ¬ ((0 : Int32) = (3 : Int32)))).2 (by decide) (by decide) k) ?_
    show OutW _ _ _ _ _ _ _ (T105.setTop (mkF m 76 #[.val (.int p1), .val (.int p2), .val (.int p3), .val (.int p4), .val (.int (3 : Int32)), .val (.ref b99), .val (.ref b103), .val (.int (0 : Int32)), .unset, .unset, .unset, .unset] [(.int (atE (0 : Int32) (3 : Int32)))]))
    refine OutW.back (fun t k => XS.iconst X105.here hx rfl (hb hby at_76) k) ?_
    show OutW _ _ _ _ _ _ _ (T105.setTop (mkF m 77 #[.val (.int p1), .val (.int p2), .val (.int p3), .val (.int p4), .val (.int (3 : Int32)), .val (.ref b99), .val (.ref b103), .val (.int (0 : Int32)), .unset, .unset, .unset, .unset] [(.int (0 : Int32)), (.int (atE (0 : Int32) (3 : Int32)))]))
    refine OutW.back (fun t k => XS.icmpNo X105.here hx rfl (hb hby at_77) rfl (teq (by decide)).2 k) ?_
    show OutW _ _ _ _ _ _ _ (T105.setTop (mkF m 80 #[.val (.int p1), .val (.int p2), .val (.int p3), .val (.int p4), .val (.int (3 : Int32)), .val (.ref b99), .val (.ref b103), .val (.int (0 : Int32)), .unset, .unset, .unset, .unset] []))
    refine OutW.back (fun t k => XS.iconst X105.here hx rfl (hb hby at_80) k) ?_
    show OutW _ _ _ _ _ _ _ (T105.setTop (mkF m 81 #[.val (.int p1), .val (.int p2), .val (.int p3), .val (.int p4), .val (.int (3 : Int32)), .val (.ref b99), .val (.ref b103), .val (.int (0 : Int32)), .unset, .unset, .unset, .unset] [(.int (1 : Int32))]))
    refine OutW.back (fun t k => XS.goto X105.here hx rfl (pc0 := 81) (pc' := 85) rfl (hb hby at_81) (by decide) (by decide) k) ?_
    show OutW _ _ _ _ _ _ _ (T105.setTop (mkF m 85 #[.val (.int p1), .val (.int p2), .val (.int p3), .val (.int p4), .val (.int (3 : Int32)), .val (.ref b99), .val (.ref b103), .val (.int (0 : Int32)), .unset, .unset, .unset, .unset] [(.int (1 : Int32))]))
    refine OutW.back (fun t k => XS.istore X105.here hx rfl (hb hby at_85) rfl (l' := #[.val (.int p1), .val (.int p2), .val (.int p3), .val (.int p4), .val (.int (3 : Int32)), .val (.ref b99), .val (.ref b103), .val (.int (0 : Int32)), .val (.int (1 : Int32)), .unset, .unset, .unset]) rfl k) ?_
    show OutW _ _ _ _ _ _ _ (T105.setTop (mkF m 87 #[.val (.int p1), .val (.int p2), .val (.int p3), .val (.int p4), .val (.int (3 : Int32)), .val (.ref b99), .val (.ref b103), .val (.int (0 : Int32)), .val (.int (1 : Int32)), .unset, .unset, .unset] []))
    refine OutW.back (fun t k => XS.aload X105.here hx rfl (hb hby at_87) rfl rfl  k) ?_
    show OutW _ _ _ _ _ _ _ (T105.setTop (mkF m 89 #[.val (.int p1), .val (.int p2), .val (.int p3), .val (.int p4), .val (.int (3 : Int32)), .val (.ref b99), .val (.ref b103), .val (.int (0 : Int32)), .val (.int (1 : Int32)), .unset, .unset, .unset] [(.ref b103)]))
    obtain ⟨cq106, kq106, qa106, qb106, qc106⟩ := isOf hZ e105 E_b103
    obtain ⟨_, _, ⟨T106, L106, k106, n106⟩, -, X106, ⟨Lc106, hQ106, l106, y106, z106⟩, st106⟩ := X105.virtualBack hx (y := (⟨"com/example/fulltext_workbench/fulltextworkbench/index/VarintReader", "next", "()I"⟩ : MethodName)) (z := (⟨"com/example/fulltext_workbench/fulltextworkbench/index/VarintReader", "next", "()I"⟩ : MethodName)) hown (mvT hZ (hw _ (List.mem_of_getElem? (i := 19) rfl))) (mvT hZ (hw _ (List.mem_of_getElem? (i := 20) rfl))) (notFace_of_selects (args := #[]) (mvT hZ (hw _ (List.mem_of_getElem? (i := 22) rfl)))) (mvT hZ (hw _ (List.mem_of_getElem? (i := 22) rfl))) (mvT hZ (hw _ (List.mem_of_getElem? (i := 21) rfl))) (by decide) (backOf (W := 0) (rm4 l Z a0 hw [] b103 b99 (0 : Int32) (3 : Int32) [(.int (nar .byte p2.toInt8.toInt32)), (.int (nar .byte p3.toInt8.toInt32)), (.int (nar .byte p4.toInt8.toInt32))] k99 (Bn [(nar .byte p2.toInt8.toInt32), (nar .byte p3.toInt8.toInt32), (nar .byte p4.toInt8.toInt32)]) h104 n0 Z104 E_b103 g_b103 F_bytes_b103 F_position_b103 V_b99_102 ne_b99_b103 (fun j _ _ => own_getD [(nar .byte p2.toInt8.toInt32), (nar .byte p3.toInt8.toInt32), (nar .byte p4.toInt8.toInt32)] _ 0) (by decide)) hZ (hw _ (List.mem_of_getElem? (i := 23) rfl)) (hw _ (List.mem_of_getElem? (i := 3) rfl)) (by decide) (by decide)) qa106 qc106 (g := (mkF m 89 #[.val (.int p1), .val (.int p2), .val (.int p3), .val (.int p4), .val (.int (3 : Int32)), .val (.ref b99), .val (.ref b103), .val (.int (0 : Int32)), .val (.int (1 : Int32)), .unset, .unset, .unset] [(.ref b103)])) rfl (by rw [hml]; rfl) (Steps.refl _) (argsL := []) (rest := []) (lenOf pd_4 rfl) rfl (by show 2 * 0 + _ ≤ _; exact Nat.le_of_eq rfl) (hb hby at_89) (fun _ _ => ⟨rfl, e105, (by decide : 2 + 0 ≤ _), (by decide : 5 + 0 ≤ _)⟩)
    dsimp only [Pt.U, Pt.locs, Pt.cells, Pt.slots] at X106 l106 y106 z106 st106 hQ106
    subst l106 y106 z106
    obtain ⟨h106, eh106⟩ : ∃ z, z = T106.heap := ⟨_, rfl⟩
    rw [← eh106] at hQ106
    have e106 : T106.heap = h106 := eh106.symm
    obtain ⟨rfl, Nq106, Kq106, F_position_b103, F_bytes_b103⟩ := hQ106
    have V_b99_102 := V_b99_102.keep Kq106 (ninS ne_b99_b103 nin0)
    have E_b103 := E_b103.keep Kq106
    have Z106 : n0 ≤ h106.size := Nat.le_trans Z104 Kq106.1
    have K106 := K104.trans Kq106 (allS (Or.inr sz_b103) all0)
    have N106 := Fr.app N105 Nq106
    refine OutW.via st106 ?_
    show OutW _ _ _ _ _ _ _ (T106.setTop (mkF m 92 #[.val (.int p1), .val (.int p2), .val (.int p3), .val (.int p4), .val (.int (3 : Int32)), .val (.ref b99), .val (.ref b103), .val (.int (0 : Int32)), .val (.int (1 : Int32)), .unset, .unset, .unset] [(.int (nxt (Bn [(nar .byte p2.toInt8.toInt32), (nar .byte p3.toInt8.toInt32), (nar .byte p4.toInt8.toInt32)]) (3 : Int32) (0 : Int32)))]))
    refine OutW.back (fun t k => XS.pop X106.here hx rfl (hb hby at_92) rfl rfl k) ?_
    show OutW _ _ _ _ _ _ _ (T106.setTop (mkF m 93 #[.val (.int p1), .val (.int p2), .val (.int p3), .val (.int p4), .val (.int (3 : Int32)), .val (.ref b99), .val (.ref b103), .val (.int (0 : Int32)), .val (.int (1 : Int32)), .unset, .unset, .unset] []))
    refine OutW.back (fun t k => XS.iload X106.here hx rfl (hb hby at_93) rfl  k) ?_
    show OutW _ _ _ _ _ _ _ (T106.setTop (mkF m 95 #[.val (.int p1), .val (.int p2), .val (.int p3), .val (.int p4), .val (.int (3 : Int32)), .val (.ref b99), .val (.ref b103), .val (.int (0 : Int32)), .val (.int (1 : Int32)), .unset, .unset, .unset] [(.int (0 : Int32))]))
    refine OutW.back (fun t k => XS.iload X106.here hx rfl (hb hby at_95) rfl  k) ?_
    show OutW _ _ _ _ _ _ _ (T106.setTop (mkF m 97 #[.val (.int p1), .val (.int p2), .val (.int p3), .val (.int p4), .val (.int (3 : Int32)), .val (.ref b99), .val (.ref b103), .val (.int (0 : Int32)), .val (.int (1 : Int32)), .unset, .unset, .unset] [(.int (3 : Int32)), (.int (0 : Int32))]))
    refine OutW.back (fun t k => XS.iloadN X106.here hx rfl (hb hby at_97) rfl  k) ?_
    show OutW _ _ _ _ _ _ _ (T106.setTop (mkF m 98 #[.val (.int p1), .val (.int p2), .val (.int p3), .val (.int p4), .val (.int (3 : Int32)), .val (.ref b99), .val (.ref b103), .val (.int (0 : Int32)), .val (.int (1 : Int32)), .unset, .unset, .unset] [(.int p2), (.int (3 : Int32)), (.int (0 : Int32))]))
    refine OutW.back (fun t k => XS.iloadN X106.here hx rfl (hb hby at_98) rfl  k) ?_
    show OutW _ _ _ _ _ _ _ (T106.setTop (mkF m 99 #[.val (.int p1), .val (.int p2), .val (.int p3), .val (.int p4), .val (.int (3 : Int32)), .val (.ref b99), .val (.ref b103), .val (.int (0 : Int32)), .val (.int (1 : Int32)), .unset, .unset, .unset] [(.int p3), (.int p2), (.int (3 : Int32)), (.int (0 : Int32))]))
    refine OutW.back (fun t k => XS.iloadN X106.here hx rfl (hb hby at_99) rfl  k) ?_
    show OutW _ _ _ _ _ _ _ (T106.setTop (mkF m 100 #[.val (.int p1), .val (.int p2), .val (.int p3), .val (.int p4), .val (.int (3 : Int32)), .val (.ref b99), .val (.ref b103), .val (.int (0 : Int32)), .val (.int (1 : Int32)), .unset, .unset, .unset] [(.int p4), (.int p3), (.int p2), (.int (3 : Int32)), (.int (0 : Int32))]))
    obtain ⟨_, _, ⟨T107, L107, k107, n107⟩, -, X107, ⟨Lc107, hQ107, l107, y107, z107⟩, st107⟩ := Jvm.LawKit.callS X106 hx (y := (⟨"com/example/fulltext_workbench/fulltextworkbench/index/VarintReaderAtEndPinLaw", "step", "(IIIII)I"⟩ : MethodName)) hown (mvT hZ (hw _ (List.mem_of_getElem? (i := 24) rfl))) (mvT hZ (hw _ (List.mem_of_getElem? (i := 25) rfl))) (mvT hZ (hw _ (List.mem_of_getElem? (i := 26) rfl))) (mvT hZ (hw _ (List.mem_of_getElem? (i := 27) rfl))) (by decide) (backOf (W := 0) (rm5 l Z a0 hw [] (0 : Int32) (3 : Int32) p2 p3 p4 h106 n0 Z106) hZ (hw _ (List.mem_of_getElem? (i := 27) rfl)) (hw _ (List.mem_of_getElem? (i := 26) rfl)) (by decide) (by decide)) (g := (mkF m 100 #[.val (.int p1), .val (.int p2), .val (.int p3), .val (.int p4), .val (.int (3 : Int32)), .val (.ref b99), .val (.ref b103), .val (.int (0 : Int32)), .val (.int (1 : Int32)), .unset, .unset, .unset] [(.int p4), (.int p3), (.int p2), (.int (3 : Int32)), (.int (0 : Int32))])) rfl (by rw [hml]; rfl) (argsL := [(.int (0 : Int32)), (.int (3 : Int32)), (.int p2), (.int p3), (.int p4)]) (rest := []) (lenOf pd_5 rfl) rfl (by show 2 * 0 + _ ≤ _; exact Nat.le_of_eq rfl) (hb hby at_100) (fun _ _ => ⟨rfl, e106, (by decide : 2 + 0 ≤ _), (by decide : 5 + 0 ≤ _)⟩)
    dsimp only [Pt.U, Pt.locs, Pt.cells, Pt.slots] at X107 l107 y107 z107 st107 hQ107
    subst l107 y107 z107
    obtain ⟨rfl, Nq107, e107⟩ := hQ107
    have N107 := Fr.app N106 Nq107
    refine OutW.back st107 ?_
    show OutW _ _ _ _ _ _ _ (T107.setTop (mkF m 103 #[.val (.int p1), .val (.int p2), .val (.int p3), .val (.int p4), .val (.int (3 : Int32)), .val (.ref b99), .val (.ref b103), .val (.int (0 : Int32)), .val (.int (1 : Int32)), .unset, .unset, .unset] [(.int (stepF_0 (0 : Int32) (3 : Int32) p2 p3 p4))]))
    generalize hv_v108 : (stepF_0 (0 : Int32) (3 : Int32) p2 p3 p4) = v108
    refine OutW.back (fun t k => XS.istore X107.here hx rfl (hb hby at_103) rfl (l' := #[.val (.int p1), .val (.int p2), .val (.int p3), .val (.int p4), .val (.int (3 : Int32)), .val (.ref b99), .val (.ref b103), .val (.int (0 : Int32)), .val (.int (1 : Int32)), .val (.int v108), .unset, .unset]) rfl k) ?_
    show OutW _ _ _ _ _ _ _ (T107.setTop (mkF m 105 #[.val (.int p1), .val (.int p2), .val (.int p3), .val (.int p4), .val (.int (3 : Int32)), .val (.ref b99), .val (.ref b103), .val (.int (0 : Int32)), .val (.int (1 : Int32)), .val (.int v108), .unset, .unset] []))
    have pr109 := own_pos3 p2 p3 p4 (0 : Int32) (by decide) (by decide)
    rw [hv_v108] at pr109
    rw [pr109.1] at F_position_b103
    refine OutW.back (fun t k => XS.iload X107.here hx rfl (hb hby at_105) rfl  k) ?_
    show OutW _ _ _ _ _ _ _ (T107.setTop (mkF m 107 #[.val (.int p1), .val (.int p2), .val (.int p3), .val (.int p4), .val (.int (3 : Int32)), .val (.ref b99), .val (.ref b103), .val (.int (0 : Int32)), .val (.int (1 : Int32)), .val (.int v108), .unset, .unset] [(.int (1 : Int32))]))
    refine OutW.back (fun t k => XS.ifNo X107.here hx rfl (hb hby at_107) rfl ((if0 _ _).trans (feq (by decide : ¬ ((1 : Int32) = (0 : Int32)))).1) k) ?_
    show OutW _ _ _ _ _ _ _ (T107.setTop (mkF m 110 #[.val (.int p1), .val (.int p2), .val (.int p3), .val (.int p4), .val (.int (3 : Int32)), .val (.ref b99), .val (.ref b103), .val (.int (0 : Int32)), .val (.int (1 : Int32)), .val (.int v108), .unset, .unset] []))
    refine OutW.back (fun t k => XS.aload X107.here hx rfl (hb hby at_110) rfl rfl  k) ?_
    show OutW _ _ _ _ _ _ _ (T107.setTop (mkF m 112 #[.val (.int p1), .val (.int p2), .val (.int p3), .val (.int p4), .val (.int (3 : Int32)), .val (.ref b99), .val (.ref b103), .val (.int (0 : Int32)), .val (.int (1 : Int32)), .val (.int v108), .unset, .unset] [(.ref b103)]))
    obtain ⟨cq110, kq110, qa110, qb110, qc110⟩ := isOf hZ e107 E_b103
    obtain ⟨_, _, ⟨T110, L110, k110, n110⟩, -, X110, ⟨Lc110, hQ110, l110, y110, z110⟩, st110⟩ := X107.virtualBack hx (y := (⟨"com/example/fulltext_workbench/fulltextworkbench/index/VarintReader", "atEnd", "()Z"⟩ : MethodName)) (z := (⟨"com/example/fulltext_workbench/fulltextworkbench/index/VarintReader", "atEnd", "()Z"⟩ : MethodName)) hown (mvT hZ (hw _ (List.mem_of_getElem? (i := 12) rfl))) (mvT hZ (hw _ (List.mem_of_getElem? (i := 13) rfl))) (notFace_of_selects (args := #[]) (mvT hZ (hw _ (List.mem_of_getElem? (i := 15) rfl)))) (mvT hZ (hw _ (List.mem_of_getElem? (i := 15) rfl))) (mvT hZ (hw _ (List.mem_of_getElem? (i := 14) rfl))) (by decide) (backOf (W := 0) (rm3 l Z a0 hw [] b103 b99 v108 (3 : Int32) [(.int (nar .byte p2.toInt8.toInt32)), (.int (nar .byte p3.toInt8.toInt32)), (.int (nar .byte p4.toInt8.toInt32))] k99 h106 n0 Z106 F_bytes_b103 F_position_b103 V_b99_102) hZ (hw _ (List.mem_of_getElem? (i := 16) rfl)) (hw _ (List.mem_of_getElem? (i := 3) rfl)) (by decide) (by decide)) qa110 qc110 (g := (mkF m 112 #[.val (.int p1), .val (.int p2), .val (.int p3), .val (.int p4), .val (.int (3 : Int32)), .val (.ref b99), .val (.ref b103), .val (.int (0 : Int32)), .val (.int (1 : Int32)), .val (.int v108), .unset, .unset] [(.ref b103)])) rfl (by rw [hml]; rfl) (Steps.refl _) (argsL := []) (rest := []) (lenOf pd_3 rfl) rfl (by show 2 * 0 + _ ≤ _; exact Nat.le_of_eq rfl) (hb hby at_112) (fun _ _ => ⟨rfl, e107, (by decide : 2 + 0 ≤ _), (by decide : 5 + 0 ≤ _)⟩)
    dsimp only [Pt.U, Pt.locs, Pt.cells, Pt.slots] at X110 l110 y110 z110 st110 hQ110
    subst l110 y110 z110
    obtain ⟨rfl, Nq110, e110⟩ := hQ110
    have N110 := Fr.app N107 Nq110
    refine OutW.via st110 ?_
    show OutW _ _ _ _ _ _ _ (T110.setTop (mkF m 115 #[.val (.int p1), .val (.int p2), .val (.int p3), .val (.int p4), .val (.int (3 : Int32)), .val (.ref b99), .val (.ref b103), .val (.int (0 : Int32)), .val (.int (1 : Int32)), .val (.int v108), .unset, .unset] [(.int (atE v108 (3 : Int32)))]))
    refine OutW.back (fun t k => XS.iload X110.here hx rfl (hb hby at_115) rfl  k) ?_
    show OutW _ _ _ _ _ _ _ (T110.setTop (mkF m 117 #[.val (.int p1), .val (.int p2), .val (.int p3), .val (.int p4), .val (.int (3 : Int32)), .val (.ref b99), .val (.ref b103), .val (.int (0 : Int32)), .val (.int (1 : Int32)), .val (.int v108), .unset, .unset] [(.int v108), (.int (atE v108 (3 : Int32)))]))
    refine OutW.back (fun t k => XS.iload X110.here hx rfl (hb hby at_117) rfl  k) ?_
    show OutW _ _ _ _ _ _ _ (T110.setTop (mkF m 119 #[.val (.int p1), .val (.int p2), .val (.int p3), .val (.int p4), .val (.int (3 : Int32)), .val (.ref b99), .val (.ref b103), .val (.int (0 : Int32)), .val (.int (1 : Int32)), .val (.int v108), .unset, .unset] [(.int (3 : Int32)), (.int v108), (.int (atE v108 (3 : Int32)))]))
    obtain ⟨v112, hv_v112⟩ : ∃ z : Int32, z = (if v108 = (3 : Int32) then (1 : Int32) else (0 : Int32)) := ⟨_, rfl⟩
    have j113 : ∀ t, Steps p.tables e below (T110.setTop (mkF m 127 #[.val (.int p1), .val (.int p2), .val (.int p3), .val (.int p4), .val (.int (3 : Int32)), .val (.ref b99), .val (.ref b103), .val (.int (0 : Int32)), .val (.int (1 : Int32)), .val (.int v108), .unset, .unset] [(.int v112), (.int (atE v108 (3 : Int32)))])) t → Steps p.tables e below (T110.setTop (mkF m 119 #[.val (.int p1), .val (.int p2), .val (.int p3), .val (.int p4), .val (.int (3 : Int32)), .val (.ref b99), .val (.ref b103), .val (.int (0 : Int32)), .val (.int (1 : Int32)), .val (.int v108), .unset, .unset] [(.int (3 : Int32)), (.int v108), (.int (atE v108 (3 : Int32)))])) t := by
      intro t k
      by_cases c119_114 : v108 = (3 : Int32)
      · skip
        refine XS.icmpNo X110.here hx rfl (hb hby at_119) rfl (teq c119_114).2 ?_
        show Steps p.tables e below (T110.setTop (mkF m 122 #[.val (.int p1), .val (.int p2), .val (.int p3), .val (.int p4), .val (.int (3 : Int32)), .val (.ref b99), .val (.ref b103), .val (.int (0 : Int32)), .val (.int (1 : Int32)), .val (.int v108), .unset, .unset] [(.int (atE v108 (3 : Int32)))])) t
        refine XS.iconst X110.here hx rfl (hb hby at_122) ?_
        show Steps p.tables e below (T110.setTop (mkF m 123 #[.val (.int p1), .val (.int p2), .val (.int p3), .val (.int p4), .val (.int (3 : Int32)), .val (.ref b99), .val (.ref b103), .val (.int (0 : Int32)), .val (.int (1 : Int32)), .val (.int v108), .unset, .unset] [(.int (1 : Int32)), (.int (atE v108 (3 : Int32)))])) t
        refine XS.goto X110.here hx rfl (pc0 := 123) (pc' := 127) rfl (hb hby at_123) (by decide) (by decide) ?_
        show Steps p.tables e below (T110.setTop (mkF m 127 #[.val (.int p1), .val (.int p2), .val (.int p3), .val (.int p4), .val (.int (3 : Int32)), .val (.ref b99), .val (.ref b103), .val (.int (0 : Int32)), .val (.int (1 : Int32)), .val (.int v108), .unset, .unset] [(.int (1 : Int32)), (.int (atE v108 (3 : Int32)))])) t
        have q_v112 : v112 = (1 : Int32) := by rw [hv_v112, if_pos c119_114]
        rw [q_v112] at k
        exact k
      · skip
        refine XS.icmpYes X110.here hx rfl (pc0 := 119) (pc' := 126) rfl (hb hby at_119) rfl (feq c119_114).2 (by decide) (by decide) ?_
        show Steps p.tables e below (T110.setTop (mkF m 126 #[.val (.int p1), .val (.int p2), .val (.int p3), .val (.int p4), .val (.int (3 : Int32)), .val (.ref b99), .val (.ref b103), .val (.int (0 : Int32)), .val (.int (1 : Int32)), .val (.int v108), .unset, .unset] [(.int (atE v108 (3 : Int32)))])) t
        refine XS.iconst X110.here hx rfl (hb hby at_126) ?_
        show Steps p.tables e below (T110.setTop (mkF m 127 #[.val (.int p1), .val (.int p2), .val (.int p3), .val (.int p4), .val (.int (3 : Int32)), .val (.ref b99), .val (.ref b103), .val (.int (0 : Int32)), .val (.int (1 : Int32)), .val (.int v108), .unset, .unset] [(.int (0 : Int32)), (.int (atE v108 (3 : Int32)))])) t
        have q_v112 : v112 = (0 : Int32) := by rw [hv_v112, if_neg c119_114]
        rw [q_v112] at k
        exact k
    refine OutW.back j113 ?_
    show OutW _ _ _ _ _ _ _ (T110.setTop (mkF m 127 #[.val (.int p1), .val (.int p2), .val (.int p3), .val (.int p4), .val (.int (3 : Int32)), .val (.ref b99), .val (.ref b103), .val (.int (0 : Int32)), .val (.int (1 : Int32)), .val (.int v108), .unset, .unset] [(.int v112), (.int (atE v108 (3 : Int32)))]))
    refine OutW.back (fun t k => XS.icmpNo X110.here hx rfl (hb hby at_127) rfl (teq (by rw [hv_v112]; rfl)).2 k) ?_
    show OutW _ _ _ _ _ _ _ (T110.setTop (mkF m 130 #[.val (.int p1), .val (.int p2), .val (.int p3), .val (.int p4), .val (.int (3 : Int32)), .val (.ref b99), .val (.ref b103), .val (.int (0 : Int32)), .val (.int (1 : Int32)), .val (.int v108), .unset, .unset] []))
    refine OutW.back (fun t k => XS.iconst X110.here hx rfl (hb hby at_130) k) ?_
    show OutW _ _ _ _ _ _ _ (T110.setTop (mkF m 131 #[.val (.int p1), .val (.int p2), .val (.int p3), .val (.int p4), .val (.int (3 : Int32)), .val (.ref b99), .val (.ref b103), .val (.int (0 : Int32)), .val (.int (1 : Int32)), .val (.int v108), .unset, .unset] [(.int (1 : Int32))]))
    refine OutW.back (fun t k => XS.goto X110.here hx rfl (pc0 := 131) (pc' := 135) rfl (hb hby at_131) (by decide) (by decide) k) ?_
    show OutW _ _ _ _ _ _ _ (T110.setTop (mkF m 135 #[.val (.int p1), .val (.int p2), .val (.int p3), .val (.int p4), .val (.int (3 : Int32)), .val (.ref b99), .val (.ref b103), .val (.int (0 : Int32)), .val (.int (1 : Int32)), .val (.int v108), .unset, .unset] [(.int (1 : Int32))]))
    refine OutW.back (fun t k => XS.istore X110.here hx rfl (hb hby at_135) rfl (l' := #[.val (.int p1), .val (.int p2), .val (.int p3), .val (.int p4), .val (.int (3 : Int32)), .val (.ref b99), .val (.ref b103), .val (.int (0 : Int32)), .val (.int (1 : Int32)), .val (.int v108), .unset, .unset]) rfl k) ?_
    show OutW _ _ _ _ _ _ _ (T110.setTop (mkF m 137 #[.val (.int p1), .val (.int p2), .val (.int p3), .val (.int p4), .val (.int (3 : Int32)), .val (.ref b99), .val (.ref b103), .val (.int (0 : Int32)), .val (.int (1 : Int32)), .val (.int v108), .unset, .unset] []))
    refine OutW.back (fun t k => XS.aload X110.here hx rfl (hb hby at_137) rfl rfl  k) ?_
    show OutW _ _ _ _ _ _ _ (T110.setTop (mkF m 139 #[.val (.int p1), .val (.int p2), .val (.int p3), .val (.int p4), .val (.int (3 : Int32)), .val (.ref b99), .val (.ref b103), .val (.int (0 : Int32)), .val (.int (1 : Int32)), .val (.int v108), .unset, .unset] [(.ref b103)]))
    obtain ⟨cq115, kq115, qa115, qb115, qc115⟩ := isOf hZ e110 E_b103
    obtain ⟨_, _, ⟨T115, L115, k115, n115⟩, -, X115, ⟨Lc115, hQ115, l115, y115, z115⟩, st115⟩ := X110.virtualBack hx (y := (⟨"com/example/fulltext_workbench/fulltextworkbench/index/VarintReader", "next", "()I"⟩ : MethodName)) (z := (⟨"com/example/fulltext_workbench/fulltextworkbench/index/VarintReader", "next", "()I"⟩ : MethodName)) hown (mvT hZ (hw _ (List.mem_of_getElem? (i := 19) rfl))) (mvT hZ (hw _ (List.mem_of_getElem? (i := 20) rfl))) (notFace_of_selects (args := #[]) (mvT hZ (hw _ (List.mem_of_getElem? (i := 22) rfl)))) (mvT hZ (hw _ (List.mem_of_getElem? (i := 22) rfl))) (mvT hZ (hw _ (List.mem_of_getElem? (i := 21) rfl))) (by decide) (backOf (W := 0) (rm4 l Z a0 hw [] b103 b99 v108 (3 : Int32) [(.int (nar .byte p2.toInt8.toInt32)), (.int (nar .byte p3.toInt8.toInt32)), (.int (nar .byte p4.toInt8.toInt32))] k99 (Bn [(nar .byte p2.toInt8.toInt32), (nar .byte p3.toInt8.toInt32), (nar .byte p4.toInt8.toInt32)]) h106 n0 Z106 E_b103 g_b103 F_bytes_b103 F_position_b103 V_b99_102 ne_b99_b103 (fun j _ _ => own_getD [(nar .byte p2.toInt8.toInt32), (nar .byte p3.toInt8.toInt32), (nar .byte p4.toInt8.toInt32)] _ 0) pr109.2.1) hZ (hw _ (List.mem_of_getElem? (i := 23) rfl)) (hw _ (List.mem_of_getElem? (i := 3) rfl)) (by decide) (by decide)) qa115 qc115 (g := (mkF m 139 #[.val (.int p1), .val (.int p2), .val (.int p3), .val (.int p4), .val (.int (3 : Int32)), .val (.ref b99), .val (.ref b103), .val (.int (0 : Int32)), .val (.int (1 : Int32)), .val (.int v108), .unset, .unset] [(.ref b103)])) rfl (by rw [hml]; rfl) (Steps.refl _) (argsL := []) (rest := []) (lenOf pd_4 rfl) rfl (by show 2 * 0 + _ ≤ _; exact Nat.le_of_eq rfl) (hb hby at_139) (fun _ _ => ⟨rfl, e110, (by decide : 2 + 0 ≤ _), (by decide : 5 + 0 ≤ _)⟩)
    dsimp only [Pt.U, Pt.locs, Pt.cells, Pt.slots] at X115 l115 y115 z115 st115 hQ115
    subst l115 y115 z115
    obtain ⟨h115, eh115⟩ : ∃ z, z = T115.heap := ⟨_, rfl⟩
    rw [← eh115] at hQ115
    have e115 : T115.heap = h115 := eh115.symm
    obtain ⟨rfl, Nq115, Kq115, F_position_b103, F_bytes_b103⟩ := hQ115
    have V_b99_102 := V_b99_102.keep Kq115 (ninS ne_b99_b103 nin0)
    have E_b103 := E_b103.keep Kq115
    have Z115 : n0 ≤ h115.size := Nat.le_trans Z106 Kq115.1
    have K115 := K106.trans Kq115 (allS (Or.inr sz_b103) all0)
    have N115 := Fr.app N110 Nq115
    refine OutW.via st115 ?_
    show OutW _ _ _ _ _ _ _ (T115.setTop (mkF m 142 #[.val (.int p1), .val (.int p2), .val (.int p3), .val (.int p4), .val (.int (3 : Int32)), .val (.ref b99), .val (.ref b103), .val (.int (0 : Int32)), .val (.int (1 : Int32)), .val (.int v108), .unset, .unset] [(.int (nxt (Bn [(nar .byte p2.toInt8.toInt32), (nar .byte p3.toInt8.toInt32), (nar .byte p4.toInt8.toInt32)]) (3 : Int32) v108))]))
    refine OutW.back (fun t k => XS.pop X115.here hx rfl (hb hby at_142) rfl rfl k) ?_
    show OutW _ _ _ _ _ _ _ (T115.setTop (mkF m 143 #[.val (.int p1), .val (.int p2), .val (.int p3), .val (.int p4), .val (.int (3 : Int32)), .val (.ref b99), .val (.ref b103), .val (.int (0 : Int32)), .val (.int (1 : Int32)), .val (.int v108), .unset, .unset] []))
    refine OutW.back (fun t k => XS.iload X115.here hx rfl (hb hby at_143) rfl  k) ?_
    show OutW _ _ _ _ _ _ _ (T115.setTop (mkF m 145 #[.val (.int p1), .val (.int p2), .val (.int p3), .val (.int p4), .val (.int (3 : Int32)), .val (.ref b99), .val (.ref b103), .val (.int (0 : Int32)), .val (.int (1 : Int32)), .val (.int v108), .unset, .unset] [(.int v108)]))
    refine OutW.back (fun t k => XS.iload X115.here hx rfl (hb hby at_145) rfl  k) ?_
    show OutW _ _ _ _ _ _ _ (T115.setTop (mkF m 147 #[.val (.int p1), .val (.int p2), .val (.int p3), .val (.int p4), .val (.int (3 : Int32)), .val (.ref b99), .val (.ref b103), .val (.int (0 : Int32)), .val (.int (1 : Int32)), .val (.int v108), .unset, .unset] [(.int (3 : Int32)), (.int v108)]))
    refine OutW.back (fun t k => XS.iloadN X115.here hx rfl (hb hby at_147) rfl  k) ?_
    show OutW _ _ _ _ _ _ _ (T115.setTop (mkF m 148 #[.val (.int p1), .val (.int p2), .val (.int p3), .val (.int p4), .val (.int (3 : Int32)), .val (.ref b99), .val (.ref b103), .val (.int (0 : Int32)), .val (.int (1 : Int32)), .val (.int v108), .unset, .unset] [(.int p2), (.int (3 : Int32)), (.int v108)]))
    refine OutW.back (fun t k => XS.iloadN X115.here hx rfl (hb hby at_148) rfl  k) ?_
    show OutW _ _ _ _ _ _ _ (T115.setTop (mkF m 149 #[.val (.int p1), .val (.int p2), .val (.int p3), .val (.int p4), .val (.int (3 : Int32)), .val (.ref b99), .val (.ref b103), .val (.int (0 : Int32)), .val (.int (1 : Int32)), .val (.int v108), .unset, .unset] [(.int p3), (.int p2), (.int (3 : Int32)), (.int v108)]))
    refine OutW.back (fun t k => XS.iloadN X115.here hx rfl (hb hby at_149) rfl  k) ?_
    show OutW _ _ _ _ _ _ _ (T115.setTop (mkF m 150 #[.val (.int p1), .val (.int p2), .val (.int p3), .val (.int p4), .val (.int (3 : Int32)), .val (.ref b99), .val (.ref b103), .val (.int (0 : Int32)), .val (.int (1 : Int32)), .val (.int v108), .unset, .unset] [(.int p4), (.int p3), (.int p2), (.int (3 : Int32)), (.int v108)]))
    obtain ⟨_, _, ⟨T116, L116, k116, n116⟩, -, X116, ⟨Lc116, hQ116, l116, y116, z116⟩, st116⟩ := Jvm.LawKit.callS X115 hx (y := (⟨"com/example/fulltext_workbench/fulltextworkbench/index/VarintReaderAtEndPinLaw", "step", "(IIIII)I"⟩ : MethodName)) hown (mvT hZ (hw _ (List.mem_of_getElem? (i := 24) rfl))) (mvT hZ (hw _ (List.mem_of_getElem? (i := 25) rfl))) (mvT hZ (hw _ (List.mem_of_getElem? (i := 26) rfl))) (mvT hZ (hw _ (List.mem_of_getElem? (i := 27) rfl))) (by decide) (backOf (W := 0) (rm5 l Z a0 hw [] v108 (3 : Int32) p2 p3 p4 h115 n0 Z115) hZ (hw _ (List.mem_of_getElem? (i := 27) rfl)) (hw _ (List.mem_of_getElem? (i := 26) rfl)) (by decide) (by decide)) (g := (mkF m 150 #[.val (.int p1), .val (.int p2), .val (.int p3), .val (.int p4), .val (.int (3 : Int32)), .val (.ref b99), .val (.ref b103), .val (.int (0 : Int32)), .val (.int (1 : Int32)), .val (.int v108), .unset, .unset] [(.int p4), (.int p3), (.int p2), (.int (3 : Int32)), (.int v108)])) rfl (by rw [hml]; rfl) (argsL := [(.int v108), (.int (3 : Int32)), (.int p2), (.int p3), (.int p4)]) (rest := []) (lenOf pd_5 rfl) rfl (by show 2 * 0 + _ ≤ _; exact Nat.le_of_eq rfl) (hb hby at_150) (fun _ _ => ⟨rfl, e115, (by decide : 2 + 0 ≤ _), (by decide : 5 + 0 ≤ _)⟩)
    dsimp only [Pt.U, Pt.locs, Pt.cells, Pt.slots] at X116 l116 y116 z116 st116 hQ116
    subst l116 y116 z116
    obtain ⟨rfl, Nq116, e116⟩ := hQ116
    have N116 := Fr.app N115 Nq116
    refine OutW.back st116 ?_
    show OutW _ _ _ _ _ _ _ (T116.setTop (mkF m 153 #[.val (.int p1), .val (.int p2), .val (.int p3), .val (.int p4), .val (.int (3 : Int32)), .val (.ref b99), .val (.ref b103), .val (.int (0 : Int32)), .val (.int (1 : Int32)), .val (.int v108), .unset, .unset] [(.int (stepF_0 v108 (3 : Int32) p2 p3 p4))]))
    generalize hv_v117 : (stepF_0 v108 (3 : Int32) p2 p3 p4) = v117
    refine OutW.back (fun t k => XS.istore X116.here hx rfl (hb hby at_153) rfl (l' := #[.val (.int p1), .val (.int p2), .val (.int p3), .val (.int p4), .val (.int (3 : Int32)), .val (.ref b99), .val (.ref b103), .val (.int (0 : Int32)), .val (.int (1 : Int32)), .val (.int v108), .val (.int v117), .unset]) rfl k) ?_
    show OutW _ _ _ _ _ _ _ (T116.setTop (mkF m 155 #[.val (.int p1), .val (.int p2), .val (.int p3), .val (.int p4), .val (.int (3 : Int32)), .val (.ref b99), .val (.ref b103), .val (.int (0 : Int32)), .val (.int (1 : Int32)), .val (.int v108), .val (.int v117), .unset] []))
    have pr118 := own_pos3 p2 p3 p4 v108 pr109.2.1 pr109.2.2
    rw [hv_v117] at pr118
    rw [pr118.1] at F_position_b103
    refine OutW.back (fun t k => XS.iload X116.here hx rfl (hb hby at_155) rfl  k) ?_
    show OutW _ _ _ _ _ _ _ (T116.setTop (mkF m 157 #[.val (.int p1), .val (.int p2), .val (.int p3), .val (.int p4), .val (.int (3 : Int32)), .val (.ref b99), .val (.ref b103), .val (.int (0 : Int32)), .val (.int (1 : Int32)), .val (.int v108), .val (.int v117), .unset] [(.int (1 : Int32))]))
    refine OutW.back (fun t k => XS.ifNo X116.here hx rfl (hb hby at_157) rfl ((if0 _ _).trans (feq (by decide : ¬ ((1 : Int32) = (0 : Int32)))).1) k) ?_
    show OutW _ _ _ _ _ _ _ (T116.setTop (mkF m 160 #[.val (.int p1), .val (.int p2), .val (.int p3), .val (.int p4), .val (.int (3 : Int32)), .val (.ref b99), .val (.ref b103), .val (.int (0 : Int32)), .val (.int (1 : Int32)), .val (.int v108), .val (.int v117), .unset] []))
    refine OutW.back (fun t k => XS.aload X116.here hx rfl (hb hby at_160) rfl rfl  k) ?_
    show OutW _ _ _ _ _ _ _ (T116.setTop (mkF m 162 #[.val (.int p1), .val (.int p2), .val (.int p3), .val (.int p4), .val (.int (3 : Int32)), .val (.ref b99), .val (.ref b103), .val (.int (0 : Int32)), .val (.int (1 : Int32)), .val (.int v108), .val (.int v117), .unset] [(.ref b103)]))
    obtain ⟨cq119, kq119, qa119, qb119, qc119⟩ := isOf hZ e116 E_b103
    obtain ⟨_, _, ⟨T119, L119, k119, n119⟩, -, X119, ⟨Lc119, hQ119, l119, y119, z119⟩, st119⟩ := X116.virtualBack hx (y := (⟨"com/example/fulltext_workbench/fulltextworkbench/index/VarintReader", "atEnd", "()Z"⟩ : MethodName)) (z := (⟨"com/example/fulltext_workbench/fulltextworkbench/index/VarintReader", "atEnd", "()Z"⟩ : MethodName)) hown (mvT hZ (hw _ (List.mem_of_getElem? (i := 12) rfl))) (mvT hZ (hw _ (List.mem_of_getElem? (i := 13) rfl))) (notFace_of_selects (args := #[]) (mvT hZ (hw _ (List.mem_of_getElem? (i := 15) rfl)))) (mvT hZ (hw _ (List.mem_of_getElem? (i := 15) rfl))) (mvT hZ (hw _ (List.mem_of_getElem? (i := 14) rfl))) (by decide) (backOf (W := 0) (rm3 l Z a0 hw [] b103 b99 v117 (3 : Int32) [(.int (nar .byte p2.toInt8.toInt32)), (.int (nar .byte p3.toInt8.toInt32)), (.int (nar .byte p4.toInt8.toInt32))] k99 h115 n0 Z115 F_bytes_b103 F_position_b103 V_b99_102) hZ (hw _ (List.mem_of_getElem? (i := 16) rfl)) (hw _ (List.mem_of_getElem? (i := 3) rfl)) (by decide) (by decide)) qa119 qc119 (g := (mkF m 162 #[.val (.int p1), .val (.int p2), .val (.int p3), .val (.int p4), .val (.int (3 : Int32)), .val (.ref b99), .val (.ref b103), .val (.int (0 : Int32)), .val (.int (1 : Int32)), .val (.int v108), .val (.int v117), .unset] [(.ref b103)])) rfl (by rw [hml]; rfl) (Steps.refl _) (argsL := []) (rest := []) (lenOf pd_3 rfl) rfl (by show 2 * 0 + _ ≤ _; exact Nat.le_of_eq rfl) (hb hby at_162) (fun _ _ => ⟨rfl, e116, (by decide : 2 + 0 ≤ _), (by decide : 5 + 0 ≤ _)⟩)
    dsimp only [Pt.U, Pt.locs, Pt.cells, Pt.slots] at X119 l119 y119 z119 st119 hQ119
    subst l119 y119 z119
    obtain ⟨rfl, Nq119, e119⟩ := hQ119
    have N119 := Fr.app N116 Nq119
    refine OutW.via st119 ?_
    show OutW _ _ _ _ _ _ _ (T119.setTop (mkF m 165 #[.val (.int p1), .val (.int p2), .val (.int p3), .val (.int p4), .val (.int (3 : Int32)), .val (.ref b99), .val (.ref b103), .val (.int (0 : Int32)), .val (.int (1 : Int32)), .val (.int v108), .val (.int v117), .unset] [(.int (atE v117 (3 : Int32)))]))
    refine OutW.back (fun t k => XS.iload X119.here hx rfl (hb hby at_165) rfl  k) ?_
    show OutW _ _ _ _ _ _ _ (T119.setTop (mkF m 167 #[.val (.int p1), .val (.int p2), .val (.int p3), .val (.int p4), .val (.int (3 : Int32)), .val (.ref b99), .val (.ref b103), .val (.int (0 : Int32)), .val (.int (1 : Int32)), .val (.int v108), .val (.int v117), .unset] [(.int v117), (.int (atE v117 (3 : Int32)))]))
    refine OutW.back (fun t k => XS.iload X119.here hx rfl (hb hby at_167) rfl  k) ?_
    show OutW _ _ _ _ _ _ _ (T119.setTop (mkF m 169 #[.val (.int p1), .val (.int p2), .val (.int p3), .val (.int p4), .val (.int (3 : Int32)), .val (.ref b99), .val (.ref b103), .val (.int (0 : Int32)), .val (.int (1 : Int32)), .val (.int v108), .val (.int v117), .unset] [(.int (3 : Int32)), (.int v117), (.int (atE v117 (3 : Int32)))]))
    obtain ⟨v121, hv_v121⟩ : ∃ z : Int32, z = (if v117 = (3 : Int32) then (1 : Int32) else (0 : Int32)) := ⟨_, rfl⟩
    have j122 : ∀ t, Steps p.tables e below (T119.setTop (mkF m 177 #[.val (.int p1), .val (.int p2), .val (.int p3), .val (.int p4), .val (.int (3 : Int32)), .val (.ref b99), .val (.ref b103), .val (.int (0 : Int32)), .val (.int (1 : Int32)), .val (.int v108), .val (.int v117), .unset] [(.int v121), (.int (atE v117 (3 : Int32)))])) t → Steps p.tables e below (T119.setTop (mkF m 169 #[.val (.int p1), .val (.int p2), .val (.int p3), .val (.int p4), .val (.int (3 : Int32)), .val (.ref b99), .val (.ref b103), .val (.int (0 : Int32)), .val (.int (1 : Int32)), .val (.int v108), .val (.int v117), .unset] [(.int (3 : Int32)), (.int v117), (.int (atE v117 (3 : Int32)))])) t := by
      intro t k
      by_cases c169_123 : v117 = (3 : Int32)
      · skip
        refine XS.icmpNo X119.here hx rfl (hb hby at_169) rfl (teq c169_123).2 ?_
        show Steps p.tables e below (T119.setTop (mkF m 172 #[.val (.int p1), .val (.int p2), .val (.int p3), .val (.int p4), .val (.int (3 : Int32)), .val (.ref b99), .val (.ref b103), .val (.int (0 : Int32)), .val (.int (1 : Int32)), .val (.int v108), .val (.int v117), .unset] [(.int (atE v117 (3 : Int32)))])) t
        refine XS.iconst X119.here hx rfl (hb hby at_172) ?_
        show Steps p.tables e below (T119.setTop (mkF m 173 #[.val (.int p1), .val (.int p2), .val (.int p3), .val (.int p4), .val (.int (3 : Int32)), .val (.ref b99), .val (.ref b103), .val (.int (0 : Int32)), .val (.int (1 : Int32)), .val (.int v108), .val (.int v117), .unset] [(.int (1 : Int32)), (.int (atE v117 (3 : Int32)))])) t
        refine XS.goto X119.here hx rfl (pc0 := 173) (pc' := 177) rfl (hb hby at_173) (by decide) (by decide) ?_
        show Steps p.tables e below (T119.setTop (mkF m 177 #[.val (.int p1), .val (.int p2), .val (.int p3), .val (.int p4), .val (.int (3 : Int32)), .val (.ref b99), .val (.ref b103), .val (.int (0 : Int32)), .val (.int (1 : Int32)), .val (.int v108), .val (.int v117), .unset] [(.int (1 : Int32)), (.int (atE v117 (3 : Int32)))])) t
        have q_v121 : v121 = (1 : Int32) := by rw [hv_v121, if_pos c169_123]
        rw [q_v121] at k
        exact k
      · skip
        refine XS.icmpYes X119.here hx rfl (pc0 := 169) (pc' := 176) rfl (hb hby at_169) rfl (feq c169_123).2 (by decide) (by decide) ?_
        show Steps p.tables e below (T119.setTop (mkF m 176 #[.val (.int p1), .val (.int p2), .val (.int p3), .val (.int p4), .val (.int (3 : Int32)), .val (.ref b99), .val (.ref b103), .val (.int (0 : Int32)), .val (.int (1 : Int32)), .val (.int v108), .val (.int v117), .unset] [(.int (atE v117 (3 : Int32)))])) t
        refine XS.iconst X119.here hx rfl (hb hby at_176) ?_
        show Steps p.tables e below (T119.setTop (mkF m 177 #[.val (.int p1), .val (.int p2), .val (.int p3), .val (.int p4), .val (.int (3 : Int32)), .val (.ref b99), .val (.ref b103), .val (.int (0 : Int32)), .val (.int (1 : Int32)), .val (.int v108), .val (.int v117), .unset] [(.int (0 : Int32)), (.int (atE v117 (3 : Int32)))])) t
        have q_v121 : v121 = (0 : Int32) := by rw [hv_v121, if_neg c169_123]
        rw [q_v121] at k
        exact k
    refine OutW.back j122 ?_
    show OutW _ _ _ _ _ _ _ (T119.setTop (mkF m 177 #[.val (.int p1), .val (.int p2), .val (.int p3), .val (.int p4), .val (.int (3 : Int32)), .val (.ref b99), .val (.ref b103), .val (.int (0 : Int32)), .val (.int (1 : Int32)), .val (.int v108), .val (.int v117), .unset] [(.int v121), (.int (atE v117 (3 : Int32)))]))
    refine OutW.back (fun t k => XS.icmpNo X119.here hx rfl (hb hby at_177) rfl (teq (by rw [hv_v121]; rfl)).2 k) ?_
    show OutW _ _ _ _ _ _ _ (T119.setTop (mkF m 180 #[.val (.int p1), .val (.int p2), .val (.int p3), .val (.int p4), .val (.int (3 : Int32)), .val (.ref b99), .val (.ref b103), .val (.int (0 : Int32)), .val (.int (1 : Int32)), .val (.int v108), .val (.int v117), .unset] []))
    refine OutW.back (fun t k => XS.iconst X119.here hx rfl (hb hby at_180) k) ?_
    show OutW _ _ _ _ _ _ _ (T119.setTop (mkF m 181 #[.val (.int p1), .val (.int p2), .val (.int p3), .val (.int p4), .val (.int (3 : Int32)), .val (.ref b99), .val (.ref b103), .val (.int (0 : Int32)), .val (.int (1 : Int32)), .val (.int v108), .val (.int v117), .unset] [(.int (1 : Int32))]))
    refine OutW.back (fun t k => XS.goto X119.here hx rfl (pc0 := 181) (pc' := 185) rfl (hb hby at_181) (by decide) (by decide) k) ?_
    show OutW _ _ _ _ _ _ _ (T119.setTop (mkF m 185 #[.val (.int p1), .val (.int p2), .val (.int p3), .val (.int p4), .val (.int (3 : Int32)), .val (.ref b99), .val (.ref b103), .val (.int (0 : Int32)), .val (.int (1 : Int32)), .val (.int v108), .val (.int v117), .unset] [(.int (1 : Int32))]))
    refine OutW.back (fun t k => XS.istore X119.here hx rfl (hb hby at_185) rfl (l' := #[.val (.int p1), .val (.int p2), .val (.int p3), .val (.int p4), .val (.int (3 : Int32)), .val (.ref b99), .val (.ref b103), .val (.int (0 : Int32)), .val (.int (1 : Int32)), .val (.int v108), .val (.int v117), .unset]) rfl k) ?_
    show OutW _ _ _ _ _ _ _ (T119.setTop (mkF m 187 #[.val (.int p1), .val (.int p2), .val (.int p3), .val (.int p4), .val (.int (3 : Int32)), .val (.ref b99), .val (.ref b103), .val (.int (0 : Int32)), .val (.int (1 : Int32)), .val (.int v108), .val (.int v117), .unset] []))
    refine OutW.back (fun t k => XS.aload X119.here hx rfl (hb hby at_187) rfl rfl  k) ?_
    show OutW _ _ _ _ _ _ _ (T119.setTop (mkF m 189 #[.val (.int p1), .val (.int p2), .val (.int p3), .val (.int p4), .val (.int (3 : Int32)), .val (.ref b99), .val (.ref b103), .val (.int (0 : Int32)), .val (.int (1 : Int32)), .val (.int v108), .val (.int v117), .unset] [(.ref b103)]))
    obtain ⟨cq124, kq124, qa124, qb124, qc124⟩ := isOf hZ e119 E_b103
    obtain ⟨_, _, ⟨T124, L124, k124, n124⟩, -, X124, ⟨Lc124, hQ124, l124, y124, z124⟩, st124⟩ := X119.virtualBack hx (y := (⟨"com/example/fulltext_workbench/fulltextworkbench/index/VarintReader", "next", "()I"⟩ : MethodName)) (z := (⟨"com/example/fulltext_workbench/fulltextworkbench/index/VarintReader", "next", "()I"⟩ : MethodName)) hown (mvT hZ (hw _ (List.mem_of_getElem? (i := 19) rfl))) (mvT hZ (hw _ (List.mem_of_getElem? (i := 20) rfl))) (notFace_of_selects (args := #[]) (mvT hZ (hw _ (List.mem_of_getElem? (i := 22) rfl)))) (mvT hZ (hw _ (List.mem_of_getElem? (i := 22) rfl))) (mvT hZ (hw _ (List.mem_of_getElem? (i := 21) rfl))) (by decide) (backOf (W := 0) (rm4 l Z a0 hw [] b103 b99 v117 (3 : Int32) [(.int (nar .byte p2.toInt8.toInt32)), (.int (nar .byte p3.toInt8.toInt32)), (.int (nar .byte p4.toInt8.toInt32))] k99 (Bn [(nar .byte p2.toInt8.toInt32), (nar .byte p3.toInt8.toInt32), (nar .byte p4.toInt8.toInt32)]) h115 n0 Z115 E_b103 g_b103 F_bytes_b103 F_position_b103 V_b99_102 ne_b99_b103 (fun j _ _ => own_getD [(nar .byte p2.toInt8.toInt32), (nar .byte p3.toInt8.toInt32), (nar .byte p4.toInt8.toInt32)] _ 0) pr118.2.1) hZ (hw _ (List.mem_of_getElem? (i := 23) rfl)) (hw _ (List.mem_of_getElem? (i := 3) rfl)) (by decide) (by decide)) qa124 qc124 (g := (mkF m 189 #[.val (.int p1), .val (.int p2), .val (.int p3), .val (.int p4), .val (.int (3 : Int32)), .val (.ref b99), .val (.ref b103), .val (.int (0 : Int32)), .val (.int (1 : Int32)), .val (.int v108), .val (.int v117), .unset] [(.ref b103)])) rfl (by rw [hml]; rfl) (Steps.refl _) (argsL := []) (rest := []) (lenOf pd_4 rfl) rfl (by show 2 * 0 + _ ≤ _; exact Nat.le_of_eq rfl) (hb hby at_189) (fun _ _ => ⟨rfl, e119, (by decide : 2 + 0 ≤ _), (by decide : 5 + 0 ≤ _)⟩)
    dsimp only [Pt.U, Pt.locs, Pt.cells, Pt.slots] at X124 l124 y124 z124 st124 hQ124
    subst l124 y124 z124
    obtain ⟨h124, eh124⟩ : ∃ z, z = T124.heap := ⟨_, rfl⟩
    rw [← eh124] at hQ124
    have e124 : T124.heap = h124 := eh124.symm
    obtain ⟨rfl, Nq124, Kq124, F_position_b103, F_bytes_b103⟩ := hQ124
    have V_b99_102 := V_b99_102.keep Kq124 (ninS ne_b99_b103 nin0)
    have E_b103 := E_b103.keep Kq124
    have Z124 : n0 ≤ h124.size := Nat.le_trans Z115 Kq124.1
    have K124 := K115.trans Kq124 (allS (Or.inr sz_b103) all0)
    have N124 := Fr.app N119 Nq124
    refine OutW.via st124 ?_
    show OutW _ _ _ _ _ _ _ (T124.setTop (mkF m 192 #[.val (.int p1), .val (.int p2), .val (.int p3), .val (.int p4), .val (.int (3 : Int32)), .val (.ref b99), .val (.ref b103), .val (.int (0 : Int32)), .val (.int (1 : Int32)), .val (.int v108), .val (.int v117), .unset] [(.int (nxt (Bn [(nar .byte p2.toInt8.toInt32), (nar .byte p3.toInt8.toInt32), (nar .byte p4.toInt8.toInt32)]) (3 : Int32) v117))]))
    refine OutW.back (fun t k => XS.pop X124.here hx rfl (hb hby at_192) rfl rfl k) ?_
    show OutW _ _ _ _ _ _ _ (T124.setTop (mkF m 193 #[.val (.int p1), .val (.int p2), .val (.int p3), .val (.int p4), .val (.int (3 : Int32)), .val (.ref b99), .val (.ref b103), .val (.int (0 : Int32)), .val (.int (1 : Int32)), .val (.int v108), .val (.int v117), .unset] []))
    refine OutW.back (fun t k => XS.iload X124.here hx rfl (hb hby at_193) rfl  k) ?_
    show OutW _ _ _ _ _ _ _ (T124.setTop (mkF m 195 #[.val (.int p1), .val (.int p2), .val (.int p3), .val (.int p4), .val (.int (3 : Int32)), .val (.ref b99), .val (.ref b103), .val (.int (0 : Int32)), .val (.int (1 : Int32)), .val (.int v108), .val (.int v117), .unset] [(.int v117)]))
    refine OutW.back (fun t k => XS.iload X124.here hx rfl (hb hby at_195) rfl  k) ?_
    show OutW _ _ _ _ _ _ _ (T124.setTop (mkF m 197 #[.val (.int p1), .val (.int p2), .val (.int p3), .val (.int p4), .val (.int (3 : Int32)), .val (.ref b99), .val (.ref b103), .val (.int (0 : Int32)), .val (.int (1 : Int32)), .val (.int v108), .val (.int v117), .unset] [(.int (3 : Int32)), (.int v117)]))
    refine OutW.back (fun t k => XS.iloadN X124.here hx rfl (hb hby at_197) rfl  k) ?_
    show OutW _ _ _ _ _ _ _ (T124.setTop (mkF m 198 #[.val (.int p1), .val (.int p2), .val (.int p3), .val (.int p4), .val (.int (3 : Int32)), .val (.ref b99), .val (.ref b103), .val (.int (0 : Int32)), .val (.int (1 : Int32)), .val (.int v108), .val (.int v117), .unset] [(.int p2), (.int (3 : Int32)), (.int v117)]))
    refine OutW.back (fun t k => XS.iloadN X124.here hx rfl (hb hby at_198) rfl  k) ?_
    show OutW _ _ _ _ _ _ _ (T124.setTop (mkF m 199 #[.val (.int p1), .val (.int p2), .val (.int p3), .val (.int p4), .val (.int (3 : Int32)), .val (.ref b99), .val (.ref b103), .val (.int (0 : Int32)), .val (.int (1 : Int32)), .val (.int v108), .val (.int v117), .unset] [(.int p3), (.int p2), (.int (3 : Int32)), (.int v117)]))
    refine OutW.back (fun t k => XS.iloadN X124.here hx rfl (hb hby at_199) rfl  k) ?_
    show OutW _ _ _ _ _ _ _ (T124.setTop (mkF m 200 #[.val (.int p1), .val (.int p2), .val (.int p3), .val (.int p4), .val (.int (3 : Int32)), .val (.ref b99), .val (.ref b103), .val (.int (0 : Int32)), .val (.int (1 : Int32)), .val (.int v108), .val (.int v117), .unset] [(.int p4), (.int p3), (.int p2), (.int (3 : Int32)), (.int v117)]))
    obtain ⟨_, _, ⟨T125, L125, k125, n125⟩, -, X125, ⟨Lc125, hQ125, l125, y125, z125⟩, st125⟩ := Jvm.LawKit.callS X124 hx (y := (⟨"com/example/fulltext_workbench/fulltextworkbench/index/VarintReaderAtEndPinLaw", "step", "(IIIII)I"⟩ : MethodName)) hown (mvT hZ (hw _ (List.mem_of_getElem? (i := 24) rfl))) (mvT hZ (hw _ (List.mem_of_getElem? (i := 25) rfl))) (mvT hZ (hw _ (List.mem_of_getElem? (i := 26) rfl))) (mvT hZ (hw _ (List.mem_of_getElem? (i := 27) rfl))) (by decide) (backOf (W := 0) (rm5 l Z a0 hw [] v117 (3 : Int32) p2 p3 p4 h124 n0 Z124) hZ (hw _ (List.mem_of_getElem? (i := 27) rfl)) (hw _ (List.mem_of_getElem? (i := 26) rfl)) (by decide) (by decide)) (g := (mkF m 200 #[.val (.int p1), .val (.int p2), .val (.int p3), .val (.int p4), .val (.int (3 : Int32)), .val (.ref b99), .val (.ref b103), .val (.int (0 : Int32)), .val (.int (1 : Int32)), .val (.int v108), .val (.int v117), .unset] [(.int p4), (.int p3), (.int p2), (.int (3 : Int32)), (.int v117)])) rfl (by rw [hml]; rfl) (argsL := [(.int v117), (.int (3 : Int32)), (.int p2), (.int p3), (.int p4)]) (rest := []) (lenOf pd_5 rfl) rfl (by show 2 * 0 + _ ≤ _; exact Nat.le_of_eq rfl) (hb hby at_200) (fun _ _ => ⟨rfl, e124, (by decide : 2 + 0 ≤ _), (by decide : 5 + 0 ≤ _)⟩)
    dsimp only [Pt.U, Pt.locs, Pt.cells, Pt.slots] at X125 l125 y125 z125 st125 hQ125
    subst l125 y125 z125
    obtain ⟨rfl, Nq125, e125⟩ := hQ125
    have N125 := Fr.app N124 Nq125
    refine OutW.back st125 ?_
    show OutW _ _ _ _ _ _ _ (T125.setTop (mkF m 203 #[.val (.int p1), .val (.int p2), .val (.int p3), .val (.int p4), .val (.int (3 : Int32)), .val (.ref b99), .val (.ref b103), .val (.int (0 : Int32)), .val (.int (1 : Int32)), .val (.int v108), .val (.int v117), .unset] [(.int (stepF_0 v117 (3 : Int32) p2 p3 p4))]))
    generalize hv_v126 : (stepF_0 v117 (3 : Int32) p2 p3 p4) = v126
    refine OutW.back (fun t k => XS.istore X125.here hx rfl (hb hby at_203) rfl (l' := #[.val (.int p1), .val (.int p2), .val (.int p3), .val (.int p4), .val (.int (3 : Int32)), .val (.ref b99), .val (.ref b103), .val (.int (0 : Int32)), .val (.int (1 : Int32)), .val (.int v108), .val (.int v117), .val (.int v126)]) rfl k) ?_
    show OutW _ _ _ _ _ _ _ (T125.setTop (mkF m 205 #[.val (.int p1), .val (.int p2), .val (.int p3), .val (.int p4), .val (.int (3 : Int32)), .val (.ref b99), .val (.ref b103), .val (.int (0 : Int32)), .val (.int (1 : Int32)), .val (.int v108), .val (.int v117), .val (.int v126)] []))
    have pr127 := own_pos3 p2 p3 p4 v117 pr118.2.1 pr118.2.2
    rw [hv_v126] at pr127
    rw [pr127.1] at F_position_b103
    refine OutW.back (fun t k => XS.iload X125.here hx rfl (hb hby at_205) rfl  k) ?_
    show OutW _ _ _ _ _ _ _ (T125.setTop (mkF m 207 #[.val (.int p1), .val (.int p2), .val (.int p3), .val (.int p4), .val (.int (3 : Int32)), .val (.ref b99), .val (.ref b103), .val (.int (0 : Int32)), .val (.int (1 : Int32)), .val (.int v108), .val (.int v117), .val (.int v126)] [(.int (1 : Int32))]))
    refine OutW.back (fun t k => XS.ifNo X125.here hx rfl (hb hby at_207) rfl ((if0 _ _).trans (feq (by decide : ¬ ((1 : Int32) = (0 : Int32)))).1) k) ?_
    show OutW _ _ _ _ _ _ _ (T125.setTop (mkF m 210 #[.val (.int p1), .val (.int p2), .val (.int p3), .val (.int p4), .val (.int (3 : Int32)), .val (.ref b99), .val (.ref b103), .val (.int (0 : Int32)), .val (.int (1 : Int32)), .val (.int v108), .val (.int v117), .val (.int v126)] []))
    refine OutW.back (fun t k => XS.aload X125.here hx rfl (hb hby at_210) rfl rfl  k) ?_
    show OutW _ _ _ _ _ _ _ (T125.setTop (mkF m 212 #[.val (.int p1), .val (.int p2), .val (.int p3), .val (.int p4), .val (.int (3 : Int32)), .val (.ref b99), .val (.ref b103), .val (.int (0 : Int32)), .val (.int (1 : Int32)), .val (.int v108), .val (.int v117), .val (.int v126)] [(.ref b103)]))
    obtain ⟨cq128, kq128, qa128, qb128, qc128⟩ := isOf hZ e125 E_b103
    obtain ⟨_, _, ⟨T128, L128, k128, n128⟩, -, X128, ⟨Lc128, hQ128, l128, y128, z128⟩, st128⟩ := X125.virtualBack hx (y := (⟨"com/example/fulltext_workbench/fulltextworkbench/index/VarintReader", "atEnd", "()Z"⟩ : MethodName)) (z := (⟨"com/example/fulltext_workbench/fulltextworkbench/index/VarintReader", "atEnd", "()Z"⟩ : MethodName)) hown (mvT hZ (hw _ (List.mem_of_getElem? (i := 12) rfl))) (mvT hZ (hw _ (List.mem_of_getElem? (i := 13) rfl))) (notFace_of_selects (args := #[]) (mvT hZ (hw _ (List.mem_of_getElem? (i := 15) rfl)))) (mvT hZ (hw _ (List.mem_of_getElem? (i := 15) rfl))) (mvT hZ (hw _ (List.mem_of_getElem? (i := 14) rfl))) (by decide) (backOf (W := 0) (rm3 l Z a0 hw [] b103 b99 v126 (3 : Int32) [(.int (nar .byte p2.toInt8.toInt32)), (.int (nar .byte p3.toInt8.toInt32)), (.int (nar .byte p4.toInt8.toInt32))] k99 h124 n0 Z124 F_bytes_b103 F_position_b103 V_b99_102) hZ (hw _ (List.mem_of_getElem? (i := 16) rfl)) (hw _ (List.mem_of_getElem? (i := 3) rfl)) (by decide) (by decide)) qa128 qc128 (g := (mkF m 212 #[.val (.int p1), .val (.int p2), .val (.int p3), .val (.int p4), .val (.int (3 : Int32)), .val (.ref b99), .val (.ref b103), .val (.int (0 : Int32)), .val (.int (1 : Int32)), .val (.int v108), .val (.int v117), .val (.int v126)] [(.ref b103)])) rfl (by rw [hml]; rfl) (Steps.refl _) (argsL := []) (rest := []) (lenOf pd_3 rfl) rfl (by show 2 * 0 + _ ≤ _; exact Nat.le_of_eq rfl) (hb hby at_212) (fun _ _ => ⟨rfl, e125, (by decide : 2 + 0 ≤ _), (by decide : 5 + 0 ≤ _)⟩)
    dsimp only [Pt.U, Pt.locs, Pt.cells, Pt.slots] at X128 l128 y128 z128 st128 hQ128
    subst l128 y128 z128
    obtain ⟨rfl, Nq128, e128⟩ := hQ128
    have N128 := Fr.app N125 Nq128
    refine OutW.via st128 ?_
    show OutW _ _ _ _ _ _ _ (T128.setTop (mkF m 215 #[.val (.int p1), .val (.int p2), .val (.int p3), .val (.int p4), .val (.int (3 : Int32)), .val (.ref b99), .val (.ref b103), .val (.int (0 : Int32)), .val (.int (1 : Int32)), .val (.int v108), .val (.int v117), .val (.int v126)] [(.int (atE v126 (3 : Int32)))]))
    refine OutW.back (fun t k => XS.iload X128.here hx rfl (hb hby at_215) rfl  k) ?_
    show OutW _ _ _ _ _ _ _ (T128.setTop (mkF m 217 #[.val (.int p1), .val (.int p2), .val (.int p3), .val (.int p4), .val (.int (3 : Int32)), .val (.ref b99), .val (.ref b103), .val (.int (0 : Int32)), .val (.int (1 : Int32)), .val (.int v108), .val (.int v117), .val (.int v126)] [(.int v126), (.int (atE v126 (3 : Int32)))]))
    refine OutW.back (fun t k => XS.iload X128.here hx rfl (hb hby at_217) rfl  k) ?_
    show OutW _ _ _ _ _ _ _ (T128.setTop (mkF m 219 #[.val (.int p1), .val (.int p2), .val (.int p3), .val (.int p4), .val (.int (3 : Int32)), .val (.ref b99), .val (.ref b103), .val (.int (0 : Int32)), .val (.int (1 : Int32)), .val (.int v108), .val (.int v117), .val (.int v126)] [(.int (3 : Int32)), (.int v126), (.int (atE v126 (3 : Int32)))]))
    obtain ⟨v130, hv_v130⟩ : ∃ z : Int32, z = (if v126 = (3 : Int32) then (1 : Int32) else (0 : Int32)) := ⟨_, rfl⟩
    have j131 : ∀ t, Steps p.tables e below (T128.setTop (mkF m 227 #[.val (.int p1), .val (.int p2), .val (.int p3), .val (.int p4), .val (.int (3 : Int32)), .val (.ref b99), .val (.ref b103), .val (.int (0 : Int32)), .val (.int (1 : Int32)), .val (.int v108), .val (.int v117), .val (.int v126)] [(.int v130), (.int (atE v126 (3 : Int32)))])) t → Steps p.tables e below (T128.setTop (mkF m 219 #[.val (.int p1), .val (.int p2), .val (.int p3), .val (.int p4), .val (.int (3 : Int32)), .val (.ref b99), .val (.ref b103), .val (.int (0 : Int32)), .val (.int (1 : Int32)), .val (.int v108), .val (.int v117), .val (.int v126)] [(.int (3 : Int32)), (.int v126), (.int (atE v126 (3 : Int32)))])) t := by
      intro t k
      by_cases c219_132 : v126 = (3 : Int32)
      · skip
        refine XS.icmpNo X128.here hx rfl (hb hby at_219) rfl (teq c219_132).2 ?_
        show Steps p.tables e below (T128.setTop (mkF m 222 #[.val (.int p1), .val (.int p2), .val (.int p3), .val (.int p4), .val (.int (3 : Int32)), .val (.ref b99), .val (.ref b103), .val (.int (0 : Int32)), .val (.int (1 : Int32)), .val (.int v108), .val (.int v117), .val (.int v126)] [(.int (atE v126 (3 : Int32)))])) t
        refine XS.iconst X128.here hx rfl (hb hby at_222) ?_
        show Steps p.tables e below (T128.setTop (mkF m 223 #[.val (.int p1), .val (.int p2), .val (.int p3), .val (.int p4), .val (.int (3 : Int32)), .val (.ref b99), .val (.ref b103), .val (.int (0 : Int32)), .val (.int (1 : Int32)), .val (.int v108), .val (.int v117), .val (.int v126)] [(.int (1 : Int32)), (.int (atE v126 (3 : Int32)))])) t
        refine XS.goto X128.here hx rfl (pc0 := 223) (pc' := 227) rfl (hb hby at_223) (by decide) (by decide) ?_
        show Steps p.tables e below (T128.setTop (mkF m 227 #[.val (.int p1), .val (.int p2), .val (.int p3), .val (.int p4), .val (.int (3 : Int32)), .val (.ref b99), .val (.ref b103), .val (.int (0 : Int32)), .val (.int (1 : Int32)), .val (.int v108), .val (.int v117), .val (.int v126)] [(.int (1 : Int32)), (.int (atE v126 (3 : Int32)))])) t
        have q_v130 : v130 = (1 : Int32) := by rw [hv_v130, if_pos c219_132]
        rw [q_v130] at k
        exact k
      · skip
        refine XS.icmpYes X128.here hx rfl (pc0 := 219) (pc' := 226) rfl (hb hby at_219) rfl (feq c219_132).2 (by decide) (by decide) ?_
        show Steps p.tables e below (T128.setTop (mkF m 226 #[.val (.int p1), .val (.int p2), .val (.int p3), .val (.int p4), .val (.int (3 : Int32)), .val (.ref b99), .val (.ref b103), .val (.int (0 : Int32)), .val (.int (1 : Int32)), .val (.int v108), .val (.int v117), .val (.int v126)] [(.int (atE v126 (3 : Int32)))])) t
        refine XS.iconst X128.here hx rfl (hb hby at_226) ?_
        show Steps p.tables e below (T128.setTop (mkF m 227 #[.val (.int p1), .val (.int p2), .val (.int p3), .val (.int p4), .val (.int (3 : Int32)), .val (.ref b99), .val (.ref b103), .val (.int (0 : Int32)), .val (.int (1 : Int32)), .val (.int v108), .val (.int v117), .val (.int v126)] [(.int (0 : Int32)), (.int (atE v126 (3 : Int32)))])) t
        have q_v130 : v130 = (0 : Int32) := by rw [hv_v130, if_neg c219_132]
        rw [q_v130] at k
        exact k
    refine OutW.back j131 ?_
    show OutW _ _ _ _ _ _ _ (T128.setTop (mkF m 227 #[.val (.int p1), .val (.int p2), .val (.int p3), .val (.int p4), .val (.int (3 : Int32)), .val (.ref b99), .val (.ref b103), .val (.int (0 : Int32)), .val (.int (1 : Int32)), .val (.int v108), .val (.int v117), .val (.int v126)] [(.int v130), (.int (atE v126 (3 : Int32)))]))
    refine OutW.back (fun t k => XS.icmpNo X128.here hx rfl (hb hby at_227) rfl (teq (by rw [hv_v130]; rfl)).2 k) ?_
    show OutW _ _ _ _ _ _ _ (T128.setTop (mkF m 230 #[.val (.int p1), .val (.int p2), .val (.int p3), .val (.int p4), .val (.int (3 : Int32)), .val (.ref b99), .val (.ref b103), .val (.int (0 : Int32)), .val (.int (1 : Int32)), .val (.int v108), .val (.int v117), .val (.int v126)] []))
    refine OutW.back (fun t k => XS.iconst X128.here hx rfl (hb hby at_230) k) ?_
    show OutW _ _ _ _ _ _ _ (T128.setTop (mkF m 231 #[.val (.int p1), .val (.int p2), .val (.int p3), .val (.int p4), .val (.int (3 : Int32)), .val (.ref b99), .val (.ref b103), .val (.int (0 : Int32)), .val (.int (1 : Int32)), .val (.int v108), .val (.int v117), .val (.int v126)] [(.int (1 : Int32))]))
    refine OutW.back (fun t k => XS.goto X128.here hx rfl (pc0 := 231) (pc' := 235) rfl (hb hby at_231) (by decide) (by decide) k) ?_
    show OutW _ _ _ _ _ _ _ (T128.setTop (mkF m 235 #[.val (.int p1), .val (.int p2), .val (.int p3), .val (.int p4), .val (.int (3 : Int32)), .val (.ref b99), .val (.ref b103), .val (.int (0 : Int32)), .val (.int (1 : Int32)), .val (.int v108), .val (.int v117), .val (.int v126)] [(.int (1 : Int32))]))
    refine OutW.back (fun t k => XS.istore X128.here hx rfl (hb hby at_235) rfl (l' := #[.val (.int p1), .val (.int p2), .val (.int p3), .val (.int p4), .val (.int (3 : Int32)), .val (.ref b99), .val (.ref b103), .val (.int (0 : Int32)), .val (.int (1 : Int32)), .val (.int v108), .val (.int v117), .val (.int v126)]) rfl k) ?_
    show OutW _ _ _ _ _ _ _ (T128.setTop (mkF m 237 #[.val (.int p1), .val (.int p2), .val (.int p3), .val (.int p4), .val (.int (3 : Int32)), .val (.ref b99), .val (.ref b103), .val (.int (0 : Int32)), .val (.int (1 : Int32)), .val (.int v108), .val (.int v117), .val (.int v126)] []))
    refine OutW.back (fun t k => XS.iload X128.here hx rfl (hb hby at_237) rfl  k) ?_
    show OutW _ _ _ _ _ _ _ (T128.setTop (mkF m 239 #[.val (.int p1), .val (.int p2), .val (.int p3), .val (.int p4), .val (.int (3 : Int32)), .val (.ref b99), .val (.ref b103), .val (.int (0 : Int32)), .val (.int (1 : Int32)), .val (.int v108), .val (.int v117), .val (.int v126)] [(.int (1 : Int32))]))
    refine OutW.retN X128 hx (t := .boolean) (z' := 1) Bd.returns (by simp) hlk (hb hby at_239) ?hz (by decide) (by decide) ?_
    case hz =>
      rfl
    show Q0 Z p1 p2 p3 p4 h0 n0 _ T128.heap _
    rw [e128]
    exact ⟨rfl, N128⟩
set_option maxRecDepth 65536 in
set_option maxHeartbeats 40000000 in
theorem comes_1 {Post : Tables → Env → Array Value → State → Outcome → State → Prop} (hpost : ∀ tb e args s v u, (limb_1_1.after args s (.returned v) u = true ∧ limb_1_2.after args s (.returned v) u = true ∧ True) → FrameEnd s (.returned v) u (Jvm.fieldLocs frame_1_writes args s ++ Jvm.arrayLocs frame_1_arrays args s ++ Jvm.staticLocs frame_1_statics s) 16 128 → Post tb e args s (.returned v) u) :
    ArmFor flags0 classFile x code maxLocals ret World_1 tables_1 room_1 Calls_1 rest_1 Pre_1 Post := by
  intro l hfl _ _ p e ha hc hk s m args below hf hA hF happ hP
  obtain ⟨hcalls, hrest, hpre⟩ := hP
  obtain ⟨-, -, -, hnamed, -, -, -, hat⟩ := (Spec.applies_iff hf).mp happ
  obtain ⟨hg, hn⟩ := and_e (Cond.before_iff.mp (show (Jvm.Cond.and given_1 narrow_1).before args s = true from hpre))
  obtain ⟨hcount, hg0⟩ := and_e hg
  obtain ⟨ga0, hg1⟩ := and_e hg0
  obtain ⟨ga1, hg2⟩ := and_e hg1
  obtain ⟨ga2, hg3⟩ := and_e hg2
  have ga3 := hg3
  obtain ⟨w0, w1, w2, w3, rfl⟩ : ∃ w0 w1 w2 w3 : Value, args = #[w0, w1, w2, w3] := by
    have hs : args.size = 4 := by simpa [Cond.value, given_1] using hcount
    obtain ⟨L⟩ := args
    match L, hs with
    | [w0, w1, w2, w3], _ => exact ⟨w0, w1, w2, w3, rfl⟩
  have hw := fun d (hd : d ∈ tables_1) => atoms_spec (ws := Jvm.Cond.code x code maxLocals ret :: tables_1) hat d (List.mem_cons_of_mem _ hd)
  obtain ⟨i0, ei0⟩ := is_v ga0
  obtain rfl : w0 = (.int i0) := Option.some.inj ei0
  obtain ⟨i1, ei1⟩ := is_v ga1
  obtain rfl : w1 = (.int i1) := Option.some.inj ei1
  obtain ⟨i2, ei2⟩ := is_v ga2
  obtain rfl : w2 = (.int i2) := Option.some.inj ei2
  obtain ⟨i3, ei3⟩ := is_v ga3
  obtain rfl : w3 = (.int i3) := Option.some.inj ei3
  obtain ⟨n, o, h1, h2, h3, _, L, rfl, ⟨rfl, N⟩, hq⟩ := rm0 l s _ hw tables_1 i0 i1 i2 i3  s.heap s.heap.size (Nat.le_refl _)  p e ha hc hk s m _ below hf ((Spec.applies_iff_loose hf).mp happ).1 ⟨rfl, State.Warmed39.refl s, rfl⟩ trivial
  refine ⟨n, _, h1, h2, h3, hpost _ _ _ _ _ _ ⟨Cond.after_iff.mpr rfl, Cond.after_iff.mpr (eq_i res_at (Term.int_eval (1)) rfl), trivial⟩ ⟨hq.1, hq.2.1, (hq.2.2.sift fun y hy => Or.inr (N y hy)).mono (by decide) (by decide)⟩⟩
theorem main_1_1 : Claimed_1_1 := comes_1 fun _ _ _ _ _ _ h hF => ⟨h.1, hF⟩
theorem main_1_2 : Claimed_1_2 := comes_1 fun _ _ _ _ _ _ h hF => ⟨h.2.1, hF⟩
end Jvm.Pilot.@@N@@
namespace Jvm.Pilot.@@N@@
open Jvm Jvm.ClassFile Sem Op Lib Jvm.Free Jvm.Stand Jvm.Pilot.@@N@@.Jvm.D
/-! MADE BY PROGRAM (witnessworld.py) out of the Statement's table words and the real class files: 9 classes; the members and pool entries that the words name. The judged class is class 1, her method 4. -/
namespace start1
open Jvm.ClassFile
def u (s : String) : CpInfo := .utf8 (stringToUtf16 s)
/-- a pool by its gaps: so many unusable entries, then the entry; so many at the end -/
def gap : Nat → List CpInfo → List CpInfo
  | 0, r => r
  | n + 1, r => .unusable :: gap n r
def poolList (es : List (Nat × CpInfo)) (last : Nat) : List CpInfo := es.foldr (fun e r => gap e.1 (e.2 :: r)) (gap last [])
def pool (es : List (Nat × CpInfo)) (last : Nat) : Array CpInfo := ⟨poolList es last⟩
def fileOf (pool : Array CpInfo) (this : Nat) (attrs : Array Attribute := #[]) (ms : Array MethodInfo := #[]) (fl : Nat := 33) (sup : Nat := 0) (ifs : Array Nat := #[]) (fds : Array FieldInfo := #[]) : ClassFile where
  minorVersion := 0
  majorVersion := 65
  constantPool := pool
  accessFlags := fl
  thisClass := this
  superClass := sup
  interfaces := ifs
  fields := fds
  methods := ms
  attributes := attrs
def plain (name : String) (sup : Option ClassId) : Class where
  name := name
  kind := .ordinary
  loader := none
  accessFlags := 33
  super := sup
  interfaces := #[]
  cf := none
  fields := #[]
  methods := #[]
  instanceTypes := #[]
  staticTypes := #[]
  resolved := #[]
  callSites := []
  init := .initialized
  statics := none
  mirror := none

def pool0 : Array CpInfo := pool [(5, u "<init>"), (0, u "()V"), (1, .class_ 10), (1, u "java/lang/Object")] 113

def k0c0 : Code := { maxStack := 0, maxLocals := 1, code := object_method_1_code, exceptionTable := #[], attributes := #[] }
def k0m0 : Method := { name := "<init>", desc := "()V", sig := { parameters := [], returnType := none }, accessFlags := 1, code := some k0c0 }
/-- java/lang/Object -/
def k0 : Class := { plain "java/lang/Object" none with
  accessFlags := 33
  interfaces := #[]
  cf := some (fileOf pool0 8 #[] #[{ accessFlags := 1, nameIndex := 5, descriptorIndex := 6, attributes := #[] }] 33 0 #[] #[])
  fields := #[]
  methods := #[k0m0]
  instanceTypes := #[]
  staticTypes := #[]
  resolved := Array.replicate 124 none
  statics := none }

def pool1 : Array CpInfo := pool [(2, .class_ 4), (1, u "java/lang/Object"), (0, u "<init>"), (0, u "()V"), (0, .methodref 8 9), (0, .class_ 10), (0, .nameAndType 11 12), (0, u "com/example/fulltext_workbench/fulltextworkbench/index/VarintReaderAtEndPinLaw"), (0, u "byteAt"), (0, u "(IIII)I"), (0, .methodref 8 14), (0, .nameAndType 15 16), (0, u "term"), (0, u "(IIIII)Z"), (0, .class_ 18), (0, u "com/example/fulltext_workbench/fulltextworkbench/index/VarintReader"), (0, .methodref 17 20), (0, .nameAndType 5 21), (0, u "([B)V"), (0, .methodref 17 23), (0, .nameAndType 24 25), (0, u "atEnd"), (0, u "()Z"), (0, .methodref 17 27), (0, .nameAndType 28 29), (0, u "next"), (0, u "()I"), (0, .methodref 8 31), (0, .nameAndType 32 33), (0, u "step"), (0, u "(IIIII)I"), (3, u "law"), (0, u "(IIII)Z")] 4

def k1m0 : Method := { name := "<init>", desc := "()V", sig := { parameters := [], returnType := none }, accessFlags := 2, code := none }
def k1c1 : Code := { maxStack := 2, maxLocals := 4, code := method_2_code, exceptionTable := #[], attributes := #[] }
def k1m1 : Method := { name := "byteAt", desc := "(IIII)I", sig := { parameters := [.int, .int, .int, .int], returnType := some .int }, accessFlags := 10, code := some k1c1 }
def k1c2 : Code := { maxStack := 4, maxLocals := 5, code := method_3_code, exceptionTable := #[], attributes := #[] }
def k1m2 : Method := { name := "term", desc := "(IIIII)Z", sig := { parameters := [.int, .int, .int, .int, .int], returnType := some .boolean }, accessFlags := 10, code := some k1c2 }
def k1c3 : Code := { maxStack := 5, maxLocals := 5, code := method_4_code, exceptionTable := #[], attributes := #[] }
def k1m3 : Method := { name := "step", desc := "(IIIII)I", sig := { parameters := [.int, .int, .int, .int, .int], returnType := some .int }, accessFlags := 10, code := some k1c3 }
def k1c4 : Code := { maxStack := 5, maxLocals := 12, code := code, exceptionTable := #[], attributes := #[] }
def k1m4 : Method := { name := "law", desc := "(IIII)Z", sig := { parameters := [.int, .int, .int, .int], returnType := some .boolean }, accessFlags := 9, code := some k1c4 }
/-- com/example/fulltext_workbench/fulltextworkbench/index/VarintReaderAtEndPinLaw -/
def k1 : Class := { plain "com/example/fulltext_workbench/fulltextworkbench/index/VarintReaderAtEndPinLaw" (some 0) with
  accessFlags := 49
  interfaces := #[]
  cf := some (fileOf pool1 8 #[] #[{ accessFlags := 2, nameIndex := 5, descriptorIndex := 6, attributes := #[] }, { accessFlags := 10, nameIndex := 11, descriptorIndex := 12, attributes := #[] }, { accessFlags := 10, nameIndex := 15, descriptorIndex := 16, attributes := #[] }, { accessFlags := 10, nameIndex := 32, descriptorIndex := 33, attributes := #[] }, { accessFlags := 9, nameIndex := 37, descriptorIndex := 38, attributes := #[] }] 49 2 #[] #[])
  fields := #[]
  methods := #[k1m0, k1m1, k1m2, k1m3, k1m4]
  instanceTypes := #[]
  staticTypes := #[]
  resolved := Array.replicate 43 none
  statics := none }

def pool2 : Array CpInfo := pool [(1, .methodref 2 3), (0, .class_ 4), (0, .nameAndType 5 6), (0, u "java/lang/Object"), (0, u "<init>"), (0, u "()V"), (0, .fieldref 8 9), (0, .class_ 10), (0, .nameAndType 11 12), (0, u "com/example/fulltext_workbench/fulltextworkbench/index/VarintReader"), (0, u "bytes"), (0, u "[B"), (2, .fieldref 8 16), (0, .nameAndType 17 18), (0, u "position"), (0, u "I"), (2, .long 2147483647), (3, u "next"), (0, u "()I"), (6, u "([B)V"), (5, u "atEnd"), (0, u "()Z")] 2

def k2c0 : Code := { maxStack := 2, maxLocals := 2, code := prog_38_method_1_code, exceptionTable := #[], attributes := #[] }
def k2m0 : Method := { name := "<init>", desc := "([B)V", sig := { parameters := [(.array .byte)], returnType := none }, accessFlags := 0, code := some k2c0 }
def k2c1 : Code := { maxStack := 6, maxLocals := 5, code := prog_38_method_2_code, exceptionTable := #[], attributes := #[] }
def k2m1 : Method := { name := "next", desc := "()I", sig := { parameters := [], returnType := some .int }, accessFlags := 0, code := some k2c1 }
def k2c2 : Code := { maxStack := 2, maxLocals := 1, code := prog_38_method_4_code, exceptionTable := #[], attributes := #[] }
def k2m2 : Method := { name := "atEnd", desc := "()Z", sig := { parameters := [], returnType := some .boolean }, accessFlags := 0, code := some k2c2 }
/-- com/example/fulltext_workbench/fulltextworkbench/index/VarintReader -/
def k2 : Class := { plain "com/example/fulltext_workbench/fulltextworkbench/index/VarintReader" (some 0) with
  accessFlags := 48
  interfaces := #[]
  cf := some (fileOf pool2 8 #[] #[{ accessFlags := 0, nameIndex := 5, descriptorIndex := 33, attributes := #[] }, { accessFlags := 0, nameIndex := 25, descriptorIndex := 26, attributes := #[] }, { accessFlags := 0, nameIndex := 39, descriptorIndex := 40, attributes := #[] }] 48 2 #[] #[{ accessFlags := 18, nameIndex := 11, descriptorIndex := 12, attributes := #[] }, { accessFlags := 2, nameIndex := 17, descriptorIndex := 18, attributes := #[] }])
  fields := #[{ name := "bytes", type := (.array .byte), accessFlags := 18, slot := 0, constantValue := 0 }, { name := "position", type := .int, accessFlags := 2, slot := 1, constantValue := 0 }]
  methods := #[k2m0, k2m1, k2m2]
  instanceTypes := #[(.array .byte), .int]
  staticTypes := #[]
  resolved := Array.replicate 43 none
  statics := none }

def pool3 : Array CpInfo := pool [(1, u "java/lang/Cloneable"), (0, .class_ 1), (0, u "java/lang/Object"), (0, .class_ 3)] 3

/-- java/lang/Cloneable -/
def k3 : Class := { plain "java/lang/Cloneable" (some 0) with
  accessFlags := 1537
  interfaces := #[]
  cf := some (fileOf pool3 2 #[] #[] 1537 4 #[] #[])
  fields := #[]
  methods := #[]
  instanceTypes := #[]
  staticTypes := #[]
  resolved := Array.replicate 8 none
  statics := none }

def pool4 : Array CpInfo := pool [(1, u "java/io/Serializable"), (0, .class_ 1), (0, u "java/lang/Object"), (0, .class_ 3)] 3

/-- java/io/Serializable -/
def k4 : Class := { plain "java/io/Serializable" (some 0) with
  accessFlags := 1537
  interfaces := #[]
  cf := some (fileOf pool4 2 #[] #[] 1537 4 #[] #[])
  fields := #[]
  methods := #[]
  instanceTypes := #[]
  staticTypes := #[]
  resolved := Array.replicate 8 none
  statics := none }

/-- the primitive byte -/
def k5 : Class := { plain "byte" none with kind := .primitive 'B', accessFlags := 0x411 }
/-- [B -/
def k6 : Class := { plain "[B" (some 0) with kind := .array 5 .byte, interfaces := #[3, 4], accessFlags := 1041 }

/-- the primitive int -/
def k7 : Class := { plain "int" none with kind := .primitive 'I', accessFlags := 0x411 }
/-- [I -/
def k8 : Class := { plain "[I" (some 0) with kind := .array 7 .int, interfaces := #[3, 4], accessFlags := 1041 }

def heap : Heap := #[]
def classes : Array Class := #[k0, k1, k2, k3, k4, k5, k6, k7, k8]
def interned : List (Array UInt16 × Addr) := []
def slotsUsed : Nat := 0
def theMethod : MethodId := ⟨1, 4⟩
def args0 : Array Value := #[.int 5, .int 6, .int 7, .int 8]
def aboutOver (below : List Frame) : State where
  vm := { classes := classes, interned := interned.toArray }
  heap := heap
  slotsUsed := slotsUsed
  threads := #[{ frames := .invoking theMethod args0 :: below }]
def below0 : List Frame := [.native { method := ⟨0, 0⟩, args := #[] }]
def about1 : State := aboutOver below0
def p0 : Program := .bare "" "" ""
def e0 : Env := launch0.env 0 0 0
theorem w_frames : about1.frames = Frame.invoking theMethod args0 :: below0 := rfl
set_option maxRecDepth 65536 in
theorem w_args : argsFit about1.vm theMethod args0 = true := by decide +kernel
set_option maxRecDepth 65536 in
theorem w_heap : heapFits about1 = true := by decide +kernel
set_option maxRecDepth 65536 in
theorem w_runnable : about1.curStatus? = some .runnable := by decide +kernel
set_option maxRecDepth 65536 in
theorem w_alone : about1.alone = true := by decide +kernel
set_option maxRecDepth 65536 in
theorem w_named : about1.methodNamed? x = some theMethod := by decide +kernel
set_option maxRecDepth 65536 in
theorem w_hears : about1.hears theMethod below0 = true := by decide +kernel
set_option maxRecDepth 65536 in
theorem w_ripe : about1.ripe theMethod args0 below0 = true := by decide +kernel
theorem w_running : about1.status = .running := rfl
set_option maxRecDepth 65536 in
theorem w_room : about1.hasRoom e0.platform room_1 = true :=
  launch0.hasRoom_least _ room_1 (by decide +kernel) (by decide +kernel) (by decide +kernel) (by decide +kernel) (by decide +kernel) (by decide +kernel)
theorem allAtoms_all (ts : List Jvm.Cond) (a : Array Jvm.Value) (st : Jvm.State) : (allAtoms ts).before a st = ts.all (fun c => c.before a st) := by
  induction ts with
  | nil => rfl
  | cons c t ih =>
    show (Jvm.Cond.and c (allAtoms t)).before a st = _
    rw [Jvm.Cond.before_and, ih, List.all_cons]
def words1 : List Jvm.Cond := Jvm.Cond.code x code maxLocals ret :: tables_1
/-- a 'code' word, met by the world's own term for the bytes: nothing is compared byte by byte -/
theorem code_word {y : MethodName} {bytes : ByteArray} {mx : Nat} {rt : Option FieldType} {a : Array Value} {s : State} {m : MethodId} {meth : Method} {c : Code} (h1 : s.methodNamed? y = some m) (h2 : s.vm.method? m = some meth) (h3 : meth.code = some c) (h4 : c.code = bytes)
    (h5 : (c.maxLocals == mx && c.exceptionTable.isEmpty && decide (c.maxStack ≤ mostOperands) && decide (meth.sig.returnType = rt) && !meth.locks && decide (parseMethodDescriptor y.desc = some meth.sig)) = true) : (Jvm.Cond.code y bytes mx rt).before a s = true := by
  simp only [Bool.and_eq_true, beq_iff_eq, Bool.not_eq_true', decide_eq_true_eq] at h5
  obtain ⟨⟨⟨⟨⟨g1, g2⟩, g3⟩, g4⟩, g5⟩, g6⟩ := h5
  simp [Cond.before, Cond.holds, Cond.value, h1, h2, h3, h4, g1, g2, g3, g4, g5, g6]
def isCode : Jvm.Cond → Bool
  | .code _ _ _ _ => true
  | _ => false
theorem all_split {L : List Jvm.Cond} {P : Jvm.Cond → Bool} (h1 : L.all (fun c => isCode c || P c) = true) (h2 : ∀ c ∈ L.filter isCode, P c = true) : L.all P = true := by
  refine List.all_eq_true.mpr fun c hc => ?_
  have h := List.all_eq_true.mp h1 c hc
  rcases Bool.eq_false_or_eq_true (isCode c) with hi | hi
  · exact h2 c (List.mem_filter.mpr ⟨hc, hi⟩)
  · simpa [hi] using h
set_option maxRecDepth 65536 in
theorem w_c0 : (Jvm.Cond.code x code maxLocals ret).before args0 about1 = true := code_word (m := ⟨1, 4⟩) (meth := k1m4) (c := k1c4) (by decide +kernel) rfl rfl rfl (by decide +kernel)
set_option maxRecDepth 65536 in
theorem w_c1 : (Jvm.Cond.code ({ cls := "com/example/fulltext_workbench/fulltextworkbench/index/VarintReader", name := "<init>", desc := "([B)V" } : Jvm.MethodName) prog_38_method_1_code (2 : Nat) (Option.none : Option Jvm.ClassFile.FieldType)).before args0 about1 = true := code_word (m := ⟨2, 0⟩) (meth := k2m0) (c := k2c0) (by decide +kernel) rfl rfl rfl (by decide +kernel)
set_option maxRecDepth 65536 in
theorem w_c2 : (Jvm.Cond.code ({ cls := "java/lang/Object", name := "<init>", desc := "()V" } : Jvm.MethodName) object_method_1_code (1 : Nat) (Option.none : Option Jvm.ClassFile.FieldType)).before args0 about1 = true := code_word (m := ⟨0, 0⟩) (meth := k0m0) (c := k0c0) (by decide +kernel) rfl rfl rfl (by decide +kernel)
set_option maxRecDepth 65536 in
theorem w_c3 : (Jvm.Cond.code ({ cls := "com/example/fulltext_workbench/fulltextworkbench/index/VarintReader", name := "atEnd", desc := "()Z" } : Jvm.MethodName) prog_38_method_4_code (1 : Nat) (Option.some Jvm.ClassFile.FieldType.boolean)).before args0 about1 = true := code_word (m := ⟨2, 2⟩) (meth := k2m2) (c := k2c2) (by decide +kernel) rfl rfl rfl (by decide +kernel)
set_option maxRecDepth 65536 in
theorem w_c4 : (Jvm.Cond.code ({ cls := "com/example/fulltext_workbench/fulltextworkbench/index/VarintReader", name := "next", desc := "()I" } : Jvm.MethodName) prog_38_method_2_code (5 : Nat) (Option.some Jvm.ClassFile.FieldType.int)).before args0 about1 = true := code_word (m := ⟨2, 1⟩) (meth := k2m1) (c := k2c1) (by decide +kernel) rfl rfl rfl (by decide +kernel)
set_option maxRecDepth 65536 in
theorem w_c5 : (Jvm.Cond.code ({ cls := "com/example/fulltext_workbench/fulltextworkbench/index/VarintReaderAtEndPinLaw", name := "step", desc := "(IIIII)I" } : Jvm.MethodName) method_4_code (5 : Nat) (Option.some Jvm.ClassFile.FieldType.int)).before args0 about1 = true := code_word (m := ⟨1, 3⟩) (meth := k1m3) (c := k1c3) (by decide +kernel) rfl rfl rfl (by decide +kernel)
set_option maxRecDepth 65536 in
theorem w_c6 : (Jvm.Cond.code ({ cls := "com/example/fulltext_workbench/fulltextworkbench/index/VarintReaderAtEndPinLaw", name := "term", desc := "(IIIII)Z" } : Jvm.MethodName) method_3_code (5 : Nat) (Option.some Jvm.ClassFile.FieldType.boolean)).before args0 about1 = true := code_word (m := ⟨1, 2⟩) (meth := k1m2) (c := k1c2) (by decide +kernel) rfl rfl rfl (by decide +kernel)
set_option maxRecDepth 65536 in
theorem w_c7 : (Jvm.Cond.code ({ cls := "com/example/fulltext_workbench/fulltextworkbench/index/VarintReaderAtEndPinLaw", name := "byteAt", desc := "(IIII)I" } : Jvm.MethodName) method_2_code (4 : Nat) (Option.some Jvm.ClassFile.FieldType.int)).before args0 about1 = true := code_word (m := ⟨1, 1⟩) (meth := k1m1) (c := k1c1) (by decide +kernel) rfl rfl rfl (by decide +kernel)
def codes1 : List Jvm.Cond := [Jvm.Cond.code x code maxLocals ret, Jvm.Cond.code ({ cls := "com/example/fulltext_workbench/fulltextworkbench/index/VarintReader", name := "<init>", desc := "([B)V" } : Jvm.MethodName) prog_38_method_1_code (2 : Nat) (Option.none : Option Jvm.ClassFile.FieldType), Jvm.Cond.code ({ cls := "java/lang/Object", name := "<init>", desc := "()V" } : Jvm.MethodName) object_method_1_code (1 : Nat) (Option.none : Option Jvm.ClassFile.FieldType), Jvm.Cond.code ({ cls := "com/example/fulltext_workbench/fulltextworkbench/index/VarintReader", name := "atEnd", desc := "()Z" } : Jvm.MethodName) prog_38_method_4_code (1 : Nat) (Option.some Jvm.ClassFile.FieldType.boolean), Jvm.Cond.code ({ cls := "com/example/fulltext_workbench/fulltextworkbench/index/VarintReader", name := "next", desc := "()I" } : Jvm.MethodName) prog_38_method_2_code (5 : Nat) (Option.some Jvm.ClassFile.FieldType.int), Jvm.Cond.code ({ cls := "com/example/fulltext_workbench/fulltextworkbench/index/VarintReaderAtEndPinLaw", name := "step", desc := "(IIIII)I" } : Jvm.MethodName) method_4_code (5 : Nat) (Option.some Jvm.ClassFile.FieldType.int), Jvm.Cond.code ({ cls := "com/example/fulltext_workbench/fulltextworkbench/index/VarintReaderAtEndPinLaw", name := "term", desc := "(IIIII)Z" } : Jvm.MethodName) method_3_code (5 : Nat) (Option.some Jvm.ClassFile.FieldType.boolean), Jvm.Cond.code ({ cls := "com/example/fulltext_workbench/fulltextworkbench/index/VarintReaderAtEndPinLaw", name := "byteAt", desc := "(IIII)I" } : Jvm.MethodName) method_2_code (4 : Nat) (Option.some Jvm.ClassFile.FieldType.int)]
set_option maxRecDepth 65536 in
theorem codes_eq : words1.filter isCode = codes1 := rfl
theorem w_codes : ∀ c ∈ words1.filter isCode, c.before args0 about1 = true := by
  rw [codes_eq]
  intro c hc
  simp only [codes1, List.mem_cons, List.not_mem_nil, or_false] at hc
  rcases hc with rfl | rfl | rfl | rfl | rfl | rfl | rfl | rfl
  · exact w_c0
  · exact w_c1
  · exact w_c2
  · exact w_c3
  · exact w_c4
  · exact w_c5
  · exact w_c6
  · exact w_c7
set_option maxRecDepth 65536 in
theorem w_t1 : (words1.take 24).all (fun c => isCode c || c.before args0 about1) = true := by decide +kernel
set_option maxRecDepth 65536 in
theorem w_t2 : (words1.drop 24).all (fun c => isCode c || c.before args0 about1) = true := by decide +kernel
theorem w_tables : (allAtoms (Jvm.Cond.code x code maxLocals ret :: tables_1)).before args0 about1 = true := by
  rw [allAtoms_all]
  show words1.all (fun c => c.before args0 about1) = true
  refine all_split ?_ w_codes
  rw [← List.take_append_drop 24 words1, List.all_append, w_t1, w_t2]
  rfl
set_option maxRecDepth 65536 in
theorem w_case : (Jvm.Cond.and given_1 narrow_1).before args0 about1 = true := by decide +kernel
theorem w_applies : (headSpec (Jvm.Cond.code x code maxLocals ret :: tables_1) room_1).applies x e0.platform about1 = true :=
  (Spec.applies_iff w_frames).mpr ⟨w_running, w_runnable, w_alone, w_named, w_hears, w_ripe, w_room, w_tables⟩
theorem atStart : AtStart classFile x code maxLocals ret World_1 tables_1 room_1 Calls_1 rest_1 Pre_1 launch0 p0 e0 about1 theMethod args0 below0 :=
  ⟨lists_1, trivial, launch0.admits_env _ _ _, launch0.least_env, fairChoices_fair.cas, fairChoices_fair.clock, w_frames, w_args, w_heap, w_applies, trivial, trivial, w_case⟩
end start1
theorem witness_1 : WitnessClaimed_1 := ⟨start1.p0, start1.e0, start1.about1, start1.theMethod, start1.args0, start1.below0, start1.atStart⟩
end Jvm.Pilot.@@N@@
