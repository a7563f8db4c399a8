import JvmDerived
import JvmDerived.Pilot.@@N@@Statement
import JvmDerived.Pilot.@@N@@Code
set_option linter.unusedVariables false
set_option linter.unusedSimpArgs false
namespace Jvm.RoadKit
open Sem ClassFile Op Lib Jvm.Stand Jvm.Free Jvm.LawKit
section Own
variable {p : Program} {l : Launch} {e : Env} {R : Room} {s : State} {m : MethodId} {args : Array Value} {below : List Frame} {meth : Method} {c : Code} {T A B : State} {locs : List Loc} {cells slots K N : Nat} {Q : Option Value → Heap → List Loc → Prop}
/-- from A the walk comes to its end, and Q holds there -/
def OutW (p : Program) (e : Env) (below : List Frame) (s : State) (K N : Nat) (Q : Option Value → Heap → List Loc → Prop) (A : State) : Prop :=
  ∃ s₂ o, Steps p.tables e below A s₂ ∧ s₂.status = .running ∧ Ended s₂ below o ∧ ∃ v L, o = .returned v ∧ Q v s₂.heap L ∧ FrameEnd s o s₂ L K N
/-- a body that writes nothing: what it returns -/
def Qpure (h0 : Heap) (n0 : Nat) (r : Value) (v : Option Value) (h : Heap) (L : List Loc) : Prop := v = some r ∧ Fr n0 L ∧ h = h0
theorem OutW.back (h : ∀ t, Steps p.tables e below B t → Steps p.tables e below A t) (k : OutW p e below s K N Q B) : OutW p e below s K N Q A := by
  obtain ⟨t, o, h1, h2⟩ := k
  exact ⟨t, o, h t h1, h2⟩
theorem OutW.via (h : Steps p.tables e below A B) (k : OutW p e below s K N Q B) : OutW p e below s K N Q A := by
  obtain ⟨t, o, h1, h2⟩ := k
  exact ⟨t, o, h.trans h1, h2⟩
theorem OutW.retV (X : Stand p l e R s m args below meth c T locs cells slots) (hx : p.tables.exec = Jvm.exec) {pc : Nat} {Ls : Array Slot} (hret : meth.sig.returnType = none) (hlk : meth.locks = false) (hd : decode c.code pc = .ok (.return_, 1))
    (hK : cells ≤ K) (hN : slots ≤ N) (hq : Q none T.heap locs) : OutW p e below s K N Q (T.setTop (mkF m pc Ls [])) := by
  obtain ⟨fs, hr, hrun, hended, hW, hsame⟩ := X.leave (v := none) (fun _ => rfl) hlk
  exact ⟨_, _, X.returnOut hx hret hd hr, hrun, hended, _, _, rfl, hq, ⟨_, rfl⟩, hW, hsame.mono hK hN⟩
theorem OutW.retI (X : Stand p l e R s m args below meth c T locs cells slots) (hx : p.tables.exec = Jvm.exec) {pc : Nat} {Ls : Array Slot} {z : Int32} {rest : List Value} (hret : meth.sig.returnType = some .int) (hlk : meth.locks = false) (hd : decode c.code pc = .ok (.ireturn, 1))
    (hK : cells ≤ K) (hN : slots ≤ N) (hq : Q (some (.int z)) T.heap locs) : OutW p e below s K N Q (T.setTop (mkF m pc Ls (.int z :: rest))) := by
  obtain ⟨fs, hr, hrun, hended, hW, hsame⟩ := X.leave (v := some (.int z)) (fun h => by rw [hret] at h; cases h) hlk
  exact ⟨_, _, retOut X hx hret rfl (Or.inl ⟨rfl, Or.inl rfl, z, rfl⟩) hd hr, hrun, hended, _, _, rfl, hq, ⟨_, rfl⟩, hW, hsame.mono hK hN⟩
theorem OutW.retJ (X : Stand p l e R s m args below meth c T locs cells slots) (hx : p.tables.exec = Jvm.exec) {pc : Nat} {Ls : Array Slot} {z : Int64} {rest : List Value} (hret : meth.sig.returnType = some .long) (hlk : meth.locks = false) (hd : decode c.code pc = .ok (.lreturn, 1))
    (hK : cells ≤ K) (hN : slots ≤ N) (hq : Q (some (.long z)) T.heap locs) : OutW p e below s K N Q (T.setTop (mkF m pc Ls (.long z :: rest))) := by
  obtain ⟨fs, hr, hrun, hended, hW, hsame⟩ := X.leave (v := some (.long z)) (fun h => by rw [hret] at h; cases h) hlk
  exact ⟨_, _, retOut X hx hret rfl (Or.inr (Or.inl ⟨rfl, rfl, z, rfl⟩)) hd hr, hrun, hended, _, _, rfl, hq, ⟨_, rfl⟩, hW, hsame.mono hK hN⟩
theorem nar_ref {t : FieldType} {v : Value} (h : v.isRef = true) : narrow t v = v := by
  rcases ref_cases h with rfl | ⟨a, rfl⟩ <;> cases t <;> rfl
theorem cat_ref {v : Value} (h : v.isRef = true) : v.category = 1 := by
  rcases ref_cases h with rfl | ⟨a, rfl⟩ <;> rfl
theorem fit_ref {t : FieldType} {v : Value} (ht : refKind t = true) (h : v.isRef = true) : fits t v = true := by
  rcases ref_cases h with rfl | ⟨a, rfl⟩ <;> cases t <;> first | rfl | (simp [refKind] at ht)
theorem OutW.retA (X : Stand p l e R s m args below meth c T locs cells slots) (hx : p.tables.exec = Jvm.exec) {pc : Nat} {Ls : Array Slot} {w : Value} {t : FieldType} {rest : List Value} (hret : meth.sig.returnType = some t) (ht : t.isReference = true) (hw : w.isRef = true) (hlk : meth.locks = false) (hd : decode c.code pc = .ok (.areturn, 1))
    (hK : cells ≤ K) (hN : slots ≤ N) (hq : Q (some w) T.heap locs) : OutW p e below s K N Q (T.setTop (mkF m pc Ls (w :: rest))) := by
  obtain ⟨fs, hr, hrun, hended, hW, hsame⟩ := X.leave (v := some w) (fun h => by rw [hret] at h; cases h) hlk
  exact ⟨_, _, retOut X hx hret (nar_ref hw) (Or.inr (Or.inr (Or.inr (Or.inr ⟨rfl, ht, hw⟩)))) hd hr, hrun, hended, _, _, rfl, hq, ⟨_, rfl⟩, hW, hsame.mono hK hN⟩
theorem OutW.retN (X : Stand p l e R s m args below meth c T locs cells slots) (hx : p.tables.exec = Jvm.exec) {pc : Nat} {Ls : Array Slot} {z z' : Int32} {t : FieldType} {rest : List Value} (hret : meth.sig.returnType = some t) (ht : t = .boolean ∨ t = .byte ∨ t = .char ∨ t = .short) (hlk : meth.locks = false) (hd : decode c.code pc = .ok (.ireturn, 1)) (hz : nar t z = z')
    (hK : cells ≤ K) (hN : slots ≤ N) (hq : Q (some (.int z')) T.heap locs) : OutW p e below s K N Q (T.setTop (mkF m pc Ls (.int z :: rest))) := by
  subst hz
  obtain ⟨fs, hr, hrun, hended, hW, hsame⟩ := X.leave (v := some (.int (nar t z))) (fun h => by rw [hret] at h; cases h) hlk
  exact ⟨_, _, Jvm.RoadKit.retN X hx hret ht hd hr, hrun, hended, _, _, rfl, hq, ⟨_, rfl⟩, hW, hsame.mono hK hN⟩
theorem store1' {L L' : Array Slot} {i : Nat} {v : Value} {o : Slot} (hold : L[i]? = some o) (ho : One o) (hv : v.category = 1) (h : L.setIfInBounds i (.val v) = L') : storeLocals L i v = some L' := h ▸ XS.store1 hold ho hv
theorem own_lt_mono {x a b : Int32} (h : x < a) (q : a ≤ b) : x < b := by
  rw [Int32.lt_iff_toInt_lt] at *
  rw [Int32.le_iff_toInt_le] at q
  omega
theorem own_nlt_mono {x a b : Int32} (h : ¬ x < a) (q : b ≤ a) : ¬ x < b := by
  rw [Int32.lt_iff_toInt_lt] at *
  rw [Int32.le_iff_toInt_le] at q
  omega
/-- every element of the array's cell is an object of exactly that class -/
def Els (Z : State) (h : Heap) (cl : Cell) (C : String) : Prop := ∀ j : Int32, ¬ (j < 0 ∨ cl.slots.size ≤ j.toNatClampNeg) → ∃ y : Addr, cl.slots[j.toNatClampNeg]? = some (.ref y) ∧ Exa Z h y C
theorem own_Uext {Z : State} {h h' : Heap} {cl : Cell} {C : String} (U : Els Z h cl C) (E : Ext h h') : Els Z h' cl C := fun j hj => by
  obtain ⟨y, a, b⟩ := U j hj
  exact ⟨y, a, b.ext E⟩
theorem own_Uwr {Z : State} {h h' : Heap} {cl : Cell} {C : String} {a : Addr} {sl : Nat} {v : Value} (U : Els Z h cl C) (W : Wr h h' a sl v) : Els Z h' cl C := fun j hj => by
  obtain ⟨y, q, b⟩ := U j hj
  exact ⟨y, q, b.wr W⟩
theorem own_Ukeep {Z : State} {h h' : Heap} {cl : Cell} {C : String} {ws : List Addr} (U : Els Z h cl C) (K : Keep h h' ws) : Els Z h' cl C := fun j hj => by
  obtain ⟨y, a, b⟩ := U j hj
  exact ⟨y, a, b.keep K⟩
theorem own_Akeep {Z : State} {h h' : Heap} {a : Addr} {c : Cell} {ty : FieldType} {ws : List Addr} (A : Arr Z h a c ty) (K : Keep h h' ws) (q : a ∉ ws) : Arr Z h' a c ty := ⟨K.2.1 a c A.1 q, A.2⟩
theorem own_notFace {args : Array Value} {s : State} {C : String} {x z y : MethodName} (h : (Cond.selects C x z).before args s = true) (e : y.cls = z.cls) : NotFace s y := fun r0 h0 => by
  obtain ⟨c, r, m, q1, q2, q3, q4, mk, k1, k2⟩ := Cond.selects_spec h
  have a := findClass_of_methodNamed h0
  have b := findClass_of_methodNamed q3
  rw [e] at a
  have i : r0.cls = m.cls := Option.some.inj (a.symm.trans b)
  exact ⟨mk, by rw [i]; exact k1, k2⟩
theorem own_keepS {Z : State} {h h' : Heap} {C n d : String} {v : Value} {ws : List Addr} (F : Sta Z h C n d v) (K : Keep h h' ws) (q : ∀ x ∈ ws, ∃ C', Exa Z h x C') : Sta Z h' C n d v := by
  obtain ⟨cf, i, k, f, st, cell, h1, h2, h3, h4, h5, h6, h7⟩ := F
  have ne : st ∉ ws := fun hm => by
    obtain ⟨C', c', k', e1, -, -, e4, -⟩ := q st hm
    cases h5.symm.trans e1
    rw [h6] at e4; cases e4
  exact ⟨cf, i, k, f, st, cell, h1, h2, h3, h4, K.2.1 _ _ h5 ne, h6, h7⟩
end Own
end Jvm.RoadKit
namespace Jvm.Pilot.@@N@@
open Jvm Jvm.ClassFile Sem Op Lib Jvm.Free Jvm.Stand Jvm.LawKit Jvm.RoadKit Bundle Jvm.Pilot.@@N@@.Jvm.D
theorem d1_0 : decode prog_38_method_1_code 0 = .ok (.aload_n 0, 1) := by decide +kernel
theorem d1_1 : decode prog_38_method_1_code 1 = .ok (.invokespecial 1, 3) := by decide +kernel
theorem d1_4 : decode prog_38_method_1_code 4 = .ok (.aload_n 0, 1) := by decide +kernel
theorem d1_5 : decode prog_38_method_1_code 5 = .ok (.aload_n 1, 1) := by decide +kernel
theorem d1_6 : decode prog_38_method_1_code 6 = .ok (.putfield 7, 3) := by decide +kernel
theorem d1_9 : decode prog_38_method_1_code 9 = .ok (.return_, 1) := by decide +kernel
theorem pn_1 : plainName "com/example/fulltext_workbench/fulltextworkbench/index/VarintReader" = true := by first | (simp [plainName, overriddenIn]; done) | decide +kernel
theorem ef_1 (m : MethodId) (x0 : Addr) (x1 : Addr) : entryFrame m #[(.ref x0), (.ref x1)] 2 = mkF m 0 #[.val (.ref x0), .val (.ref x1)] [] := by first | (simp [entryFrame, mkF, argsToLocals, Value.category]; done) | rfl
def Q1 (Z : State) (a1 : Addr) (a2 : Addr) (w_p : Int32) (h0 : Heap) (n0 : Nat) (v : Option Value) (h : Heap) (L : List Loc) : Prop := v = none ∧ Fr n0 L ∧ Keep h0 h [a1] ∧ Fld Z h a1 "com/example/fulltext_workbench/fulltextworkbench/index/VarintReader" "bytes" "[B" (.ref a2) ∧ Fld Z h a1 "com/example/fulltext_workbench/fulltextworkbench/index/VarintReader" "position" "I" (.int w_p)
set_option maxRecDepth 65536 in
set_option maxHeartbeats 40000000 in
theorem rm1 (l : Launch) (Z : State) (a0 : Array Value) (hw : ∀ d ∈ tables_1, d.before a0 Z = true) (ws : List Jvm.Cond) (a1 : Addr) (a2 : Addr) (w_p : Int32) (h0 : Heap) (n0 : Nat) (Z0 : n0 ≤ h0.size) (E_a1 : Exa Z h0 a1 "com/example/fulltext_workbench/fulltextworkbench/index/VarintReader") (g_a1 : n0 ≤ a1) (F_bytes_a1 : Fld Z h0 a1 "com/example/fulltext_workbench/fulltextworkbench/index/VarintReader" "bytes" "[B" .null) (F_position_a1 : Fld Z h0 a1 "com/example/fulltext_workbench/fulltextworkbench/index/VarintReader" "position" "I" (.int w_p)) :
    MetFree l (⟨"com/example/fulltext_workbench/fulltextworkbench/index/VarintReader", "<init>", "([B)V"⟩ : MethodName) (head1 (Jvm.Cond.code (⟨"com/example/fulltext_workbench/fulltextworkbench/index/VarintReader", "<init>", "([B)V"⟩ : MethodName) prog_38_method_1_code 2 none :: ws) ({ frames := 1, cells := 0, slots := 0, locals := 12 } : Room)) (fun a U => a = #[(.ref a1), (.ref a2)] ∧ Z.Warmed39 U.vm ∧ U.heap = h0) (fun _ _ _ _ _ => True) (fun _ U o U' => ∃ v L, o = .returned v ∧ Q1 Z a1 a2 w_p h0 n0 v U'.heap L ∧ FrameEnd U o U' L ({ frames := 1, cells := 0, slots := 0, locals := 12 } : Room).cells ({ frames := 1, cells := 0, slots := 0, locals := 12 } : Room).slots) := by
  refine MetFree.of_bodySF (plainFor_of_name pn_1) hisR ?_
  intro p e s m args below meth c s₁ Bd hml0 hP hK
  obtain ⟨rfl, hZ, hh⟩ := hP
  have hx := Bd.exec
  have hby := Bd.bytes
  have hlk := Bd.notSynchronized
  have hml : c.maxLocals = 2 := hml0
  have hown : s.vm.findClass "com/example/fulltext_workbench/fulltextworkbench/index/VarintReader" = some m.cls := findClass_of_methodNamed Bd.named
  have hnm := (name_of_methodNamed Bd.named Bd.method).1
  have X0 : Stand p l e ({ frames := 1, cells := 0, slots := 0, locals := 12 } : Room) s m #[(.ref a1), (.ref a2)] below meth c s₁ [] 0 0 := Stand.of_body Bd
  have e0 : s₁.heap = h0 := by rw [← hh, Bd.state]; rfl
  have N0 := Fr.nil n0
  have K0 : Keep h0 h0 [a1] := Keep.refl h0 _
  show OutW p e below s ({ frames := 1, cells := 0, slots := 0, locals := 12 } : Room).cells ({ frames := 1, cells := 0, slots := 0, locals := 12 } : Room).slots (Q1 Z a1 a2 w_p h0 n0) _
  refine OutW.back (fun t k => castTop (ef_1 m a1 a2) k) ?_
  show OutW _ _ _ _ _ _ _ (s₁.setTop (mkF m 0 #[.val (.ref a1), .val (.ref a2)] []))
  refine OutW.back (fun t k => XS.aloadN X0.here hx rfl (hb hby d1_0) rfl rfl  k) ?_
  show OutW _ _ _ _ _ _ _ (s₁.setTop (mkF m 1 #[.val (.ref a1), .val (.ref a2)] [(.ref a1)]))
  obtain ⟨T1, X1, e1, st1⟩ := initO X0 hx hZ hown (hw _ (List.mem_of_getElem? (i := 8) rfl)) (hw _ (List.mem_of_getElem? (i := 9) rfl)) (hw _ (List.mem_of_getElem? (i := 10) rfl)) e0 (g := (mkF m 1 #[.val (.ref a1), .val (.ref a2)] [(.ref a1)])) rfl (by rw [hml]; rfl) rfl (hb hby d1_1) (by decide) (W := 0) (by show 2 * 0 + _ ≤ _; exact Nat.le_of_eq rfl) (by decide)
  refine OutW.back st1 ?_
  show OutW _ _ _ _ _ _ _ (T1.setTop (mkF m 4 #[.val (.ref a1), .val (.ref a2)] []))
  refine OutW.back (fun t k => XS.aloadN X1.here hx rfl (hb hby d1_4) rfl rfl  k) ?_
  show OutW _ _ _ _ _ _ _ (T1.setTop (mkF m 5 #[.val (.ref a1), .val (.ref a2)] [(.ref a1)]))
  refine OutW.back (fun t k => XS.aloadN X1.here hx rfl (hb hby d1_5) rfl rfl  k) ?_
  show OutW _ _ _ _ _ _ _ (T1.setTop (mkF m 6 #[.val (.ref a1), .val (.ref a2)] [(.ref a2), (.ref a1)]))
  obtain ⟨T2, h2, X2, e2, W2, st2⟩ := putF X1 hx hZ hown (host := "") (Or.inl (hw _ (List.mem_of_getElem? (i := 11) rfl))) Via.refl e1 F_bytes_a1 E_a1 (Or.inr ⟨(hw _ (List.mem_of_getElem? (i := 12) rfl)), rfl, hnm⟩) (hw _ (List.mem_of_getElem? (i := 3) rfl)) (ty := (.array .byte)) (by decide) rfl rfl (g := (mkF m 6 #[.val (.ref a1), .val (.ref a2)] [(.ref a2), (.ref a1)])) rfl rfl (hb hby d1_6)
  have E_a1 := E_a1.wr W2
  have F_bytes_a1 := F_bytes_a1.same W2
  have F_position_a1 := F_position_a1.other W2 (Or.inr (slot_ne (Or.inl (hw _ (List.mem_of_getElem? (i := 19) rfl))) (Or.inr (hw _ (List.mem_of_getElem? (i := 12) rfl))) (by decide) (t := .int) (t' := (.array .byte)) (by decide) (by decide)))
  have N2 := Fr.snoc X2 N0 g_a1
  have Z2 : n0 ≤ h2.size := Nat.le_trans Z0 (Keep.of_wr W2).1
  have K2 := K0.wr W2 (Or.inl (List.mem_of_getElem? (i := 0) rfl))
  obtain ⟨lc2, X2, N2⟩ : ∃ lc, Stand p l e ({ frames := 1, cells := 0, slots := 0, locals := 12 } : Room) s m #[(.ref a1), (.ref a2)] below meth c T2 lc 0 0 ∧ Fr n0 lc := ⟨_, X2, N2⟩
  refine OutW.back st2 ?_
  show OutW _ _ _ _ _ _ _ (T2.setTop (mkF m 9 #[.val (.ref a1), .val (.ref a2)] []))
  refine OutW.retV X2 hx Bd.returns hlk (hb hby d1_9) (by decide) (by decide) ?_
  show Q1 Z a1 a2 w_p h0 n0 _ T2.heap _
  rw [e2]
  exact ⟨rfl, N2, K2, F_bytes_a1, F_position_a1⟩
def atE (w_p : Int32) (nn : Int32) : Int32 := (if w_p = nn then (1 : Int32) else (0 : Int32))
theorem d4_0 : decode prog_38_method_4_code 0 = .ok (.aload_n 0, 1) := by decide +kernel
theorem d4_1 : decode prog_38_method_4_code 1 = .ok (.getfield 15, 3) := by decide +kernel
theorem d4_4 : decode prog_38_method_4_code 4 = .ok (.aload_n 0, 1) := by decide +kernel
theorem d4_5 : decode prog_38_method_4_code 5 = .ok (.getfield 7, 3) := by decide +kernel
theorem d4_8 : decode prog_38_method_4_code 8 = .ok (.arraylength, 1) := by decide +kernel
theorem d4_9 : decode prog_38_method_4_code 9 = .ok (.if_icmp .ne 7, 3) := by decide +kernel
theorem d4_12 : decode prog_38_method_4_code 12 = .ok (.iconst 1, 1) := by decide +kernel
theorem d4_13 : decode prog_38_method_4_code 13 = .ok (.goto 4, 3) := by decide +kernel
theorem d4_16 : decode prog_38_method_4_code 16 = .ok (.iconst 0, 1) := by decide +kernel
theorem d4_17 : decode prog_38_method_4_code 17 = .ok (.ireturn, 1) := by decide +kernel
theorem pn_4 : plainName "com/example/fulltext_workbench/fulltextworkbench/index/VarintReader" = true := by first | (simp [plainName, overriddenIn]; done) | decide +kernel
theorem ef_4 (m : MethodId) (x0 : Addr) : entryFrame m #[(.ref x0)] 1 = mkF m 0 #[.val (.ref x0)] [] := by first | (simp [entryFrame, mkF, argsToLocals, Value.category]; done) | rfl
def Q4 (Z : State) (a1 : Addr) (b2 : Addr) (w_p : Int32) (nn : Int32) (vs : List Value) (kk : ClassId) (h0 : Heap) (n0 : Nat) (v : Option Value) (h : Heap) (L : List Loc) : Prop := v = some (.int (atE w_p nn)) ∧ Fr n0 L ∧ h = h0
set_option maxRecDepth 65536 in
set_option maxHeartbeats 40000000 in
theorem rm4 (l : Launch) (Z : State) (a0 : Array Value) (hw : ∀ d ∈ tables_1, d.before a0 Z = true) (ws : List Jvm.Cond) (a1 : Addr) (b2 : Addr) (w_p : Int32) (nn : Int32) (vs : List Value) (kk : ClassId) (h0 : Heap) (n0 : Nat) (Z0 : n0 ≤ h0.size) (F_bytes_a1 : Fld Z h0 a1 "com/example/fulltext_workbench/fulltextworkbench/index/VarintReader" "bytes" "[B" (.ref b2)) (F_position_a1 : Fld Z h0 a1 "com/example/fulltext_workbench/fulltextworkbench/index/VarintReader" "position" "I" (.int w_p)) (V_b2 : Arv Z h0 b2 kk .byte nn vs (.int (0 : Int32))) :
    MetFree l (⟨"com/example/fulltext_workbench/fulltextworkbench/index/VarintReader", "atEnd", "()Z"⟩ : MethodName) (head1 (Jvm.Cond.code (⟨"com/example/fulltext_workbench/fulltextworkbench/index/VarintReader", "atEnd", "()Z"⟩ : MethodName) prog_38_method_4_code 1 (some .boolean) :: ws) ({ frames := 0, cells := 0, slots := 0, locals := 0 } : Room)) (fun a U => a = #[(.ref a1)] ∧ Z.Warmed39 U.vm ∧ U.heap = h0) (fun _ _ _ _ _ => True) (fun _ U o U' => ∃ v L, o = .returned v ∧ Q4 Z a1 b2 w_p nn vs kk h0 n0 v U'.heap L ∧ FrameEnd U o U' L ({ frames := 0, cells := 0, slots := 0, locals := 0 } : Room).cells ({ frames := 0, cells := 0, slots := 0, locals := 0 } : Room).slots) := by
  refine MetFree.of_bodySF (plainFor_of_name pn_4) hisR ?_
  intro p e s m args below meth c s₁ Bd hml0 hP hK
  obtain ⟨rfl, hZ, hh⟩ := hP
  have hx := Bd.exec
  have hby := Bd.bytes
  have hlk := Bd.notSynchronized
  have hml : c.maxLocals = 1 := hml0
  have hown : s.vm.findClass "com/example/fulltext_workbench/fulltextworkbench/index/VarintReader" = some m.cls := findClass_of_methodNamed Bd.named
  have hnm := (name_of_methodNamed Bd.named Bd.method).1
  have X0 : Stand p l e ({ frames := 0, cells := 0, slots := 0, locals := 0 } : Room) s m #[(.ref a1)] below meth c s₁ [] 0 0 := Stand.of_body Bd
  have e0 : s₁.heap = h0 := by rw [← hh, Bd.state]; rfl
  have N0 := Fr.nil n0
  have K0 : Keep h0 h0 [] := Keep.refl h0 _
  show OutW p e below s ({ frames := 0, cells := 0, slots := 0, locals := 0 } : Room).cells ({ frames := 0, cells := 0, slots := 0, locals := 0 } : Room).slots (Q4 Z a1 b2 w_p nn vs kk h0 n0) _
  refine OutW.back (fun t k => castTop (ef_4 m a1) k) ?_
  show OutW _ _ _ _ _ _ _ (s₁.setTop (mkF m 0 #[.val (.ref a1)] []))
  refine OutW.back (fun t k => XS.aloadN X0.here hx rfl (hb hby d4_0) rfl rfl  k) ?_
  show OutW _ _ _ _ _ _ _ (s₁.setTop (mkF m 1 #[.val (.ref a1)] [(.ref a1)]))
  obtain ⟨T1, X1, e1, st1⟩ := getF X0 hx hZ hown (host := "") (Or.inl (hw _ (List.mem_of_getElem? (i := 18) rfl))) Via.refl e0 F_position_a1 (g := (mkF m 1 #[.val (.ref a1)] [(.ref a1)])) rfl rfl (hb hby d4_1)
  refine OutW.back st1 ?_
  show OutW _ _ _ _ _ _ _ (T1.setTop (mkF m 4 #[.val (.ref a1)] [(.int w_p)]))
  refine OutW.back (fun t k => XS.aloadN X1.here hx rfl (hb hby d4_4) rfl rfl  k) ?_
  show OutW _ _ _ _ _ _ _ (T1.setTop (mkF m 5 #[.val (.ref a1)] [(.ref a1), (.int w_p)]))
  obtain ⟨T2, X2, e2, st2⟩ := getF X1 hx hZ hown (host := "") (Or.inl (hw _ (List.mem_of_getElem? (i := 11) rfl))) Via.refl e1 F_bytes_a1 (g := (mkF m 5 #[.val (.ref a1)] [(.ref a1), (.int w_p)])) rfl rfl (hb hby d4_5)
  refine OutW.back st2 ?_
  show OutW _ _ _ _ _ _ _ (T2.setTop (mkF m 8 #[.val (.ref a1)] [(.ref b2), (.int w_p)]))
  obtain ⟨cl3, Ar3, Qk3, Sz3, Nn3, Hh3, Gg3⟩ := id V_b2
  refine OutW.back (X2.arraylength hx (by rw [e2]; exact Ar3.1) (State.isArrayOf_alike hZ.alike Ar3.2.1) (g := (mkF m 8 #[.val (.ref a1)] [(.ref b2), (.int w_p)])) rfl rfl (hb hby d4_8)) ?_
  rw [len_of Sz3 Nn3]
  show OutW _ _ _ _ _ _ _ (T2.setTop (mkF m 9 #[.val (.ref a1)] [(.int nn), (.int w_p)]))
  by_cases c9_4 : w_p = nn
  · skip
    refine OutW.back (fun t k => XS.icmpNo X2.here hx rfl (hb hby d4_9) rfl (teq c9_4).2 k) ?_
    show OutW _ _ _ _ _ _ _ (T2.setTop (mkF m 12 #[.val (.ref a1)] []))
    refine OutW.back (fun t k => XS.iconst X2.here hx rfl (hb hby d4_12) k) ?_
    show OutW _ _ _ _ _ _ _ (T2.setTop (mkF m 13 #[.val (.ref a1)] [(.int (1 : Int32))]))
    refine OutW.back (fun t k => XS.goto X2.here hx rfl (pc0 := 13) (pc' := 17) rfl (hb hby d4_13) (by decide) (by decide) k) ?_
    show OutW _ _ _ _ _ _ _ (T2.setTop (mkF m 17 #[.val (.ref a1)] [(.int (1 : Int32))]))
    refine OutW.retN X2 hx (t := .boolean) (z' := (1 : Int32)) Bd.returns (by simp) hlk (hb hby d4_17) ?hz (by decide) (by decide) ?_
    case hz =>
      rfl
    show Q4 Z a1 b2 w_p nn vs kk h0 n0 _ T2.heap _
    rw [e2]
    exact ⟨by rw [atE, if_pos c9_4], N0, rfl⟩
  · skip
    refine OutW.back (fun t k => XS.icmpYes X2.here hx rfl (pc0 := 9) (pc' := 16) rfl (hb hby d4_9) rfl (feq c9_4).2 (by decide) (by decide) k) ?_
    show OutW _ _ _ _ _ _ _ (T2.setTop (mkF m 16 #[.val (.ref a1)] []))
    refine OutW.back (fun t k => XS.iconst X2.here hx rfl (hb hby d4_16) k) ?_
    show OutW _ _ _ _ _ _ _ (T2.setTop (mkF m 17 #[.val (.ref a1)] [(.int (0 : Int32))]))
    refine OutW.retN X2 hx (t := .boolean) (z' := (0 : Int32)) Bd.returns (by simp) hlk (hb hby d4_17) ?hz (by decide) (by decide) ?_
    case hz =>
      rfl
    show Q4 Z a1 b2 w_p nn vs kk h0 n0 _ T2.heap _
    rw [e2]
    exact ⟨by rw [atE, if_neg c9_4], N0, rfl⟩
theorem own_succ {p n : Int32} (h0 : ¬ p < 0) (h1 : p < n) : ¬ (p + (1 : Int32)) < 0 := by
  have a := c_iadd p 1
  have r := rng32 p
  have s := rng32 n
  have t := rng32 (p + 1)
  simp only [Int32.lt_iff_toInt_lt, Int32.reduceToInt] at *
  omega
def nxt (B : Int32 → Int32) (nn : Int32) (w_p : Int32) : Int32 := (if w_p < nn then (if ((B w_p) &&& (128 : Int32)) = (0 : Int32) then (if (2147483647 : Int64) < ((0 : Int64) ||| (((B w_p) &&& (127 : Int32)).toInt64 <<< ((0 : Int32) &&& 0x3f).toInt64)) then (-1 : Int32) else ((0 : Int64) ||| (((B w_p) &&& (127 : Int32)).toInt64 <<< ((0 : Int32) &&& 0x3f).toInt64)).toInt32) else (if (w_p + (1 : Int32)) < nn then (if ((B (w_p + (1 : Int32))) &&& (128 : Int32)) = (0 : Int32) then (if (2147483647 : Int64) < (((0 : Int64) ||| (((B w_p) &&& (127 : Int32)).toInt64 <<< ((0 : Int32) &&& 0x3f).toInt64)) ||| (((B (w_p + (1 : Int32))) &&& (127 : Int32)).toInt64 <<< ((7 : Int32) &&& 0x3f).toInt64)) then (-1 : Int32) else (((0 : Int64) ||| (((B w_p) &&& (127 : Int32)).toInt64 <<< ((0 : Int32) &&& 0x3f).toInt64)) ||| (((B (w_p + (1 : Int32))) &&& (127 : Int32)).toInt64 <<< ((7 : Int32) &&& 0x3f).toInt64)).toInt32) else (if ((w_p + (1 : Int32)) + (1 : Int32)) < nn then (if ((B ((w_p + (1 : Int32)) + (1 : Int32))) &&& (128 : Int32)) = (0 : Int32) then (if (2147483647 : Int64) < ((((0 : Int64) ||| (((B w_p) &&& (127 : Int32)).toInt64 <<< ((0 : Int32) &&& 0x3f).toInt64)) ||| (((B (w_p + (1 : Int32))) &&& (127 : Int32)).toInt64 <<< ((7 : Int32) &&& 0x3f).toInt64)) ||| (((B ((w_p + (1 : Int32)) + (1 : Int32))) &&& (127 : Int32)).toInt64 <<< ((14 : Int32) &&& 0x3f).toInt64)) then (-1 : Int32) else ((((0 : Int64) ||| (((B w_p) &&& (127 : Int32)).toInt64 <<< ((0 : Int32) &&& 0x3f).toInt64)) ||| (((B (w_p + (1 : Int32))) &&& (127 : Int32)).toInt64 <<< ((7 : Int32) &&& 0x3f).toInt64)) ||| (((B ((w_p + (1 : Int32)) + (1 : Int32))) &&& (127 : Int32)).toInt64 <<< ((14 : Int32) &&& 0x3f).toInt64)).toInt32) else (if (((w_p + (1 : Int32)) + (1 : Int32)) + (1 : Int32)) < nn then (if ((B (((w_p + (1 : Int32)) + (1 : Int32)) + (1 : Int32))) &&& (128 : Int32)) = (0 : Int32) then (if (2147483647 : Int64) < (((((0 : Int64) ||| (((B w_p) &&& (127 : Int32)).toInt64 <<< ((0 : Int32) &&& 0x3f).toInt64)) ||| (((B (w_p + (1 : Int32))) &&& (127 : Int32)).toInt64 <<< ((7 : Int32) &&& 0x3f).toInt64)) ||| (((B ((w_p + (1 : Int32)) + (1 : Int32))) &&& (127 : Int32)).toInt64 <<< ((14 : Int32) &&& 0x3f).toInt64)) ||| (((B (((w_p + (1 : Int32)) + (1 : Int32)) + (1 : Int32))) &&& (127 : Int32)).toInt64 <<< ((21 : Int32) &&& 0x3f).toInt64)) then (-1 : Int32) else (((((0 : Int64) ||| (((B w_p) &&& (127 : Int32)).toInt64 <<< ((0 : Int32) &&& 0x3f).toInt64)) ||| (((B (w_p + (1 : Int32))) &&& (127 : Int32)).toInt64 <<< ((7 : Int32) &&& 0x3f).toInt64)) ||| (((B ((w_p + (1 : Int32)) + (1 : Int32))) &&& (127 : Int32)).toInt64 <<< ((14 : Int32) &&& 0x3f).toInt64)) ||| (((B (((w_p + (1 : Int32)) + (1 : Int32)) + (1 : Int32))) &&& (127 : Int32)).toInt64 <<< ((21 : Int32) &&& 0x3f).toInt64)).toInt32) else (if ((((w_p + (1 : Int32)) + (1 : Int32)) + (1 : Int32)) + (1 : Int32)) < nn then (if ((B ((((w_p + (1 : Int32)) + (1 : Int32)) + (1 : Int32)) + (1 : Int32))) &&& (128 : Int32)) = (0 : Int32) then (if (2147483647 : Int64) < ((((((0 : Int64) ||| (((B w_p) &&& (127 : Int32)).toInt64 <<< ((0 : Int32) &&& 0x3f).toInt64)) ||| (((B (w_p + (1 : Int32))) &&& (127 : Int32)).toInt64 <<< ((7 : Int32) &&& 0x3f).toInt64)) ||| (((B ((w_p + (1 : Int32)) + (1 : Int32))) &&& (127 : Int32)).toInt64 <<< ((14 : Int32) &&& 0x3f).toInt64)) ||| (((B (((w_p + (1 : Int32)) + (1 : Int32)) + (1 : Int32))) &&& (127 : Int32)).toInt64 <<< ((21 : Int32) &&& 0x3f).toInt64)) ||| (((B ((((w_p + (1 : Int32)) + (1 : Int32)) + (1 : Int32)) + (1 : Int32))) &&& (127 : Int32)).toInt64 <<< ((28 : Int32) &&& 0x3f).toInt64)) then (-1 : Int32) else ((((((0 : Int64) ||| (((B w_p) &&& (127 : Int32)).toInt64 <<< ((0 : Int32) &&& 0x3f).toInt64)) ||| (((B (w_p + (1 : Int32))) &&& (127 : Int32)).toInt64 <<< ((7 : Int32) &&& 0x3f).toInt64)) ||| (((B ((w_p + (1 : Int32)) + (1 : Int32))) &&& (127 : Int32)).toInt64 <<< ((14 : Int32) &&& 0x3f).toInt64)) ||| (((B (((w_p + (1 : Int32)) + (1 : Int32)) + (1 : Int32))) &&& (127 : Int32)).toInt64 <<< ((21 : Int32) &&& 0x3f).toInt64)) ||| (((B ((((w_p + (1 : Int32)) + (1 : Int32)) + (1 : Int32)) + (1 : Int32))) &&& (127 : Int32)).toInt64 <<< ((28 : Int32) &&& 0x3f).toInt64)).toInt32) else (-1 : Int32)) else (-1 : Int32))) else (-1 : Int32))) else (-1 : Int32))) else (-1 : Int32))) else (-1 : Int32))
def nxt_position (B : Int32 → Int32) (nn : Int32) (w_p : Int32) : Int32 := (if w_p < nn then (if ((B w_p) &&& (128 : Int32)) = (0 : Int32) then (w_p + (1 : Int32)) else (if (w_p + (1 : Int32)) < nn then (if ((B (w_p + (1 : Int32))) &&& (128 : Int32)) = (0 : Int32) then ((w_p + (1 : Int32)) + (1 : Int32)) else (if ((w_p + (1 : Int32)) + (1 : Int32)) < nn then (if ((B ((w_p + (1 : Int32)) + (1 : Int32))) &&& (128 : Int32)) = (0 : Int32) then (((w_p + (1 : Int32)) + (1 : Int32)) + (1 : Int32)) else (if (((w_p + (1 : Int32)) + (1 : Int32)) + (1 : Int32)) < nn then (if ((B (((w_p + (1 : Int32)) + (1 : Int32)) + (1 : Int32))) &&& (128 : Int32)) = (0 : Int32) then ((((w_p + (1 : Int32)) + (1 : Int32)) + (1 : Int32)) + (1 : Int32)) else (if ((((w_p + (1 : Int32)) + (1 : Int32)) + (1 : Int32)) + (1 : Int32)) < nn then (((((w_p + (1 : Int32)) + (1 : Int32)) + (1 : Int32)) + (1 : Int32)) + (1 : Int32)) else ((((w_p + (1 : Int32)) + (1 : Int32)) + (1 : Int32)) + (1 : Int32)))) else (((w_p + (1 : Int32)) + (1 : Int32)) + (1 : Int32)))) else ((w_p + (1 : Int32)) + (1 : Int32)))) else (w_p + (1 : Int32)))) else w_p)
theorem d3_0 : decode prog_38_method_2_code 0 = .ok (.lconst 0, 1) := by decide +kernel
theorem d3_1 : decode prog_38_method_2_code 1 = .ok (.lstore_n 1, 1) := by decide +kernel
theorem d3_2 : decode prog_38_method_2_code 2 = .ok (.iconst 0, 1) := by decide +kernel
theorem d3_3 : decode prog_38_method_2_code 3 = .ok (.istore_n 3, 1) := by decide +kernel
theorem d3_4 : decode prog_38_method_2_code 4 = .ok (.iload_n 3, 1) := by decide +kernel
theorem d3_5 : decode prog_38_method_2_code 5 = .ok (.iconst 5, 1) := by decide +kernel
theorem d3_6 : decode prog_38_method_2_code 6 = .ok (.if_icmp .ge 80, 3) := by decide +kernel
theorem d3_9 : decode prog_38_method_2_code 9 = .ok (.aload_n 0, 1) := by decide +kernel
theorem d3_10 : decode prog_38_method_2_code 10 = .ok (.getfield 15, 3) := by decide +kernel
theorem d3_13 : decode prog_38_method_2_code 13 = .ok (.aload_n 0, 1) := by decide +kernel
theorem d3_14 : decode prog_38_method_2_code 14 = .ok (.getfield 7, 3) := by decide +kernel
theorem d3_17 : decode prog_38_method_2_code 17 = .ok (.arraylength, 1) := by decide +kernel
theorem d3_18 : decode prog_38_method_2_code 18 = .ok (.if_icmp .ge 68, 3) := by decide +kernel
theorem d3_21 : decode prog_38_method_2_code 21 = .ok (.aload_n 0, 1) := by decide +kernel
theorem d3_22 : decode prog_38_method_2_code 22 = .ok (.getfield 7, 3) := by decide +kernel
theorem d3_25 : decode prog_38_method_2_code 25 = .ok (.aload_n 0, 1) := by decide +kernel
theorem d3_26 : decode prog_38_method_2_code 26 = .ok (.getfield 15, 3) := by decide +kernel
theorem d3_29 : decode prog_38_method_2_code 29 = .ok (.baload, 1) := by decide +kernel
theorem d3_30 : decode prog_38_method_2_code 30 = .ok (.istore 4, 2) := by decide +kernel
theorem d3_32 : decode prog_38_method_2_code 32 = .ok (.aload_n 0, 1) := by decide +kernel
theorem d3_33 : decode prog_38_method_2_code 33 = .ok (.dup, 1) := by decide +kernel
theorem d3_34 : decode prog_38_method_2_code 34 = .ok (.getfield 15, 3) := by decide +kernel
theorem d3_37 : decode prog_38_method_2_code 37 = .ok (.iconst 1, 1) := by decide +kernel
theorem d3_38 : decode prog_38_method_2_code 38 = .ok (.iadd, 1) := by decide +kernel
theorem d3_39 : decode prog_38_method_2_code 39 = .ok (.putfield 15, 3) := by decide +kernel
theorem d3_42 : decode prog_38_method_2_code 42 = .ok (.lload_n 1, 1) := by decide +kernel
theorem d3_43 : decode prog_38_method_2_code 43 = .ok (.iload 4, 2) := by decide +kernel
theorem d3_45 : decode prog_38_method_2_code 45 = .ok (.bipush 127, 2) := by decide +kernel
theorem d3_47 : decode prog_38_method_2_code 47 = .ok (.iand, 1) := by decide +kernel
theorem d3_48 : decode prog_38_method_2_code 48 = .ok (.i2l, 1) := by decide +kernel
theorem d3_49 : decode prog_38_method_2_code 49 = .ok (.bipush 7, 2) := by decide +kernel
theorem d3_51 : decode prog_38_method_2_code 51 = .ok (.iload_n 3, 1) := by decide +kernel
theorem d3_52 : decode prog_38_method_2_code 52 = .ok (.imul, 1) := by decide +kernel
theorem d3_53 : decode prog_38_method_2_code 53 = .ok (.lshl, 1) := by decide +kernel
theorem d3_54 : decode prog_38_method_2_code 54 = .ok (.lor, 1) := by decide +kernel
theorem d3_55 : decode prog_38_method_2_code 55 = .ok (.lstore_n 1, 1) := by decide +kernel
theorem d3_56 : decode prog_38_method_2_code 56 = .ok (.iload 4, 2) := by decide +kernel
theorem d3_58 : decode prog_38_method_2_code 58 = .ok (.sipush 128, 3) := by decide +kernel
theorem d3_61 : decode prog_38_method_2_code 61 = .ok (.iand, 1) := by decide +kernel
theorem d3_62 : decode prog_38_method_2_code 62 = .ok (.ifCond .ne 18, 3) := by decide +kernel
theorem d3_65 : decode prog_38_method_2_code 65 = .ok (.lload_n 1, 1) := by decide +kernel
theorem d3_66 : decode prog_38_method_2_code 66 = .ok (.ldc2_w 21, 3) := by decide +kernel
theorem d3_69 : decode prog_38_method_2_code 69 = .ok (.lcmp, 1) := by decide +kernel
theorem d3_70 : decode prog_38_method_2_code 70 = .ok (.ifCond .le 7, 3) := by decide +kernel
theorem d3_73 : decode prog_38_method_2_code 73 = .ok (.iconst (-1), 1) := by decide +kernel
theorem d3_74 : decode prog_38_method_2_code 74 = .ok (.goto 5, 3) := by decide +kernel
theorem d3_77 : decode prog_38_method_2_code 77 = .ok (.lload_n 1, 1) := by decide +kernel
theorem d3_78 : decode prog_38_method_2_code 78 = .ok (.l2i, 1) := by decide +kernel
theorem d3_79 : decode prog_38_method_2_code 79 = .ok (.ireturn, 1) := by decide +kernel
theorem d3_80 : decode prog_38_method_2_code 80 = .ok (.iinc 3 1, 3) := by decide +kernel
theorem d3_83 : decode prog_38_method_2_code 83 = .ok (.goto (-79), 3) := by decide +kernel
theorem d3_86 : decode prog_38_method_2_code 86 = .ok (.iconst (-1), 1) := by decide +kernel
theorem d3_87 : decode prog_38_method_2_code 87 = .ok (.ireturn, 1) := by decide +kernel
theorem pn_3 : plainName "com/example/fulltext_workbench/fulltextworkbench/index/VarintReader" = true := by first | (simp [plainName, overriddenIn]; done) | decide +kernel
theorem ef_3 (m : MethodId) (x0 : Addr) : entryFrame m #[(.ref x0)] 5 = mkF m 0 #[.val (.ref x0), .unset, .unset, .unset, .unset] [] := by first | (simp [entryFrame, mkF, argsToLocals, Value.category]; done) | rfl
def Q3 (Z : State) (a1 : Addr) (b2 : Addr) (w_p : Int32) (nn : Int32) (vs : List Value) (kk : ClassId) (B : Int32 → Int32) (h0 : Heap) (n0 : Nat) (v : Option Value) (h : Heap) (L : List Loc) : Prop := v = some (.int (nxt B nn w_p)) ∧ Fr n0 L ∧ Keep h0 h [a1] ∧ Fld Z h a1 "com/example/fulltext_workbench/fulltextworkbench/index/VarintReader" "position" "I" (.int (nxt_position B nn w_p)) ∧ Fld Z h a1 "com/example/fulltext_workbench/fulltextworkbench/index/VarintReader" "bytes" "[B" (.ref b2)
set_option maxRecDepth 65536 in
set_option maxHeartbeats 40000000 in
theorem rm3 (l : Launch) (Z : State) (a0 : Array Value) (hw : ∀ d ∈ tables_1, d.before a0 Z = true) (ws : List Jvm.Cond) (a1 : Addr) (b2 : Addr) (w_p : Int32) (nn : Int32) (vs : List Value) (kk : ClassId) (B : Int32 → Int32) (h0 : Heap) (n0 : Nat) (Z0 : n0 ≤ h0.size) (E_a1 : Exa Z h0 a1 "com/example/fulltext_workbench/fulltextworkbench/index/VarintReader") (g_a1 : n0 ≤ a1) (F_bytes_a1 : Fld Z h0 a1 "com/example/fulltext_workbench/fulltextworkbench/index/VarintReader" "bytes" "[B" (.ref b2)) (F_position_a1 : Fld Z h0 a1 "com/example/fulltext_workbench/fulltextworkbench/index/VarintReader" "position" "I" (.int w_p)) (V_b2 : Arv Z h0 b2 kk .byte nn vs (.int (0 : Int32))) (ne_b2_a1 : b2 ≠ a1) (hB : ∀ j : Int32, ¬ j < 0 → j < nn → vs.getD j.toNatClampNeg (.int (0 : Int32)) = .int (B j)) (hp : ¬ w_p < 0) :
    MetFree l (⟨"com/example/fulltext_workbench/fulltextworkbench/index/VarintReader", "next", "()I"⟩ : MethodName) (head1 (Jvm.Cond.code (⟨"com/example/fulltext_workbench/fulltextworkbench/index/VarintReader", "next", "()I"⟩ : MethodName) prog_38_method_2_code 5 (some .int) :: ws) ({ frames := 0, cells := 0, slots := 0, locals := 0 } : Room)) (fun a U => a = #[(.ref a1)] ∧ Z.Warmed39 U.vm ∧ U.heap = h0) (fun _ _ _ _ _ => True) (fun _ U o U' => ∃ v L, o = .returned v ∧ Q3 Z a1 b2 w_p nn vs kk B h0 n0 v U'.heap L ∧ FrameEnd U o U' L ({ frames := 0, cells := 0, slots := 0, locals := 0 } : Room).cells ({ frames := 0, cells := 0, slots := 0, locals := 0 } : Room).slots) := by
  refine MetFree.of_bodySF (plainFor_of_name pn_3) hisR ?_
  intro p e s m args below meth c s₁ Bd hml0 hP hK
  obtain ⟨rfl, hZ, hh⟩ := hP
  have hx := Bd.exec
  have hby := Bd.bytes
  have hlk := Bd.notSynchronized
  have hml : c.maxLocals = 5 := hml0
  have hown : s.vm.findClass "com/example/fulltext_workbench/fulltextworkbench/index/VarintReader" = some m.cls := findClass_of_methodNamed Bd.named
  have hnm := (name_of_methodNamed Bd.named Bd.method).1
  have X0 : Stand p l e ({ frames := 0, cells := 0, slots := 0, locals := 0 } : Room) s m #[(.ref a1)] below meth c s₁ [] 0 0 := Stand.of_body Bd
  have e0 : s₁.heap = h0 := by rw [← hh, Bd.state]; rfl
  have N0 := Fr.nil n0
  have K0 : Keep h0 h0 [a1] := Keep.refl h0 _
  show OutW p e below s ({ frames := 0, cells := 0, slots := 0, locals := 0 } : Room).cells ({ frames := 0, cells := 0, slots := 0, locals := 0 } : Room).slots (Q3 Z a1 b2 w_p nn vs kk B h0 n0) _
  refine OutW.back (fun t k => castTop (ef_3 m a1) k) ?_
  show OutW _ _ _ _ _ _ _ (s₁.setTop (mkF m 0 #[.val (.ref a1), .unset, .unset, .unset, .unset] []))
  refine OutW.back (fun t k => XS.lconst X0.here hx rfl (hb hby d3_0) k) ?_
  show OutW _ _ _ _ _ _ _ (s₁.setTop (mkF m 1 #[.val (.ref a1), .unset, .unset, .unset, .unset] [(.long (0 : Int64))]))
  refine OutW.back (fun t k => XS.lstoreN X0.here hx rfl (hb hby d3_1) rfl (l' := #[.val (.ref a1), .val (.long (0 : Int64)), .second, .unset, .unset]) rfl k) ?_
  show OutW _ _ _ _ _ _ _ (s₁.setTop (mkF m 2 #[.val (.ref a1), .val (.long (0 : Int64)), .second, .unset, .unset] []))
  refine OutW.back (fun t k => XS.iconst X0.here hx rfl (hb hby d3_2) k) ?_
  show OutW _ _ _ _ _ _ _ (s₁.setTop (mkF m 3 #[.val (.ref a1), .val (.long (0 : Int64)), .second, .unset, .unset] [(.int (0 : Int32))]))
  refine OutW.back (fun t k => XS.istoreN X0.here hx rfl (hb hby d3_3) rfl (l' := #[.val (.ref a1), .val (.long (0 : Int64)), .second, .val (.int (0 : Int32)), .unset]) rfl k) ?_
  show OutW _ _ _ _ _ _ _ (s₁.setTop (mkF m 4 #[.val (.ref a1), .val (.long (0 : Int64)), .second, .val (.int (0 : Int32)), .unset] []))
  refine OutW.back (fun t k => XS.iloadN X0.here hx rfl (hb hby d3_4) rfl  k) ?_
  show OutW _ _ _ _ _ _ _ (s₁.setTop (mkF m 5 #[.val (.ref a1), .val (.long (0 : Int64)), .second, .val (.int (0 : Int32)), .unset] [(.int (0 : Int32))]))
  refine OutW.back (fun t k => XS.iconst X0.here hx rfl (hb hby d3_5) k) ?_
  show OutW _ _ _ _ _ _ _ (s₁.setTop (mkF m 6 #[.val (.ref a1), .val (.long (0 : Int64)), .second, .val (.int (0 : Int32)), .unset] [(.int (5 : Int32)), (.int (0 : Int32))]))
  refine OutW.back (fun t k => XS.icmpNo X0.here hx rfl (hb hby d3_6) rfl (tlt (by decide : (0 : Int32) < (5 : Int32))).2.1 k) ?_
  show OutW _ _ _ _ _ _ _ (s₁.setTop (mkF m 9 #[.val (.ref a1), .val (.long (0 : Int64)), .second, .val (.int (0 : Int32)), .unset] []))
  refine OutW.back (fun t k => XS.aloadN X0.here hx rfl (hb hby d3_9) rfl rfl  k) ?_
  show OutW _ _ _ _ _ _ _ (s₁.setTop (mkF m 10 #[.val (.ref a1), .val (.long (0 : Int64)), .second, .val (.int (0 : Int32)), .unset] [(.ref a1)]))
  obtain ⟨T1, X1, e1, st1⟩ := getF X0 hx hZ hown (host := "") (Or.inl (hw _ (List.mem_of_getElem? (i := 18) rfl))) Via.refl e0 F_position_a1 (g := (mkF m 10 #[.val (.ref a1), .val (.long (0 : Int64)), .second, .val (.int (0 : Int32)), .unset] [(.ref a1)])) rfl rfl (hb hby d3_10)
  refine OutW.back st1 ?_
  show OutW _ _ _ _ _ _ _ (T1.setTop (mkF m 13 #[.val (.ref a1), .val (.long (0 : Int64)), .second, .val (.int (0 : Int32)), .unset] [(.int w_p)]))
  refine OutW.back (fun t k => XS.aloadN X1.here hx rfl (hb hby d3_13) rfl rfl  k) ?_
  show OutW _ _ _ _ _ _ _ (T1.setTop (mkF m 14 #[.val (.ref a1), .val (.long (0 : Int64)), .second, .val (.int (0 : Int32)), .unset] [(.ref a1), (.int w_p)]))
  obtain ⟨T2, X2, e2, st2⟩ := getF X1 hx hZ hown (host := "") (Or.inl (hw _ (List.mem_of_getElem? (i := 11) rfl))) Via.refl e1 F_bytes_a1 (g := (mkF m 14 #[.val (.ref a1), .val (.long (0 : Int64)), .second, .val (.int (0 : Int32)), .unset] [(.ref a1), (.int w_p)])) rfl rfl (hb hby d3_14)
  refine OutW.back st2 ?_
  show OutW _ _ _ _ _ _ _ (T2.setTop (mkF m 17 #[.val (.ref a1), .val (.long (0 : Int64)), .second, .val (.int (0 : Int32)), .unset] [(.ref b2), (.int w_p)]))
  obtain ⟨cl3, Ar3, Qk3, Sz3, Nn3, Hh3, Gg3⟩ := id V_b2
  refine OutW.back (X2.arraylength hx (by rw [e2]; exact Ar3.1) (State.isArrayOf_alike hZ.alike Ar3.2.1) (g := (mkF m 17 #[.val (.ref a1), .val (.long (0 : Int64)), .second, .val (.int (0 : Int32)), .unset] [(.ref b2), (.int w_p)])) rfl rfl (hb hby d3_17)) ?_
  rw [len_of Sz3 Nn3]
  show OutW _ _ _ _ _ _ _ (T2.setTop (mkF m 18 #[.val (.ref a1), .val (.long (0 : Int64)), .second, .val (.int (0 : Int32)), .unset] [(.int nn), (.int w_p)]))
  by_cases c18_4 : w_p < nn
  · skip
    refine OutW.back (fun t k => XS.icmpNo X2.here hx rfl (hb hby d3_18) rfl (tlt c18_4).2.1 k) ?_
    show OutW _ _ _ _ _ _ _ (T2.setTop (mkF m 21 #[.val (.ref a1), .val (.long (0 : Int64)), .second, .val (.int (0 : Int32)), .unset] []))
    refine OutW.back (fun t k => XS.aloadN X2.here hx rfl (hb hby d3_21) rfl rfl  k) ?_
    show OutW _ _ _ _ _ _ _ (T2.setTop (mkF m 22 #[.val (.ref a1), .val (.long (0 : Int64)), .second, .val (.int (0 : Int32)), .unset] [(.ref a1)]))
    obtain ⟨T5, X5, e5, st5⟩ := getF X2 hx hZ hown (host := "") (Or.inl (hw _ (List.mem_of_getElem? (i := 11) rfl))) Via.refl e2 F_bytes_a1 (g := (mkF m 22 #[.val (.ref a1), .val (.long (0 : Int64)), .second, .val (.int (0 : Int32)), .unset] [(.ref a1)])) rfl rfl (hb hby d3_22)
    refine OutW.back st5 ?_
    show OutW _ _ _ _ _ _ _ (T5.setTop (mkF m 25 #[.val (.ref a1), .val (.long (0 : Int64)), .second, .val (.int (0 : Int32)), .unset] [(.ref b2)]))
    refine OutW.back (fun t k => XS.aloadN X5.here hx rfl (hb hby d3_25) rfl rfl  k) ?_
    show OutW _ _ _ _ _ _ _ (T5.setTop (mkF m 26 #[.val (.ref a1), .val (.long (0 : Int64)), .second, .val (.int (0 : Int32)), .unset] [(.ref a1), (.ref b2)]))
    obtain ⟨T6, X6, e6, st6⟩ := getF X5 hx hZ hown (host := "") (Or.inl (hw _ (List.mem_of_getElem? (i := 18) rfl))) Via.refl e5 F_position_a1 (g := (mkF m 26 #[.val (.ref a1), .val (.long (0 : Int64)), .second, .val (.int (0 : Int32)), .unset] [(.ref a1), (.ref b2)])) rfl rfl (hb hby d3_26)
    refine OutW.back st6 ?_
    show OutW _ _ _ _ _ _ _ (T6.setTop (mkF m 29 #[.val (.ref a1), .val (.long (0 : Int64)), .second, .val (.int (0 : Int32)), .unset] [(.int w_p), (.ref b2)]))
    have hin_29 : ¬ w_p < 0 ∧ w_p < nn := ⟨hp, c18_4⟩
    have hat_29 := hB w_p hin_29.1 hin_29.2
    obtain ⟨cl7, Ar7, Qk7, Sz7, Nn7, Hh7, Gg7⟩ := id V_b2
    have hin7 : ¬ (w_p < 0 ∨ cl7.slots.size ≤ (w_p).toNatClampNeg) := inb_of Sz7 hin_29
    refine OutW.back (X6.baloadBytes hx (j := w_p) (v := (.int (B w_p))) (by rw [e6]; exact Ar7.1) (State.isArrayOf_alike hZ.alike Ar7.2.1) Ar7.2.2 hin7 (Hh7.at hin7 hat_29) (g := (mkF m 29 #[.val (.ref a1), .val (.long (0 : Int64)), .second, .val (.int (0 : Int32)), .unset] [(.int w_p), (.ref b2)])) rfl rfl (hb hby d3_29)) ?_
    show OutW _ _ _ _ _ _ _ (T6.setTop (mkF m 30 #[.val (.ref a1), .val (.long (0 : Int64)), .second, .val (.int (0 : Int32)), .unset] [(.int (B w_p))]))
    generalize hv_v8 : (B w_p) = v8
    refine OutW.back (fun t k => XS.istore X6.here hx rfl (hb hby d3_30) rfl (l' := #[.val (.ref a1), .val (.long (0 : Int64)), .second, .val (.int (0 : Int32)), .val (.int v8)]) rfl k) ?_
    show OutW _ _ _ _ _ _ _ (T6.setTop (mkF m 32 #[.val (.ref a1), .val (.long (0 : Int64)), .second, .val (.int (0 : Int32)), .val (.int v8)] []))
    refine OutW.back (fun t k => XS.aloadN X6.here hx rfl (hb hby d3_32) rfl rfl  k) ?_
    show OutW _ _ _ _ _ _ _ (T6.setTop (mkF m 33 #[.val (.ref a1), .val (.long (0 : Int64)), .second, .val (.int (0 : Int32)), .val (.int v8)] [(.ref a1)]))
    refine OutW.back (fun t k => XS.dup X6.here hx rfl (hb hby d3_33) rfl rfl k) ?_
    show OutW _ _ _ _ _ _ _ (T6.setTop (mkF m 34 #[.val (.ref a1), .val (.long (0 : Int64)), .second, .val (.int (0 : Int32)), .val (.int v8)] [(.ref a1), (.ref a1)]))
    obtain ⟨T9, X9, e9, st9⟩ := getF X6 hx hZ hown (host := "") (Or.inl (hw _ (List.mem_of_getElem? (i := 18) rfl))) Via.refl e6 F_position_a1 (g := (mkF m 34 #[.val (.ref a1), .val (.long (0 : Int64)), .second, .val (.int (0 : Int32)), .val (.int v8)] [(.ref a1), (.ref a1)])) rfl rfl (hb hby d3_34)
    refine OutW.back st9 ?_
    show OutW _ _ _ _ _ _ _ (T9.setTop (mkF m 37 #[.val (.ref a1), .val (.long (0 : Int64)), .second, .val (.int (0 : Int32)), .val (.int v8)] [(.int w_p), (.ref a1)]))
    refine OutW.back (fun t k => XS.iconst X9.here hx rfl (hb hby d3_37) k) ?_
    show OutW _ _ _ _ _ _ _ (T9.setTop (mkF m 38 #[.val (.ref a1), .val (.long (0 : Int64)), .second, .val (.int (0 : Int32)), .val (.int v8)] [(.int (1 : Int32)), (.int w_p), (.ref a1)]))
    refine OutW.back (fun t k => XS.iadd X9.here hx rfl (hb hby d3_38) rfl k) ?_
    show OutW _ _ _ _ _ _ _ (T9.setTop (mkF m 39 #[.val (.ref a1), .val (.long (0 : Int64)), .second, .val (.int (0 : Int32)), .val (.int v8)] [(.int (w_p + (1 : Int32))), (.ref a1)]))
    obtain ⟨T10, h10, X10, e10, W10, st10⟩ := putF X9 hx hZ hown (host := "") (Or.inl (hw _ (List.mem_of_getElem? (i := 18) rfl))) Via.refl e9 F_position_a1 E_a1 (Or.inl (hw _ (List.mem_of_getElem? (i := 19) rfl))) (hw _ (List.mem_of_getElem? (i := 3) rfl)) (ty := .int) (by decide) rfl rfl (g := (mkF m 39 #[.val (.ref a1), .val (.long (0 : Int64)), .second, .val (.int (0 : Int32)), .val (.int v8)] [(.int (w_p + (1 : Int32))), (.ref a1)])) rfl rfl (hb hby d3_39)
    have E_a1 := E_a1.wr W10
    have F_bytes_a1 := F_bytes_a1.other W10 (Or.inr (slot_ne (Or.inr (hw _ (List.mem_of_getElem? (i := 12) rfl))) (Or.inl (hw _ (List.mem_of_getElem? (i := 19) rfl))) (by decide) (t := (.array .byte)) (t' := .int) (by decide) (by decide)))
    have F_position_a1 := F_position_a1.same W10
    have V_b2 := V_b2.other W10 ne_b2_a1
    have N10 := Fr.snoc X10 N0 g_a1
    have Z10 : n0 ≤ h10.size := Nat.le_trans Z0 (Keep.of_wr W10).1
    have K10 := K0.wr W10 (Or.inl (List.mem_of_getElem? (i := 0) rfl))
    obtain ⟨lc10, X10, N10⟩ : ∃ lc, Stand p l e ({ frames := 0, cells := 0, slots := 0, locals := 0 } : Room) s m #[(.ref a1)] below meth c T10 lc 0 0 ∧ Fr n0 lc := ⟨_, X10, N10⟩
    refine OutW.back st10 ?_
    show OutW _ _ _ _ _ _ _ (T10.setTop (mkF m 42 #[.val (.ref a1), .val (.long (0 : Int64)), .second, .val (.int (0 : Int32)), .val (.int v8)] []))
    refine OutW.back (fun t k => XS.lloadN X10.here hx rfl (hb hby d3_42) rfl  k) ?_
    show OutW _ _ _ _ _ _ _ (T10.setTop (mkF m 43 #[.val (.ref a1), .val (.long (0 : Int64)), .second, .val (.int (0 : Int32)), .val (.int v8)] [(.long (0 : Int64))]))
    refine OutW.back (fun t k => XS.iload X10.here hx rfl (hb hby d3_43) rfl  k) ?_
    show OutW _ _ _ _ _ _ _ (T10.setTop (mkF m 45 #[.val (.ref a1), .val (.long (0 : Int64)), .second, .val (.int (0 : Int32)), .val (.int v8)] [(.int v8), (.long (0 : Int64))]))
    refine OutW.back (fun t k => XS.bipush X10.here hx rfl (hb hby d3_45) k) ?_
    show OutW _ _ _ _ _ _ _ (T10.setTop (mkF m 47 #[.val (.ref a1), .val (.long (0 : Int64)), .second, .val (.int (0 : Int32)), .val (.int v8)] [(.int (127 : Int32)), (.int v8), (.long (0 : Int64))]))
    refine OutW.back (fun t k => XS.iand X10.here hx rfl (hb hby d3_47) rfl k) ?_
    show OutW _ _ _ _ _ _ _ (T10.setTop (mkF m 48 #[.val (.ref a1), .val (.long (0 : Int64)), .second, .val (.int (0 : Int32)), .val (.int v8)] [(.int (v8 &&& (127 : Int32))), (.long (0 : Int64))]))
    refine OutW.back (fun t k => XS.i2l X10.here hx rfl (hb hby d3_48) rfl k) ?_
    show OutW _ _ _ _ _ _ _ (T10.setTop (mkF m 49 #[.val (.ref a1), .val (.long (0 : Int64)), .second, .val (.int (0 : Int32)), .val (.int v8)] [(.long (v8 &&& (127 : Int32)).toInt64), (.long (0 : Int64))]))
    refine OutW.back (fun t k => XS.bipush X10.here hx rfl (hb hby d3_49) k) ?_
    show OutW _ _ _ _ _ _ _ (T10.setTop (mkF m 51 #[.val (.ref a1), .val (.long (0 : Int64)), .second, .val (.int (0 : Int32)), .val (.int v8)] [(.int (7 : Int32)), (.long (v8 &&& (127 : Int32)).toInt64), (.long (0 : Int64))]))
    refine OutW.back (fun t k => XS.iloadN X10.here hx rfl (hb hby d3_51) rfl  k) ?_
    show OutW _ _ _ _ _ _ _ (T10.setTop (mkF m 52 #[.val (.ref a1), .val (.long (0 : Int64)), .second, .val (.int (0 : Int32)), .val (.int v8)] [(.int (0 : Int32)), (.int (7 : Int32)), (.long (v8 &&& (127 : Int32)).toInt64), (.long (0 : Int64))]))
    refine OutW.back (fun t k => XS.imul X10.here hx rfl (hb hby d3_52) rfl k) ?_
    show OutW _ _ _ _ _ _ _ (T10.setTop (mkF m 53 #[.val (.ref a1), .val (.long (0 : Int64)), .second, .val (.int (0 : Int32)), .val (.int v8)] [(.int ((7 : Int32) * (0 : Int32))), (.long (v8 &&& (127 : Int32)).toInt64), (.long (0 : Int64))]))
    rw [show ((7 : Int32) * (0 : Int32)) = (0 : Int32) from by decide]
    refine OutW.back (fun t k => XS.lshl X10.here hx rfl (hb hby d3_53) rfl k) ?_
    show OutW _ _ _ _ _ _ _ (T10.setTop (mkF m 54 #[.val (.ref a1), .val (.long (0 : Int64)), .second, .val (.int (0 : Int32)), .val (.int v8)] [(.long ((v8 &&& (127 : Int32)).toInt64 <<< ((0 : Int32) &&& 0x3f).toInt64)), (.long (0 : Int64))]))
    refine OutW.back (fun t k => XS.lor X10.here hx rfl (hb hby d3_54) rfl k) ?_
    show OutW _ _ _ _ _ _ _ (T10.setTop (mkF m 55 #[.val (.ref a1), .val (.long (0 : Int64)), .second, .val (.int (0 : Int32)), .val (.int v8)] [(.long ((0 : Int64) ||| ((v8 &&& (127 : Int32)).toInt64 <<< ((0 : Int32) &&& 0x3f).toInt64)))]))
    generalize hv_v11 : ((0 : Int64) ||| ((v8 &&& (127 : Int32)).toInt64 <<< ((0 : Int32) &&& 0x3f).toInt64)) = v11
    refine OutW.back (fun t k => XS.lstoreN X10.here hx rfl (hb hby d3_55) rfl (l' := #[.val (.ref a1), .val (.long v11), .second, .val (.int (0 : Int32)), .val (.int v8)]) rfl k) ?_
    show OutW _ _ _ _ _ _ _ (T10.setTop (mkF m 56 #[.val (.ref a1), .val (.long v11), .second, .val (.int (0 : Int32)), .val (.int v8)] []))
    refine OutW.back (fun t k => XS.iload X10.here hx rfl (hb hby d3_56) rfl  k) ?_
    show OutW _ _ _ _ _ _ _ (T10.setTop (mkF m 58 #[.val (.ref a1), .val (.long v11), .second, .val (.int (0 : Int32)), .val (.int v8)] [(.int v8)]))
    refine OutW.back (fun t k => XS.sipush X10.here hx rfl (hb hby d3_58) k) ?_
    show OutW _ _ _ _ _ _ _ (T10.setTop (mkF m 61 #[.val (.ref a1), .val (.long v11), .second, .val (.int (0 : Int32)), .val (.int v8)] [(.int (128 : Int32)), (.int v8)]))
    refine OutW.back (fun t k => XS.iand X10.here hx rfl (hb hby d3_61) rfl k) ?_
    show OutW _ _ _ _ _ _ _ (T10.setTop (mkF m 62 #[.val (.ref a1), .val (.long v11), .second, .val (.int (0 : Int32)), .val (.int v8)] [(.int (v8 &&& (128 : Int32)))]))
    by_cases c62_12 : (v8 &&& (128 : Int32)) = (0 : Int32)
    · skip
      refine OutW.back (fun t k => XS.ifNo X10.here hx rfl (hb hby d3_62) rfl ((if0 _ _).trans (teq c62_12).2) k) ?_
      show OutW _ _ _ _ _ _ _ (T10.setTop (mkF m 65 #[.val (.ref a1), .val (.long v11), .second, .val (.int (0 : Int32)), .val (.int v8)] []))
      refine OutW.back (fun t k => XS.lloadN X10.here hx rfl (hb hby d3_65) rfl  k) ?_
      show OutW _ _ _ _ _ _ _ (T10.setTop (mkF m 66 #[.val (.ref a1), .val (.long v11), .second, .val (.int (0 : Int32)), .val (.int v8)] [(.long v11)]))
      refine OutW.back (X10.ldc2Long hx hown (mvT hZ (hw _ (List.mem_of_getElem? (i := 34) rfl))) (g := (mkF m 66 #[.val (.ref a1), .val (.long v11), .second, .val (.int (0 : Int32)), .val (.int v8)] [(.long v11)])) rfl (hb hby d3_66)) ?_
      show OutW _ _ _ _ _ _ _ (T10.setTop (mkF m 69 #[.val (.ref a1), .val (.long v11), .second, .val (.int (0 : Int32)), .val (.int v8)] [(.long (2147483647 : Int64)), (.long v11)]))
      refine OutW.back (fun t k => XS.lcmp X10.here hx rfl (hb hby d3_69) rfl k) ?_
      show OutW _ _ _ _ _ _ _ (T10.setTop (mkF m 70 #[.val (.ref a1), .val (.long v11), .second, .val (.int (0 : Int32)), .val (.int v8)] [(.int (lcmpW v11 (2147483647 : Int64)))]))
      by_cases c70_13 : (2147483647 : Int64) < v11
      · skip
        refine OutW.back (fun t k => XS.ifNo X10.here hx rfl (hb hby d3_70) rfl ((if0 _ _).trans (tlt ((lw_gt _ _).mpr c70_13)).2.2.2) k) ?_
        show OutW _ _ _ _ _ _ _ (T10.setTop (mkF m 73 #[.val (.ref a1), .val (.long v11), .second, .val (.int (0 : Int32)), .val (.int v8)] []))
        refine OutW.back (fun t k => XS.iconst X10.here hx rfl (hb hby d3_73) k) ?_
        show OutW _ _ _ _ _ _ _ (T10.setTop (mkF m 74 #[.val (.ref a1), .val (.long v11), .second, .val (.int (0 : Int32)), .val (.int v8)] [(.int (-1 : Int32))]))
        refine OutW.back (fun t k => XS.goto X10.here hx rfl (pc0 := 74) (pc' := 79) rfl (hb hby d3_74) (by decide) (by decide) k) ?_
        show OutW _ _ _ _ _ _ _ (T10.setTop (mkF m 79 #[.val (.ref a1), .val (.long v11), .second, .val (.int (0 : Int32)), .val (.int v8)] [(.int (-1 : Int32))]))
        refine OutW.retI X10 hx Bd.returns hlk (hb hby d3_79) (by decide) (by decide) ?_
        show Q3 Z a1 b2 w_p nn vs kk B h0 n0 _ T10.heap _
        rw [e10]
        subst hv_v11 hv_v8
        exact ⟨by rw [nxt, if_pos c18_4, if_pos c62_12, if_pos c70_13], N10, K10, (by rw [nxt_position, if_pos c18_4, if_pos c62_12]; exact F_position_a1), F_bytes_a1⟩
      · skip
        refine OutW.back (fun t k => XS.ifYes X10.here hx rfl (pc0 := 70) (pc' := 77) rfl (hb hby d3_70) rfl ((if0 _ _).trans (flt (fun q => c70_13 ((lw_gt _ _).mp q))).2.2.2) (by decide) (by decide) k) ?_
        show OutW _ _ _ _ _ _ _ (T10.setTop (mkF m 77 #[.val (.ref a1), .val (.long v11), .second, .val (.int (0 : Int32)), .val (.int v8)] []))
        refine OutW.back (fun t k => XS.lloadN X10.here hx rfl (hb hby d3_77) rfl  k) ?_
        show OutW _ _ _ _ _ _ _ (T10.setTop (mkF m 78 #[.val (.ref a1), .val (.long v11), .second, .val (.int (0 : Int32)), .val (.int v8)] [(.long v11)]))
        refine OutW.back (fun t k => XS.l2i X10.here hx rfl (hb hby d3_78) rfl k) ?_
        show OutW _ _ _ _ _ _ _ (T10.setTop (mkF m 79 #[.val (.ref a1), .val (.long v11), .second, .val (.int (0 : Int32)), .val (.int v8)] [(.int v11.toInt32)]))
        refine OutW.retI X10 hx Bd.returns hlk (hb hby d3_79) (by decide) (by decide) ?_
        show Q3 Z a1 b2 w_p nn vs kk B h0 n0 _ T10.heap _
        rw [e10]
        subst hv_v11 hv_v8
        exact ⟨by rw [nxt, if_pos c18_4, if_pos c62_12, if_neg c70_13], N10, K10, (by rw [nxt_position, if_pos c18_4, if_pos c62_12]; exact F_position_a1), F_bytes_a1⟩
    · skip
      refine OutW.back (fun t k => XS.ifYes X10.here hx rfl (pc0 := 62) (pc' := 80) rfl (hb hby d3_62) rfl ((if0 _ _).trans (feq c62_12).2) (by decide) (by decide) k) ?_
      show OutW _ _ _ _ _ _ _ (T10.setTop (mkF m 80 #[.val (.ref a1), .val (.long v11), .second, .val (.int (0 : Int32)), .val (.int v8)] []))
      refine OutW.back (fun t k => XS.iinc X10.here hx rfl (hb hby d3_80) rfl (l' := #[.val (.ref a1), .val (.long v11), .second, .val (.int ((0 : Int32) + (1 : Int32))), .val (.int v8)]) rfl k) ?_
      show OutW _ _ _ _ _ _ _ (T10.setTop (mkF m 83 #[.val (.ref a1), .val (.long v11), .second, .val (.int ((0 : Int32) + (1 : Int32))), .val (.int v8)] []))
      rw [show ((0 : Int32) + (1 : Int32)) = (1 : Int32) from by decide]
      refine OutW.back (fun t k => XS.goto X10.here hx rfl (pc0 := 83) (pc' := 4) rfl (hb hby d3_83) (by decide) (by decide) k) ?_
      show OutW _ _ _ _ _ _ _ (T10.setTop (mkF m 4 #[.val (.ref a1), .val (.long v11), .second, .val (.int (1 : Int32)), .val (.int v8)] []))
      refine OutW.back (fun t k => XS.iloadN X10.here hx rfl (hb hby d3_4) rfl  k) ?_
      show OutW _ _ _ _ _ _ _ (T10.setTop (mkF m 5 #[.val (.ref a1), .val (.long v11), .second, .val (.int (1 : Int32)), .val (.int v8)] [(.int (1 : Int32))]))
      refine OutW.back (fun t k => XS.iconst X10.here hx rfl (hb hby d3_5) k) ?_
      show OutW _ _ _ _ _ _ _ (T10.setTop (mkF m 6 #[.val (.ref a1), .val (.long v11), .second, .val (.int (1 : Int32)), .val (.int v8)] [(.int (5 : Int32)), (.int (1 : Int32))]))
      refine OutW.back (fun t k => XS.icmpNo X10.here hx rfl (hb hby d3_6) rfl (tlt (by decide : (1 : Int32) < (5 : Int32))).2.1 k) ?_
      show OutW _ _ _ _ _ _ _ (T10.setTop (mkF m 9 #[.val (.ref a1), .val (.long v11), .second, .val (.int (1 : Int32)), .val (.int v8)] []))
      refine OutW.back (fun t k => XS.aloadN X10.here hx rfl (hb hby d3_9) rfl rfl  k) ?_
      show OutW _ _ _ _ _ _ _ (T10.setTop (mkF m 10 #[.val (.ref a1), .val (.long v11), .second, .val (.int (1 : Int32)), .val (.int v8)] [(.ref a1)]))
      obtain ⟨T14, X14, e14, st14⟩ := getF X10 hx hZ hown (host := "") (Or.inl (hw _ (List.mem_of_getElem? (i := 18) rfl))) Via.refl e10 F_position_a1 (g := (mkF m 10 #[.val (.ref a1), .val (.long v11), .second, .val (.int (1 : Int32)), .val (.int v8)] [(.ref a1)])) rfl rfl (hb hby d3_10)
      refine OutW.back st14 ?_
      show OutW _ _ _ _ _ _ _ (T14.setTop (mkF m 13 #[.val (.ref a1), .val (.long v11), .second, .val (.int (1 : Int32)), .val (.int v8)] [(.int (w_p + (1 : Int32)))]))
      refine OutW.back (fun t k => XS.aloadN X14.here hx rfl (hb hby d3_13) rfl rfl  k) ?_
      show OutW _ _ _ _ _ _ _ (T14.setTop (mkF m 14 #[.val (.ref a1), .val (.long v11), .second, .val (.int (1 : Int32)), .val (.int v8)] [(.ref a1), (.int (w_p + (1 : Int32)))]))
      obtain ⟨T15, X15, e15, st15⟩ := getF X14 hx hZ hown (host := "") (Or.inl (hw _ (List.mem_of_getElem? (i := 11) rfl))) Via.refl e14 F_bytes_a1 (g := (mkF m 14 #[.val (.ref a1), .val (.long v11), .second, .val (.int (1 : Int32)), .val (.int v8)] [(.ref a1), (.int (w_p + (1 : Int32)))])) rfl rfl (hb hby d3_14)
      refine OutW.back st15 ?_
      show OutW _ _ _ _ _ _ _ (T15.setTop (mkF m 17 #[.val (.ref a1), .val (.long v11), .second, .val (.int (1 : Int32)), .val (.int v8)] [(.ref b2), (.int (w_p + (1 : Int32)))]))
      obtain ⟨cl16, Ar16, Qk16, Sz16, Nn16, Hh16, Gg16⟩ := id V_b2
      refine OutW.back (X15.arraylength hx (by rw [e15]; exact Ar16.1) (State.isArrayOf_alike hZ.alike Ar16.2.1) (g := (mkF m 17 #[.val (.ref a1), .val (.long v11), .second, .val (.int (1 : Int32)), .val (.int v8)] [(.ref b2), (.int (w_p + (1 : Int32)))])) rfl rfl (hb hby d3_17)) ?_
      rw [len_of Sz16 Nn16]
      show OutW _ _ _ _ _ _ _ (T15.setTop (mkF m 18 #[.val (.ref a1), .val (.long v11), .second, .val (.int (1 : Int32)), .val (.int v8)] [(.int nn), (.int (w_p + (1 : Int32)))]))
      by_cases c18_17 : (w_p + (1 : Int32)) < nn
      · skip
        refine OutW.back (fun t k => XS.icmpNo X15.here hx rfl (hb hby d3_18) rfl (tlt c18_17).2.1 k) ?_
        show OutW _ _ _ _ _ _ _ (T15.setTop (mkF m 21 #[.val (.ref a1), .val (.long v11), .second, .val (.int (1 : Int32)), .val (.int v8)] []))
        refine OutW.back (fun t k => XS.aloadN X15.here hx rfl (hb hby d3_21) rfl rfl  k) ?_
        show OutW _ _ _ _ _ _ _ (T15.setTop (mkF m 22 #[.val (.ref a1), .val (.long v11), .second, .val (.int (1 : Int32)), .val (.int v8)] [(.ref a1)]))
        obtain ⟨T18, X18, e18, st18⟩ := getF X15 hx hZ hown (host := "") (Or.inl (hw _ (List.mem_of_getElem? (i := 11) rfl))) Via.refl e15 F_bytes_a1 (g := (mkF m 22 #[.val (.ref a1), .val (.long v11), .second, .val (.int (1 : Int32)), .val (.int v8)] [(.ref a1)])) rfl rfl (hb hby d3_22)
        refine OutW.back st18 ?_
        show OutW _ _ _ _ _ _ _ (T18.setTop (mkF m 25 #[.val (.ref a1), .val (.long v11), .second, .val (.int (1 : Int32)), .val (.int v8)] [(.ref b2)]))
        refine OutW.back (fun t k => XS.aloadN X18.here hx rfl (hb hby d3_25) rfl rfl  k) ?_
        show OutW _ _ _ _ _ _ _ (T18.setTop (mkF m 26 #[.val (.ref a1), .val (.long v11), .second, .val (.int (1 : Int32)), .val (.int v8)] [(.ref a1), (.ref b2)]))
        obtain ⟨T19, X19, e19, st19⟩ := getF X18 hx hZ hown (host := "") (Or.inl (hw _ (List.mem_of_getElem? (i := 18) rfl))) Via.refl e18 F_position_a1 (g := (mkF m 26 #[.val (.ref a1), .val (.long v11), .second, .val (.int (1 : Int32)), .val (.int v8)] [(.ref a1), (.ref b2)])) rfl rfl (hb hby d3_26)
        refine OutW.back st19 ?_
        show OutW _ _ _ _ _ _ _ (T19.setTop (mkF m 29 #[.val (.ref a1), .val (.long v11), .second, .val (.int (1 : Int32)), .val (.int v8)] [(.int (w_p + (1 : Int32))), (.ref b2)]))
        have hin_29 : ¬ (w_p + (1 : Int32)) < 0 ∧ (w_p + (1 : Int32)) < nn := ⟨(own_succ hp c18_4), c18_17⟩
        have hat_29 := hB (w_p + (1 : Int32)) hin_29.1 hin_29.2
        obtain ⟨cl20, Ar20, Qk20, Sz20, Nn20, Hh20, Gg20⟩ := id V_b2
        have hin20 : ¬ ((w_p + (1 : Int32)) < 0 ∨ cl20.slots.size ≤ ((w_p + (1 : Int32))).toNatClampNeg) := inb_of Sz20 hin_29
        refine OutW.back (X19.baloadBytes hx (j := (w_p + (1 : Int32))) (v := (.int (B (w_p + (1 : Int32))))) (by rw [e19]; exact Ar20.1) (State.isArrayOf_alike hZ.alike Ar20.2.1) Ar20.2.2 hin20 (Hh20.at hin20 hat_29) (g := (mkF m 29 #[.val (.ref a1), .val (.long v11), .second, .val (.int (1 : Int32)), .val (.int v8)] [(.int (w_p + (1 : Int32))), (.ref b2)])) rfl rfl (hb hby d3_29)) ?_
        show OutW _ _ _ _ _ _ _ (T19.setTop (mkF m 30 #[.val (.ref a1), .val (.long v11), .second, .val (.int (1 : Int32)), .val (.int v8)] [(.int (B (w_p + (1 : Int32))))]))
        generalize hv_v21 : (B (w_p + (1 : Int32))) = v21
        refine OutW.back (fun t k => XS.istore X19.here hx rfl (hb hby d3_30) rfl (l' := #[.val (.ref a1), .val (.long v11), .second, .val (.int (1 : Int32)), .val (.int v21)]) rfl k) ?_
        show OutW _ _ _ _ _ _ _ (T19.setTop (mkF m 32 #[.val (.ref a1), .val (.long v11), .second, .val (.int (1 : Int32)), .val (.int v21)] []))
        refine OutW.back (fun t k => XS.aloadN X19.here hx rfl (hb hby d3_32) rfl rfl  k) ?_
        show OutW _ _ _ _ _ _ _ (T19.setTop (mkF m 33 #[.val (.ref a1), .val (.long v11), .second, .val (.int (1 : Int32)), .val (.int v21)] [(.ref a1)]))
        refine OutW.back (fun t k => XS.dup X19.here hx rfl (hb hby d3_33) rfl rfl k) ?_
        show OutW _ _ _ _ _ _ _ (T19.setTop (mkF m 34 #[.val (.ref a1), .val (.long v11), .second, .val (.int (1 : Int32)), .val (.int v21)] [(.ref a1), (.ref a1)]))
        obtain ⟨T22, X22, e22, st22⟩ := getF X19 hx hZ hown (host := "") (Or.inl (hw _ (List.mem_of_getElem? (i := 18) rfl))) Via.refl e19 F_position_a1 (g := (mkF m 34 #[.val (.ref a1), .val (.long v11), .second, .val (.int (1 : Int32)), .val (.int v21)] [(.ref a1), (.ref a1)])) rfl rfl (hb hby d3_34)
        refine OutW.back st22 ?_
        show OutW _ _ _ _ _ _ _ (T22.setTop (mkF m 37 #[.val (.ref a1), .val (.long v11), .second, .val (.int (1 : Int32)), .val (.int v21)] [(.int (w_p + (1 : Int32))), (.ref a1)]))
        refine OutW.back (fun t k => XS.iconst X22.here hx rfl (hb hby d3_37) k) ?_
        show OutW _ _ _ _ _ _ _ (T22.setTop (mkF m 38 #[.val (.ref a1), .val (.long v11), .second, .val (.int (1 : Int32)), .val (.int v21)] [(.int (1 : Int32)), (.int (w_p + (1 : Int32))), (.ref a1)]))
        refine OutW.back (fun t k => XS.iadd X22.here hx rfl (hb hby d3_38) rfl k) ?_
        show OutW _ _ _ _ _ _ _ (T22.setTop (mkF m 39 #[.val (.ref a1), .val (.long v11), .second, .val (.int (1 : Int32)), .val (.int v21)] [(.int ((w_p + (1 : Int32)) + (1 : Int32))), (.ref a1)]))
        obtain ⟨T23, h23, X23, e23, W23, st23⟩ := putF X22 hx hZ hown (host := "") (Or.inl (hw _ (List.mem_of_getElem? (i := 18) rfl))) Via.refl e22 F_position_a1 E_a1 (Or.inl (hw _ (List.mem_of_getElem? (i := 19) rfl))) (hw _ (List.mem_of_getElem? (i := 3) rfl)) (ty := .int) (by decide) rfl rfl (g := (mkF m 39 #[.val (.ref a1), .val (.long v11), .second, .val (.int (1 : Int32)), .val (.int v21)] [(.int ((w_p + (1 : Int32)) + (1 : Int32))), (.ref a1)])) rfl rfl (hb hby d3_39)
        have E_a1 := E_a1.wr W23
        have F_bytes_a1 := F_bytes_a1.other W23 (Or.inr (slot_ne (Or.inr (hw _ (List.mem_of_getElem? (i := 12) rfl))) (Or.inl (hw _ (List.mem_of_getElem? (i := 19) rfl))) (by decide) (t := (.array .byte)) (t' := .int) (by decide) (by decide)))
        have F_position_a1 := F_position_a1.same W23
        have V_b2 := V_b2.other W23 ne_b2_a1
        have N23 := Fr.snoc X23 N10 g_a1
        have Z23 : n0 ≤ h23.size := Nat.le_trans Z10 (Keep.of_wr W23).1
        have K23 := K10.wr W23 (Or.inl (List.mem_of_getElem? (i := 0) rfl))
        obtain ⟨lc23, X23, N23⟩ : ∃ lc, Stand p l e ({ frames := 0, cells := 0, slots := 0, locals := 0 } : Room) s m #[(.ref a1)] below meth c T23 lc 0 0 ∧ Fr n0 lc := ⟨_, X23, N23⟩
        refine OutW.back st23 ?_
        show OutW _ _ _ _ _ _ _ (T23.setTop (mkF m 42 #[.val (.ref a1), .val (.long v11), .second, .val (.int (1 : Int32)), .val (.int v21)] []))
        refine OutW.back (fun t k => XS.lloadN X23.here hx rfl (hb hby d3_42) rfl  k) ?_
        show OutW _ _ _ _ _ _ _ (T23.setTop (mkF m 43 #[.val (.ref a1), .val (.long v11), .second, .val (.int (1 : Int32)), .val (.int v21)] [(.long v11)]))
        refine OutW.back (fun t k => XS.iload X23.here hx rfl (hb hby d3_43) rfl  k) ?_
        show OutW _ _ _ _ _ _ _ (T23.setTop (mkF m 45 #[.val (.ref a1), .val (.long v11), .second, .val (.int (1 : Int32)), .val (.int v21)] [(.int v21), (.long v11)]))
        refine OutW.back (fun t k => XS.bipush X23.here hx rfl (hb hby d3_45) k) ?_
        show OutW _ _ _ _ _ _ _ (T23.setTop (mkF m 47 #[.val (.ref a1), .val (.long v11), .second, .val (.int (1 : Int32)), .val (.int v21)] [(.int (127 : Int32)), (.int v21), (.long v11)]))
        refine OutW.back (fun t k => XS.iand X23.here hx rfl (hb hby d3_47) rfl k) ?_
        show OutW _ _ _ _ _ _ _ (T23.setTop (mkF m 48 #[.val (.ref a1), .val (.long v11), .second, .val (.int (1 : Int32)), .val (.int v21)] [(.int (v21 &&& (127 : Int32))), (.long v11)]))
        refine OutW.back (fun t k => XS.i2l X23.here hx rfl (hb hby d3_48) rfl k) ?_
        show OutW _ _ _ _ _ _ _ (T23.setTop (mkF m 49 #[.val (.ref a1), .val (.long v11), .second, .val (.int (1 : Int32)), .val (.int v21)] [(.long (v21 &&& (127 : Int32)).toInt64), (.long v11)]))
        refine OutW.back (fun t k => XS.bipush X23.here hx rfl (hb hby d3_49) k) ?_
        show OutW _ _ _ _ _ _ _ (T23.setTop (mkF m 51 #[.val (.ref a1), .val (.long v11), .second, .val (.int (1 : Int32)), .val (.int v21)] [(.int (7 : Int32)), (.long (v21 &&& (127 : Int32)).toInt64), (.long v11)]))
        refine OutW.back (fun t k => XS.iloadN X23.here hx rfl (hb hby d3_51) rfl  k) ?_
        show OutW _ _ _ _ _ _ _ (T23.setTop (mkF m 52 #[.val (.ref a1), .val (.long v11), .second, .val (.int (1 : Int32)), .val (.int v21)] [(.int (1 : Int32)), (.int (7 : Int32)), (.long (v21 &&& (127 : Int32)).toInt64), (.long v11)]))
        refine OutW.back (fun t k => XS.imul X23.here hx rfl (hb hby d3_52) rfl k) ?_
        show OutW _ _ _ _ _ _ _ (T23.setTop (mkF m 53 #[.val (.ref a1), .val (.long v11), .second, .val (.int (1 : Int32)), .val (.int v21)] [(.int ((7 : Int32) * (1 : Int32))), (.long (v21 &&& (127 : Int32)).toInt64), (.long v11)]))
        rw [show ((7 : Int32) * (1 : Int32)) = (7 : Int32) from by decide]
        refine OutW.back (fun t k => XS.lshl X23.here hx rfl (hb hby d3_53) rfl k) ?_
        show OutW _ _ _ _ _ _ _ (T23.setTop (mkF m 54 #[.val (.ref a1), .val (.long v11), .second, .val (.int (1 : Int32)), .val (.int v21)] [(.long ((v21 &&& (127 : Int32)).toInt64 <<< ((7 : Int32) &&& 0x3f).toInt64)), (.long v11)]))
        refine OutW.back (fun t k => XS.lor X23.here hx rfl (hb hby d3_54) rfl k) ?_
        show OutW _ _ _ _ _ _ _ (T23.setTop (mkF m 55 #[.val (.ref a1), .val (.long v11), .second, .val (.int (1 : Int32)), .val (.int v21)] [(.long (v11 ||| ((v21 &&& (127 : Int32)).toInt64 <<< ((7 : Int32) &&& 0x3f).toInt64)))]))
        generalize hv_v24 : (v11 ||| ((v21 &&& (127 : Int32)).toInt64 <<< ((7 : Int32) &&& 0x3f).toInt64)) = v24
        refine OutW.back (fun t k => XS.lstoreN X23.here hx rfl (hb hby d3_55) rfl (l' := #[.val (.ref a1), .val (.long v24), .second, .val (.int (1 : Int32)), .val (.int v21)]) rfl k) ?_
        show OutW _ _ _ _ _ _ _ (T23.setTop (mkF m 56 #[.val (.ref a1), .val (.long v24), .second, .val (.int (1 : Int32)), .val (.int v21)] []))
        refine OutW.back (fun t k => XS.iload X23.here hx rfl (hb hby d3_56) rfl  k) ?_
        show OutW _ _ _ _ _ _ _ (T23.setTop (mkF m 58 #[.val (.ref a1), .val (.long v24), .second, .val (.int (1 : Int32)), .val (.int v21)] [(.int v21)]))
        refine OutW.back (fun t k => XS.sipush X23.here hx rfl (hb hby d3_58) k) ?_
        show OutW _ _ _ _ _ _ _ (T23.setTop (mkF m 61 #[.val (.ref a1), .val (.long v24), .second, .val (.int (1 : Int32)), .val (.int v21)] [(.int (128 : Int32)), (.int v21)]))
        refine OutW.back (fun t k => XS.iand X23.here hx rfl (hb hby d3_61) rfl k) ?_
        show OutW _ _ _ _ _ _ _ (T23.setTop (mkF m 62 #[.val (.ref a1), .val (.long v24), .second, .val (.int (1 : Int32)), .val (.int v21)] [(.int (v21 &&& (128 : Int32)))]))
        by_cases c62_25 : (v21 &&& (128 : Int32)) = (0 : Int32)
        · skip
          refine OutW.back (fun t k => XS.ifNo X23.here hx rfl (hb hby d3_62) rfl ((if0 _ _).trans (teq c62_25).2) k) ?_
          show OutW _ _ _ _ _ _ _ (T23.setTop (mkF m 65 #[.val (.ref a1), .val (.long v24), .second, .val (.int (1 : Int32)), .val (.int v21)] []))
          refine OutW.back (fun t k => XS.lloadN X23.here hx rfl (hb hby d3_65) rfl  k) ?_
          show OutW _ _ _ _ _ _ _ (T23.setTop (mkF m 66 #[.val (.ref a1), .val (.long v24), .second, .val (.int (1 : Int32)), .val (.int v21)] [(.long v24)]))
          refine OutW.back (X23.ldc2Long hx hown (mvT hZ (hw _ (List.mem_of_getElem? (i := 34) rfl))) (g := (mkF m 66 #[.val (.ref a1), .val (.long v24), .second, .val (.int (1 : Int32)), .val (.int v21)] [(.long v24)])) rfl (hb hby d3_66)) ?_
          show OutW _ _ _ _ _ _ _ (T23.setTop (mkF m 69 #[.val (.ref a1), .val (.long v24), .second, .val (.int (1 : Int32)), .val (.int v21)] [(.long (2147483647 : Int64)), (.long v24)]))
          refine OutW.back (fun t k => XS.lcmp X23.here hx rfl (hb hby d3_69) rfl k) ?_
          show OutW _ _ _ _ _ _ _ (T23.setTop (mkF m 70 #[.val (.ref a1), .val (.long v24), .second, .val (.int (1 : Int32)), .val (.int v21)] [(.int (lcmpW v24 (2147483647 : Int64)))]))
          by_cases c70_26 : (2147483647 : Int64) < v24
          · skip
            refine OutW.back (fun t k => XS.ifNo X23.here hx rfl (hb hby d3_70) rfl ((if0 _ _).trans (tlt ((lw_gt _ _).mpr c70_26)).2.2.2) k) ?_
            show OutW _ _ _ _ _ _ _ (T23.setTop (mkF m 73 #[.val (.ref a1), .val (.long v24), .second, .val (.int (1 : Int32)), .val (.int v21)] []))
            refine OutW.back (fun t k => XS.iconst X23.here hx rfl (hb hby d3_73) k) ?_
            show OutW _ _ _ _ _ _ _ (T23.setTop (mkF m 74 #[.val (.ref a1), .val (.long v24), .second, .val (.int (1 : Int32)), .val (.int v21)] [(.int (-1 : Int32))]))
            refine OutW.back (fun t k => XS.goto X23.here hx rfl (pc0 := 74) (pc' := 79) rfl (hb hby d3_74) (by decide) (by decide) k) ?_
            show OutW _ _ _ _ _ _ _ (T23.setTop (mkF m 79 #[.val (.ref a1), .val (.long v24), .second, .val (.int (1 : Int32)), .val (.int v21)] [(.int (-1 : Int32))]))
            refine OutW.retI X23 hx Bd.returns hlk (hb hby d3_79) (by decide) (by decide) ?_
            show Q3 Z a1 b2 w_p nn vs kk B h0 n0 _ T23.heap _
            rw [e23]
            subst hv_v24 hv_v21 hv_v11 hv_v8
            exact ⟨by rw [nxt, if_pos c18_4, if_neg c62_12, if_pos c18_17, if_pos c62_25, if_pos c70_26], N23, K23, (by rw [nxt_position, if_pos c18_4, if_neg c62_12, if_pos c18_17, if_pos c62_25]; exact F_position_a1), F_bytes_a1⟩
          · skip
            refine OutW.back (fun t k => XS.ifYes X23.here hx rfl (pc0 := 70) (pc' := 77) rfl (hb hby d3_70) rfl ((if0 _ _).trans (flt (fun q => c70_26 ((lw_gt _ _).mp q))).2.2.2) (by decide) (by decide) k) ?_
            show OutW _ _ _ _ _ _ _ (T23.setTop (mkF m 77 #[.val (.ref a1), .val (.long v24), .second, .val (.int (1 : Int32)), .val (.int v21)] []))
            refine OutW.back (fun t k => XS.lloadN X23.here hx rfl (hb hby d3_77) rfl  k) ?_
            show OutW _ _ _ _ _ _ _ (T23.setTop (mkF m 78 #[.val (.ref a1), .val (.long v24), .second, .val (.int (1 : Int32)), .val (.int v21)] [(.long v24)]))
            refine OutW.back (fun t k => XS.l2i X23.here hx rfl (hb hby d3_78) rfl k) ?_
            show OutW _ _ _ _ _ _ _ (T23.setTop (mkF m 79 #[.val (.ref a1), .val (.long v24), .second, .val (.int (1 : Int32)), .val (.int v21)] [(.int v24.toInt32)]))
            refine OutW.retI X23 hx Bd.returns hlk (hb hby d3_79) (by decide) (by decide) ?_
            show Q3 Z a1 b2 w_p nn vs kk B h0 n0 _ T23.heap _
            rw [e23]
            subst hv_v24 hv_v21 hv_v11 hv_v8
            exact ⟨by rw [nxt, if_pos c18_4, if_neg c62_12, if_pos c18_17, if_pos c62_25, if_neg c70_26], N23, K23, (by rw [nxt_position, if_pos c18_4, if_neg c62_12, if_pos c18_17, if_pos c62_25]; exact F_position_a1), F_bytes_a1⟩
        · skip
          refine OutW.back (fun t k => XS.ifYes X23.here hx rfl (pc0 := 62) (pc' := 80) rfl (hb hby d3_62) rfl ((if0 _ _).trans (feq c62_25).2) (by decide) (by decide) k) ?_
          show OutW _ _ _ _ _ _ _ (T23.setTop (mkF m 80 #[.val (.ref a1), .val (.long v24), .second, .val (.int (1 : Int32)), .val (.int v21)] []))
          refine OutW.back (fun t k => XS.iinc X23.here hx rfl (hb hby d3_80) rfl (l' := #[.val (.ref a1), .val (.long v24), .second, .val (.int ((1 : Int32) + (1 : Int32))), .val (.int v21)]) rfl k) ?_
          show OutW _ _ _ _ _ _ _ (T23.setTop (mkF m 83 #[.val (.ref a1), .val (.long v24), .second, .val (.int ((1 : Int32) + (1 : Int32))), .val (.int v21)] []))
          rw [show ((1 : Int32) + (1 : Int32)) = (2 : Int32) from by decide]
          refine OutW.back (fun t k => XS.goto X23.here hx rfl (pc0 := 83) (pc' := 4) rfl (hb hby d3_83) (by decide) (by decide) k) ?_
          show OutW _ _ _ _ _ _ _ (T23.setTop (mkF m 4 #[.val (.ref a1), .val (.long v24), .second, .val (.int (2 : Int32)), .val (.int v21)] []))
          refine OutW.back (fun t k => XS.iloadN X23.here hx rfl (hb hby d3_4) rfl  k) ?_
          show OutW _ _ _ _ _ _ _ (T23.setTop (mkF m 5 #[.val (.ref a1), .val (.long v24), .second, .val (.int (2 : Int32)), .val (.int v21)] [(.int (2 : Int32))]))
          refine OutW.back (fun t k => XS.iconst X23.here hx rfl (hb hby d3_5) k) ?_
          show OutW _ _ _ _ _ _ _ (T23.setTop (mkF m 6 #[.val (.ref a1), .val (.long v24), .second, .val (.int (2 : Int32)), .val (.int v21)] [(.int (5 : Int32)), (.int (2 : Int32))]))
          refine OutW.back (fun t k => XS.icmpNo X23.here hx rfl (hb hby d3_6) rfl (tlt (by decide : (2 : Int32) < (5 : Int32))).2.1 k) ?_
          show OutW _ _ _ _ _ _ _ (T23.setTop (mkF m 9 #[.val (.ref a1), .val (.long v24), .second, .val (.int (2 : Int32)), .val (.int v21)] []))
          refine OutW.back (fun t k => XS.aloadN X23.here hx rfl (hb hby d3_9) rfl rfl  k) ?_
          show OutW _ _ _ _ _ _ _ (T23.setTop (mkF m 10 #[.val (.ref a1), .val (.long v24), .second, .val (.int (2 : Int32)), .val (.int v21)] [(.ref a1)]))
          obtain ⟨T27, X27, e27, st27⟩ := getF X23 hx hZ hown (host := "") (Or.inl (hw _ (List.mem_of_getElem? (i := 18) rfl))) Via.refl e23 F_position_a1 (g := (mkF m 10 #[.val (.ref a1), .val (.long v24), .second, .val (.int (2 : Int32)), .val (.int v21)] [(.ref a1)])) rfl rfl (hb hby d3_10)
          refine OutW.back st27 ?_
          show OutW _ _ _ _ _ _ _ (T27.setTop (mkF m 13 #[.val (.ref a1), .val (.long v24), .second, .val (.int (2 : Int32)), .val (.int v21)] [(.int ((w_p + (1 : Int32)) + (1 : Int32)))]))
          refine OutW.back (fun t k => XS.aloadN X27.here hx rfl (hb hby d3_13) rfl rfl  k) ?_
          show OutW _ _ _ _ _ _ _ (T27.setTop (mkF m 14 #[.val (.ref a1), .val (.long v24), .second, .val (.int (2 : Int32)), .val (.int v21)] [(.ref a1), (.int ((w_p + (1 : Int32)) + (1 : Int32)))]))
          obtain ⟨T28, X28, e28, st28⟩ := getF X27 hx hZ hown (host := "") (Or.inl (hw _ (List.mem_of_getElem? (i := 11) rfl))) Via.refl e27 F_bytes_a1 (g := (mkF m 14 #[.val (.ref a1), .val (.long v24), .second, .val (.int (2 : Int32)), .val (.int v21)] [(.ref a1), (.int ((w_p + (1 : Int32)) + (1 : Int32)))])) rfl rfl (hb hby d3_14)
          refine OutW.back st28 ?_
          show OutW _ _ _ _ _ _ _ (T28.setTop (mkF m 17 #[.val (.ref a1), .val (.long v24), .second, .val (.int (2 : Int32)), .val (.int v21)] [(.ref b2), (.int ((w_p + (1 : Int32)) + (1 : Int32)))]))
          obtain ⟨cl29, Ar29, Qk29, Sz29, Nn29, Hh29, Gg29⟩ := id V_b2
          refine OutW.back (X28.arraylength hx (by rw [e28]; exact Ar29.1) (State.isArrayOf_alike hZ.alike Ar29.2.1) (g := (mkF m 17 #[.val (.ref a1), .val (.long v24), .second, .val (.int (2 : Int32)), .val (.int v21)] [(.ref b2), (.int ((w_p + (1 : Int32)) + (1 : Int32)))])) rfl rfl (hb hby d3_17)) ?_
          rw [len_of Sz29 Nn29]
          show OutW _ _ _ _ _ _ _ (T28.setTop (mkF m 18 #[.val (.ref a1), .val (.long v24), .second, .val (.int (2 : Int32)), .val (.int v21)] [(.int nn), (.int ((w_p + (1 : Int32)) + (1 : Int32)))]))
          by_cases c18_30 : ((w_p + (1 : Int32)) + (1 : Int32)) < nn
          · skip
            refine OutW.back (fun t k => XS.icmpNo X28.here hx rfl (hb hby d3_18) rfl (tlt c18_30).2.1 k) ?_
            show OutW _ _ _ _ _ _ _ (T28.setTop (mkF m 21 #[.val (.ref a1), .val (.long v24), .second, .val (.int (2 : Int32)), .val (.int v21)] []))
            refine OutW.back (fun t k => XS.aloadN X28.here hx rfl (hb hby d3_21) rfl rfl  k) ?_
            show OutW _ _ _ _ _ _ _ (T28.setTop (mkF m 22 #[.val (.ref a1), .val (.long v24), .second, .val (.int (2 : Int32)), .val (.int v21)] [(.ref a1)]))
            obtain ⟨T31, X31, e31, st31⟩ := getF X28 hx hZ hown (host := "") (Or.inl (hw _ (List.mem_of_getElem? (i := 11) rfl))) Via.refl e28 F_bytes_a1 (g := (mkF m 22 #[.val (.ref a1), .val (.long v24), .second, .val (.int (2 : Int32)), .val (.int v21)] [(.ref a1)])) rfl rfl (hb hby d3_22)
            refine OutW.back st31 ?_
            show OutW _ _ _ _ _ _ _ (T31.setTop (mkF m 25 #[.val (.ref a1), .val (.long v24), .second, .val (.int (2 : Int32)), .val (.int v21)] [(.ref b2)]))
            refine OutW.back (fun t k => XS.aloadN X31.here hx rfl (hb hby d3_25) rfl rfl  k) ?_
            show OutW _ _ _ _ _ _ _ (T31.setTop (mkF m 26 #[.val (.ref a1), .val (.long v24), .second, .val (.int (2 : Int32)), .val (.int v21)] [(.ref a1), (.ref b2)]))
            obtain ⟨T32, X32, e32, st32⟩ := getF X31 hx hZ hown (host := "") (Or.inl (hw _ (List.mem_of_getElem? (i := 18) rfl))) Via.refl e31 F_position_a1 (g := (mkF m 26 #[.val (.ref a1), .val (.long v24), .second, .val (.int (2 : Int32)), .val (.int v21)] [(.ref a1), (.ref b2)])) rfl rfl (hb hby d3_26)
            refine OutW.back st32 ?_
            show OutW _ _ _ _ _ _ _ (T32.setTop (mkF m 29 #[.val (.ref a1), .val (.long v24), .second, .val (.int (2 : Int32)), .val (.int v21)] [(.int ((w_p + (1 : Int32)) + (1 : Int32))), (.ref b2)]))
            have hin_29 : ¬ ((w_p + (1 : Int32)) + (1 : Int32)) < 0 ∧ ((w_p + (1 : Int32)) + (1 : Int32)) < nn := ⟨(own_succ (own_succ hp c18_4) c18_17), c18_30⟩
            have hat_29 := hB ((w_p + (1 : Int32)) + (1 : Int32)) hin_29.1 hin_29.2
            obtain ⟨cl33, Ar33, Qk33, Sz33, Nn33, Hh33, Gg33⟩ := id V_b2
            have hin33 : ¬ (((w_p + (1 : Int32)) + (1 : Int32)) < 0 ∨ cl33.slots.size ≤ (((w_p + (1 : Int32)) + (1 : Int32))).toNatClampNeg) := inb_of Sz33 hin_29
            refine OutW.back (X32.baloadBytes hx (j := ((w_p + (1 : Int32)) + (1 : Int32))) (v := (.int (B ((w_p + (1 : Int32)) + (1 : Int32))))) (by rw [e32]; exact Ar33.1) (State.isArrayOf_alike hZ.alike Ar33.2.1) Ar33.2.2 hin33 (Hh33.at hin33 hat_29) (g := (mkF m 29 #[.val (.ref a1), .val (.long v24), .second, .val (.int (2 : Int32)), .val (.int v21)] [(.int ((w_p + (1 : Int32)) + (1 : Int32))), (.ref b2)])) rfl rfl (hb hby d3_29)) ?_
            show OutW _ _ _ _ _ _ _ (T32.setTop (mkF m 30 #[.val (.ref a1), .val (.long v24), .second, .val (.int (2 : Int32)), .val (.int v21)] [(.int (B ((w_p + (1 : Int32)) + (1 : Int32))))]))
            generalize hv_v34 : (B ((w_p + (1 : Int32)) + (1 : Int32))) = v34
            refine OutW.back (fun t k => XS.istore X32.here hx rfl (hb hby d3_30) rfl (l' := #[.val (.ref a1), .val (.long v24), .second, .val (.int (2 : Int32)), .val (.int v34)]) rfl k) ?_
            show OutW _ _ _ _ _ _ _ (T32.setTop (mkF m 32 #[.val (.ref a1), .val (.long v24), .second, .val (.int (2 : Int32)), .val (.int v34)] []))
            refine OutW.back (fun t k => XS.aloadN X32.here hx rfl (hb hby d3_32) rfl rfl  k) ?_
            show OutW _ _ _ _ _ _ _ (T32.setTop (mkF m 33 #[.val (.ref a1), .val (.long v24), .second, .val (.int (2 : Int32)), .val (.int v34)] [(.ref a1)]))
            refine OutW.back (fun t k => XS.dup X32.here hx rfl (hb hby d3_33) rfl rfl k) ?_
            show OutW _ _ _ _ _ _ _ (T32.setTop (mkF m 34 #[.val (.ref a1), .val (.long v24), .second, .val (.int (2 : Int32)), .val (.int v34)] [(.ref a1), (.ref a1)]))
            obtain ⟨T35, X35, e35, st35⟩ := getF X32 hx hZ hown (host := "") (Or.inl (hw _ (List.mem_of_getElem? (i := 18) rfl))) Via.refl e32 F_position_a1 (g := (mkF m 34 #[.val (.ref a1), .val (.long v24), .second, .val (.int (2 : Int32)), .val (.int v34)] [(.ref a1), (.ref a1)])) rfl rfl (hb hby d3_34)
            refine OutW.back st35 ?_
            show OutW _ _ _ _ _ _ _ (T35.setTop (mkF m 37 #[.val (.ref a1), .val (.long v24), .second, .val (.int (2 : Int32)), .val (.int v34)] [(.int ((w_p + (1 : Int32)) + (1 : Int32))), (.ref a1)]))
            refine OutW.back (fun t k => XS.iconst X35.here hx rfl (hb hby d3_37) k) ?_
            show OutW _ _ _ _ _ _ _ (T35.setTop (mkF m 38 #[.val (.ref a1), .val (.long v24), .second, .val (.int (2 : Int32)), .val (.int v34)] [(.int (1 : Int32)), (.int ((w_p + (1 : Int32)) + (1 : Int32))), (.ref a1)]))
            refine OutW.back (fun t k => XS.iadd X35.here hx rfl (hb hby d3_38) rfl k) ?_
            show OutW _ _ _ _ _ _ _ (T35.setTop (mkF m 39 #[.val (.ref a1), .val (.long v24), .second, .val (.int (2 : Int32)), .val (.int v34)] [(.int (((w_p + (1 : Int32)) + (1 : Int32)) + (1 : Int32))), (.ref a1)]))
            obtain ⟨T36, h36, X36, e36, W36, st36⟩ := putF X35 hx hZ hown (host := "") (Or.inl (hw _ (List.mem_of_getElem? (i := 18) rfl))) Via.refl e35 F_position_a1 E_a1 (Or.inl (hw _ (List.mem_of_getElem? (i := 19) rfl))) (hw _ (List.mem_of_getElem? (i := 3) rfl)) (ty := .int) (by decide) rfl rfl (g := (mkF m 39 #[.val (.ref a1), .val (.long v24), .second, .val (.int (2 : Int32)), .val (.int v34)] [(.int (((w_p + (1 : Int32)) + (1 : Int32)) + (1 : Int32))), (.ref a1)])) rfl rfl (hb hby d3_39)
            have E_a1 := E_a1.wr W36
            have F_bytes_a1 := F_bytes_a1.other W36 (Or.inr (slot_ne (Or.inr (hw _ (List.mem_of_getElem? (i := 12) rfl))) (Or.inl (hw _ (List.mem_of_getElem? (i := 19) rfl))) (by decide) (t := (.array .byte)) (t' := .int) (by decide) (by decide)))
            have F_position_a1 := F_position_a1.same W36
            have V_b2 := V_b2.other W36 ne_b2_a1
            have N36 := Fr.snoc X36 N23 g_a1
            have Z36 : n0 ≤ h36.size := Nat.le_trans Z23 (Keep.of_wr W36).1
            have K36 := K23.wr W36 (Or.inl (List.mem_of_getElem? (i := 0) rfl))
            obtain ⟨lc36, X36, N36⟩ : ∃ lc, Stand p l e ({ frames := 0, cells := 0, slots := 0, locals := 0 } : Room) s m #[(.ref a1)] below meth c T36 lc 0 0 ∧ Fr n0 lc := ⟨_, X36, N36⟩
            refine OutW.back st36 ?_
            show OutW _ _ _ _ _ _ _ (T36.setTop (mkF m 42 #[.val (.ref a1), .val (.long v24), .second, .val (.int (2 : Int32)), .val (.int v34)] []))
            refine OutW.back (fun t k => XS.lloadN X36.here hx rfl (hb hby d3_42) rfl  k) ?_
            show OutW _ _ _ _ _ _ _ (T36.setTop (mkF m 43 #[.val (.ref a1), .val (.long v24), .second, .val (.int (2 : Int32)), .val (.int v34)] [(.long v24)]))
            refine OutW.back (fun t k => XS.iload X36.here hx rfl (hb hby d3_43) rfl  k) ?_
            show OutW _ _ _ _ _ _ _ (T36.setTop (mkF m 45 #[.val (.ref a1), .val (.long v24), .second, .val (.int (2 : Int32)), .val (.int v34)] [(.int v34), (.long v24)]))
            refine OutW.back (fun t k => XS.bipush X36.here hx rfl (hb hby d3_45) k) ?_
            show OutW _ _ _ _ _ _ _ (T36.setTop (mkF m 47 #[.val (.ref a1), .val (.long v24), .second, .val (.int (2 : Int32)), .val (.int v34)] [(.int (127 : Int32)), (.int v34), (.long v24)]))
            refine OutW.back (fun t k => XS.iand X36.here hx rfl (hb hby d3_47) rfl k) ?_
            show OutW _ _ _ _ _ _ _ (T36.setTop (mkF m 48 #[.val (.ref a1), .val (.long v24), .second, .val (.int (2 : Int32)), .val (.int v34)] [(.int (v34 &&& (127 : Int32))), (.long v24)]))
            refine OutW.back (fun t k => XS.i2l X36.here hx rfl (hb hby d3_48) rfl k) ?_
            show OutW _ _ _ _ _ _ _ (T36.setTop (mkF m 49 #[.val (.ref a1), .val (.long v24), .second, .val (.int (2 : Int32)), .val (.int v34)] [(.long (v34 &&& (127 : Int32)).toInt64), (.long v24)]))
            refine OutW.back (fun t k => XS.bipush X36.here hx rfl (hb hby d3_49) k) ?_
            show OutW _ _ _ _ _ _ _ (T36.setTop (mkF m 51 #[.val (.ref a1), .val (.long v24), .second, .val (.int (2 : Int32)), .val (.int v34)] [(.int (7 : Int32)), (.long (v34 &&& (127 : Int32)).toInt64), (.long v24)]))
            refine OutW.back (fun t k => XS.iloadN X36.here hx rfl (hb hby d3_51) rfl  k) ?_
            show OutW _ _ _ _ _ _ _ (T36.setTop (mkF m 52 #[.val (.ref a1), .val (.long v24), .second, .val (.int (2 : Int32)), .val (.int v34)] [(.int (2 : Int32)), (.int (7 : Int32)), (.long (v34 &&& (127 : Int32)).toInt64), (.long v24)]))
            refine OutW.back (fun t k => XS.imul X36.here hx rfl (hb hby d3_52) rfl k) ?_
            show OutW _ _ _ _ _ _ _ (T36.setTop (mkF m 53 #[.val (.ref a1), .val (.long v24), .second, .val (.int (2 : Int32)), .val (.int v34)] [(.int ((7 : Int32) * (2 : Int32))), (.long (v34 &&& (127 : Int32)).toInt64), (.long v24)]))
            rw [show ((7 : Int32) * (2 : Int32)) = (14 : Int32) from by decide]
            refine OutW.back (fun t k => XS.lshl X36.here hx rfl (hb hby d3_53) rfl k) ?_
            show OutW _ _ _ _ _ _ _ (T36.setTop (mkF m 54 #[.val (.ref a1), .val (.long v24), .second, .val (.int (2 : Int32)), .val (.int v34)] [(.long ((v34 &&& (127 : Int32)).toInt64 <<< ((14 : Int32) &&& 0x3f).toInt64)), (.long v24)]))
            refine OutW.back (fun t k => XS.lor X36.here hx rfl (hb hby d3_54) rfl k) ?_
            show OutW _ _ _ _ _ _ _ (T36.setTop (mkF m 55 #[.val (.ref a1), .val (.long v24), .second, .val (.int (2 : Int32)), .val (.int v34)] [(.long (v24 ||| ((v34 &&& (127 : Int32)).toInt64 <<< ((14 : Int32) &&& 0x3f).toInt64)))]))
            generalize hv_v37 : (v24 ||| ((v34 &&& (127 : Int32)).toInt64 <<< ((14 : Int32) &&& 0x3f).toInt64)) = v37
            refine OutW.back (fun t k => XS.lstoreN X36.here hx rfl (hb hby d3_55) rfl (l' := #[.val (.ref a1), .val (.long v37), .second, .val (.int (2 : Int32)), .val (.int v34)]) rfl k) ?_
            show OutW _ _ _ _ _ _ _ (T36.setTop (mkF m 56 #[.val (.ref a1), .val (.long v37), .second, .val (.int (2 : Int32)), .val (.int v34)] []))
            refine OutW.back (fun t k => XS.iload X36.here hx rfl (hb hby d3_56) rfl  k) ?_
            show OutW _ _ _ _ _ _ _ (T36.setTop (mkF m 58 #[.val (.ref a1), .val (.long v37), .second, .val (.int (2 : Int32)), .val (.int v34)] [(.int v34)]))
            refine OutW.back (fun t k => XS.sipush X36.here hx rfl (hb hby d3_58) k) ?_
            show OutW _ _ _ _ _ _ _ (T36.setTop (mkF m 61 #[.val (.ref a1), .val (.long v37), .second, .val (.int (2 : Int32)), .val (.int v34)] [(.int (128 : Int32)), (.int v34)]))
            refine OutW.back (fun t k => XS.iand X36.here hx rfl (hb hby d3_61) rfl k) ?_
            show OutW _ _ _ _ _ _ _ (T36.setTop (mkF m 62 #[.val (.ref a1), .val (.long v37), .second, .val (.int (2 : Int32)), .val (.int v34)] [(.int (v34 &&& (128 : Int32)))]))
            by_cases c62_38 : (v34 &&& (128 : Int32)) = (0 : Int32)
            · skip
              refine OutW.back (fun t k => XS.ifNo X36.here hx rfl (hb hby d3_62) rfl ((if0 _ _).trans (teq c62_38).2) k) ?_
              show OutW _ _ _ _ _ _ _ (T36.setTop (mkF m 65 #[.val (.ref a1), .val (.long v37), .second, .val (.int (2 : Int32)), .val (.int v34)] []))
              refine OutW.back (fun t k => XS.lloadN X36.here hx rfl (hb hby d3_65) rfl  k) ?_
              show OutW _ _ _ _ _ _ _ (T36.setTop (mkF m 66 #[.val (.ref a1), .val (.long v37), .second, .val (.int (2 : Int32)), .val (.int v34)] [(.long v37)]))
              refine OutW.back (X36.ldc2Long hx hown (mvT hZ (hw _ (List.mem_of_getElem? (i := 34) rfl))) (g := (mkF m 66 #[.val (.ref a1), .val (.long v37), .second, .val (.int (2 : Int32)), .val (.int v34)] [(.long v37)])) rfl (hb hby d3_66)) ?_
              show OutW _ _ _ _ _ _ _ (T36.setTop (mkF m 69 #[.val (.ref a1), .val (.long v37), .second, .val (.int (2 : Int32)), .val (.int v34)] [(.long (2147483647 : Int64)), (.long v37)]))
              refine OutW.back (fun t k => XS.lcmp X36.here hx rfl (hb hby d3_69) rfl k) ?_
              show OutW _ _ _ _ _ _ _ (T36.setTop (mkF m 70 #[.val (.ref a1), .val (.long v37), .second, .val (.int (2 : Int32)), .val (.int v34)] [(.int (lcmpW v37 (2147483647 : Int64)))]))
              by_cases c70_39 : (2147483647 : Int64) < v37
              · skip
                refine OutW.back (fun t k => XS.ifNo X36.here hx rfl (hb hby d3_70) rfl ((if0 _ _).trans (tlt ((lw_gt _ _).mpr c70_39)).2.2.2) k) ?_
                show OutW _ _ _ _ _ _ _ (T36.setTop (mkF m 73 #[.val (.ref a1), .val (.long v37), .second, .val (.int (2 : Int32)), .val (.int v34)] []))
                refine OutW.back (fun t k => XS.iconst X36.here hx rfl (hb hby d3_73) k) ?_
                show OutW _ _ _ _ _ _ _ (T36.setTop (mkF m 74 #[.val (.ref a1), .val (.long v37), .second, .val (.int (2 : Int32)), .val (.int v34)] [(.int (-1 : Int32))]))
                refine OutW.back (fun t k => XS.goto X36.here hx rfl (pc0 := 74) (pc' := 79) rfl (hb hby d3_74) (by decide) (by decide) k) ?_
                show OutW _ _ _ _ _ _ _ (T36.setTop (mkF m 79 #[.val (.ref a1), .val (.long v37), .second, .val (.int (2 : Int32)), .val (.int v34)] [(.int (-1 : Int32))]))
                refine OutW.retI X36 hx Bd.returns hlk (hb hby d3_79) (by decide) (by decide) ?_
                show Q3 Z a1 b2 w_p nn vs kk B h0 n0 _ T36.heap _
                rw [e36]
                subst hv_v37 hv_v34 hv_v24 hv_v21 hv_v11 hv_v8
                exact ⟨by rw [nxt, if_pos c18_4, if_neg c62_12, if_pos c18_17, if_neg c62_25, if_pos c18_30, if_pos c62_38, if_pos c70_39], N36, K36, (by rw [nxt_position, if_pos c18_4, if_neg c62_12, if_pos c18_17, if_neg c62_25, if_pos c18_30, if_pos c62_38]; exact F_position_a1), F_bytes_a1⟩
              · skip
                refine OutW.back (fun t k => XS.ifYes X36.here hx rfl (pc0 := 70) (pc' := 77) rfl (hb hby d3_70) rfl ((if0 _ _).trans (flt (fun q => c70_39 ((lw_gt _ _).mp q))).2.2.2) (by decide) (by decide) k) ?_
                show OutW _ _ _ _ _ _ _ (T36.setTop (mkF m 77 #[.val (.ref a1), .val (.long v37), .second, .val (.int (2 : Int32)), .val (.int v34)] []))
                refine OutW.back (fun t k => XS.lloadN X36.here hx rfl (hb hby d3_77) rfl  k) ?_
                show OutW _ _ _ _ _ _ _ (T36.setTop (mkF m 78 #[.val (.ref a1), .val (.long v37), .second, .val (.int (2 : Int32)), .val (.int v34)] [(.long v37)]))
                refine OutW.back (fun t k => XS.l2i X36.here hx rfl (hb hby d3_78) rfl k) ?_
                show OutW _ _ _ _ _ _ _ (T36.setTop (mkF m 79 #[.val (.ref a1), .val (.long v37), .second, .val (.int (2 : Int32)), .val (.int v34)] [(.int v37.toInt32)]))
                refine OutW.retI X36 hx Bd.returns hlk (hb hby d3_79) (by decide) (by decide) ?_
                show Q3 Z a1 b2 w_p nn vs kk B h0 n0 _ T36.heap _
                rw [e36]
                subst hv_v37 hv_v34 hv_v24 hv_v21 hv_v11 hv_v8
                exact ⟨by rw [nxt, if_pos c18_4, if_neg c62_12, if_pos c18_17, if_neg c62_25, if_pos c18_30, if_pos c62_38, if_neg c70_39], N36, K36, (by rw [nxt_position, if_pos c18_4, if_neg c62_12, if_pos c18_17, if_neg c62_25, if_pos c18_30, if_pos c62_38]; exact F_position_a1), F_bytes_a1⟩
            · skip
              refine OutW.back (fun t k => XS.ifYes X36.here hx rfl (pc0 := 62) (pc' := 80) rfl (hb hby d3_62) rfl ((if0 _ _).trans (feq c62_38).2) (by decide) (by decide) k) ?_
              show OutW _ _ _ _ _ _ _ (T36.setTop (mkF m 80 #[.val (.ref a1), .val (.long v37), .second, .val (.int (2 : Int32)), .val (.int v34)] []))
              refine OutW.back (fun t k => XS.iinc X36.here hx rfl (hb hby d3_80) rfl (l' := #[.val (.ref a1), .val (.long v37), .second, .val (.int ((2 : Int32) + (1 : Int32))), .val (.int v34)]) rfl k) ?_
              show OutW _ _ _ _ _ _ _ (T36.setTop (mkF m 83 #[.val (.ref a1), .val (.long v37), .second, .val (.int ((2 : Int32) + (1 : Int32))), .val (.int v34)] []))
              rw [show ((2 : Int32) + (1 : Int32)) = (3 : Int32) from by decide]
              refine OutW.back (fun t k => XS.goto X36.here hx rfl (pc0 := 83) (pc' := 4) rfl (hb hby d3_83) (by decide) (by decide) k) ?_
              show OutW _ _ _ _ _ _ _ (T36.setTop (mkF m 4 #[.val (.ref a1), .val (.long v37), .second, .val (.int (3 : Int32)), .val (.int v34)] []))
              refine OutW.back (fun t k => XS.iloadN X36.here hx rfl (hb hby d3_4) rfl  k) ?_
              show OutW _ _ _ _ _ _ _ (T36.setTop (mkF m 5 #[.val (.ref a1), .val (.long v37), .second, .val (.int (3 : Int32)), .val (.int v34)] [(.int (3 : Int32))]))
              refine OutW.back (fun t k => XS.iconst X36.here hx rfl (hb hby d3_5) k) ?_
              show OutW _ _ _ _ _ _ _ (T36.setTop (mkF m 6 #[.val (.ref a1), .val (.long v37), .second, .val (.int (3 : Int32)), .val (.int v34)] [(.int (5 : Int32)), (.int (3 : Int32))]))
              refine OutW.back (fun t k => XS.icmpNo X36.here hx rfl (hb hby d3_6) rfl (tlt (by decide : (3 : Int32) < (5 : Int32))).2.1 k) ?_
              show OutW _ _ _ _ _ _ _ (T36.setTop (mkF m 9 #[.val (.ref a1), .val (.long v37), .second, .val (.int (3 : Int32)), .val (.int v34)] []))
              refine OutW.back (fun t k => XS.aloadN X36.here hx rfl (hb hby d3_9) rfl rfl  k) ?_
              show OutW _ _ _ _ _ _ _ (T36.setTop (mkF m 10 #[.val (.ref a1), .val (.long v37), .second, .val (.int (3 : Int32)), .val (.int v34)] [(.ref a1)]))
              obtain ⟨T40, X40, e40, st40⟩ := getF X36 hx hZ hown (host := "") (Or.inl (hw _ (List.mem_of_getElem? (i := 18) rfl))) Via.refl e36 F_position_a1 (g := (mkF m 10 #[.val (.ref a1), .val (.long v37), .second, .val (.int (3 : Int32)), .val (.int v34)] [(.ref a1)])) rfl rfl (hb hby d3_10)
              refine OutW.back st40 ?_
              show OutW _ _ _ _ _ _ _ (T40.setTop (mkF m 13 #[.val (.ref a1), .val (.long v37), .second, .val (.int (3 : Int32)), .val (.int v34)] [(.int (((w_p + (1 : Int32)) + (1 : Int32)) + (1 : Int32)))]))
              refine OutW.back (fun t k => XS.aloadN X40.here hx rfl (hb hby d3_13) rfl rfl  k) ?_
              show OutW _ _ _ _ _ _ _ (T40.setTop (mkF m 14 #[.val (.ref a1), .val (.long v37), .second, .val (.int (3 : Int32)), .val (.int v34)] [(.ref a1), (.int (((w_p + (1 : Int32)) + (1 : Int32)) + (1 : Int32)))]))
              obtain ⟨T41, X41, e41, st41⟩ := getF X40 hx hZ hown (host := "") (Or.inl (hw _ (List.mem_of_getElem? (i := 11) rfl))) Via.refl e40 F_bytes_a1 (g := (mkF m 14 #[.val (.ref a1), .val (.long v37), .second, .val (.int (3 : Int32)), .val (.int v34)] [(.ref a1), (.int (((w_p + (1 : Int32)) + (1 : Int32)) + (1 : Int32)))])) rfl rfl (hb hby d3_14)
              refine OutW.back st41 ?_
              show OutW _ _ _ _ _ _ _ (T41.setTop (mkF m 17 #[.val (.ref a1), .val (.long v37), .second, .val (.int (3 : Int32)), .val (.int v34)] [(.ref b2), (.int (((w_p + (1 : Int32)) + (1 : Int32)) + (1 : Int32)))]))
              obtain ⟨cl42, Ar42, Qk42, Sz42, Nn42, Hh42, Gg42⟩ := id V_b2
              refine OutW.back (X41.arraylength hx (by rw [e41]; exact Ar42.1) (State.isArrayOf_alike hZ.alike Ar42.2.1) (g := (mkF m 17 #[.val (.ref a1), .val (.long v37), .second, .val (.int (3 : Int32)), .val (.int v34)] [(.ref b2), (.int (((w_p + (1 : Int32)) + (1 : Int32)) + (1 : Int32)))])) rfl rfl (hb hby d3_17)) ?_
              rw [len_of Sz42 Nn42]
              show OutW _ _ _ _ _ _ _ (T41.setTop (mkF m 18 #[.val (.ref a1), .val (.long v37), .second, .val (.int (3 : Int32)), .val (.int v34)] [(.int nn), (.int (((w_p + (1 : Int32)) + (1 : Int32)) + (1 : Int32)))]))
              by_cases c18_43 : (((w_p + (1 : Int32)) + (1 : Int32)) + (1 : Int32)) < nn
              · skip
                refine OutW.back (fun t k => XS.icmpNo X41.here hx rfl (hb hby d3_18) rfl (tlt c18_43).2.1 k) ?_
                show OutW _ _ _ _ _ _ _ (T41.setTop (mkF m 21 #[.val (.ref a1), .val (.long v37), .second, .val (.int (3 : Int32)), .val (.int v34)] []))
                refine OutW.back (fun t k => XS.aloadN X41.here hx rfl (hb hby d3_21) rfl rfl  k) ?_
                show OutW _ _ _ _ _ _ _ (T41.setTop (mkF m 22 #[.val (.ref a1), .val (.long v37), .second, .val (.int (3 : Int32)), .val (.int v34)] [(.ref a1)]))
                obtain ⟨T44, X44, e44, st44⟩ := getF X41 hx hZ hown (host := "") (Or.inl (hw _ (List.mem_of_getElem? (i := 11) rfl))) Via.refl e41 F_bytes_a1 (g := (mkF m 22 #[.val (.ref a1), .val (.long v37), .second, .val (.int (3 : Int32)), .val (.int v34)] [(.ref a1)])) rfl rfl (hb hby d3_22)
                refine OutW.back st44 ?_
                show OutW _ _ _ _ _ _ _ (T44.setTop (mkF m 25 #[.val (.ref a1), .val (.long v37), .second, .val (.int (3 : Int32)), .val (.int v34)] [(.ref b2)]))
                refine OutW.back (fun t k => XS.aloadN X44.here hx rfl (hb hby d3_25) rfl rfl  k) ?_
                show OutW _ _ _ _ _ _ _ (T44.setTop (mkF m 26 #[.val (.ref a1), .val (.long v37), .second, .val (.int (3 : Int32)), .val (.int v34)] [(.ref a1), (.ref b2)]))
                obtain ⟨T45, X45, e45, st45⟩ := getF X44 hx hZ hown (host := "") (Or.inl (hw _ (List.mem_of_getElem? (i := 18) rfl))) Via.refl e44 F_position_a1 (g := (mkF m 26 #[.val (.ref a1), .val (.long v37), .second, .val (.int (3 : Int32)), .val (.int v34)] [(.ref a1), (.ref b2)])) rfl rfl (hb hby d3_26)
                refine OutW.back st45 ?_
                show OutW _ _ _ _ _ _ _ (T45.setTop (mkF m 29 #[.val (.ref a1), .val (.long v37), .second, .val (.int (3 : Int32)), .val (.int v34)] [(.int (((w_p + (1 : Int32)) + (1 : Int32)) + (1 : Int32))), (.ref b2)]))
                have hin_29 : ¬ (((w_p + (1 : Int32)) + (1 : Int32)) + (1 : Int32)) < 0 ∧ (((w_p + (1 : Int32)) + (1 : Int32)) + (1 : Int32)) < nn := ⟨(own_succ (own_succ (own_succ hp c18_4) c18_17) c18_30), c18_43⟩
                have hat_29 := hB (((w_p + (1 : Int32)) + (1 : Int32)) + (1 : Int32)) hin_29.1 hin_29.2
                obtain ⟨cl46, Ar46, Qk46, Sz46, Nn46, Hh46, Gg46⟩ := id V_b2
                have hin46 : ¬ ((((w_p + (1 : Int32)) + (1 : Int32)) + (1 : Int32)) < 0 ∨ cl46.slots.size ≤ ((((w_p + (1 : Int32)) + (1 : Int32)) + (1 : Int32))).toNatClampNeg) := inb_of Sz46 hin_29
                refine OutW.back (X45.baloadBytes hx (j := (((w_p + (1 : Int32)) + (1 : Int32)) + (1 : Int32))) (v := (.int (B (((w_p + (1 : Int32)) + (1 : Int32)) + (1 : Int32))))) (by rw [e45]; exact Ar46.1) (State.isArrayOf_alike hZ.alike Ar46.2.1) Ar46.2.2 hin46 (Hh46.at hin46 hat_29) (g := (mkF m 29 #[.val (.ref a1), .val (.long v37), .second, .val (.int (3 : Int32)), .val (.int v34)] [(.int (((w_p + (1 : Int32)) + (1 : Int32)) + (1 : Int32))), (.ref b2)])) rfl rfl (hb hby d3_29)) ?_
                show OutW _ _ _ _ _ _ _ (T45.setTop (mkF m 30 #[.val (.ref a1), .val (.long v37), .second, .val (.int (3 : Int32)), .val (.int v34)] [(.int (B (((w_p + (1 : Int32)) + (1 : Int32)) + (1 : Int32))))]))
                generalize hv_v47 : (B (((w_p + (1 : Int32)) + (1 : Int32)) + (1 : Int32))) = v47
                refine OutW.back (fun t k => XS.istore X45.here hx rfl (hb hby d3_30) rfl (l' := #[.val (.ref a1), .val (.long v37), .second, .val (.int (3 : Int32)), .val (.int v47)]) rfl k) ?_
                show OutW _ _ _ _ _ _ _ (T45.setTop (mkF m 32 #[.val (.ref a1), .val (.long v37), .second, .val (.int (3 : Int32)), .val (.int v47)] []))
                refine OutW.back (fun t k => XS.aloadN X45.here hx rfl (hb hby d3_32) rfl rfl  k) ?_
                show OutW _ _ _ _ _ _ _ (T45.setTop (mkF m 33 #[.val (.ref a1), .val (.long v37), .second, .val (.int (3 : Int32)), .val (.int v47)] [(.ref a1)]))
                refine OutW.back (fun t k => XS.dup X45.here hx rfl (hb hby d3_33) rfl rfl k) ?_
                show OutW _ _ _ _ _ _ _ (T45.setTop (mkF m 34 #[.val (.ref a1), .val (.long v37), .second, .val (.int (3 : Int32)), .val (.int v47)] [(.ref a1), (.ref a1)]))
                obtain ⟨T48, X48, e48, st48⟩ := getF X45 hx hZ hown (host := "") (Or.inl (hw _ (List.mem_of_getElem? (i := 18) rfl))) Via.refl e45 F_position_a1 (g := (mkF m 34 #[.val (.ref a1), .val (.long v37), .second, .val (.int (3 : Int32)), .val (.int v47)] [(.ref a1), (.ref a1)])) rfl rfl (hb hby d3_34)
                refine OutW.back st48 ?_
                show OutW _ _ _ _ _ _ _ (T48.setTop (mkF m 37 #[.val (.ref a1), .val (.long v37), .second, .val (.int (3 : Int32)), .val (.int v47)] [(.int (((w_p + (1 : Int32)) + (1 : Int32)) + (1 : Int32))), (.ref a1)]))
                refine OutW.back (fun t k => XS.iconst X48.here hx rfl (hb hby d3_37) k) ?_
                show OutW _ _ _ _ _ _ _ (T48.setTop (mkF m 38 #[.val (.ref a1), .val (.long v37), .second, .val (.int (3 : Int32)), .val (.int v47)] [(.int (1 : Int32)), (.int (((w_p + (1 : Int32)) + (1 : Int32)) + (1 : Int32))), (.ref a1)]))
                refine OutW.back (fun t k => XS.iadd X48.here hx rfl (hb hby d3_38) rfl k) ?_
                show OutW _ _ _ _ _ _ _ (T48.setTop (mkF m 39 #[.val (.ref a1), .val (.long v37), .second, .val (.int (3 : Int32)), .val (.int v47)] [(.int ((((w_p + (1 : Int32)) + (1 : Int32)) + (1 : Int32)) + (1 : Int32))), (.ref a1)]))
                obtain ⟨T49, h49, X49, e49, W49, st49⟩ := putF X48 hx hZ hown (host := "") (Or.inl (hw _ (List.mem_of_getElem? (i := 18) rfl))) Via.refl e48 F_position_a1 E_a1 (Or.inl (hw _ (List.mem_of_getElem? (i := 19) rfl))) (hw _ (List.mem_of_getElem? (i := 3) rfl)) (ty := .int) (by decide) rfl rfl (g := (mkF m 39 #[.val (.ref a1), .val (.long v37), .second, .val (.int (3 : Int32)), .val (.int v47)] [(.int ((((w_p + (1 : Int32)) + (1 : Int32)) + (1 : Int32)) + (1 : Int32))), (.ref a1)])) rfl rfl (hb hby d3_39)
                have E_a1 := E_a1.wr W49
                have F_bytes_a1 := F_bytes_a1.other W49 (Or.inr (slot_ne (Or.inr (hw _ (List.mem_of_getElem? (i := 12) rfl))) (Or.inl (hw _ (List.mem_of_getElem? (i := 19) rfl))) (by decide) (t := (.array .byte)) (t' := .int) (by decide) (by decide)))
                have F_position_a1 := F_position_a1.same W49
                have V_b2 := V_b2.other W49 ne_b2_a1
                have N49 := Fr.snoc X49 N36 g_a1
                have Z49 : n0 ≤ h49.size := Nat.le_trans Z36 (Keep.of_wr W49).1
                have K49 := K36.wr W49 (Or.inl (List.mem_of_getElem? (i := 0) rfl))
                obtain ⟨lc49, X49, N49⟩ : ∃ lc, Stand p l e ({ frames := 0, cells := 0, slots := 0, locals := 0 } : Room) s m #[(.ref a1)] below meth c T49 lc 0 0 ∧ Fr n0 lc := ⟨_, X49, N49⟩
                refine OutW.back st49 ?_
                show OutW _ _ _ _ _ _ _ (T49.setTop (mkF m 42 #[.val (.ref a1), .val (.long v37), .second, .val (.int (3 : Int32)), .val (.int v47)] []))
                refine OutW.back (fun t k => XS.lloadN X49.here hx rfl (hb hby d3_42) rfl  k) ?_
                show OutW _ _ _ _ _ _ _ (T49.setTop (mkF m 43 #[.val (.ref a1), .val (.long v37), .second, .val (.int (3 : Int32)), .val (.int v47)] [(.long v37)]))
                refine OutW.back (fun t k => XS.iload X49.here hx rfl (hb hby d3_43) rfl  k) ?_
                show OutW _ _ _ _ _ _ _ (T49.setTop (mkF m 45 #[.val (.ref a1), .val (.long v37), .second, .val (.int (3 : Int32)), .val (.int v47)] [(.int v47), (.long v37)]))
                refine OutW.back (fun t k => XS.bipush X49.here hx rfl (hb hby d3_45) k) ?_
                show OutW _ _ _ _ _ _ _ (T49.setTop (mkF m 47 #[.val (.ref a1), .val (.long v37), .second, .val (.int (3 : Int32)), .val (.int v47)] [(.int (127 : Int32)), (.int v47), (.long v37)]))
                refine OutW.back (fun t k => XS.iand X49.here hx rfl (hb hby d3_47) rfl k) ?_
                show OutW _ _ _ _ _ _ _ (T49.setTop (mkF m 48 #[.val (.ref a1), .val (.long v37), .second, .val (.int (3 : Int32)), .val (.int v47)] [(.int (v47 &&& (127 : Int32))), (.long v37)]))
                refine OutW.back (fun t k => XS.i2l X49.here hx rfl (hb hby d3_48) rfl k) ?_
                show OutW _ _ _ _ _ _ _ (T49.setTop (mkF m 49 #[.val (.ref a1), .val (.long v37), .second, .val (.int (3 : Int32)), .val (.int v47)] [(.long (v47 &&& (127 : Int32)).toInt64), (.long v37)]))
                refine OutW.back (fun t k => XS.bipush X49.here hx rfl (hb hby d3_49) k) ?_
                show OutW _ _ _ _ _ _ _ (T49.setTop (mkF m 51 #[.val (.ref a1), .val (.long v37), .second, .val (.int (3 : Int32)), .val (.int v47)] [(.int (7 : Int32)), (.long (v47 &&& (127 : Int32)).toInt64), (.long v37)]))
                refine OutW.back (fun t k => XS.iloadN X49.here hx rfl (hb hby d3_51) rfl  k) ?_
                show OutW _ _ _ _ _ _ _ (T49.setTop (mkF m 52 #[.val (.ref a1), .val (.long v37), .second, .val (.int (3 : Int32)), .val (.int v47)] [(.int (3 : Int32)), (.int (7 : Int32)), (.long (v47 &&& (127 : Int32)).toInt64), (.long v37)]))
                refine OutW.back (fun t k => XS.imul X49.here hx rfl (hb hby d3_52) rfl k) ?_
                show OutW _ _ _ _ _ _ _ (T49.setTop (mkF m 53 #[.val (.ref a1), .val (.long v37), .second, .val (.int (3 : Int32)), .val (.int v47)] [(.int ((7 : Int32) * (3 : Int32))), (.long (v47 &&& (127 : Int32)).toInt64), (.long v37)]))
                rw [show ((7 : Int32) * (3 : Int32)) = (21 : Int32) from by decide]
                refine OutW.back (fun t k => XS.lshl X49.here hx rfl (hb hby d3_53) rfl k) ?_
                show OutW _ _ _ _ _ _ _ (T49.setTop (mkF m 54 #[.val (.ref a1), .val (.long v37), .second, .val (.int (3 : Int32)), .val (.int v47)] [(.long ((v47 &&& (127 : Int32)).toInt64 <<< ((21 : Int32) &&& 0x3f).toInt64)), (.long v37)]))
                refine OutW.back (fun t k => XS.lor X49.here hx rfl (hb hby d3_54) rfl k) ?_
                show OutW _ _ _ _ _ _ _ (T49.setTop (mkF m 55 #[.val (.ref a1), .val (.long v37), .second, .val (.int (3 : Int32)), .val (.int v47)] [(.long (v37 ||| ((v47 &&& (127 : Int32)).toInt64 <<< ((21 : Int32) &&& 0x3f).toInt64)))]))
                generalize hv_v50 : (v37 ||| ((v47 &&& (127 : Int32)).toInt64 <<< ((21 : Int32) &&& 0x3f).toInt64)) = v50
                refine OutW.back (fun t k => XS.lstoreN X49.here hx rfl (hb hby d3_55) rfl (l' := #[.val (.ref a1), .val (.long v50), .second, .val (.int (3 : Int32)), .val (.int v47)]) rfl k) ?_
                show OutW _ _ _ _ _ _ _ (T49.setTop (mkF m 56 #[.val (.ref a1), .val (.long v50), .second, .val (.int (3 : Int32)), .val (.int v47)] []))
                refine OutW.back (fun t k => XS.iload X49.here hx rfl (hb hby d3_56) rfl  k) ?_
                show OutW _ _ _ _ _ _ _ (T49.setTop (mkF m 58 #[.val (.ref a1), .val (.long v50), .second, .val (.int (3 : Int32)), .val (.int v47)] [(.int v47)]))
                refine OutW.back (fun t k => XS.sipush X49.here hx rfl (hb hby d3_58) k) ?_
                show OutW _ _ _ _ _ _ _ (T49.setTop (mkF m 61 #[.val (.ref a1), .val (.long v50), .second, .val (.int (3 : Int32)), .val (.int v47)] [(.int (128 : Int32)), (.int v47)]))
                refine OutW.back (fun t k => XS.iand X49.here hx rfl (hb hby d3_61) rfl k) ?_
                show OutW _ _ _ _ _ _ _ (T49.setTop (mkF m 62 #[.val (.ref a1), .val (.long v50), .second, .val (.int (3 : Int32)), .val (.int v47)] [(.int (v47 &&& (128 : Int32)))]))
                by_cases c62_51 : (v47 &&& (128 : Int32)) = (0 : Int32)
                · skip
                  refine OutW.back (fun t k => XS.ifNo X49.here hx rfl (hb hby d3_62) rfl ((if0 _ _).trans (teq c62_51).2) k) ?_
                  show OutW _ _ _ _ _ _ _ (T49.setTop (mkF m 65 #[.val (.ref a1), .val (.long v50), .second, .val (.int (3 : Int32)), .val (.int v47)] []))
                  refine OutW.back (fun t k => XS.lloadN X49.here hx rfl (hb hby d3_65) rfl  k) ?_
                  show OutW _ _ _ _ _ _ _ (T49.setTop (mkF m 66 #[.val (.ref a1), .val (.long v50), .second, .val (.int (3 : Int32)), .val (.int v47)] [(.long v50)]))
                  refine OutW.back (X49.ldc2Long hx hown (mvT hZ (hw _ (List.mem_of_getElem? (i := 34) rfl))) (g := (mkF m 66 #[.val (.ref a1), .val (.long v50), .second, .val (.int (3 : Int32)), .val (.int v47)] [(.long v50)])) rfl (hb hby d3_66)) ?_
                  show OutW _ _ _ _ _ _ _ (T49.setTop (mkF m 69 #[.val (.ref a1), .val (.long v50), .second, .val (.int (3 : Int32)), .val (.int v47)] [(.long (2147483647 : Int64)), (.long v50)]))
                  refine OutW.back (fun t k => XS.lcmp X49.here hx rfl (hb hby d3_69) rfl k) ?_
                  show OutW _ _ _ _ _ _ _ (T49.setTop (mkF m 70 #[.val (.ref a1), .val (.long v50), .second, .val (.int (3 : Int32)), .val (.int v47)] [(.int (lcmpW v50 (2147483647 : Int64)))]))
                  by_cases c70_52 : (2147483647 : Int64) < v50
                  · skip
                    refine OutW.back (fun t k => XS.ifNo X49.here hx rfl (hb hby d3_70) rfl ((if0 _ _).trans (tlt ((lw_gt _ _).mpr c70_52)).2.2.2) k) ?_
                    show OutW _ _ _ _ _ _ _ (T49.setTop (mkF m 73 #[.val (.ref a1), .val (.long v50), .second, .val (.int (3 : Int32)), .val (.int v47)] []))
                    refine OutW.back (fun t k => XS.iconst X49.here hx rfl (hb hby d3_73) k) ?_
                    show OutW _ _ _ _ _ _ _ (T49.setTop (mkF m 74 #[.val (.ref a1), .val (.long v50), .second, .val (.int (3 : Int32)), .val (.int v47)] [(.int (-1 : Int32))]))
                    refine OutW.back (fun t k => XS.goto X49.here hx rfl (pc0 := 74) (pc' := 79) rfl (hb hby d3_74) (by decide) (by decide) k) ?_
                    show OutW _ _ _ _ _ _ _ (T49.setTop (mkF m 79 #[.val (.ref a1), .val (.long v50), .second, .val (.int (3 : Int32)), .val (.int v47)] [(.int (-1 : Int32))]))
                    refine OutW.retI X49 hx Bd.returns hlk (hb hby d3_79) (by decide) (by decide) ?_
                    show Q3 Z a1 b2 w_p nn vs kk B h0 n0 _ T49.heap _
                    rw [e49]
                    subst hv_v50 hv_v47 hv_v37 hv_v34 hv_v24 hv_v21 hv_v11 hv_v8
                    exact ⟨by rw [nxt, if_pos c18_4, if_neg c62_12, if_pos c18_17, if_neg c62_25, if_pos c18_30, if_neg c62_38, if_pos c18_43, if_pos c62_51, if_pos c70_52], N49, K49, (by rw [nxt_position, if_pos c18_4, if_neg c62_12, if_pos c18_17, if_neg c62_25, if_pos c18_30, if_neg c62_38, if_pos c18_43, if_pos c62_51]; exact F_position_a1), F_bytes_a1⟩
                  · skip
                    refine OutW.back (fun t k => XS.ifYes X49.here hx rfl (pc0 := 70) (pc' := 77) rfl (hb hby d3_70) rfl ((if0 _ _).trans (flt (fun q => c70_52 ((lw_gt _ _).mp q))).2.2.2) (by decide) (by decide) k) ?_
                    show OutW _ _ _ _ _ _ _ (T49.setTop (mkF m 77 #[.val (.ref a1), .val (.long v50), .second, .val (.int (3 : Int32)), .val (.int v47)] []))
                    refine OutW.back (fun t k => XS.lloadN X49.here hx rfl (hb hby d3_77) rfl  k) ?_
                    show OutW _ _ _ _ _ _ _ (T49.setTop (mkF m 78 #[.val (.ref a1), .val (.long v50), .second, .val (.int (3 : Int32)), .val (.int v47)] [(.long v50)]))
                    refine OutW.back (fun t k => XS.l2i X49.here hx rfl (hb hby d3_78) rfl k) ?_
                    show OutW _ _ _ _ _ _ _ (T49.setTop (mkF m 79 #[.val (.ref a1), .val (.long v50), .second, .val (.int (3 : Int32)), .val (.int v47)] [(.int v50.toInt32)]))
                    refine OutW.retI X49 hx Bd.returns hlk (hb hby d3_79) (by decide) (by decide) ?_
                    show Q3 Z a1 b2 w_p nn vs kk B h0 n0 _ T49.heap _
                    rw [e49]
                    subst hv_v50 hv_v47 hv_v37 hv_v34 hv_v24 hv_v21 hv_v11 hv_v8
                    exact ⟨by rw [nxt, if_pos c18_4, if_neg c62_12, if_pos c18_17, if_neg c62_25, if_pos c18_30, if_neg c62_38, if_pos c18_43, if_pos c62_51, if_neg c70_52], N49, K49, (by rw [nxt_position, if_pos c18_4, if_neg c62_12, if_pos c18_17, if_neg c62_25, if_pos c18_30, if_neg c62_38, if_pos c18_43, if_pos c62_51]; exact F_position_a1), F_bytes_a1⟩
                · skip
                  refine OutW.back (fun t k => XS.ifYes X49.here hx rfl (pc0 := 62) (pc' := 80) rfl (hb hby d3_62) rfl ((if0 _ _).trans (feq c62_51).2) (by decide) (by decide) k) ?_
                  show OutW _ _ _ _ _ _ _ (T49.setTop (mkF m 80 #[.val (.ref a1), .val (.long v50), .second, .val (.int (3 : Int32)), .val (.int v47)] []))
                  refine OutW.back (fun t k => XS.iinc X49.here hx rfl (hb hby d3_80) rfl (l' := #[.val (.ref a1), .val (.long v50), .second, .val (.int ((3 : Int32) + (1 : Int32))), .val (.int v47)]) rfl k) ?_
                  show OutW _ _ _ _ _ _ _ (T49.setTop (mkF m 83 #[.val (.ref a1), .val (.long v50), .second, .val (.int ((3 : Int32) + (1 : Int32))), .val (.int v47)] []))
                  rw [show ((3 : Int32) + (1 : Int32)) = (4 : Int32) from by decide]
                  refine OutW.back (fun t k => XS.goto X49.here hx rfl (pc0 := 83) (pc' := 4) rfl (hb hby d3_83) (by decide) (by decide) k) ?_
                  show OutW _ _ _ _ _ _ _ (T49.setTop (mkF m 4 #[.val (.ref a1), .val (.long v50), .second, .val (.int (4 : Int32)), .val (.int v47)] []))
                  refine OutW.back (fun t k => XS.iloadN X49.here hx rfl (hb hby d3_4) rfl  k) ?_
                  show OutW _ _ _ _ _ _ _ (T49.setTop (mkF m 5 #[.val (.ref a1), .val (.long v50), .second, .val (.int (4 : Int32)), .val (.int v47)] [(.int (4 : Int32))]))
                  refine OutW.back (fun t k => XS.iconst X49.here hx rfl (hb hby d3_5) k) ?_
                  show OutW _ _ _ _ _ _ _ (T49.setTop (mkF m 6 #[.val (.ref a1), .val (.long v50), .second, .val (.int (4 : Int32)), .val (.int v47)] [(.int (5 : Int32)), (.int (4 : Int32))]))
                  refine OutW.back (fun t k => XS.icmpNo X49.here hx rfl (hb hby d3_6) rfl (tlt (by decide : (4 : Int32) < (5 : Int32))).2.1 k) ?_
                  show OutW _ _ _ _ _ _ _ (T49.setTop (mkF m 9 #[.val (.ref a1), .val (.long v50), .second, .val (.int (4 : Int32)), .val (.int v47)] []))
                  refine OutW.back (fun t k => XS.aloadN X49.here hx rfl (hb hby d3_9) rfl rfl  k) ?_
                  show OutW _ _ _ _ _ _ _ (T49.setTop (mkF m 10 #[.val (.ref a1), .val (.long v50), .second, .val (.int (4 : Int32)), .val (.int v47)] [(.ref a1)]))
                  obtain ⟨T53, X53, e53, st53⟩ := getF X49 hx hZ hown (host := "") (Or.inl (hw _ (List.mem_of_getElem? (i := 18) rfl))) Via.refl e49 F_position_a1 (g := (mkF m 10 #[.val (.ref a1), .val (.long v50), .second, .val (.int (4 : Int32)), .val (.int v47)] [(.ref a1)])) rfl rfl (hb hby d3_10)
                  refine OutW.back st53 ?_
                  show OutW _ _ _ _ _ _ _ (T53.setTop (mkF m 13 #[.val (.ref a1), .val (.long v50), .second, .val (.int (4 : Int32)), .val (.int v47)] [(.int ((((w_p + (1 : Int32)) + (1 : Int32)) + (1 : Int32)) + (1 : Int32)))]))
                  refine OutW.back (fun t k => XS.aloadN X53.here hx rfl (hb hby d3_13) rfl rfl  k) ?_
                  show OutW _ _ _ _ _ _ _ (T53.setTop (mkF m 14 #[.val (.ref a1), .val (.long v50), .second, .val (.int (4 : Int32)), .val (.int v47)] [(.ref a1), (.int ((((w_p + (1 : Int32)) + (1 : Int32)) + (1 : Int32)) + (1 : Int32)))]))
                  obtain ⟨T54, X54, e54, st54⟩ := getF X53 hx hZ hown (host := "") (Or.inl (hw _ (List.mem_of_getElem? (i := 11) rfl))) Via.refl e53 F_bytes_a1 (g := (mkF m 14 #[.val (.ref a1), .val (.long v50), .second, .val (.int (4 : Int32)), .val (.int v47)] [(.ref a1), (.int ((((w_p + (1 : Int32)) + (1 : Int32)) + (1 : Int32)) + (1 : Int32)))])) rfl rfl (hb hby d3_14)
                  refine OutW.back st54 ?_
                  show OutW _ _ _ _ _ _ _ (T54.setTop (mkF m 17 #[.val (.ref a1), .val (.long v50), .second, .val (.int (4 : Int32)), .val (.int v47)] [(.ref b2), (.int ((((w_p + (1 : Int32)) + (1 : Int32)) + (1 : Int32)) + (1 : Int32)))]))
                  obtain ⟨cl55, Ar55, Qk55, Sz55, Nn55, Hh55, Gg55⟩ := id V_b2
                  refine OutW.back (X54.arraylength hx (by rw [e54]; exact Ar55.1) (State.isArrayOf_alike hZ.alike Ar55.2.1) (g := (mkF m 17 #[.val (.ref a1), .val (.long v50), .second, .val (.int (4 : Int32)), .val (.int v47)] [(.ref b2), (.int ((((w_p + (1 : Int32)) + (1 : Int32)) + (1 : Int32)) + (1 : Int32)))])) rfl rfl (hb hby d3_17)) ?_
                  rw [len_of Sz55 Nn55]
                  show OutW _ _ _ _ _ _ _ (T54.setTop (mkF m 18 #[.val (.ref a1), .val (.long v50), .second, .val (.int (4 : Int32)), .val (.int v47)] [(.int nn), (.int ((((w_p + (1 : Int32)) + (1 : Int32)) + (1 : Int32)) + (1 : Int32)))]))
                  by_cases c18_56 : ((((w_p + (1 : Int32)) + (1 : Int32)) + (1 : Int32)) + (1 : Int32)) < nn
                  · skip
                    refine OutW.back (fun t k => XS.icmpNo X54.here hx rfl (hb hby d3_18) rfl (tlt c18_56).2.1 k) ?_
                    show OutW _ _ _ _ _ _ _ (T54.setTop (mkF m 21 #[.val (.ref a1), .val (.long v50), .second, .val (.int (4 : Int32)), .val (.int v47)] []))
                    refine OutW.back (fun t k => XS.aloadN X54.here hx rfl (hb hby d3_21) rfl rfl  k) ?_
                    show OutW _ _ _ _ _ _ _ (T54.setTop (mkF m 22 #[.val (.ref a1), .val (.long v50), .second, .val (.int (4 : Int32)), .val (.int v47)] [(.ref a1)]))
                    obtain ⟨T57, X57, e57, st57⟩ := getF X54 hx hZ hown (host := "") (Or.inl (hw _ (List.mem_of_getElem? (i := 11) rfl))) Via.refl e54 F_bytes_a1 (g := (mkF m 22 #[.val (.ref a1), .val (.long v50), .second, .val (.int (4 : Int32)), .val (.int v47)] [(.ref a1)])) rfl rfl (hb hby d3_22)
                    refine OutW.back st57 ?_
                    show OutW _ _ _ _ _ _ _ (T57.setTop (mkF m 25 #[.val (.ref a1), .val (.long v50), .second, .val (.int (4 : Int32)), .val (.int v47)] [(.ref b2)]))
                    refine OutW.back (fun t k => XS.aloadN X57.here hx rfl (hb hby d3_25) rfl rfl  k) ?_
                    show OutW _ _ _ _ _ _ _ (T57.setTop (mkF m 26 #[.val (.ref a1), .val (.long v50), .second, .val (.int (4 : Int32)), .val (.int v47)] [(.ref a1), (.ref b2)]))
                    obtain ⟨T58, X58, e58, st58⟩ := getF X57 hx hZ hown (host := "") (Or.inl (hw _ (List.mem_of_getElem? (i := 18) rfl))) Via.refl e57 F_position_a1 (g := (mkF m 26 #[.val (.ref a1), .val (.long v50), .second, .val (.int (4 : Int32)), .val (.int v47)] [(.ref a1), (.ref b2)])) rfl rfl (hb hby d3_26)
                    refine OutW.back st58 ?_
                    show OutW _ _ _ _ _ _ _ (T58.setTop (mkF m 29 #[.val (.ref a1), .val (.long v50), .second, .val (.int (4 : Int32)), .val (.int v47)] [(.int ((((w_p + (1 : Int32)) + (1 : Int32)) + (1 : Int32)) + (1 : Int32))), (.ref b2)]))
                    have hin_29 : ¬ ((((w_p + (1 : Int32)) + (1 : Int32)) + (1 : Int32)) + (1 : Int32)) < 0 ∧ ((((w_p + (1 : Int32)) + (1 : Int32)) + (1 : Int32)) + (1 : Int32)) < nn := ⟨(own_succ (own_succ (own_succ (own_succ hp c18_4) c18_17) c18_30) c18_43), c18_56⟩
                    have hat_29 := hB ((((w_p + (1 : Int32)) + (1 : Int32)) + (1 : Int32)) + (1 : Int32)) hin_29.1 hin_29.2
                    obtain ⟨cl59, Ar59, Qk59, Sz59, Nn59, Hh59, Gg59⟩ := id V_b2
                    have hin59 : ¬ (((((w_p + (1 : Int32)) + (1 : Int32)) + (1 : Int32)) + (1 : Int32)) < 0 ∨ cl59.slots.size ≤ (((((w_p + (1 : Int32)) + (1 : Int32)) + (1 : Int32)) + (1 : Int32))).toNatClampNeg) := inb_of Sz59 hin_29
                    refine OutW.back (X58.baloadBytes hx (j := ((((w_p + (1 : Int32)) + (1 : Int32)) + (1 : Int32)) + (1 : Int32))) (v := (.int (B ((((w_p + (1 : Int32)) + (1 : Int32)) + (1 : Int32)) + (1 : Int32))))) (by rw [e58]; exact Ar59.1) (State.isArrayOf_alike hZ.alike Ar59.2.1) Ar59.2.2 hin59 (Hh59.at hin59 hat_29) (g := (mkF m 29 #[.val (.ref a1), .val (.long v50), .second, .val (.int (4 : Int32)), .val (.int v47)] [(.int ((((w_p + (1 : Int32)) + (1 : Int32)) + (1 : Int32)) + (1 : Int32))), (.ref b2)])) rfl rfl (hb hby d3_29)) ?_
                    show OutW _ _ _ _ _ _ _ (T58.setTop (mkF m 30 #[.val (.ref a1), .val (.long v50), .second, .val (.int (4 : Int32)), .val (.int v47)] [(.int (B ((((w_p + (1 : Int32)) + (1 : Int32)) + (1 : Int32)) + (1 : Int32))))]))
                    generalize hv_v60 : (B ((((w_p + (1 : Int32)) + (1 : Int32)) + (1 : Int32)) + (1 : Int32))) = v60
                    refine OutW.back (fun t k => XS.istore X58.here hx rfl (hb hby d3_30) rfl (l' := #[.val (.ref a1), .val (.long v50), .second, .val (.int (4 : Int32)), .val (.int v60)]) rfl k) ?_
                    show OutW _ _ _ _ _ _ _ (T58.setTop (mkF m 32 #[.val (.ref a1), .val (.long v50), .second, .val (.int (4 : Int32)), .val (.int v60)] []))
                    refine OutW.back (fun t k => XS.aloadN X58.here hx rfl (hb hby d3_32) rfl rfl  k) ?_
                    show OutW _ _ _ _ _ _ _ (T58.setTop (mkF m 33 #[.val (.ref a1), .val (.long v50), .second, .val (.int (4 : Int32)), .val (.int v60)] [(.ref a1)]))
                    refine OutW.back (fun t k => XS.dup X58.here hx rfl (hb hby d3_33) rfl rfl k) ?_
                    show OutW _ _ _ _ _ _ _ (T58.setTop (mkF m 34 #[.val (.ref a1), .val (.long v50), .second, .val (.int (4 : Int32)), .val (.int v60)] [(.ref a1), (.ref a1)]))
                    obtain ⟨T61, X61, e61, st61⟩ := getF X58 hx hZ hown (host := "") (Or.inl (hw _ (List.mem_of_getElem? (i := 18) rfl))) Via.refl e58 F_position_a1 (g := (mkF m 34 #[.val (.ref a1), .val (.long v50), .second, .val (.int (4 : Int32)), .val (.int v60)] [(.ref a1), (.ref a1)])) rfl rfl (hb hby d3_34)
                    refine OutW.back st61 ?_
                    show OutW _ _ _ _ _ _ _ (T61.setTop (mkF m 37 #[.val (.ref a1), .val (.long v50), .second, .val (.int (4 : Int32)), .val (.int v60)] [(.int ((((w_p + (1 : Int32)) + (1 : Int32)) + (1 : Int32)) + (1 : Int32))), (.ref a1)]))
                    refine OutW.back (fun t k => XS.iconst X61.here hx rfl (hb hby d3_37) k) ?_
                    show OutW _ _ _ _ _ _ _ (T61.setTop (mkF m 38 #[.val (.ref a1), .val (.long v50), .second, .val (.int (4 : Int32)), .val (.int v60)] [(.int (1 : Int32)), (.int ((((w_p + (1 : Int32)) + (1 : Int32)) + (1 : Int32)) + (1 : Int32))), (.ref a1)]))
                    refine OutW.back (fun t k => XS.iadd X61.here hx rfl (hb hby d3_38) rfl k) ?_
                    show OutW _ _ _ _ _ _ _ (T61.setTop (mkF m 39 #[.val (.ref a1), .val (.long v50), .second, .val (.int (4 : Int32)), .val (.int v60)] [(.int (((((w_p + (1 : Int32)) + (1 : Int32)) + (1 : Int32)) + (1 : Int32)) + (1 : Int32))), (.ref a1)]))
                    obtain ⟨T62, h62, X62, e62, W62, st62⟩ := putF X61 hx hZ hown (host := "") (Or.inl (hw _ (List.mem_of_getElem? (i := 18) rfl))) Via.refl e61 F_position_a1 E_a1 (Or.inl (hw _ (List.mem_of_getElem? (i := 19) rfl))) (hw _ (List.mem_of_getElem? (i := 3) rfl)) (ty := .int) (by decide) rfl rfl (g := (mkF m 39 #[.val (.ref a1), .val (.long v50), .second, .val (.int (4 : Int32)), .val (.int v60)] [(.int (((((w_p + (1 : Int32)) + (1 : Int32)) + (1 : Int32)) + (1 : Int32)) + (1 : Int32))), (.ref a1)])) rfl rfl (hb hby d3_39)
                    have E_a1 := E_a1.wr W62
                    have F_bytes_a1 := F_bytes_a1.other W62 (Or.inr (slot_ne (Or.inr (hw _ (List.mem_of_getElem? (i := 12) rfl))) (Or.inl (hw _ (List.mem_of_getElem? (i := 19) rfl))) (by decide) (t := (.array .byte)) (t' := .int) (by decide) (by decide)))
                    have F_position_a1 := F_position_a1.same W62
                    have V_b2 := V_b2.other W62 ne_b2_a1
                    have N62 := Fr.snoc X62 N49 g_a1
                    have Z62 : n0 ≤ h62.size := Nat.le_trans Z49 (Keep.of_wr W62).1
                    have K62 := K49.wr W62 (Or.inl (List.mem_of_getElem? (i := 0) rfl))
                    obtain ⟨lc62, X62, N62⟩ : ∃ lc, Stand p l e ({ frames := 0, cells := 0, slots := 0, locals := 0 } : Room) s m #[(.ref a1)] below meth c T62 lc 0 0 ∧ Fr n0 lc := ⟨_, X62, N62⟩
                    refine OutW.back st62 ?_
                    show OutW _ _ _ _ _ _ _ (T62.setTop (mkF m 42 #[.val (.ref a1), .val (.long v50), .second, .val (.int (4 : Int32)), .val (.int v60)] []))
                    refine OutW.back (fun t k => XS.lloadN X62.here hx rfl (hb hby d3_42) rfl  k) ?_
                    show OutW _ _ _ _ _ _ _ (T62.setTop (mkF m 43 #[.val (.ref a1), .val (.long v50), .second, .val (.int (4 : Int32)), .val (.int v60)] [(.long v50)]))
                    refine OutW.back (fun t k => XS.iload X62.here hx rfl (hb hby d3_43) rfl  k) ?_
                    show OutW _ _ _ _ _ _ _ (T62.setTop (mkF m 45 #[.val (.ref a1), .val (.long v50), .second, .val (.int (4 : Int32)), .val (.int v60)] [(.int v60), (.long v50)]))
                    refine OutW.back (fun t k => XS.bipush X62.here hx rfl (hb hby d3_45) k) ?_
                    show OutW _ _ _ _ _ _ _ (T62.setTop (mkF m 47 #[.val (.ref a1), .val (.long v50), .second, .val (.int (4 : Int32)), .val (.int v60)] [(.int (127 : Int32)), (.int v60), (.long v50)]))
                    refine OutW.back (fun t k => XS.iand X62.here hx rfl (hb hby d3_47) rfl k) ?_
                    show OutW _ _ _ _ _ _ _ (T62.setTop (mkF m 48 #[.val (.ref a1), .val (.long v50), .second, .val (.int (4 : Int32)), .val (.int v60)] [(.int (v60 &&& (127 : Int32))), (.long v50)]))
                    refine OutW.back (fun t k => XS.i2l X62.here hx rfl (hb hby d3_48) rfl k) ?_
                    show OutW _ _ _ _ _ _ _ (T62.setTop (mkF m 49 #[.val (.ref a1), .val (.long v50), .second, .val (.int (4 : Int32)), .val (.int v60)] [(.long (v60 &&& (127 : Int32)).toInt64), (.long v50)]))
                    refine OutW.back (fun t k => XS.bipush X62.here hx rfl (hb hby d3_49) k) ?_
                    show OutW _ _ _ _ _ _ _ (T62.setTop (mkF m 51 #[.val (.ref a1), .val (.long v50), .second, .val (.int (4 : Int32)), .val (.int v60)] [(.int (7 : Int32)), (.long (v60 &&& (127 : Int32)).toInt64), (.long v50)]))
                    refine OutW.back (fun t k => XS.iloadN X62.here hx rfl (hb hby d3_51) rfl  k) ?_
                    show OutW _ _ _ _ _ _ _ (T62.setTop (mkF m 52 #[.val (.ref a1), .val (.long v50), .second, .val (.int (4 : Int32)), .val (.int v60)] [(.int (4 : Int32)), (.int (7 : Int32)), (.long (v60 &&& (127 : Int32)).toInt64), (.long v50)]))
                    refine OutW.back (fun t k => XS.imul X62.here hx rfl (hb hby d3_52) rfl k) ?_
                    show OutW _ _ _ _ _ _ _ (T62.setTop (mkF m 53 #[.val (.ref a1), .val (.long v50), .second, .val (.int (4 : Int32)), .val (.int v60)] [(.int ((7 : Int32) * (4 : Int32))), (.long (v60 &&& (127 : Int32)).toInt64), (.long v50)]))
                    rw [show ((7 : Int32) * (4 : Int32)) = (28 : Int32) from by decide]
                    refine OutW.back (fun t k => XS.lshl X62.here hx rfl (hb hby d3_53) rfl k) ?_
                    show OutW _ _ _ _ _ _ _ (T62.setTop (mkF m 54 #[.val (.ref a1), .val (.long v50), .second, .val (.int (4 : Int32)), .val (.int v60)] [(.long ((v60 &&& (127 : Int32)).toInt64 <<< ((28 : Int32) &&& 0x3f).toInt64)), (.long v50)]))
                    refine OutW.back (fun t k => XS.lor X62.here hx rfl (hb hby d3_54) rfl k) ?_
                    show OutW _ _ _ _ _ _ _ (T62.setTop (mkF m 55 #[.val (.ref a1), .val (.long v50), .second, .val (.int (4 : Int32)), .val (.int v60)] [(.long (v50 ||| ((v60 &&& (127 : Int32)).toInt64 <<< ((28 : Int32) &&& 0x3f).toInt64)))]))
                    generalize hv_v63 : (v50 ||| ((v60 &&& (127 : Int32)).toInt64 <<< ((28 : Int32) &&& 0x3f).toInt64)) = v63
                    refine OutW.back (fun t k => XS.lstoreN X62.here hx rfl (hb hby d3_55) rfl (l' := #[.val (.ref a1), .val (.long v63), .second, .val (.int (4 : Int32)), .val (.int v60)]) rfl k) ?_
                    show OutW _ _ _ _ _ _ _ (T62.setTop (mkF m 56 #[.val (.ref a1), .val (.long v63), .second, .val (.int (4 : Int32)), .val (.int v60)] []))
                    refine OutW.back (fun t k => XS.iload X62.here hx rfl (hb hby d3_56) rfl  k) ?_
                    show OutW _ _ _ _ _ _ _ (T62.setTop (mkF m 58 #[.val (.ref a1), .val (.long v63), .second, .val (.int (4 : Int32)), .val (.int v60)] [(.int v60)]))
                    refine OutW.back (fun t k => XS.sipush X62.here hx rfl (hb hby d3_58) k) ?_
                    show OutW _ _ _ _ _ _ _ (T62.setTop (mkF m 61 #[.val (.ref a1), .val (.long v63), .second, .val (.int (4 : Int32)), .val (.int v60)] [(.int (128 : Int32)), (.int v60)]))
                    refine OutW.back (fun t k => XS.iand X62.here hx rfl (hb hby d3_61) rfl k) ?_
                    show OutW _ _ _ _ _ _ _ (T62.setTop (mkF m 62 #[.val (.ref a1), .val (.long v63), .second, .val (.int (4 : Int32)), .val (.int v60)] [(.int (v60 &&& (128 : Int32)))]))
                    by_cases c62_64 : (v60 &&& (128 : Int32)) = (0 : Int32)
                    · skip
                      refine OutW.back (fun t k => XS.ifNo X62.here hx rfl (hb hby d3_62) rfl ((if0 _ _).trans (teq c62_64).2) k) ?_
                      show OutW _ _ _ _ _ _ _ (T62.setTop (mkF m 65 #[.val (.ref a1), .val (.long v63), .second, .val (.int (4 : Int32)), .val (.int v60)] []))
                      refine OutW.back (fun t k => XS.lloadN X62.here hx rfl (hb hby d3_65) rfl  k) ?_
                      show OutW _ _ _ _ _ _ _ (T62.setTop (mkF m 66 #[.val (.ref a1), .val (.long v63), .second, .val (.int (4 : Int32)), .val (.int v60)] [(.long v63)]))
                      refine OutW.back (X62.ldc2Long hx hown (mvT hZ (hw _ (List.mem_of_getElem? (i := 34) rfl))) (g := (mkF m 66 #[.val (.ref a1), .val (.long v63), .second, .val (.int (4 : Int32)), .val (.int v60)] [(.long v63)])) rfl (hb hby d3_66)) ?_
                      show OutW _ _ _ _ _ _ _ (T62.setTop (mkF m 69 #[.val (.ref a1), .val (.long v63), .second, .val (.int (4 : Int32)), .val (.int v60)] [(.long (2147483647 : Int64)), (.long v63)]))
                      refine OutW.back (fun t k => XS.lcmp X62.here hx rfl (hb hby d3_69) rfl k) ?_
                      show OutW _ _ _ _ _ _ _ (T62.setTop (mkF m 70 #[.val (.ref a1), .val (.long v63), .second, .val (.int (4 : Int32)), .val (.int v60)] [(.int (lcmpW v63 (2147483647 : Int64)))]))
                      by_cases c70_65 : (2147483647 : Int64) < v63
                      · skip
                        refine OutW.back (fun t k => XS.ifNo X62.here hx rfl (hb hby d3_70) rfl ((if0 _ _).trans (tlt ((lw_gt _ _).mpr c70_65)).2.2.2) k) ?_
                        show OutW _ _ _ _ _ _ _ (T62.setTop (mkF m 73 #[.val (.ref a1), .val (.long v63), .second, .val (.int (4 : Int32)), .val (.int v60)] []))
                        refine OutW.back (fun t k => XS.iconst X62.here hx rfl (hb hby d3_73) k) ?_
                        show OutW _ _ _ _ _ _ _ (T62.setTop (mkF m 74 #[.val (.ref a1), .val (.long v63), .second, .val (.int (4 : Int32)), .val (.int v60)] [(.int (-1 : Int32))]))
                        refine OutW.back (fun t k => XS.goto X62.here hx rfl (pc0 := 74) (pc' := 79) rfl (hb hby d3_74) (by decide) (by decide) k) ?_
                        show OutW _ _ _ _ _ _ _ (T62.setTop (mkF m 79 #[.val (.ref a1), .val (.long v63), .second, .val (.int (4 : Int32)), .val (.int v60)] [(.int (-1 : Int32))]))
                        refine OutW.retI X62 hx Bd.returns hlk (hb hby d3_79) (by decide) (by decide) ?_
                        show Q3 Z a1 b2 w_p nn vs kk B h0 n0 _ T62.heap _
                        rw [e62]
                        subst hv_v63 hv_v60 hv_v50 hv_v47 hv_v37 hv_v34 hv_v24 hv_v21 hv_v11 hv_v8
                        exact ⟨by rw [nxt, if_pos c18_4, if_neg c62_12, if_pos c18_17, if_neg c62_25, if_pos c18_30, if_neg c62_38, if_pos c18_43, if_neg c62_51, if_pos c18_56, if_pos c62_64, if_pos c70_65], N62, K62, (by rw [nxt_position, if_pos c18_4, if_neg c62_12, if_pos c18_17, if_neg c62_25, if_pos c18_30, if_neg c62_38, if_pos c18_43, if_neg c62_51, if_pos c18_56]; exact F_position_a1), F_bytes_a1⟩
                      · skip
                        refine OutW.back (fun t k => XS.ifYes X62.here hx rfl (pc0 := 70) (pc' := 77) rfl (hb hby d3_70) rfl ((if0 _ _).trans (flt (fun q => c70_65 ((lw_gt _ _).mp q))).2.2.2) (by decide) (by decide) k) ?_
                        show OutW _ _ _ _ _ _ _ (T62.setTop (mkF m 77 #[.val (.ref a1), .val (.long v63), .second, .val (.int (4 : Int32)), .val (.int v60)] []))
                        refine OutW.back (fun t k => XS.lloadN X62.here hx rfl (hb hby d3_77) rfl  k) ?_
                        show OutW _ _ _ _ _ _ _ (T62.setTop (mkF m 78 #[.val (.ref a1), .val (.long v63), .second, .val (.int (4 : Int32)), .val (.int v60)] [(.long v63)]))
                        refine OutW.back (fun t k => XS.l2i X62.here hx rfl (hb hby d3_78) rfl k) ?_
                        show OutW _ _ _ _ _ _ _ (T62.setTop (mkF m 79 #[.val (.ref a1), .val (.long v63), .second, .val (.int (4 : Int32)), .val (.int v60)] [(.int v63.toInt32)]))
                        refine OutW.retI X62 hx Bd.returns hlk (hb hby d3_79) (by decide) (by decide) ?_
                        show Q3 Z a1 b2 w_p nn vs kk B h0 n0 _ T62.heap _
                        rw [e62]
                        subst hv_v63 hv_v60 hv_v50 hv_v47 hv_v37 hv_v34 hv_v24 hv_v21 hv_v11 hv_v8
                        exact ⟨by rw [nxt, if_pos c18_4, if_neg c62_12, if_pos c18_17, if_neg c62_25, if_pos c18_30, if_neg c62_38, if_pos c18_43, if_neg c62_51, if_pos c18_56, if_pos c62_64, if_neg c70_65], N62, K62, (by rw [nxt_position, if_pos c18_4, if_neg c62_12, if_pos c18_17, if_neg c62_25, if_pos c18_30, if_neg c62_38, if_pos c18_43, if_neg c62_51, if_pos c18_56]; exact F_position_a1), F_bytes_a1⟩
                    · skip
                      refine OutW.back (fun t k => XS.ifYes X62.here hx rfl (pc0 := 62) (pc' := 80) rfl (hb hby d3_62) rfl ((if0 _ _).trans (feq c62_64).2) (by decide) (by decide) k) ?_
                      show OutW _ _ _ _ _ _ _ (T62.setTop (mkF m 80 #[.val (.ref a1), .val (.long v63), .second, .val (.int (4 : Int32)), .val (.int v60)] []))
                      refine OutW.back (fun t k => XS.iinc X62.here hx rfl (hb hby d3_80) rfl (l' := #[.val (.ref a1), .val (.long v63), .second, .val (.int ((4 : Int32) + (1 : Int32))), .val (.int v60)]) rfl k) ?_
                      show OutW _ _ _ _ _ _ _ (T62.setTop (mkF m 83 #[.val (.ref a1), .val (.long v63), .second, .val (.int ((4 : Int32) + (1 : Int32))), .val (.int v60)] []))
                      rw [show ((4 : Int32) + (1 : Int32)) = (5 : Int32) from by decide]
                      refine OutW.back (fun t k => XS.goto X62.here hx rfl (pc0 := 83) (pc' := 4) rfl (hb hby d3_83) (by decide) (by decide) k) ?_
                      show OutW _ _ _ _ _ _ _ (T62.setTop (mkF m 4 #[.val (.ref a1), .val (.long v63), .second, .val (.int (5 : Int32)), .val (.int v60)] []))
                      refine OutW.back (fun t k => XS.iloadN X62.here hx rfl (hb hby d3_4) rfl  k) ?_
                      show OutW _ _ _ _ _ _ _ (T62.setTop (mkF m 5 #[.val (.ref a1), .val (.long v63), .second, .val (.int (5 : Int32)), .val (.int v60)] [(.int (5 : Int32))]))
                      refine OutW.back (fun t k => XS.iconst X62.here hx rfl (hb hby d3_5) k) ?_
                      show OutW _ _ _ _ _ _ _ (T62.setTop (mkF m 6 #[.val (.ref a1), .val (.long v63), .second, .val (.int (5 : Int32)), .val (.int v60)] [(.int (5 : Int32)), (.int (5 : Int32))]))
                      refine OutW.back (fun t k => XS.icmpYes X62.here hx rfl (pc0 := 6) (pc' := 86) rfl (hb hby d3_6) rfl (flt (by decide : ¬ ((5 : Int32) < (5 : Int32)))).2.1 (by decide) (by decide) k) ?_
                      show OutW _ _ _ _ _ _ _ (T62.setTop (mkF m 86 #[.val (.ref a1), .val (.long v63), .second, .val (.int (5 : Int32)), .val (.int v60)] []))
                      refine OutW.back (fun t k => XS.iconst X62.here hx rfl (hb hby d3_86) k) ?_
                      show OutW _ _ _ _ _ _ _ (T62.setTop (mkF m 87 #[.val (.ref a1), .val (.long v63), .second, .val (.int (5 : Int32)), .val (.int v60)] [(.int (-1 : Int32))]))
                      refine OutW.retI X62 hx Bd.returns hlk (hb hby d3_87) (by decide) (by decide) ?_
                      show Q3 Z a1 b2 w_p nn vs kk B h0 n0 _ T62.heap _
                      rw [e62]
                      subst hv_v63 hv_v60 hv_v50 hv_v47 hv_v37 hv_v34 hv_v24 hv_v21 hv_v11 hv_v8
                      exact ⟨by rw [nxt, if_pos c18_4, if_neg c62_12, if_pos c18_17, if_neg c62_25, if_pos c18_30, if_neg c62_38, if_pos c18_43, if_neg c62_51, if_pos c18_56, if_neg c62_64], N62, K62, (by rw [nxt_position, if_pos c18_4, if_neg c62_12, if_pos c18_17, if_neg c62_25, if_pos c18_30, if_neg c62_38, if_pos c18_43, if_neg c62_51, if_pos c18_56]; exact F_position_a1), F_bytes_a1⟩
                  · skip
                    refine OutW.back (fun t k => XS.icmpYes X54.here hx rfl (pc0 := 18) (pc' := 86) rfl (hb hby d3_18) rfl (flt c18_56).2.1 (by decide) (by decide) k) ?_
                    show OutW _ _ _ _ _ _ _ (T54.setTop (mkF m 86 #[.val (.ref a1), .val (.long v50), .second, .val (.int (4 : Int32)), .val (.int v47)] []))
                    refine OutW.back (fun t k => XS.iconst X54.here hx rfl (hb hby d3_86) k) ?_
                    show OutW _ _ _ _ _ _ _ (T54.setTop (mkF m 87 #[.val (.ref a1), .val (.long v50), .second, .val (.int (4 : Int32)), .val (.int v47)] [(.int (-1 : Int32))]))
                    refine OutW.retI X54 hx Bd.returns hlk (hb hby d3_87) (by decide) (by decide) ?_
                    show Q3 Z a1 b2 w_p nn vs kk B h0 n0 _ T54.heap _
                    rw [e54]
                    subst hv_v50 hv_v47 hv_v37 hv_v34 hv_v24 hv_v21 hv_v11 hv_v8
                    exact ⟨by rw [nxt, if_pos c18_4, if_neg c62_12, if_pos c18_17, if_neg c62_25, if_pos c18_30, if_neg c62_38, if_pos c18_43, if_neg c62_51, if_neg c18_56], N49, K49, (by rw [nxt_position, if_pos c18_4, if_neg c62_12, if_pos c18_17, if_neg c62_25, if_pos c18_30, if_neg c62_38, if_pos c18_43, if_neg c62_51, if_neg c18_56]; exact F_position_a1), F_bytes_a1⟩
              · skip
                refine OutW.back (fun t k => XS.icmpYes X41.here hx rfl (pc0 := 18) (pc' := 86) rfl (hb hby d3_18) rfl (flt c18_43).2.1 (by decide) (by decide) k) ?_
                show OutW _ _ _ _ _ _ _ (T41.setTop (mkF m 86 #[.val (.ref a1), .val (.long v37), .second, .val (.int (3 : Int32)), .val (.int v34)] []))
                refine OutW.back (fun t k => XS.iconst X41.here hx rfl (hb hby d3_86) k) ?_
                show OutW _ _ _ _ _ _ _ (T41.setTop (mkF m 87 #[.val (.ref a1), .val (.long v37), .second, .val (.int (3 : Int32)), .val (.int v34)] [(.int (-1 : Int32))]))
                refine OutW.retI X41 hx Bd.returns hlk (hb hby d3_87) (by decide) (by decide) ?_
                show Q3 Z a1 b2 w_p nn vs kk B h0 n0 _ T41.heap _
                rw [e41]
                subst hv_v37 hv_v34 hv_v24 hv_v21 hv_v11 hv_v8
                exact ⟨by rw [nxt, if_pos c18_4, if_neg c62_12, if_pos c18_17, if_neg c62_25, if_pos c18_30, if_neg c62_38, if_neg c18_43], N36, K36, (by rw [nxt_position, if_pos c18_4, if_neg c62_12, if_pos c18_17, if_neg c62_25, if_pos c18_30, if_neg c62_38, if_neg c18_43]; exact F_position_a1), F_bytes_a1⟩
          · skip
            refine OutW.back (fun t k => XS.icmpYes X28.here hx rfl (pc0 := 18) (pc' := 86) rfl (hb hby d3_18) rfl (flt c18_30).2.1 (by decide) (by decide) k) ?_
            show OutW _ _ _ _ _ _ _ (T28.setTop (mkF m 86 #[.val (.ref a1), .val (.long v24), .second, .val (.int (2 : Int32)), .val (.int v21)] []))
            refine OutW.back (fun t k => XS.iconst X28.here hx rfl (hb hby d3_86) k) ?_
            show OutW _ _ _ _ _ _ _ (T28.setTop (mkF m 87 #[.val (.ref a1), .val (.long v24), .second, .val (.int (2 : Int32)), .val (.int v21)] [(.int (-1 : Int32))]))
            refine OutW.retI X28 hx Bd.returns hlk (hb hby d3_87) (by decide) (by decide) ?_
            show Q3 Z a1 b2 w_p nn vs kk B h0 n0 _ T28.heap _
            rw [e28]
            subst hv_v24 hv_v21 hv_v11 hv_v8
            exact ⟨by rw [nxt, if_pos c18_4, if_neg c62_12, if_pos c18_17, if_neg c62_25, if_neg c18_30], N23, K23, (by rw [nxt_position, if_pos c18_4, if_neg c62_12, if_pos c18_17, if_neg c62_25, if_neg c18_30]; exact F_position_a1), F_bytes_a1⟩
      · skip
        refine OutW.back (fun t k => XS.icmpYes X15.here hx rfl (pc0 := 18) (pc' := 86) rfl (hb hby d3_18) rfl (flt c18_17).2.1 (by decide) (by decide) k) ?_
        show OutW _ _ _ _ _ _ _ (T15.setTop (mkF m 86 #[.val (.ref a1), .val (.long v11), .second, .val (.int (1 : Int32)), .val (.int v8)] []))
        refine OutW.back (fun t k => XS.iconst X15.here hx rfl (hb hby d3_86) k) ?_
        show OutW _ _ _ _ _ _ _ (T15.setTop (mkF m 87 #[.val (.ref a1), .val (.long v11), .second, .val (.int (1 : Int32)), .val (.int v8)] [(.int (-1 : Int32))]))
        refine OutW.retI X15 hx Bd.returns hlk (hb hby d3_87) (by decide) (by decide) ?_
        show Q3 Z a1 b2 w_p nn vs kk B h0 n0 _ T15.heap _
        rw [e15]
        subst hv_v11 hv_v8
        exact ⟨by rw [nxt, if_pos c18_4, if_neg c62_12, if_neg c18_17], N10, K10, (by rw [nxt_position, if_pos c18_4, if_neg c62_12, if_neg c18_17]; exact F_position_a1), F_bytes_a1⟩
  · skip
    refine OutW.back (fun t k => XS.icmpYes X2.here hx rfl (pc0 := 18) (pc' := 86) rfl (hb hby d3_18) rfl (flt c18_4).2.1 (by decide) (by decide) k) ?_
    show OutW _ _ _ _ _ _ _ (T2.setTop (mkF m 86 #[.val (.ref a1), .val (.long (0 : Int64)), .second, .val (.int (0 : Int32)), .unset] []))
    refine OutW.back (fun t k => XS.iconst X2.here hx rfl (hb hby d3_86) k) ?_
    show OutW _ _ _ _ _ _ _ (T2.setTop (mkF m 87 #[.val (.ref a1), .val (.long (0 : Int64)), .second, .val (.int (0 : Int32)), .unset] [(.int (-1 : Int32))]))
    refine OutW.retI X2 hx Bd.returns hlk (hb hby d3_87) (by decide) (by decide) ?_
    show Q3 Z a1 b2 w_p nn vs kk B h0 n0 _ T2.heap _
    rw [e2]
    exact ⟨by rw [nxt, if_neg c18_4], N0, K0, (by rw [nxt_position, if_neg c18_4]; exact F_position_a1), F_bytes_a1⟩
def minF_0 (p1 : Int32) (p2 : Int32) : Int32 := (if p2 < p1 then p2 else p1)
theorem d6_0 : decode jdk_29_method_69_code 0 = .ok (.iload_n 0, 1) := by decide +kernel
theorem d6_1 : decode jdk_29_method_69_code 1 = .ok (.iload_n 1, 1) := by decide +kernel
theorem d6_2 : decode jdk_29_method_69_code 2 = .ok (.if_icmp .gt 7, 3) := by decide +kernel
theorem d6_5 : decode jdk_29_method_69_code 5 = .ok (.iload_n 0, 1) := by decide +kernel
theorem d6_6 : decode jdk_29_method_69_code 6 = .ok (.goto 4, 3) := by decide +kernel
theorem d6_9 : decode jdk_29_method_69_code 9 = .ok (.iload_n 1, 1) := by decide +kernel
theorem d6_10 : decode jdk_29_method_69_code 10 = .ok (.ireturn, 1) := by decide +kernel
theorem ef_6 (m : MethodId) (x0 : Int32) (x1 : Int32) : entryFrame m #[(.int x0), (.int x1)] 2 = mkF m 0 #[.val (.int x0), .val (.int x1)] [] := by first | (simp [entryFrame, mkF, argsToLocals, Value.category]; done) | rfl
def Q6 (Z : State) (p1 : Int32) (p2 : Int32)  (h0 : Heap) (n0 : Nat) (v : Option Value) (h : Heap) (L : List Loc) : Prop := v = some (.int (minF_0 p1 p2)) ∧ Fr n0 L ∧ h = h0
set_option maxRecDepth 65536 in
set_option maxHeartbeats 40000000 in
theorem rm6 (l : Launch) (Z : State) (a0 : Array Value) (hw : ∀ d ∈ tables_1, d.before a0 Z = true) (ws : List Jvm.Cond) (p1 : Int32) (p2 : Int32)  (h0 : Heap) (n0 : Nat) (Z0 : n0 ≤ h0.size) :
    MetFree l (⟨"java/lang/Math", "min", "(II)I"⟩ : MethodName) (head1 (Jvm.Cond.code (⟨"java/lang/Math", "min", "(II)I"⟩ : MethodName) jdk_29_method_69_code 2 (some .int) :: ws) ({ frames := 0, cells := 0, slots := 0, locals := 0 } : Room)) (fun a U => a = #[(.int p1), (.int p2)] ∧ Z.Warmed39 U.vm ∧ U.heap = h0) (fun _ _ _ _ _ => True) (fun _ U o U' => ∃ v L, o = .returned v ∧ Q6 Z p1 p2 h0 n0 v U'.heap L ∧ FrameEnd U o U' L ({ frames := 0, cells := 0, slots := 0, locals := 0 } : Room).cells ({ frames := 0, cells := 0, slots := 0, locals := 0 } : Room).slots) := by
  refine MetFree.of_bodySF (Jvm.Free.JP.mathPlain rfl (by decide +kernel)) hisR ?_
  intro p e s m args below meth c s₁ Bd hml0 hP hK
  obtain ⟨rfl, hZ, hh⟩ := hP
  have hx := Bd.exec
  have hby := Bd.bytes
  have hlk := Bd.notSynchronized
  have hml : c.maxLocals = 2 := hml0
  have hown : s.vm.findClass "java/lang/Math" = some m.cls := findClass_of_methodNamed Bd.named
  have hnm := (name_of_methodNamed Bd.named Bd.method).1
  have X0 : Stand p l e ({ frames := 0, cells := 0, slots := 0, locals := 0 } : Room) s m #[(.int p1), (.int p2)] below meth c s₁ [] 0 0 := Stand.of_body Bd
  have e0 : s₁.heap = h0 := by rw [← hh, Bd.state]; rfl
  have N0 := Fr.nil n0
  have K0 : Keep h0 h0 [] := Keep.refl h0 _
  show OutW p e below s ({ frames := 0, cells := 0, slots := 0, locals := 0 } : Room).cells ({ frames := 0, cells := 0, slots := 0, locals := 0 } : Room).slots (Q6 Z p1 p2 h0 n0) _
  refine OutW.back (fun t k => castTop (ef_6 m p1 p2) k) ?_
  show OutW _ _ _ _ _ _ _ (s₁.setTop (mkF m 0 #[.val (.int p1), .val (.int p2)] []))
  refine OutW.back (fun t k => XS.iloadN X0.here hx rfl (hb hby d6_0) rfl  k) ?_
  show OutW _ _ _ _ _ _ _ (s₁.setTop (mkF m 1 #[.val (.int p1), .val (.int p2)] [(.int p1)]))
  refine OutW.back (fun t k => XS.iloadN X0.here hx rfl (hb hby d6_1) rfl  k) ?_
  show OutW _ _ _ _ _ _ _ (s₁.setTop (mkF m 2 #[.val (.int p1), .val (.int p2)] [(.int p2), (.int p1)]))
  by_cases c2_1 : p2 < p1
  · skip
    refine OutW.back (fun t k => XS.icmpYes X0.here hx rfl (pc0 := 2) (pc' := 9) rfl (hb hby d6_2) rfl (tlt c2_1).2.2.1 (by decide) (by decide) k) ?_
    show OutW _ _ _ _ _ _ _ (s₁.setTop (mkF m 9 #[.val (.int p1), .val (.int p2)] []))
    refine OutW.back (fun t k => XS.iloadN X0.here hx rfl (hb hby d6_9) rfl  k) ?_
    show OutW _ _ _ _ _ _ _ (s₁.setTop (mkF m 10 #[.val (.int p1), .val (.int p2)] [(.int p2)]))
    refine OutW.retI X0 hx Bd.returns hlk (hb hby d6_10) (by decide) (by decide) ?_
    show Q6 Z p1 p2 h0 n0 _ s₁.heap _
    rw [e0]
    exact ⟨by rw [minF_0, if_pos c2_1], N0, rfl⟩
  · skip
    refine OutW.back (fun t k => XS.icmpNo X0.here hx rfl (hb hby d6_2) rfl (flt c2_1).2.2.1 k) ?_
    show OutW _ _ _ _ _ _ _ (s₁.setTop (mkF m 5 #[.val (.int p1), .val (.int p2)] []))
    refine OutW.back (fun t k => XS.iloadN X0.here hx rfl (hb hby d6_5) rfl  k) ?_
    show OutW _ _ _ _ _ _ _ (s₁.setTop (mkF m 6 #[.val (.int p1), .val (.int p2)] [(.int p1)]))
    refine OutW.back (fun t k => XS.goto X0.here hx rfl (pc0 := 6) (pc' := 10) rfl (hb hby d6_6) (by decide) (by decide) k) ?_
    show OutW _ _ _ _ _ _ _ (s₁.setTop (mkF m 10 #[.val (.int p1), .val (.int p2)] [(.int p1)]))
    refine OutW.retI X0 hx Bd.returns hlk (hb hby d6_10) (by decide) (by decide) ?_
    show Q6 Z p1 p2 h0 n0 _ s₁.heap _
    rw [e0]
    exact ⟨by rw [minF_0, if_neg c2_1], N0, rfl⟩
def pack (c r : Int32) : Int64 := ((c.toInt64 <<< ((32 : Int32) &&& 0x3f).toInt64) ||| (r.toInt64 &&& (4294967295 : Int64)))
theorem own_min5 (x m : Int32) (h : minF_0 x (5 : Int32) = m) : (m.toInt = x.toInt ∨ m.toInt = 5) ∧ m.toInt ≤ x.toInt ∧ m.toInt ≤ 5 := by
  have e5 : (5 : Int32).toInt = 5 := by decide
  unfold minF_0 at h
  split at h
  · rename_i q
    rw [Int32.lt_iff_toInt_lt, e5] at q
    subst h
    rw [e5]; omega
  · rename_i q
    rw [Int32.lt_iff_toInt_lt, e5] at q
    subst h
    omega
theorem own_ix {n off : Int32} (k K : Int32) (h0 : ¬ off < 0) (h1 : ¬ n < off) (h8 : ¬ (8 : Int32) < n) (hk : ¬ k < 0) (hK : K.toInt = k.toInt + 1) (hk5 : k.toInt < 5) (h : ¬ minF_0 (n - off) (5 : Int32) < K) : ¬ (off + k) < 0 ∧ (off + k) < (16 : Int32) ∧ (off + k) < n := by
  obtain ⟨m, hm⟩ : ∃ z, minF_0 (n - off) (5 : Int32) = z := ⟨_, rfl⟩
  rw [hm] at h
  have a := own_min5 _ _ hm
  have b := c_isub n off
  have c := c_iadd off k
  have r1 := rng32 n; have r2 := rng32 off; have r3 := rng32 (n - off); have r4 := rng32 (off + k)
  simp only [Int32.lt_iff_toInt_lt, Int32.reduceToInt] at *
  omega
theorem pd_0 : parseMethodDescriptor "(II)I" = some ⟨[.int, .int], some .int⟩ := by decide +kernel
def cF (uF : Int32 → Int32) (p2 : Int32) (p3 : Int32) : Int32 := (if (minF_0 (p3 - p2) (5 : Int32)) < (1 : Int32) then (minF_0 (p3 - p2) (5 : Int32)) else (if (uF p2) < (128 : Int32) then (1 : Int32) else (if (minF_0 (p3 - p2) (5 : Int32)) < (2 : Int32) then (minF_0 (p3 - p2) (5 : Int32)) else (if (uF (p2 + (1 : Int32))) < (128 : Int32) then (2 : Int32) else (if (minF_0 (p3 - p2) (5 : Int32)) < (3 : Int32) then (minF_0 (p3 - p2) (5 : Int32)) else (if (uF (p2 + (2 : Int32))) < (128 : Int32) then (3 : Int32) else (if (minF_0 (p3 - p2) (5 : Int32)) < (4 : Int32) then (minF_0 (p3 - p2) (5 : Int32)) else (if (uF (p2 + (3 : Int32))) < (128 : Int32) then (4 : Int32) else (if (minF_0 (p3 - p2) (5 : Int32)) < (5 : Int32) then (minF_0 (p3 - p2) (5 : Int32)) else (if (uF (p2 + (4 : Int32))) < (128 : Int32) then (5 : Int32) else (minF_0 (p3 - p2) (5 : Int32))))))))))))
def rF (uF : Int32 → Int32) (p2 : Int32) (p3 : Int32) : Int32 := (if (minF_0 (p3 - p2) (5 : Int32)) < (1 : Int32) then (-1 : Int32) else (if (uF p2) < (128 : Int32) then (if (2147483647 : Int64) < ((0 : Int64) + ((uF p2) &&& (127 : Int32)).toInt64) then (-1 : Int32) else ((0 : Int64) + ((uF p2) &&& (127 : Int32)).toInt64).toInt32) else (if (minF_0 (p3 - p2) (5 : Int32)) < (2 : Int32) then (-1 : Int32) else (if (uF (p2 + (1 : Int32))) < (128 : Int32) then (if (2147483647 : Int64) < (((0 : Int64) + ((uF p2) &&& (127 : Int32)).toInt64) + (((uF (p2 + (1 : Int32))) &&& (127 : Int32)).toInt64 * (128 : Int64))) then (-1 : Int32) else (((0 : Int64) + ((uF p2) &&& (127 : Int32)).toInt64) + (((uF (p2 + (1 : Int32))) &&& (127 : Int32)).toInt64 * (128 : Int64))).toInt32) else (if (minF_0 (p3 - p2) (5 : Int32)) < (3 : Int32) then (-1 : Int32) else (if (uF (p2 + (2 : Int32))) < (128 : Int32) then (if (2147483647 : Int64) < ((((0 : Int64) + ((uF p2) &&& (127 : Int32)).toInt64) + (((uF (p2 + (1 : Int32))) &&& (127 : Int32)).toInt64 * (128 : Int64))) + (((uF (p2 + (2 : Int32))) &&& (127 : Int32)).toInt64 * (16384 : Int64))) then (-1 : Int32) else ((((0 : Int64) + ((uF p2) &&& (127 : Int32)).toInt64) + (((uF (p2 + (1 : Int32))) &&& (127 : Int32)).toInt64 * (128 : Int64))) + (((uF (p2 + (2 : Int32))) &&& (127 : Int32)).toInt64 * (16384 : Int64))).toInt32) else (if (minF_0 (p3 - p2) (5 : Int32)) < (4 : Int32) then (-1 : Int32) else (if (uF (p2 + (3 : Int32))) < (128 : Int32) then (if (2147483647 : Int64) < (((((0 : Int64) + ((uF p2) &&& (127 : Int32)).toInt64) + (((uF (p2 + (1 : Int32))) &&& (127 : Int32)).toInt64 * (128 : Int64))) + (((uF (p2 + (2 : Int32))) &&& (127 : Int32)).toInt64 * (16384 : Int64))) + (((uF (p2 + (3 : Int32))) &&& (127 : Int32)).toInt64 * (2097152 : Int64))) then (-1 : Int32) else (((((0 : Int64) + ((uF p2) &&& (127 : Int32)).toInt64) + (((uF (p2 + (1 : Int32))) &&& (127 : Int32)).toInt64 * (128 : Int64))) + (((uF (p2 + (2 : Int32))) &&& (127 : Int32)).toInt64 * (16384 : Int64))) + (((uF (p2 + (3 : Int32))) &&& (127 : Int32)).toInt64 * (2097152 : Int64))).toInt32) else (if (minF_0 (p3 - p2) (5 : Int32)) < (5 : Int32) then (-1 : Int32) else (if (uF (p2 + (4 : Int32))) < (128 : Int32) then (if (2147483647 : Int64) < ((((((0 : Int64) + ((uF p2) &&& (127 : Int32)).toInt64) + (((uF (p2 + (1 : Int32))) &&& (127 : Int32)).toInt64 * (128 : Int64))) + (((uF (p2 + (2 : Int32))) &&& (127 : Int32)).toInt64 * (16384 : Int64))) + (((uF (p2 + (3 : Int32))) &&& (127 : Int32)).toInt64 * (2097152 : Int64))) + (((uF (p2 + (4 : Int32))) &&& (127 : Int32)).toInt64 * (268435456 : Int64))) then (-1 : Int32) else ((((((0 : Int64) + ((uF p2) &&& (127 : Int32)).toInt64) + (((uF (p2 + (1 : Int32))) &&& (127 : Int32)).toInt64 * (128 : Int64))) + (((uF (p2 + (2 : Int32))) &&& (127 : Int32)).toInt64 * (16384 : Int64))) + (((uF (p2 + (3 : Int32))) &&& (127 : Int32)).toInt64 * (2097152 : Int64))) + (((uF (p2 + (4 : Int32))) &&& (127 : Int32)).toInt64 * (268435456 : Int64))).toInt32) else (-1 : Int32)))))))))))
theorem own_cle (m : Int32) (b0 b1 b2 b3 b4 : Prop) [Decidable b0] [Decidable b1] [Decidable b2] [Decidable b3] [Decidable b4] : ¬ m < (if m < (1 : Int32) then m else (if b0 then (1 : Int32) else (if m < (2 : Int32) then m else (if b1 then (2 : Int32) else (if m < (3 : Int32) then m else (if b2 then (3 : Int32) else (if m < (4 : Int32) then m else (if b3 then (4 : Int32) else (if m < (5 : Int32) then m else (if b4 then (5 : Int32) else m)))))))))) := by
  have ii : ¬ m < m := by rw [Int32.lt_iff_toInt_lt]; omega
  by_cases c0 : m < (1 : Int32)
  · rw [if_pos c0]; exact ii
  rw [if_neg c0]
  by_cases d0 : b0
  · rw [if_pos d0]; exact c0
  rw [if_neg d0]
  by_cases c1 : m < (2 : Int32)
  · rw [if_pos c1]; exact ii
  rw [if_neg c1]
  by_cases d1 : b1
  · rw [if_pos d1]; exact c1
  rw [if_neg d1]
  by_cases c2 : m < (3 : Int32)
  · rw [if_pos c2]; exact ii
  rw [if_neg c2]
  by_cases d2 : b2
  · rw [if_pos d2]; exact c2
  rw [if_neg d2]
  by_cases c3 : m < (4 : Int32)
  · rw [if_pos c3]; exact ii
  rw [if_neg c3]
  by_cases d3 : b3
  · rw [if_pos d3]; exact c3
  rw [if_neg d3]
  by_cases c4 : m < (5 : Int32)
  · rw [if_pos c4]; exact ii
  rw [if_neg c4]
  by_cases d4 : b4
  · rw [if_pos d4]; exact c4
  rw [if_neg d4]
  exact ii
theorem own_cm {m c K : Int32} (h : ¬ m < c) (q : ¬ c < K) : ¬ m < K := by
  rw [Int32.lt_iff_toInt_lt] at *
  omega
theorem own_new (U : Int32 → Int32) (p2 p3 m c t r : Int32) (w1 w2 w3 w4 w5 : Int64) (hm : minF_0 (p3 - p2) (5 : Int32) = m) (hc : c = (if m < (1 : Int32) then m else (if (U p2) < (128 : Int32) then (1 : Int32) else (if m < (2 : Int32) then m else (if (U (p2 + (1 : Int32))) < (128 : Int32) then (2 : Int32) else (if m < (3 : Int32) then m else (if (U (p2 + (2 : Int32))) < (128 : Int32) then (3 : Int32) else (if m < (4 : Int32) then m else (if (U (p2 + (3 : Int32))) < (128 : Int32) then (4 : Int32) else (if m < (5 : Int32) then m else (if (U (p2 + (4 : Int32))) < (128 : Int32) then (5 : Int32) else m))))))))))) (ht : t = (if m < (1 : Int32) then (0 : Int32) else (if (U p2) < (128 : Int32) then (1 : Int32) else (if m < (2 : Int32) then (0 : Int32) else (if (U (p2 + (1 : Int32))) < (128 : Int32) then (1 : Int32) else (if m < (3 : Int32) then (0 : Int32) else (if (U (p2 + (2 : Int32))) < (128 : Int32) then (1 : Int32) else (if m < (4 : Int32) then (0 : Int32) else (if (U (p2 + (3 : Int32))) < (128 : Int32) then (1 : Int32) else (if m < (5 : Int32) then (0 : Int32) else (if (U (p2 + (4 : Int32))) < (128 : Int32) then (1 : Int32) else (0 : Int32)))))))))))) (h1 : w1 = (if c < (1 : Int32) then (0 : Int64) else ((0 : Int64) + ((U p2) &&& (127 : Int32)).toInt64))) (h2 : w2 = (if c < (2 : Int32) then w1 else (w1 + (((U (p2 + (1 : Int32))) &&& (127 : Int32)).toInt64 * (128 : Int64))))) (h3 : w3 = (if c < (3 : Int32) then w2 else (w2 + (((U (p2 + (2 : Int32))) &&& (127 : Int32)).toInt64 * (16384 : Int64))))) (h4 : w4 = (if c < (4 : Int32) then w3 else (w3 + (((U (p2 + (3 : Int32))) &&& (127 : Int32)).toInt64 * (2097152 : Int64))))) (h5 : w5 = (if c < (5 : Int32) then w4 else (w4 + (((U (p2 + (4 : Int32))) &&& (127 : Int32)).toInt64 * (268435456 : Int64))))) (hr : r = (if t = (0 : Int32) then (-1 : Int32) else (if (2147483647 : Int64) < w5 then (-1 : Int32) else w5.toInt32))) : cF U p2 p3 = c ∧ rF U p2 p3 = r := by
  refine ⟨by rw [cF, hm, hc], ?_⟩
  rw [rF, hm]
  clear hm
  by_cases c0 : m < (1 : Int32)
  · rw [if_pos c0] at ht ⊢
    rw [hr, ht, if_pos rfl]
  rw [if_neg c0] at hc ht ⊢
  by_cases d0 : (U p2) < (128 : Int32)
  · rw [if_pos d0] at hc ht ⊢
    subst hc
    rw [if_neg (by decide)] at h1
    rw [if_pos (by decide)] at h2
    rw [if_pos (by decide)] at h3
    rw [if_pos (by decide)] at h4
    rw [if_pos (by decide)] at h5
    rw [hr, ht, if_neg (show ¬ ((1 : Int32) = (0 : Int32)) by decide), h5, h4, h3, h2, h1]
  rw [if_neg d0] at hc ht ⊢
  by_cases c1 : m < (2 : Int32)
  · rw [if_pos c1] at ht ⊢
    rw [hr, ht, if_pos rfl]
  rw [if_neg c1] at hc ht ⊢
  by_cases d1 : (U (p2 + (1 : Int32))) < (128 : Int32)
  · rw [if_pos d1] at hc ht ⊢
    subst hc
    rw [if_neg (by decide)] at h1
    rw [if_neg (by decide)] at h2
    rw [if_pos (by decide)] at h3
    rw [if_pos (by decide)] at h4
    rw [if_pos (by decide)] at h5
    rw [hr, ht, if_neg (show ¬ ((1 : Int32) = (0 : Int32)) by decide), h5, h4, h3, h2, h1]
  rw [if_neg d1] at hc ht ⊢
  by_cases c2 : m < (3 : Int32)
  · rw [if_pos c2] at ht ⊢
    rw [hr, ht, if_pos rfl]
  rw [if_neg c2] at hc ht ⊢
  by_cases d2 : (U (p2 + (2 : Int32))) < (128 : Int32)
  · rw [if_pos d2] at hc ht ⊢
    subst hc
    rw [if_neg (by decide)] at h1
    rw [if_neg (by decide)] at h2
    rw [if_neg (by decide)] at h3
    rw [if_pos (by decide)] at h4
    rw [if_pos (by decide)] at h5
    rw [hr, ht, if_neg (show ¬ ((1 : Int32) = (0 : Int32)) by decide), h5, h4, h3, h2, h1]
  rw [if_neg d2] at hc ht ⊢
  by_cases c3 : m < (4 : Int32)
  · rw [if_pos c3] at ht ⊢
    rw [hr, ht, if_pos rfl]
  rw [if_neg c3] at hc ht ⊢
  by_cases d3 : (U (p2 + (3 : Int32))) < (128 : Int32)
  · rw [if_pos d3] at hc ht ⊢
    subst hc
    rw [if_neg (by decide)] at h1
    rw [if_neg (by decide)] at h2
    rw [if_neg (by decide)] at h3
    rw [if_neg (by decide)] at h4
    rw [if_pos (by decide)] at h5
    rw [hr, ht, if_neg (show ¬ ((1 : Int32) = (0 : Int32)) by decide), h5, h4, h3, h2, h1]
  rw [if_neg d3] at hc ht ⊢
  by_cases c4 : m < (5 : Int32)
  · rw [if_pos c4] at ht ⊢
    rw [hr, ht, if_pos rfl]
  rw [if_neg c4] at hc ht ⊢
  by_cases d4 : (U (p2 + (4 : Int32))) < (128 : Int32)
  · rw [if_pos d4] at hc ht ⊢
    subst hc
    rw [if_neg (by decide)] at h1
    rw [if_neg (by decide)] at h2
    rw [if_neg (by decide)] at h3
    rw [if_neg (by decide)] at h4
    rw [if_neg (by decide)] at h5
    rw [hr, ht, if_neg (show ¬ ((1 : Int32) = (0 : Int32)) by decide), h5, h4, h3, h2, h1]
  rw [if_neg d4] at hc ht ⊢
  rw [hr, ht, if_pos rfl]
theorem d5_0 : decode method_2_code 0 = .ok (.iload_n 2, 1) := by decide +kernel
theorem d5_1 : decode method_2_code 1 = .ok (.iload_n 1, 1) := by decide +kernel
theorem d5_2 : decode method_2_code 2 = .ok (.isub, 1) := by decide +kernel
theorem d5_3 : decode method_2_code 3 = .ok (.iconst 5, 1) := by decide +kernel
theorem d5_4 : decode method_2_code 4 = .ok (.invokestatic 7, 3) := by decide +kernel
theorem d5_7 : decode method_2_code 7 = .ok (.istore_n 3, 1) := by decide +kernel
theorem d5_8 : decode method_2_code 8 = .ok (.iconst 1, 1) := by decide +kernel
theorem d5_9 : decode method_2_code 9 = .ok (.istore 5, 2) := by decide +kernel
theorem d5_11 : decode method_2_code 11 = .ok (.iload_n 3, 1) := by decide +kernel
theorem d5_12 : decode method_2_code 12 = .ok (.iconst 1, 1) := by decide +kernel
theorem d5_13 : decode method_2_code 13 = .ok (.if_icmp .lt 18, 3) := by decide +kernel
theorem d5_16 : decode method_2_code 16 = .ok (.aload_n 0, 1) := by decide +kernel
theorem d5_17 : decode method_2_code 17 = .ok (.iload_n 1, 1) := by decide +kernel
theorem d5_18 : decode method_2_code 18 = .ok (.iaload, 1) := by decide +kernel
theorem d5_19 : decode method_2_code 19 = .ok (.sipush 128, 3) := by decide +kernel
theorem d5_22 : decode method_2_code 22 = .ok (.if_icmp .ge 9, 3) := by decide +kernel
theorem d5_25 : decode method_2_code 25 = .ok (.iconst 1, 1) := by decide +kernel
theorem d5_26 : decode method_2_code 26 = .ok (.istore 4, 2) := by decide +kernel
theorem d5_28 : decode method_2_code 28 = .ok (.goto 97, 3) := by decide +kernel
theorem d5_31 : decode method_2_code 31 = .ok (.iload_n 3, 1) := by decide +kernel
theorem d5_32 : decode method_2_code 32 = .ok (.iconst 2, 1) := by decide +kernel
theorem d5_33 : decode method_2_code 33 = .ok (.if_icmp .lt 20, 3) := by decide +kernel
theorem d5_36 : decode method_2_code 36 = .ok (.aload_n 0, 1) := by decide +kernel
theorem d5_37 : decode method_2_code 37 = .ok (.iload_n 1, 1) := by decide +kernel
theorem d5_38 : decode method_2_code 38 = .ok (.iconst 1, 1) := by decide +kernel
theorem d5_39 : decode method_2_code 39 = .ok (.iadd, 1) := by decide +kernel
theorem d5_40 : decode method_2_code 40 = .ok (.iaload, 1) := by decide +kernel
theorem d5_41 : decode method_2_code 41 = .ok (.sipush 128, 3) := by decide +kernel
theorem d5_44 : decode method_2_code 44 = .ok (.if_icmp .ge 9, 3) := by decide +kernel
theorem d5_47 : decode method_2_code 47 = .ok (.iconst 2, 1) := by decide +kernel
theorem d5_48 : decode method_2_code 48 = .ok (.istore 4, 2) := by decide +kernel
theorem d5_50 : decode method_2_code 50 = .ok (.goto 75, 3) := by decide +kernel
theorem d5_53 : decode method_2_code 53 = .ok (.iload_n 3, 1) := by decide +kernel
theorem d5_54 : decode method_2_code 54 = .ok (.iconst 3, 1) := by decide +kernel
theorem d5_55 : decode method_2_code 55 = .ok (.if_icmp .lt 20, 3) := by decide +kernel
theorem d5_58 : decode method_2_code 58 = .ok (.aload_n 0, 1) := by decide +kernel
theorem d5_59 : decode method_2_code 59 = .ok (.iload_n 1, 1) := by decide +kernel
theorem d5_60 : decode method_2_code 60 = .ok (.iconst 2, 1) := by decide +kernel
theorem d5_61 : decode method_2_code 61 = .ok (.iadd, 1) := by decide +kernel
theorem d5_62 : decode method_2_code 62 = .ok (.iaload, 1) := by decide +kernel
theorem d5_63 : decode method_2_code 63 = .ok (.sipush 128, 3) := by decide +kernel
theorem d5_66 : decode method_2_code 66 = .ok (.if_icmp .ge 9, 3) := by decide +kernel
theorem d5_69 : decode method_2_code 69 = .ok (.iconst 3, 1) := by decide +kernel
theorem d5_70 : decode method_2_code 70 = .ok (.istore 4, 2) := by decide +kernel
theorem d5_72 : decode method_2_code 72 = .ok (.goto 53, 3) := by decide +kernel
theorem d5_75 : decode method_2_code 75 = .ok (.iload_n 3, 1) := by decide +kernel
theorem d5_76 : decode method_2_code 76 = .ok (.iconst 4, 1) := by decide +kernel
theorem d5_77 : decode method_2_code 77 = .ok (.if_icmp .lt 20, 3) := by decide +kernel
theorem d5_80 : decode method_2_code 80 = .ok (.aload_n 0, 1) := by decide +kernel
theorem d5_81 : decode method_2_code 81 = .ok (.iload_n 1, 1) := by decide +kernel
theorem d5_82 : decode method_2_code 82 = .ok (.iconst 3, 1) := by decide +kernel
theorem d5_83 : decode method_2_code 83 = .ok (.iadd, 1) := by decide +kernel
theorem d5_84 : decode method_2_code 84 = .ok (.iaload, 1) := by decide +kernel
theorem d5_85 : decode method_2_code 85 = .ok (.sipush 128, 3) := by decide +kernel
theorem d5_88 : decode method_2_code 88 = .ok (.if_icmp .ge 9, 3) := by decide +kernel
theorem d5_91 : decode method_2_code 91 = .ok (.iconst 4, 1) := by decide +kernel
theorem d5_92 : decode method_2_code 92 = .ok (.istore 4, 2) := by decide +kernel
theorem d5_94 : decode method_2_code 94 = .ok (.goto 31, 3) := by decide +kernel
theorem d5_97 : decode method_2_code 97 = .ok (.iload_n 3, 1) := by decide +kernel
theorem d5_98 : decode method_2_code 98 = .ok (.iconst 5, 1) := by decide +kernel
theorem d5_99 : decode method_2_code 99 = .ok (.if_icmp .lt 20, 3) := by decide +kernel
theorem d5_102 : decode method_2_code 102 = .ok (.aload_n 0, 1) := by decide +kernel
theorem d5_103 : decode method_2_code 103 = .ok (.iload_n 1, 1) := by decide +kernel
theorem d5_104 : decode method_2_code 104 = .ok (.iconst 4, 1) := by decide +kernel
theorem d5_105 : decode method_2_code 105 = .ok (.iadd, 1) := by decide +kernel
theorem d5_106 : decode method_2_code 106 = .ok (.iaload, 1) := by decide +kernel
theorem d5_107 : decode method_2_code 107 = .ok (.sipush 128, 3) := by decide +kernel
theorem d5_110 : decode method_2_code 110 = .ok (.if_icmp .ge 9, 3) := by decide +kernel
theorem d5_113 : decode method_2_code 113 = .ok (.iconst 5, 1) := by decide +kernel
theorem d5_114 : decode method_2_code 114 = .ok (.istore 4, 2) := by decide +kernel
theorem d5_116 : decode method_2_code 116 = .ok (.goto 9, 3) := by decide +kernel
theorem d5_119 : decode method_2_code 119 = .ok (.iload_n 3, 1) := by decide +kernel
theorem d5_120 : decode method_2_code 120 = .ok (.istore 4, 2) := by decide +kernel
theorem d5_122 : decode method_2_code 122 = .ok (.iconst 0, 1) := by decide +kernel
theorem d5_123 : decode method_2_code 123 = .ok (.istore 5, 2) := by decide +kernel
theorem d5_125 : decode method_2_code 125 = .ok (.lconst 0, 1) := by decide +kernel
theorem d5_126 : decode method_2_code 126 = .ok (.lstore 6, 2) := by decide +kernel
theorem d5_128 : decode method_2_code 128 = .ok (.iload 4, 2) := by decide +kernel
theorem d5_130 : decode method_2_code 130 = .ok (.iconst 1, 1) := by decide +kernel
theorem d5_131 : decode method_2_code 131 = .ok (.if_icmp .lt 15, 3) := by decide +kernel
theorem d5_134 : decode method_2_code 134 = .ok (.lload 6, 2) := by decide +kernel
theorem d5_136 : decode method_2_code 136 = .ok (.aload_n 0, 1) := by decide +kernel
theorem d5_137 : decode method_2_code 137 = .ok (.iload_n 1, 1) := by decide +kernel
theorem d5_138 : decode method_2_code 138 = .ok (.iaload, 1) := by decide +kernel
theorem d5_139 : decode method_2_code 139 = .ok (.bipush 127, 2) := by decide +kernel
theorem d5_141 : decode method_2_code 141 = .ok (.iand, 1) := by decide +kernel
theorem d5_142 : decode method_2_code 142 = .ok (.i2l, 1) := by decide +kernel
theorem d5_143 : decode method_2_code 143 = .ok (.ladd, 1) := by decide +kernel
theorem d5_144 : decode method_2_code 144 = .ok (.lstore 6, 2) := by decide +kernel
theorem d5_146 : decode method_2_code 146 = .ok (.iload 4, 2) := by decide +kernel
theorem d5_148 : decode method_2_code 148 = .ok (.iconst 2, 1) := by decide +kernel
theorem d5_149 : decode method_2_code 149 = .ok (.if_icmp .lt 21, 3) := by decide +kernel
theorem d5_152 : decode method_2_code 152 = .ok (.lload 6, 2) := by decide +kernel
theorem d5_154 : decode method_2_code 154 = .ok (.aload_n 0, 1) := by decide +kernel
theorem d5_155 : decode method_2_code 155 = .ok (.iload_n 1, 1) := by decide +kernel
theorem d5_156 : decode method_2_code 156 = .ok (.iconst 1, 1) := by decide +kernel
theorem d5_157 : decode method_2_code 157 = .ok (.iadd, 1) := by decide +kernel
theorem d5_158 : decode method_2_code 158 = .ok (.iaload, 1) := by decide +kernel
theorem d5_159 : decode method_2_code 159 = .ok (.bipush 127, 2) := by decide +kernel
theorem d5_161 : decode method_2_code 161 = .ok (.iand, 1) := by decide +kernel
theorem d5_162 : decode method_2_code 162 = .ok (.i2l, 1) := by decide +kernel
theorem d5_163 : decode method_2_code 163 = .ok (.ldc2_w 13, 3) := by decide +kernel
theorem d5_166 : decode method_2_code 166 = .ok (.lmul, 1) := by decide +kernel
theorem d5_167 : decode method_2_code 167 = .ok (.ladd, 1) := by decide +kernel
theorem d5_168 : decode method_2_code 168 = .ok (.lstore 6, 2) := by decide +kernel
theorem d5_170 : decode method_2_code 170 = .ok (.iload 4, 2) := by decide +kernel
theorem d5_172 : decode method_2_code 172 = .ok (.iconst 3, 1) := by decide +kernel
theorem d5_173 : decode method_2_code 173 = .ok (.if_icmp .lt 21, 3) := by decide +kernel
theorem d5_176 : decode method_2_code 176 = .ok (.lload 6, 2) := by decide +kernel
theorem d5_178 : decode method_2_code 178 = .ok (.aload_n 0, 1) := by decide +kernel
theorem d5_179 : decode method_2_code 179 = .ok (.iload_n 1, 1) := by decide +kernel
theorem d5_180 : decode method_2_code 180 = .ok (.iconst 2, 1) := by decide +kernel
theorem d5_181 : decode method_2_code 181 = .ok (.iadd, 1) := by decide +kernel
theorem d5_182 : decode method_2_code 182 = .ok (.iaload, 1) := by decide +kernel
theorem d5_183 : decode method_2_code 183 = .ok (.bipush 127, 2) := by decide +kernel
theorem d5_185 : decode method_2_code 185 = .ok (.iand, 1) := by decide +kernel
theorem d5_186 : decode method_2_code 186 = .ok (.i2l, 1) := by decide +kernel
theorem d5_187 : decode method_2_code 187 = .ok (.ldc2_w 15, 3) := by decide +kernel
theorem d5_190 : decode method_2_code 190 = .ok (.lmul, 1) := by decide +kernel
theorem d5_191 : decode method_2_code 191 = .ok (.ladd, 1) := by decide +kernel
theorem d5_192 : decode method_2_code 192 = .ok (.lstore 6, 2) := by decide +kernel
theorem d5_194 : decode method_2_code 194 = .ok (.iload 4, 2) := by decide +kernel
theorem d5_196 : decode method_2_code 196 = .ok (.iconst 4, 1) := by decide +kernel
theorem d5_197 : decode method_2_code 197 = .ok (.if_icmp .lt 21, 3) := by decide +kernel
theorem d5_200 : decode method_2_code 200 = .ok (.lload 6, 2) := by decide +kernel
theorem d5_202 : decode method_2_code 202 = .ok (.aload_n 0, 1) := by decide +kernel
theorem d5_203 : decode method_2_code 203 = .ok (.iload_n 1, 1) := by decide +kernel
theorem d5_204 : decode method_2_code 204 = .ok (.iconst 3, 1) := by decide +kernel
theorem d5_205 : decode method_2_code 205 = .ok (.iadd, 1) := by decide +kernel
theorem d5_206 : decode method_2_code 206 = .ok (.iaload, 1) := by decide +kernel
theorem d5_207 : decode method_2_code 207 = .ok (.bipush 127, 2) := by decide +kernel
theorem d5_209 : decode method_2_code 209 = .ok (.iand, 1) := by decide +kernel
theorem d5_210 : decode method_2_code 210 = .ok (.i2l, 1) := by decide +kernel
theorem d5_211 : decode method_2_code 211 = .ok (.ldc2_w 17, 3) := by decide +kernel
theorem d5_214 : decode method_2_code 214 = .ok (.lmul, 1) := by decide +kernel
theorem d5_215 : decode method_2_code 215 = .ok (.ladd, 1) := by decide +kernel
theorem d5_216 : decode method_2_code 216 = .ok (.lstore 6, 2) := by decide +kernel
theorem d5_218 : decode method_2_code 218 = .ok (.iload 4, 2) := by decide +kernel
theorem d5_220 : decode method_2_code 220 = .ok (.iconst 5, 1) := by decide +kernel
theorem d5_221 : decode method_2_code 221 = .ok (.if_icmp .lt 21, 3) := by decide +kernel
theorem d5_224 : decode method_2_code 224 = .ok (.lload 6, 2) := by decide +kernel
theorem d5_226 : decode method_2_code 226 = .ok (.aload_n 0, 1) := by decide +kernel
theorem d5_227 : decode method_2_code 227 = .ok (.iload_n 1, 1) := by decide +kernel
theorem d5_228 : decode method_2_code 228 = .ok (.iconst 4, 1) := by decide +kernel
theorem d5_229 : decode method_2_code 229 = .ok (.iadd, 1) := by decide +kernel
theorem d5_230 : decode method_2_code 230 = .ok (.iaload, 1) := by decide +kernel
theorem d5_231 : decode method_2_code 231 = .ok (.bipush 127, 2) := by decide +kernel
theorem d5_233 : decode method_2_code 233 = .ok (.iand, 1) := by decide +kernel
theorem d5_234 : decode method_2_code 234 = .ok (.i2l, 1) := by decide +kernel
theorem d5_235 : decode method_2_code 235 = .ok (.ldc2_w 19, 3) := by decide +kernel
theorem d5_238 : decode method_2_code 238 = .ok (.lmul, 1) := by decide +kernel
theorem d5_239 : decode method_2_code 239 = .ok (.ladd, 1) := by decide +kernel
theorem d5_240 : decode method_2_code 240 = .ok (.lstore 6, 2) := by decide +kernel
theorem d5_242 : decode method_2_code 242 = .ok (.iload 5, 2) := by decide +kernel
theorem d5_244 : decode method_2_code 244 = .ok (.ifCond .eq 18, 3) := by decide +kernel
theorem d5_247 : decode method_2_code 247 = .ok (.lload 6, 2) := by decide +kernel
theorem d5_249 : decode method_2_code 249 = .ok (.ldc2_w 21, 3) := by decide +kernel
theorem d5_252 : decode method_2_code 252 = .ok (.lcmp, 1) := by decide +kernel
theorem d5_253 : decode method_2_code 253 = .ok (.ifCond .gt 9, 3) := by decide +kernel
theorem d5_256 : decode method_2_code 256 = .ok (.lload 6, 2) := by decide +kernel
theorem d5_258 : decode method_2_code 258 = .ok (.l2i, 1) := by decide +kernel
theorem d5_259 : decode method_2_code 259 = .ok (.goto 4, 3) := by decide +kernel
theorem d5_262 : decode method_2_code 262 = .ok (.iconst (-1), 1) := by decide +kernel
theorem d5_263 : decode method_2_code 263 = .ok (.istore 8, 2) := by decide +kernel
theorem d5_265 : decode method_2_code 265 = .ok (.iload 4, 2) := by decide +kernel
theorem d5_267 : decode method_2_code 267 = .ok (.i2l, 1) := by decide +kernel
theorem d5_268 : decode method_2_code 268 = .ok (.bipush 32, 2) := by decide +kernel
theorem d5_270 : decode method_2_code 270 = .ok (.lshl, 1) := by decide +kernel
theorem d5_271 : decode method_2_code 271 = .ok (.iload 8, 2) := by decide +kernel
theorem d5_273 : decode method_2_code 273 = .ok (.i2l, 1) := by decide +kernel
theorem d5_274 : decode method_2_code 274 = .ok (.ldc2_w 23, 3) := by decide +kernel
theorem d5_277 : decode method_2_code 277 = .ok (.land, 1) := by decide +kernel
theorem d5_278 : decode method_2_code 278 = .ok (.lor, 1) := by decide +kernel
theorem d5_279 : decode method_2_code 279 = .ok (.lreturn, 1) := by decide +kernel
theorem pn_5 : plainName "com/example/fulltext_workbench/fulltextworkbench/index/VarintReaderNextPinLaw" = true := by first | (simp [plainName, overriddenIn]; done) | decide +kernel
theorem ef_5 (m : MethodId) (x0 : Addr) (x1 : Int32) (x2 : Int32) : entryFrame m #[(.ref x0), (.int x1), (.int x2)] 9 = mkF m 0 #[.val (.ref x0), .val (.int x1), .val (.int x2), .unset, .unset, .unset, .unset, .unset, .unset] [] := by first | (simp [entryFrame, mkF, argsToLocals, Value.category]; done) | rfl
def Q5 (Z : State) (a1 : Addr) (p2 : Int32) (p3 : Int32) (vs : List Value) (kk : ClassId) (uF : Int32 → Int32) (h0 : Heap) (n0 : Nat) (v : Option Value) (h : Heap) (L : List Loc) : Prop := v = some (.long (pack (cF uF p2 p3) (rF uF p2 p3))) ∧ Fr n0 L ∧ h = h0
set_option maxRecDepth 65536 in
set_option maxHeartbeats 40000000 in
theorem rm5 (l : Launch) (Z : State) (a0 : Array Value) (hw : ∀ d ∈ tables_1, d.before a0 Z = true) (ws : List Jvm.Cond) (a1 : Addr) (p2 : Int32) (p3 : Int32) (vs : List Value) (kk : ClassId) (uF : Int32 → Int32) (h0 : Heap) (n0 : Nat) (Z0 : n0 ≤ h0.size) (V_a1 : Arv Z h0 a1 kk .int (16 : Int32) vs (.int (0 : Int32))) (hU : ∀ j : Int32, ¬ j < 0 → j < (16 : Int32) → vs.getD j.toNatClampNeg (.int (0 : Int32)) = .int (uF j)) (g0 : ¬ p2 < 0) (g1 : ¬ p3 < p2) (h8 : ¬ (8 : Int32) < p3) :
    MetFree l (⟨"com/example/fulltext_workbench/fulltextworkbench/index/VarintReaderNextPinLaw", "expected", "([III)J"⟩ : MethodName) (head1 (Jvm.Cond.code (⟨"com/example/fulltext_workbench/fulltextworkbench/index/VarintReaderNextPinLaw", "expected", "([III)J"⟩ : MethodName) method_2_code 9 (some .long) :: ws) ({ frames := 1, cells := 0, slots := 0, locals := 13 } : Room)) (fun a U => a = #[(.ref a1), (.int p2), (.int p3)] ∧ Z.Warmed39 U.vm ∧ U.heap = h0) (fun _ _ _ _ _ => True) (fun _ U o U' => ∃ v L, o = .returned v ∧ Q5 Z a1 p2 p3 vs kk uF h0 n0 v U'.heap L ∧ FrameEnd U o U' L ({ frames := 1, cells := 0, slots := 0, locals := 13 } : Room).cells ({ frames := 1, cells := 0, slots := 0, locals := 13 } : Room).slots) := by
  refine MetFree.of_bodySF (plainFor_of_name pn_5) hisR ?_
  intro p e s m args below meth c s₁ Bd hml0 hP hK
  obtain ⟨rfl, hZ, hh⟩ := hP
  have hx := Bd.exec
  have hby := Bd.bytes
  have hlk := Bd.notSynchronized
  have hml : c.maxLocals = 9 := hml0
  have hown : s.vm.findClass "com/example/fulltext_workbench/fulltextworkbench/index/VarintReaderNextPinLaw" = some m.cls := findClass_of_methodNamed Bd.named
  have hnm := (name_of_methodNamed Bd.named Bd.method).1
  have X0 : Stand p l e ({ frames := 1, cells := 0, slots := 0, locals := 13 } : Room) s m #[(.ref a1), (.int p2), (.int p3)] below meth c s₁ [] 0 0 := Stand.of_body Bd
  have e0 : s₁.heap = h0 := by rw [← hh, Bd.state]; rfl
  have N0 := Fr.nil n0
  have K0 : Keep h0 h0 [] := Keep.refl h0 _
  show OutW p e below s ({ frames := 1, cells := 0, slots := 0, locals := 13 } : Room).cells ({ frames := 1, cells := 0, slots := 0, locals := 13 } : Room).slots (Q5 Z a1 p2 p3 vs kk uF h0 n0) _
  refine OutW.back (fun t k => castTop (ef_5 m a1 p2 p3) k) ?_
  show OutW _ _ _ _ _ _ _ (s₁.setTop (mkF m 0 #[.val (.ref a1), .val (.int p2), .val (.int p3), .unset, .unset, .unset, .unset, .unset, .unset] []))
  refine OutW.back (fun t k => XS.iloadN X0.here hx rfl (hb hby d5_0) rfl  k) ?_
  show OutW _ _ _ _ _ _ _ (s₁.setTop (mkF m 1 #[.val (.ref a1), .val (.int p2), .val (.int p3), .unset, .unset, .unset, .unset, .unset, .unset] [(.int p3)]))
  refine OutW.back (fun t k => XS.iloadN X0.here hx rfl (hb hby d5_1) rfl  k) ?_
  show OutW _ _ _ _ _ _ _ (s₁.setTop (mkF m 2 #[.val (.ref a1), .val (.int p2), .val (.int p3), .unset, .unset, .unset, .unset, .unset, .unset] [(.int p2), (.int p3)]))
  refine OutW.back (fun t k => XS.isub X0.here hx rfl (hb hby d5_2) rfl k) ?_
  show OutW _ _ _ _ _ _ _ (s₁.setTop (mkF m 3 #[.val (.ref a1), .val (.int p2), .val (.int p3), .unset, .unset, .unset, .unset, .unset, .unset] [(.int (p3 - p2))]))
  refine OutW.back (fun t k => XS.iconst X0.here hx rfl (hb hby d5_3) k) ?_
  show OutW _ _ _ _ _ _ _ (s₁.setTop (mkF m 4 #[.val (.ref a1), .val (.int p2), .val (.int p3), .unset, .unset, .unset, .unset, .unset, .unset] [(.int (5 : Int32)), (.int (p3 - p2))]))
  obtain ⟨_, _, ⟨T1, L1, k1, n1⟩, -, X1, ⟨Lc1, hQ1, l1, y1, z1⟩, st1⟩ := Jvm.LawKit.callS X0 hx (y := (⟨"java/lang/Math", "min", "(II)I"⟩ : MethodName)) hown (mvT hZ (hw _ (List.mem_of_getElem? (i := 29) rfl))) (mvT hZ (hw _ (List.mem_of_getElem? (i := 30) rfl))) (mvT hZ (hw _ (List.mem_of_getElem? (i := 31) rfl))) (mvT hZ (hw _ (List.mem_of_getElem? (i := 32) rfl))) (by decide) (backOf (W := 0) (rm6 l Z a0 hw [] (p3 - p2) (5 : Int32) h0 n0 Z0) hZ (hw _ (List.mem_of_getElem? (i := 32) rfl)) (hw _ (List.mem_of_getElem? (i := 31) rfl)) (by decide) (by decide)) (g := (mkF m 4 #[.val (.ref a1), .val (.int p2), .val (.int p3), .unset, .unset, .unset, .unset, .unset, .unset] [(.int (5 : Int32)), (.int (p3 - p2))])) rfl (by rw [hml]; rfl) (argsL := [(.int (p3 - p2)), (.int (5 : Int32))]) (rest := []) (lenOf pd_0 rfl) rfl (by show 2 * 0 + _ ≤ _; exact Nat.le_of_eq rfl) (hb hby d5_4) (fun _ _ => ⟨rfl, e0, (by decide : 0 + 0 ≤ _), (by decide : 0 + 0 ≤ _)⟩)
  dsimp only [Pt.U, Pt.locs, Pt.cells, Pt.slots] at X1 l1 y1 z1 st1 hQ1
  subst l1 y1 z1
  obtain ⟨rfl, Nq1, e1⟩ := hQ1
  have N1 := Fr.app N0 Nq1
  obtain ⟨lc1, X1, N1⟩ : ∃ lc, Stand p l e ({ frames := 1, cells := 0, slots := 0, locals := 13 } : Room) s m #[(.ref a1), (.int p2), (.int p3)] below meth c T1 lc 0 0 ∧ Fr n0 lc := ⟨_, X1, N1⟩
  refine OutW.back st1 ?_
  show OutW _ _ _ _ _ _ _ (T1.setTop (mkF m 7 #[.val (.ref a1), .val (.int p2), .val (.int p3), .unset, .unset, .unset, .unset, .unset, .unset] [(.int (minF_0 (p3 - p2) (5 : Int32)))]))
  generalize hv_v2 : (minF_0 (p3 - p2) (5 : Int32)) = v2
  refine OutW.back (fun t k => XS.istoreN X1.here hx rfl (hb hby d5_7) rfl (l' := #[.val (.ref a1), .val (.int p2), .val (.int p3), .val (.int v2), .unset, .unset, .unset, .unset, .unset]) rfl k) ?_
  show OutW _ _ _ _ _ _ _ (T1.setTop (mkF m 8 #[.val (.ref a1), .val (.int p2), .val (.int p3), .val (.int v2), .unset, .unset, .unset, .unset, .unset] []))
  refine OutW.back (fun t k => XS.iconst X1.here hx rfl (hb hby d5_8) k) ?_
  show OutW _ _ _ _ _ _ _ (T1.setTop (mkF m 9 #[.val (.ref a1), .val (.int p2), .val (.int p3), .val (.int v2), .unset, .unset, .unset, .unset, .unset] [(.int (1 : Int32))]))
  refine OutW.back (fun t k => XS.istore X1.here hx rfl (hb hby d5_9) rfl (l' := #[.val (.ref a1), .val (.int p2), .val (.int p3), .val (.int v2), .unset, .val (.int (1 : Int32)), .unset, .unset, .unset]) rfl k) ?_
  show OutW _ _ _ _ _ _ _ (T1.setTop (mkF m 11 #[.val (.ref a1), .val (.int p2), .val (.int p3), .val (.int v2), .unset, .val (.int (1 : Int32)), .unset, .unset, .unset] []))
  refine OutW.back (fun t k => XS.iloadN X1.here hx rfl (hb hby d5_11) rfl  k) ?_
  show OutW _ _ _ _ _ _ _ (T1.setTop (mkF m 12 #[.val (.ref a1), .val (.int p2), .val (.int p3), .val (.int v2), .unset, .val (.int (1 : Int32)), .unset, .unset, .unset] [(.int v2)]))
  refine OutW.back (fun t k => XS.iconst X1.here hx rfl (hb hby d5_12) k) ?_
  show OutW _ _ _ _ _ _ _ (T1.setTop (mkF m 13 #[.val (.ref a1), .val (.int p2), .val (.int p3), .val (.int v2), .unset, .val (.int (1 : Int32)), .unset, .unset, .unset] [(.int (1 : Int32)), (.int v2)]))
  obtain ⟨v18, hv_v18⟩ : ∃ z : Int32, z = (if v2 < (1 : Int32) then v2 else (if (uF p2) < (128 : Int32) then (1 : Int32) else (if v2 < (2 : Int32) then v2 else (if (uF (p2 + (1 : Int32))) < (128 : Int32) then (2 : Int32) else (if v2 < (3 : Int32) then v2 else (if (uF (p2 + (2 : Int32))) < (128 : Int32) then (3 : Int32) else (if v2 < (4 : Int32) then v2 else (if (uF (p2 + (3 : Int32))) < (128 : Int32) then (4 : Int32) else (if v2 < (5 : Int32) then v2 else (if (uF (p2 + (4 : Int32))) < (128 : Int32) then (5 : Int32) else v2)))))))))) := ⟨_, rfl⟩
  obtain ⟨v19, hv_v19⟩ : ∃ z : Int32, z = (if v2 < (1 : Int32) then (0 : Int32) else (if (uF p2) < (128 : Int32) then (1 : Int32) else (if v2 < (2 : Int32) then (0 : Int32) else (if (uF (p2 + (1 : Int32))) < (128 : Int32) then (1 : Int32) else (if v2 < (3 : Int32) then (0 : Int32) else (if (uF (p2 + (2 : Int32))) < (128 : Int32) then (1 : Int32) else (if v2 < (4 : Int32) then (0 : Int32) else (if (uF (p2 + (3 : Int32))) < (128 : Int32) then (1 : Int32) else (if v2 < (5 : Int32) then (0 : Int32) else (if (uF (p2 + (4 : Int32))) < (128 : Int32) then (1 : Int32) else (0 : Int32))))))))))) := ⟨_, rfl⟩
  have j20 : ∀ t, Steps p.tables e below (T1.setTop (mkF m 125 #[.val (.ref a1), .val (.int p2), .val (.int p3), .val (.int v2), .val (.int v18), .val (.int v19), .unset, .unset, .unset] [])) t → Steps p.tables e below (T1.setTop (mkF m 13 #[.val (.ref a1), .val (.int p2), .val (.int p3), .val (.int v2), .unset, .val (.int (1 : Int32)), .unset, .unset, .unset] [(.int (1 : Int32)), (.int v2)])) t := by
    intro t k
    by_cases c13_21 : v2 < (1 : Int32)
    · skip
      refine XS.icmpYes X1.here hx rfl (pc0 := 13) (pc' := 31) rfl (hb hby d5_13) rfl (tlt c13_21).1 (by decide) (by decide) ?_
      show Steps p.tables e below (T1.setTop (mkF m 31 #[.val (.ref a1), .val (.int p2), .val (.int p3), .val (.int v2), .unset, .val (.int (1 : Int32)), .unset, .unset, .unset] [])) t
      refine XS.iloadN X1.here hx rfl (hb hby d5_31) rfl  ?_
      show Steps p.tables e below (T1.setTop (mkF m 32 #[.val (.ref a1), .val (.int p2), .val (.int p3), .val (.int v2), .unset, .val (.int (1 : Int32)), .unset, .unset, .unset] [(.int v2)])) t
      refine XS.iconst X1.here hx rfl (hb hby d5_32) ?_
      show Steps p.tables e below (T1.setTop (mkF m 33 #[.val (.ref a1), .val (.int p2), .val (.int p3), .val (.int v2), .unset, .val (.int (1 : Int32)), .unset, .unset, .unset] [(.int (2 : Int32)), (.int v2)])) t
      refine XS.icmpYes X1.here hx rfl (pc0 := 33) (pc' := 53) rfl (hb hby d5_33) rfl (tlt (own_lt_mono c13_21 (by decide))).1 (by decide) (by decide) ?_
      show Steps p.tables e below (T1.setTop (mkF m 53 #[.val (.ref a1), .val (.int p2), .val (.int p3), .val (.int v2), .unset, .val (.int (1 : Int32)), .unset, .unset, .unset] [])) t
      refine XS.iloadN X1.here hx rfl (hb hby d5_53) rfl  ?_
      show Steps p.tables e below (T1.setTop (mkF m 54 #[.val (.ref a1), .val (.int p2), .val (.int p3), .val (.int v2), .unset, .val (.int (1 : Int32)), .unset, .unset, .unset] [(.int v2)])) t
      refine XS.iconst X1.here hx rfl (hb hby d5_54) ?_
      show Steps p.tables e below (T1.setTop (mkF m 55 #[.val (.ref a1), .val (.int p2), .val (.int p3), .val (.int v2), .unset, .val (.int (1 : Int32)), .unset, .unset, .unset] [(.int (3 : Int32)), (.int v2)])) t
      refine XS.icmpYes X1.here hx rfl (pc0 := 55) (pc' := 75) rfl (hb hby d5_55) rfl (tlt (own_lt_mono c13_21 (by decide))).1 (by decide) (by decide) ?_
      show Steps p.tables e below (T1.setTop (mkF m 75 #[.val (.ref a1), .val (.int p2), .val (.int p3), .val (.int v2), .unset, .val (.int (1 : Int32)), .unset, .unset, .unset] [])) t
      refine XS.iloadN X1.here hx rfl (hb hby d5_75) rfl  ?_
      show Steps p.tables e below (T1.setTop (mkF m 76 #[.val (.ref a1), .val (.int p2), .val (.int p3), .val (.int v2), .unset, .val (.int (1 : Int32)), .unset, .unset, .unset] [(.int v2)])) t
      refine XS.iconst X1.here hx rfl (hb hby d5_76) ?_
      show Steps p.tables e below (T1.setTop (mkF m 77 #[.val (.ref a1), .val (.int p2), .val (.int p3), .val (.int v2), .unset, .val (.int (1 : Int32)), .unset, .unset, .unset] [(.int (4 : Int32)), (.int v2)])) t
      refine XS.icmpYes X1.here hx rfl (pc0 := 77) (pc' := 97) rfl (hb hby d5_77) rfl (tlt (own_lt_mono c13_21 (by decide))).1 (by decide) (by decide) ?_
      show Steps p.tables e below (T1.setTop (mkF m 97 #[.val (.ref a1), .val (.int p2), .val (.int p3), .val (.int v2), .unset, .val (.int (1 : Int32)), .unset, .unset, .unset] [])) t
      refine XS.iloadN X1.here hx rfl (hb hby d5_97) rfl  ?_
      show Steps p.tables e below (T1.setTop (mkF m 98 #[.val (.ref a1), .val (.int p2), .val (.int p3), .val (.int v2), .unset, .val (.int (1 : Int32)), .unset, .unset, .unset] [(.int v2)])) t
      refine XS.iconst X1.here hx rfl (hb hby d5_98) ?_
      show Steps p.tables e below (T1.setTop (mkF m 99 #[.val (.ref a1), .val (.int p2), .val (.int p3), .val (.int v2), .unset, .val (.int (1 : Int32)), .unset, .unset, .unset] [(.int (5 : Int32)), (.int v2)])) t
      refine XS.icmpYes X1.here hx rfl (pc0 := 99) (pc' := 119) rfl (hb hby d5_99) rfl (tlt (own_lt_mono c13_21 (by decide))).1 (by decide) (by decide) ?_
      show Steps p.tables e below (T1.setTop (mkF m 119 #[.val (.ref a1), .val (.int p2), .val (.int p3), .val (.int v2), .unset, .val (.int (1 : Int32)), .unset, .unset, .unset] [])) t
      refine XS.iloadN X1.here hx rfl (hb hby d5_119) rfl  ?_
      show Steps p.tables e below (T1.setTop (mkF m 120 #[.val (.ref a1), .val (.int p2), .val (.int p3), .val (.int v2), .unset, .val (.int (1 : Int32)), .unset, .unset, .unset] [(.int v2)])) t
      refine XS.istore X1.here hx rfl (hb hby d5_120) rfl (l' := #[.val (.ref a1), .val (.int p2), .val (.int p3), .val (.int v2), .val (.int v2), .val (.int (1 : Int32)), .unset, .unset, .unset]) rfl ?_
      show Steps p.tables e below (T1.setTop (mkF m 122 #[.val (.ref a1), .val (.int p2), .val (.int p3), .val (.int v2), .val (.int v2), .val (.int (1 : Int32)), .unset, .unset, .unset] [])) t
      refine XS.iconst X1.here hx rfl (hb hby d5_122) ?_
      show Steps p.tables e below (T1.setTop (mkF m 123 #[.val (.ref a1), .val (.int p2), .val (.int p3), .val (.int v2), .val (.int v2), .val (.int (1 : Int32)), .unset, .unset, .unset] [(.int (0 : Int32))])) t
      refine XS.istore X1.here hx rfl (hb hby d5_123) rfl (l' := #[.val (.ref a1), .val (.int p2), .val (.int p3), .val (.int v2), .val (.int v2), .val (.int (0 : Int32)), .unset, .unset, .unset]) rfl ?_
      show Steps p.tables e below (T1.setTop (mkF m 125 #[.val (.ref a1), .val (.int p2), .val (.int p3), .val (.int v2), .val (.int v2), .val (.int (0 : Int32)), .unset, .unset, .unset] [])) t
      have q_v18 : v18 = v2 := by rw [hv_v18, if_pos c13_21]
      rw [q_v18] at k
      have q_v19 : v19 = (0 : Int32) := by rw [hv_v19, if_pos c13_21]
      rw [q_v19] at k
      exact k
    · skip
      refine XS.icmpNo X1.here hx rfl (hb hby d5_13) rfl (flt c13_21).1 ?_
      show Steps p.tables e below (T1.setTop (mkF m 16 #[.val (.ref a1), .val (.int p2), .val (.int p3), .val (.int v2), .unset, .val (.int (1 : Int32)), .unset, .unset, .unset] [])) t
      refine XS.aloadN X1.here hx rfl (hb hby d5_16) rfl rfl  ?_
      show Steps p.tables e below (T1.setTop (mkF m 17 #[.val (.ref a1), .val (.int p2), .val (.int p3), .val (.int v2), .unset, .val (.int (1 : Int32)), .unset, .unset, .unset] [(.ref a1)])) t
      refine XS.iloadN X1.here hx rfl (hb hby d5_17) rfl  ?_
      show Steps p.tables e below (T1.setTop (mkF m 18 #[.val (.ref a1), .val (.int p2), .val (.int p3), .val (.int v2), .unset, .val (.int (1 : Int32)), .unset, .unset, .unset] [(.int p2), (.ref a1)])) t
      have z0 := c13_21
      rw [← hv_v2] at z0
      have hix : ¬ p2 < 0 ∧ p2 < (16 : Int32) := by
        have z := own_ix (0 : Int32) (1 : Int32) g0 g1 h8 (by decide) (by decide) (by decide) z0
        rw [show p2 + (0 : Int32) = p2 from Int32.add_zero p2] at z
        exact ⟨z.1, z.2.1⟩
      have hin_18 := hix
      have hat_18 := hU p2 hix.1 hix.2
      obtain ⟨cl22, Ar22, Qk22, Sz22, Nn22, Hh22, Gg22⟩ := id V_a1
      have hin22 : ¬ (p2 < 0 ∨ cl22.slots.size ≤ (p2).toNatClampNeg) := inb_of Sz22 hin_18
      refine X1.iaload hx (j := p2) (v := (.int (uF p2))) (by rw [e1]; exact Ar22.1) (State.isArrayOf_alike hZ.alike Ar22.2.1) Ar22.2.2 hin22 (Hh22.at hin22 hat_18) (g := (mkF m 18 #[.val (.ref a1), .val (.int p2), .val (.int p3), .val (.int v2), .unset, .val (.int (1 : Int32)), .unset, .unset, .unset] [(.int p2), (.ref a1)])) rfl rfl (hb hby d5_18) _ ?_
      show Steps p.tables e below (T1.setTop (mkF m 19 #[.val (.ref a1), .val (.int p2), .val (.int p3), .val (.int v2), .unset, .val (.int (1 : Int32)), .unset, .unset, .unset] [(.int (uF p2))])) t
      refine XS.sipush X1.here hx rfl (hb hby d5_19) ?_
      show Steps p.tables e below (T1.setTop (mkF m 22 #[.val (.ref a1), .val (.int p2), .val (.int p3), .val (.int v2), .unset, .val (.int (1 : Int32)), .unset, .unset, .unset] [(.int (128 : Int32)), (.int (uF p2))])) t
      by_cases c22_23 : (uF p2) < (128 : Int32)
      · skip
        refine XS.icmpNo X1.here hx rfl (hb hby d5_22) rfl (tlt c22_23).2.1 ?_
        show Steps p.tables e below (T1.setTop (mkF m 25 #[.val (.ref a1), .val (.int p2), .val (.int p3), .val (.int v2), .unset, .val (.int (1 : Int32)), .unset, .unset, .unset] [])) t
        refine XS.iconst X1.here hx rfl (hb hby d5_25) ?_
        show Steps p.tables e below (T1.setTop (mkF m 26 #[.val (.ref a1), .val (.int p2), .val (.int p3), .val (.int v2), .unset, .val (.int (1 : Int32)), .unset, .unset, .unset] [(.int (1 : Int32))])) t
        refine XS.istore X1.here hx rfl (hb hby d5_26) rfl (l' := #[.val (.ref a1), .val (.int p2), .val (.int p3), .val (.int v2), .val (.int (1 : Int32)), .val (.int (1 : Int32)), .unset, .unset, .unset]) rfl ?_
        show Steps p.tables e below (T1.setTop (mkF m 28 #[.val (.ref a1), .val (.int p2), .val (.int p3), .val (.int v2), .val (.int (1 : Int32)), .val (.int (1 : Int32)), .unset, .unset, .unset] [])) t
        refine XS.goto X1.here hx rfl (pc0 := 28) (pc' := 125) rfl (hb hby d5_28) (by decide) (by decide) ?_
        show Steps p.tables e below (T1.setTop (mkF m 125 #[.val (.ref a1), .val (.int p2), .val (.int p3), .val (.int v2), .val (.int (1 : Int32)), .val (.int (1 : Int32)), .unset, .unset, .unset] [])) t
        have q_v18 : v18 = (1 : Int32) := by rw [hv_v18, if_neg c13_21, if_pos c22_23]
        rw [q_v18] at k
        have q_v19 : v19 = (1 : Int32) := by rw [hv_v19, if_neg c13_21, if_pos c22_23]
        rw [q_v19] at k
        exact k
      · skip
        refine XS.icmpYes X1.here hx rfl (pc0 := 22) (pc' := 31) rfl (hb hby d5_22) rfl (flt c22_23).2.1 (by decide) (by decide) ?_
        show Steps p.tables e below (T1.setTop (mkF m 31 #[.val (.ref a1), .val (.int p2), .val (.int p3), .val (.int v2), .unset, .val (.int (1 : Int32)), .unset, .unset, .unset] [])) t
        refine XS.iloadN X1.here hx rfl (hb hby d5_31) rfl  ?_
        show Steps p.tables e below (T1.setTop (mkF m 32 #[.val (.ref a1), .val (.int p2), .val (.int p3), .val (.int v2), .unset, .val (.int (1 : Int32)), .unset, .unset, .unset] [(.int v2)])) t
        refine XS.iconst X1.here hx rfl (hb hby d5_32) ?_
        show Steps p.tables e below (T1.setTop (mkF m 33 #[.val (.ref a1), .val (.int p2), .val (.int p3), .val (.int v2), .unset, .val (.int (1 : Int32)), .unset, .unset, .unset] [(.int (2 : Int32)), (.int v2)])) t
        by_cases c33_24 : v2 < (2 : Int32)
        · skip
          refine XS.icmpYes X1.here hx rfl (pc0 := 33) (pc' := 53) rfl (hb hby d5_33) rfl (tlt c33_24).1 (by decide) (by decide) ?_
          show Steps p.tables e below (T1.setTop (mkF m 53 #[.val (.ref a1), .val (.int p2), .val (.int p3), .val (.int v2), .unset, .val (.int (1 : Int32)), .unset, .unset, .unset] [])) t
          refine XS.iloadN X1.here hx rfl (hb hby d5_53) rfl  ?_
          show Steps p.tables e below (T1.setTop (mkF m 54 #[.val (.ref a1), .val (.int p2), .val (.int p3), .val (.int v2), .unset, .val (.int (1 : Int32)), .unset, .unset, .unset] [(.int v2)])) t
          refine XS.iconst X1.here hx rfl (hb hby d5_54) ?_
          show Steps p.tables e below (T1.setTop (mkF m 55 #[.val (.ref a1), .val (.int p2), .val (.int p3), .val (.int v2), .unset, .val (.int (1 : Int32)), .unset, .unset, .unset] [(.int (3 : Int32)), (.int v2)])) t
          refine XS.icmpYes X1.here hx rfl (pc0 := 55) (pc' := 75) rfl (hb hby d5_55) rfl (tlt (own_lt_mono c33_24 (by decide))).1 (by decide) (by decide) ?_
          show Steps p.tables e below (T1.setTop (mkF m 75 #[.val (.ref a1), .val (.int p2), .val (.int p3), .val (.int v2), .unset, .val (.int (1 : Int32)), .unset, .unset, .unset] [])) t
          refine XS.iloadN X1.here hx rfl (hb hby d5_75) rfl  ?_
          show Steps p.tables e below (T1.setTop (mkF m 76 #[.val (.ref a1), .val (.int p2), .val (.int p3), .val (.int v2), .unset, .val (.int (1 : Int32)), .unset, .unset, .unset] [(.int v2)])) t
          refine XS.iconst X1.here hx rfl (hb hby d5_76) ?_
          show Steps p.tables e below (T1.setTop (mkF m 77 #[.val (.ref a1), .val (.int p2), .val (.int p3), .val (.int v2), .unset, .val (.int (1 : Int32)), .unset, .unset, .unset] [(.int (4 : Int32)), (.int v2)])) t
          refine XS.icmpYes X1.here hx rfl (pc0 := 77) (pc' := 97) rfl (hb hby d5_77) rfl (tlt (own_lt_mono c33_24 (by decide))).1 (by decide) (by decide) ?_
          show Steps p.tables e below (T1.setTop (mkF m 97 #[.val (.ref a1), .val (.int p2), .val (.int p3), .val (.int v2), .unset, .val (.int (1 : Int32)), .unset, .unset, .unset] [])) t
          refine XS.iloadN X1.here hx rfl (hb hby d5_97) rfl  ?_
          show Steps p.tables e below (T1.setTop (mkF m 98 #[.val (.ref a1), .val (.int p2), .val (.int p3), .val (.int v2), .unset, .val (.int (1 : Int32)), .unset, .unset, .unset] [(.int v2)])) t
          refine XS.iconst X1.here hx rfl (hb hby d5_98) ?_
          show Steps p.tables e below (T1.setTop (mkF m 99 #[.val (.ref a1), .val (.int p2), .val (.int p3), .val (.int v2), .unset, .val (.int (1 : Int32)), .unset, .unset, .unset] [(.int (5 : Int32)), (.int v2)])) t
          refine XS.icmpYes X1.here hx rfl (pc0 := 99) (pc' := 119) rfl (hb hby d5_99) rfl (tlt (own_lt_mono c33_24 (by decide))).1 (by decide) (by decide) ?_
          show Steps p.tables e below (T1.setTop (mkF m 119 #[.val (.ref a1), .val (.int p2), .val (.int p3), .val (.int v2), .unset, .val (.int (1 : Int32)), .unset, .unset, .unset] [])) t
          refine XS.iloadN X1.here hx rfl (hb hby d5_119) rfl  ?_
          show Steps p.tables e below (T1.setTop (mkF m 120 #[.val (.ref a1), .val (.int p2), .val (.int p3), .val (.int v2), .unset, .val (.int (1 : Int32)), .unset, .unset, .unset] [(.int v2)])) t
          refine XS.istore X1.here hx rfl (hb hby d5_120) rfl (l' := #[.val (.ref a1), .val (.int p2), .val (.int p3), .val (.int v2), .val (.int v2), .val (.int (1 : Int32)), .unset, .unset, .unset]) rfl ?_
          show Steps p.tables e below (T1.setTop (mkF m 122 #[.val (.ref a1), .val (.int p2), .val (.int p3), .val (.int v2), .val (.int v2), .val (.int (1 : Int32)), .unset, .unset, .unset] [])) t
          refine XS.iconst X1.here hx rfl (hb hby d5_122) ?_
          show Steps p.tables e below (T1.setTop (mkF m 123 #[.val (.ref a1), .val (.int p2), .val (.int p3), .val (.int v2), .val (.int v2), .val (.int (1 : Int32)), .unset, .unset, .unset] [(.int (0 : Int32))])) t
          refine XS.istore X1.here hx rfl (hb hby d5_123) rfl (l' := #[.val (.ref a1), .val (.int p2), .val (.int p3), .val (.int v2), .val (.int v2), .val (.int (0 : Int32)), .unset, .unset, .unset]) rfl ?_
          show Steps p.tables e below (T1.setTop (mkF m 125 #[.val (.ref a1), .val (.int p2), .val (.int p3), .val (.int v2), .val (.int v2), .val (.int (0 : Int32)), .unset, .unset, .unset] [])) t
          have q_v18 : v18 = v2 := by rw [hv_v18, if_neg c13_21, if_neg c22_23, if_pos c33_24]
          rw [q_v18] at k
          have q_v19 : v19 = (0 : Int32) := by rw [hv_v19, if_neg c13_21, if_neg c22_23, if_pos c33_24]
          rw [q_v19] at k
          exact k
        · skip
          refine XS.icmpNo X1.here hx rfl (hb hby d5_33) rfl (flt c33_24).1 ?_
          show Steps p.tables e below (T1.setTop (mkF m 36 #[.val (.ref a1), .val (.int p2), .val (.int p3), .val (.int v2), .unset, .val (.int (1 : Int32)), .unset, .unset, .unset] [])) t
          refine XS.aloadN X1.here hx rfl (hb hby d5_36) rfl rfl  ?_
          show Steps p.tables e below (T1.setTop (mkF m 37 #[.val (.ref a1), .val (.int p2), .val (.int p3), .val (.int v2), .unset, .val (.int (1 : Int32)), .unset, .unset, .unset] [(.ref a1)])) t
          refine XS.iloadN X1.here hx rfl (hb hby d5_37) rfl  ?_
          show Steps p.tables e below (T1.setTop (mkF m 38 #[.val (.ref a1), .val (.int p2), .val (.int p3), .val (.int v2), .unset, .val (.int (1 : Int32)), .unset, .unset, .unset] [(.int p2), (.ref a1)])) t
          refine XS.iconst X1.here hx rfl (hb hby d5_38) ?_
          show Steps p.tables e below (T1.setTop (mkF m 39 #[.val (.ref a1), .val (.int p2), .val (.int p3), .val (.int v2), .unset, .val (.int (1 : Int32)), .unset, .unset, .unset] [(.int (1 : Int32)), (.int p2), (.ref a1)])) t
          refine XS.iadd X1.here hx rfl (hb hby d5_39) rfl ?_
          show Steps p.tables e below (T1.setTop (mkF m 40 #[.val (.ref a1), .val (.int p2), .val (.int p3), .val (.int v2), .unset, .val (.int (1 : Int32)), .unset, .unset, .unset] [(.int (p2 + (1 : Int32))), (.ref a1)])) t
          have z0 := c33_24
          rw [← hv_v2] at z0
          have hix : ¬ (p2 + (1 : Int32)) < 0 ∧ (p2 + (1 : Int32)) < (16 : Int32) := have z := own_ix (1 : Int32) (2 : Int32) g0 g1 h8 (by decide) (by decide) (by decide) z0; ⟨z.1, z.2.1⟩
          have hin_40 := hix
          have hat_40 := hU (p2 + (1 : Int32)) hix.1 hix.2
          obtain ⟨cl25, Ar25, Qk25, Sz25, Nn25, Hh25, Gg25⟩ := id V_a1
          have hin25 : ¬ ((p2 + (1 : Int32)) < 0 ∨ cl25.slots.size ≤ ((p2 + (1 : Int32))).toNatClampNeg) := inb_of Sz25 hin_40
          refine X1.iaload hx (j := (p2 + (1 : Int32))) (v := (.int (uF (p2 + (1 : Int32))))) (by rw [e1]; exact Ar25.1) (State.isArrayOf_alike hZ.alike Ar25.2.1) Ar25.2.2 hin25 (Hh25.at hin25 hat_40) (g := (mkF m 40 #[.val (.ref a1), .val (.int p2), .val (.int p3), .val (.int v2), .unset, .val (.int (1 : Int32)), .unset, .unset, .unset] [(.int (p2 + (1 : Int32))), (.ref a1)])) rfl rfl (hb hby d5_40) _ ?_
          show Steps p.tables e below (T1.setTop (mkF m 41 #[.val (.ref a1), .val (.int p2), .val (.int p3), .val (.int v2), .unset, .val (.int (1 : Int32)), .unset, .unset, .unset] [(.int (uF (p2 + (1 : Int32))))])) t
          refine XS.sipush X1.here hx rfl (hb hby d5_41) ?_
          show Steps p.tables e below (T1.setTop (mkF m 44 #[.val (.ref a1), .val (.int p2), .val (.int p3), .val (.int v2), .unset, .val (.int (1 : Int32)), .unset, .unset, .unset] [(.int (128 : Int32)), (.int (uF (p2 + (1 : Int32))))])) t
          by_cases c44_26 : (uF (p2 + (1 : Int32))) < (128 : Int32)
          · skip
            refine XS.icmpNo X1.here hx rfl (hb hby d5_44) rfl (tlt c44_26).2.1 ?_
            show Steps p.tables e below (T1.setTop (mkF m 47 #[.val (.ref a1), .val (.int p2), .val (.int p3), .val (.int v2), .unset, .val (.int (1 : Int32)), .unset, .unset, .unset] [])) t
            refine XS.iconst X1.here hx rfl (hb hby d5_47) ?_
            show Steps p.tables e below (T1.setTop (mkF m 48 #[.val (.ref a1), .val (.int p2), .val (.int p3), .val (.int v2), .unset, .val (.int (1 : Int32)), .unset, .unset, .unset] [(.int (2 : Int32))])) t
            refine XS.istore X1.here hx rfl (hb hby d5_48) rfl (l' := #[.val (.ref a1), .val (.int p2), .val (.int p3), .val (.int v2), .val (.int (2 : Int32)), .val (.int (1 : Int32)), .unset, .unset, .unset]) rfl ?_
            show Steps p.tables e below (T1.setTop (mkF m 50 #[.val (.ref a1), .val (.int p2), .val (.int p3), .val (.int v2), .val (.int (2 : Int32)), .val (.int (1 : Int32)), .unset, .unset, .unset] [])) t
            refine XS.goto X1.here hx rfl (pc0 := 50) (pc' := 125) rfl (hb hby d5_50) (by decide) (by decide) ?_
            show Steps p.tables e below (T1.setTop (mkF m 125 #[.val (.ref a1), .val (.int p2), .val (.int p3), .val (.int v2), .val (.int (2 : Int32)), .val (.int (1 : Int32)), .unset, .unset, .unset] [])) t
            have q_v18 : v18 = (2 : Int32) := by rw [hv_v18, if_neg c13_21, if_neg c22_23, if_neg c33_24, if_pos c44_26]
            rw [q_v18] at k
            have q_v19 : v19 = (1 : Int32) := by rw [hv_v19, if_neg c13_21, if_neg c22_23, if_neg c33_24, if_pos c44_26]
            rw [q_v19] at k
            exact k
          · skip
            refine XS.icmpYes X1.here hx rfl (pc0 := 44) (pc' := 53) rfl (hb hby d5_44) rfl (flt c44_26).2.1 (by decide) (by decide) ?_
            show Steps p.tables e below (T1.setTop (mkF m 53 #[.val (.ref a1), .val (.int p2), .val (.int p3), .val (.int v2), .unset, .val (.int (1 : Int32)), .unset, .unset, .unset] [])) t
            refine XS.iloadN X1.here hx rfl (hb hby d5_53) rfl  ?_
            show Steps p.tables e below (T1.setTop (mkF m 54 #[.val (.ref a1), .val (.int p2), .val (.int p3), .val (.int v2), .unset, .val (.int (1 : Int32)), .unset, .unset, .unset] [(.int v2)])) t
            refine XS.iconst X1.here hx rfl (hb hby d5_54) ?_
            show Steps p.tables e below (T1.setTop (mkF m 55 #[.val (.ref a1), .val (.int p2), .val (.int p3), .val (.int v2), .unset, .val (.int (1 : Int32)), .unset, .unset, .unset] [(.int (3 : Int32)), (.int v2)])) t
            by_cases c55_27 : v2 < (3 : Int32)
            · skip
              refine XS.icmpYes X1.here hx rfl (pc0 := 55) (pc' := 75) rfl (hb hby d5_55) rfl (tlt c55_27).1 (by decide) (by decide) ?_
              show Steps p.tables e below (T1.setTop (mkF m 75 #[.val (.ref a1), .val (.int p2), .val (.int p3), .val (.int v2), .unset, .val (.int (1 : Int32)), .unset, .unset, .unset] [])) t
              refine XS.iloadN X1.here hx rfl (hb hby d5_75) rfl  ?_
              show Steps p.tables e below (T1.setTop (mkF m 76 #[.val (.ref a1), .val (.int p2), .val (.int p3), .val (.int v2), .unset, .val (.int (1 : Int32)), .unset, .unset, .unset] [(.int v2)])) t
              refine XS.iconst X1.here hx rfl (hb hby d5_76) ?_
              show Steps p.tables e below (T1.setTop (mkF m 77 #[.val (.ref a1), .val (.int p2), .val (.int p3), .val (.int v2), .unset, .val (.int (1 : Int32)), .unset, .unset, .unset] [(.int (4 : Int32)), (.int v2)])) t
              refine XS.icmpYes X1.here hx rfl (pc0 := 77) (pc' := 97) rfl (hb hby d5_77) rfl (tlt (own_lt_mono c55_27 (by decide))).1 (by decide) (by decide) ?_
              show Steps p.tables e below (T1.setTop (mkF m 97 #[.val (.ref a1), .val (.int p2), .val (.int p3), .val (.int v2), .unset, .val (.int (1 : Int32)), .unset, .unset, .unset] [])) t
              refine XS.iloadN X1.here hx rfl (hb hby d5_97) rfl  ?_
              show Steps p.tables e below (T1.setTop (mkF m 98 #[.val (.ref a1), .val (.int p2), .val (.int p3), .val (.int v2), .unset, .val (.int (1 : Int32)), .unset, .unset, .unset] [(.int v2)])) t
              refine XS.iconst X1.here hx rfl (hb hby d5_98) ?_
              show Steps p.tables e below (T1.setTop (mkF m 99 #[.val (.ref a1), .val (.int p2), .val (.int p3), .val (.int v2), .unset, .val (.int (1 : Int32)), .unset, .unset, .unset] [(.int (5 : Int32)), (.int v2)])) t
              refine XS.icmpYes X1.here hx rfl (pc0 := 99) (pc' := 119) rfl (hb hby d5_99) rfl (tlt (own_lt_mono c55_27 (by decide))).1 (by decide) (by decide) ?_
              show Steps p.tables e below (T1.setTop (mkF m 119 #[.val (.ref a1), .val (.int p2), .val (.int p3), .val (.int v2), .unset, .val (.int (1 : Int32)), .unset, .unset, .unset] [])) t
              refine XS.iloadN X1.here hx rfl (hb hby d5_119) rfl  ?_
              show Steps p.tables e below (T1.setTop (mkF m 120 #[.val (.ref a1), .val (.int p2), .val (.int p3), .val (.int v2), .unset, .val (.int (1 : Int32)), .unset, .unset, .unset] [(.int v2)])) t
              refine XS.istore X1.here hx rfl (hb hby d5_120) rfl (l' := #[.val (.ref a1), .val (.int p2), .val (.int p3), .val (.int v2), .val (.int v2), .val (.int (1 : Int32)), .unset, .unset, .unset]) rfl ?_
              show Steps p.tables e below (T1.setTop (mkF m 122 #[.val (.ref a1), .val (.int p2), .val (.int p3), .val (.int v2), .val (.int v2), .val (.int (1 : Int32)), .unset, .unset, .unset] [])) t
              refine XS.iconst X1.here hx rfl (hb hby d5_122) ?_
              show Steps p.tables e below (T1.setTop (mkF m 123 #[.val (.ref a1), .val (.int p2), .val (.int p3), .val (.int v2), .val (.int v2), .val (.int (1 : Int32)), .unset, .unset, .unset] [(.int (0 : Int32))])) t
              refine XS.istore X1.here hx rfl (hb hby d5_123) rfl (l' := #[.val (.ref a1), .val (.int p2), .val (.int p3), .val (.int v2), .val (.int v2), .val (.int (0 : Int32)), .unset, .unset, .unset]) rfl ?_
              show Steps p.tables e below (T1.setTop (mkF m 125 #[.val (.ref a1), .val (.int p2), .val (.int p3), .val (.int v2), .val (.int v2), .val (.int (0 : Int32)), .unset, .unset, .unset] [])) t
              have q_v18 : v18 = v2 := by rw [hv_v18, if_neg c13_21, if_neg c22_23, if_neg c33_24, if_neg c44_26, if_pos c55_27]
              rw [q_v18] at k
              have q_v19 : v19 = (0 : Int32) := by rw [hv_v19, if_neg c13_21, if_neg c22_23, if_neg c33_24, if_neg c44_26, if_pos c55_27]
              rw [q_v19] at k
              exact k
            · skip
              refine XS.icmpNo X1.here hx rfl (hb hby d5_55) rfl (flt c55_27).1 ?_
              show Steps p.tables e below (T1.setTop (mkF m 58 #[.val (.ref a1), .val (.int p2), .val (.int p3), .val (.int v2), .unset, .val (.int (1 : Int32)), .unset, .unset, .unset] [])) t
              refine XS.aloadN X1.here hx rfl (hb hby d5_58) rfl rfl  ?_
              show Steps p.tables e below (T1.setTop (mkF m 59 #[.val (.ref a1), .val (.int p2), .val (.int p3), .val (.int v2), .unset, .val (.int (1 : Int32)), .unset, .unset, .unset] [(.ref a1)])) t
              refine XS.iloadN X1.here hx rfl (hb hby d5_59) rfl  ?_
              show Steps p.tables e below (T1.setTop (mkF m 60 #[.val (.ref a1), .val (.int p2), .val (.int p3), .val (.int v2), .unset, .val (.int (1 : Int32)), .unset, .unset, .unset] [(.int p2), (.ref a1)])) t
              refine XS.iconst X1.here hx rfl (hb hby d5_60) ?_
              show Steps p.tables e below (T1.setTop (mkF m 61 #[.val (.ref a1), .val (.int p2), .val (.int p3), .val (.int v2), .unset, .val (.int (1 : Int32)), .unset, .unset, .unset] [(.int (2 : Int32)), (.int p2), (.ref a1)])) t
              refine XS.iadd X1.here hx rfl (hb hby d5_61) rfl ?_
              show Steps p.tables e below (T1.setTop (mkF m 62 #[.val (.ref a1), .val (.int p2), .val (.int p3), .val (.int v2), .unset, .val (.int (1 : Int32)), .unset, .unset, .unset] [(.int (p2 + (2 : Int32))), (.ref a1)])) t
              have z0 := c55_27
              rw [← hv_v2] at z0
              have hix : ¬ (p2 + (2 : Int32)) < 0 ∧ (p2 + (2 : Int32)) < (16 : Int32) := have z := own_ix (2 : Int32) (3 : Int32) g0 g1 h8 (by decide) (by decide) (by decide) z0; ⟨z.1, z.2.1⟩
              have hin_62 := hix
              have hat_62 := hU (p2 + (2 : Int32)) hix.1 hix.2
              obtain ⟨cl28, Ar28, Qk28, Sz28, Nn28, Hh28, Gg28⟩ := id V_a1
              have hin28 : ¬ ((p2 + (2 : Int32)) < 0 ∨ cl28.slots.size ≤ ((p2 + (2 : Int32))).toNatClampNeg) := inb_of Sz28 hin_62
              refine X1.iaload hx (j := (p2 + (2 : Int32))) (v := (.int (uF (p2 + (2 : Int32))))) (by rw [e1]; exact Ar28.1) (State.isArrayOf_alike hZ.alike Ar28.2.1) Ar28.2.2 hin28 (Hh28.at hin28 hat_62) (g := (mkF m 62 #[.val (.ref a1), .val (.int p2), .val (.int p3), .val (.int v2), .unset, .val (.int (1 : Int32)), .unset, .unset, .unset] [(.int (p2 + (2 : Int32))), (.ref a1)])) rfl rfl (hb hby d5_62) _ ?_
              show Steps p.tables e below (T1.setTop (mkF m 63 #[.val (.ref a1), .val (.int p2), .val (.int p3), .val (.int v2), .unset, .val (.int (1 : Int32)), .unset, .unset, .unset] [(.int (uF (p2 + (2 : Int32))))])) t
              refine XS.sipush X1.here hx rfl (hb hby d5_63) ?_
              show Steps p.tables e below (T1.setTop (mkF m 66 #[.val (.ref a1), .val (.int p2), .val (.int p3), .val (.int v2), .unset, .val (.int (1 : Int32)), .unset, .unset, .unset] [(.int (128 : Int32)), (.int (uF (p2 + (2 : Int32))))])) t
              by_cases c66_29 : (uF (p2 + (2 : Int32))) < (128 : Int32)
              · skip
                refine XS.icmpNo X1.here hx rfl (hb hby d5_66) rfl (tlt c66_29).2.1 ?_
                show Steps p.tables e below (T1.setTop (mkF m 69 #[.val (.ref a1), .val (.int p2), .val (.int p3), .val (.int v2), .unset, .val (.int (1 : Int32)), .unset, .unset, .unset] [])) t
                refine XS.iconst X1.here hx rfl (hb hby d5_69) ?_
                show Steps p.tables e below (T1.setTop (mkF m 70 #[.val (.ref a1), .val (.int p2), .val (.int p3), .val (.int v2), .unset, .val (.int (1 : Int32)), .unset, .unset, .unset] [(.int (3 : Int32))])) t
                refine XS.istore X1.here hx rfl (hb hby d5_70) rfl (l' := #[.val (.ref a1), .val (.int p2), .val (.int p3), .val (.int v2), .val (.int (3 : Int32)), .val (.int (1 : Int32)), .unset, .unset, .unset]) rfl ?_
                show Steps p.tables e below (T1.setTop (mkF m 72 #[.val (.ref a1), .val (.int p2), .val (.int p3), .val (.int v2), .val (.int (3 : Int32)), .val (.int (1 : Int32)), .unset, .unset, .unset] [])) t
                refine XS.goto X1.here hx rfl (pc0 := 72) (pc' := 125) rfl (hb hby d5_72) (by decide) (by decide) ?_
                show Steps p.tables e below (T1.setTop (mkF m 125 #[.val (.ref a1), .val (.int p2), .val (.int p3), .val (.int v2), .val (.int (3 : Int32)), .val (.int (1 : Int32)), .unset, .unset, .unset] [])) t
                have q_v18 : v18 = (3 : Int32) := by rw [hv_v18, if_neg c13_21, if_neg c22_23, if_neg c33_24, if_neg c44_26, if_neg c55_27, if_pos c66_29]
                rw [q_v18] at k
                have q_v19 : v19 = (1 : Int32) := by rw [hv_v19, if_neg c13_21, if_neg c22_23, if_neg c33_24, if_neg c44_26, if_neg c55_27, if_pos c66_29]
                rw [q_v19] at k
                exact k
              · skip
                refine XS.icmpYes X1.here hx rfl (pc0 := 66) (pc' := 75) rfl (hb hby d5_66) rfl (flt c66_29).2.1 (by decide) (by decide) ?_
                show Steps p.tables e below (T1.setTop (mkF m 75 #[.val (.ref a1), .val (.int p2), .val (.int p3), .val (.int v2), .unset, .val (.int (1 : Int32)), .unset, .unset, .unset] [])) t
                refine XS.iloadN X1.here hx rfl (hb hby d5_75) rfl  ?_
                show Steps p.tables e below (T1.setTop (mkF m 76 #[.val (.ref a1), .val (.int p2), .val (.int p3), .val (.int v2), .unset, .val (.int (1 : Int32)), .unset, .unset, .unset] [(.int v2)])) t
                refine XS.iconst X1.here hx rfl (hb hby d5_76) ?_
                show Steps p.tables e below (T1.setTop (mkF m 77 #[.val (.ref a1), .val (.int p2), .val (.int p3), .val (.int v2), .unset, .val (.int (1 : Int32)), .unset, .unset, .unset] [(.int (4 : Int32)), (.int v2)])) t
                by_cases c77_30 : v2 < (4 : Int32)
                · skip
                  refine XS.icmpYes X1.here hx rfl (pc0 := 77) (pc' := 97) rfl (hb hby d5_77) rfl (tlt c77_30).1 (by decide) (by decide) ?_
                  show Steps p.tables e below (T1.setTop (mkF m 97 #[.val (.ref a1), .val (.int p2), .val (.int p3), .val (.int v2), .unset, .val (.int (1 : Int32)), .unset, .unset, .unset] [])) t
                  refine XS.iloadN X1.here hx rfl (hb hby d5_97) rfl  ?_
                  show Steps p.tables e below (T1.setTop (mkF m 98 #[.val (.ref a1), .val (.int p2), .val (.int p3), .val (.int v2), .unset, .val (.int (1 : Int32)), .unset, .unset, .unset] [(.int v2)])) t
                  refine XS.iconst X1.here hx rfl (hb hby d5_98) ?_
                  show Steps p.tables e below (T1.setTop (mkF m 99 #[.val (.ref a1), .val (.int p2), .val (.int p3), .val (.int v2), .unset, .val (.int (1 : Int32)), .unset, .unset, .unset] [(.int (5 : Int32)), (.int v2)])) t
                  refine XS.icmpYes X1.here hx rfl (pc0 := 99) (pc' := 119) rfl (hb hby d5_99) rfl (tlt (own_lt_mono c77_30 (by decide))).1 (by decide) (by decide) ?_
                  show Steps p.tables e below (T1.setTop (mkF m 119 #[.val (.ref a1), .val (.int p2), .val (.int p3), .val (.int v2), .unset, .val (.int (1 : Int32)), .unset, .unset, .unset] [])) t
                  refine XS.iloadN X1.here hx rfl (hb hby d5_119) rfl  ?_
                  show Steps p.tables e below (T1.setTop (mkF m 120 #[.val (.ref a1), .val (.int p2), .val (.int p3), .val (.int v2), .unset, .val (.int (1 : Int32)), .unset, .unset, .unset] [(.int v2)])) t
                  refine XS.istore X1.here hx rfl (hb hby d5_120) rfl (l' := #[.val (.ref a1), .val (.int p2), .val (.int p3), .val (.int v2), .val (.int v2), .val (.int (1 : Int32)), .unset, .unset, .unset]) rfl ?_
                  show Steps p.tables e below (T1.setTop (mkF m 122 #[.val (.ref a1), .val (.int p2), .val (.int p3), .val (.int v2), .val (.int v2), .val (.int (1 : Int32)), .unset, .unset, .unset] [])) t
                  refine XS.iconst X1.here hx rfl (hb hby d5_122) ?_
                  show Steps p.tables e below (T1.setTop (mkF m 123 #[.val (.ref a1), .val (.int p2), .val (.int p3), .val (.int v2), .val (.int v2), .val (.int (1 : Int32)), .unset, .unset, .unset] [(.int (0 : Int32))])) t
                  refine XS.istore X1.here hx rfl (hb hby d5_123) rfl (l' := #[.val (.ref a1), .val (.int p2), .val (.int p3), .val (.int v2), .val (.int v2), .val (.int (0 : Int32)), .unset, .unset, .unset]) rfl ?_
                  show Steps p.tables e below (T1.setTop (mkF m 125 #[.val (.ref a1), .val (.int p2), .val (.int p3), .val (.int v2), .val (.int v2), .val (.int (0 : Int32)), .unset, .unset, .unset] [])) t
                  have q_v18 : v18 = v2 := by rw [hv_v18, if_neg c13_21, if_neg c22_23, if_neg c33_24, if_neg c44_26, if_neg c55_27, if_neg c66_29, if_pos c77_30]
                  rw [q_v18] at k
                  have q_v19 : v19 = (0 : Int32) := by rw [hv_v19, if_neg c13_21, if_neg c22_23, if_neg c33_24, if_neg c44_26, if_neg c55_27, if_neg c66_29, if_pos c77_30]
                  rw [q_v19] at k
                  exact k
                · skip
                  refine XS.icmpNo X1.here hx rfl (hb hby d5_77) rfl (flt c77_30).1 ?_
                  show Steps p.tables e below (T1.setTop (mkF m 80 #[.val (.ref a1), .val (.int p2), .val (.int p3), .val (.int v2), .unset, .val (.int (1 : Int32)), .unset, .unset, .unset] [])) t
                  refine XS.aloadN X1.here hx rfl (hb hby d5_80) rfl rfl  ?_
                  show Steps p.tables e below (T1.setTop (mkF m 81 #[.val (.ref a1), .val (.int p2), .val (.int p3), .val (.int v2), .unset, .val (.int (1 : Int32)), .unset, .unset, .unset] [(.ref a1)])) t
                  refine XS.iloadN X1.here hx rfl (hb hby d5_81) rfl  ?_
                  show Steps p.tables e below (T1.setTop (mkF m 82 #[.val (.ref a1), .val (.int p2), .val (.int p3), .val (.int v2), .unset, .val (.int (1 : Int32)), .unset, .unset, .unset] [(.int p2), (.ref a1)])) t
                  refine XS.iconst X1.here hx rfl (hb hby d5_82) ?_
                  show Steps p.tables e below (T1.setTop (mkF m 83 #[.val (.ref a1), .val (.int p2), .val (.int p3), .val (.int v2), .unset, .val (.int (1 : Int32)), .unset, .unset, .unset] [(.int (3 : Int32)), (.int p2), (.ref a1)])) t
                  refine XS.iadd X1.here hx rfl (hb hby d5_83) rfl ?_
                  show Steps p.tables e below (T1.setTop (mkF m 84 #[.val (.ref a1), .val (.int p2), .val (.int p3), .val (.int v2), .unset, .val (.int (1 : Int32)), .unset, .unset, .unset] [(.int (p2 + (3 : Int32))), (.ref a1)])) t
                  have z0 := c77_30
                  rw [← hv_v2] at z0
                  have hix : ¬ (p2 + (3 : Int32)) < 0 ∧ (p2 + (3 : Int32)) < (16 : Int32) := have z := own_ix (3 : Int32) (4 : Int32) g0 g1 h8 (by decide) (by decide) (by decide) z0; ⟨z.1, z.2.1⟩
                  have hin_84 := hix
                  have hat_84 := hU (p2 + (3 : Int32)) hix.1 hix.2
                  obtain ⟨cl31, Ar31, Qk31, Sz31, Nn31, Hh31, Gg31⟩ := id V_a1
                  have hin31 : ¬ ((p2 + (3 : Int32)) < 0 ∨ cl31.slots.size ≤ ((p2 + (3 : Int32))).toNatClampNeg) := inb_of Sz31 hin_84
                  refine X1.iaload hx (j := (p2 + (3 : Int32))) (v := (.int (uF (p2 + (3 : Int32))))) (by rw [e1]; exact Ar31.1) (State.isArrayOf_alike hZ.alike Ar31.2.1) Ar31.2.2 hin31 (Hh31.at hin31 hat_84) (g := (mkF m 84 #[.val (.ref a1), .val (.int p2), .val (.int p3), .val (.int v2), .unset, .val (.int (1 : Int32)), .unset, .unset, .unset] [(.int (p2 + (3 : Int32))), (.ref a1)])) rfl rfl (hb hby d5_84) _ ?_
                  show Steps p.tables e below (T1.setTop (mkF m 85 #[.val (.ref a1), .val (.int p2), .val (.int p3), .val (.int v2), .unset, .val (.int (1 : Int32)), .unset, .unset, .unset] [(.int (uF (p2 + (3 : Int32))))])) t
                  refine XS.sipush X1.here hx rfl (hb hby d5_85) ?_
                  show Steps p.tables e below (T1.setTop (mkF m 88 #[.val (.ref a1), .val (.int p2), .val (.int p3), .val (.int v2), .unset, .val (.int (1 : Int32)), .unset, .unset, .unset] [(.int (128 : Int32)), (.int (uF (p2 + (3 : Int32))))])) t
                  by_cases c88_32 : (uF (p2 + (3 : Int32))) < (128 : Int32)
                  · skip
                    refine XS.icmpNo X1.here hx rfl (hb hby d5_88) rfl (tlt c88_32).2.1 ?_
                    show Steps p.tables e below (T1.setTop (mkF m 91 #[.val (.ref a1), .val (.int p2), .val (.int p3), .val (.int v2), .unset, .val (.int (1 : Int32)), .unset, .unset, .unset] [])) t
                    refine XS.iconst X1.here hx rfl (hb hby d5_91) ?_
                    show Steps p.tables e below (T1.setTop (mkF m 92 #[.val (.ref a1), .val (.int p2), .val (.int p3), .val (.int v2), .unset, .val (.int (1 : Int32)), .unset, .unset, .unset] [(.int (4 : Int32))])) t
                    refine XS.istore X1.here hx rfl (hb hby d5_92) rfl (l' := #[.val (.ref a1), .val (.int p2), .val (.int p3), .val (.int v2), .val (.int (4 : Int32)), .val (.int (1 : Int32)), .unset, .unset, .unset]) rfl ?_
                    show Steps p.tables e below (T1.setTop (mkF m 94 #[.val (.ref a1), .val (.int p2), .val (.int p3), .val (.int v2), .val (.int (4 : Int32)), .val (.int (1 : Int32)), .unset, .unset, .unset] [])) t
                    refine XS.goto X1.here hx rfl (pc0 := 94) (pc' := 125) rfl (hb hby d5_94) (by decide) (by decide) ?_
                    show Steps p.tables e below (T1.setTop (mkF m 125 #[.val (.ref a1), .val (.int p2), .val (.int p3), .val (.int v2), .val (.int (4 : Int32)), .val (.int (1 : Int32)), .unset, .unset, .unset] [])) t
                    have q_v18 : v18 = (4 : Int32) := by rw [hv_v18, if_neg c13_21, if_neg c22_23, if_neg c33_24, if_neg c44_26, if_neg c55_27, if_neg c66_29, if_neg c77_30, if_pos c88_32]
                    rw [q_v18] at k
                    have q_v19 : v19 = (1 : Int32) := by rw [hv_v19, if_neg c13_21, if_neg c22_23, if_neg c33_24, if_neg c44_26, if_neg c55_27, if_neg c66_29, if_neg c77_30, if_pos c88_32]
                    rw [q_v19] at k
                    exact k
                  · skip
                    refine XS.icmpYes X1.here hx rfl (pc0 := 88) (pc' := 97) rfl (hb hby d5_88) rfl (flt c88_32).2.1 (by decide) (by decide) ?_
                    show Steps p.tables e below (T1.setTop (mkF m 97 #[.val (.ref a1), .val (.int p2), .val (.int p3), .val (.int v2), .unset, .val (.int (1 : Int32)), .unset, .unset, .unset] [])) t
                    refine XS.iloadN X1.here hx rfl (hb hby d5_97) rfl  ?_
                    show Steps p.tables e below (T1.setTop (mkF m 98 #[.val (.ref a1), .val (.int p2), .val (.int p3), .val (.int v2), .unset, .val (.int (1 : Int32)), .unset, .unset, .unset] [(.int v2)])) t
                    refine XS.iconst X1.here hx rfl (hb hby d5_98) ?_
                    show Steps p.tables e below (T1.setTop (mkF m 99 #[.val (.ref a1), .val (.int p2), .val (.int p3), .val (.int v2), .unset, .val (.int (1 : Int32)), .unset, .unset, .unset] [(.int (5 : Int32)), (.int v2)])) t
                    by_cases c99_33 : v2 < (5 : Int32)
                    · skip
                      refine XS.icmpYes X1.here hx rfl (pc0 := 99) (pc' := 119) rfl (hb hby d5_99) rfl (tlt c99_33).1 (by decide) (by decide) ?_
                      show Steps p.tables e below (T1.setTop (mkF m 119 #[.val (.ref a1), .val (.int p2), .val (.int p3), .val (.int v2), .unset, .val (.int (1 : Int32)), .unset, .unset, .unset] [])) t
                      refine XS.iloadN X1.here hx rfl (hb hby d5_119) rfl  ?_
                      show Steps p.tables e below (T1.setTop (mkF m 120 #[.val (.ref a1), .val (.int p2), .val (.int p3), .val (.int v2), .unset, .val (.int (1 : Int32)), .unset, .unset, .unset] [(.int v2)])) t
                      refine XS.istore X1.here hx rfl (hb hby d5_120) rfl (l' := #[.val (.ref a1), .val (.int p2), .val (.int p3), .val (.int v2), .val (.int v2), .val (.int (1 : Int32)), .unset, .unset, .unset]) rfl ?_
                      show Steps p.tables e below (T1.setTop (mkF m 122 #[.val (.ref a1), .val (.int p2), .val (.int p3), .val (.int v2), .val (.int v2), .val (.int (1 : Int32)), .unset, .unset, .unset] [])) t
                      refine XS.iconst X1.here hx rfl (hb hby d5_122) ?_
                      show Steps p.tables e below (T1.setTop (mkF m 123 #[.val (.ref a1), .val (.int p2), .val (.int p3), .val (.int v2), .val (.int v2), .val (.int (1 : Int32)), .unset, .unset, .unset] [(.int (0 : Int32))])) t
                      refine XS.istore X1.here hx rfl (hb hby d5_123) rfl (l' := #[.val (.ref a1), .val (.int p2), .val (.int p3), .val (.int v2), .val (.int v2), .val (.int (0 : Int32)), .unset, .unset, .unset]) rfl ?_
                      show Steps p.tables e below (T1.setTop (mkF m 125 #[.val (.ref a1), .val (.int p2), .val (.int p3), .val (.int v2), .val (.int v2), .val (.int (0 : Int32)), .unset, .unset, .unset] [])) t
                      have q_v18 : v18 = v2 := by rw [hv_v18, if_neg c13_21, if_neg c22_23, if_neg c33_24, if_neg c44_26, if_neg c55_27, if_neg c66_29, if_neg c77_30, if_neg c88_32, if_pos c99_33]
                      rw [q_v18] at k
                      have q_v19 : v19 = (0 : Int32) := by rw [hv_v19, if_neg c13_21, if_neg c22_23, if_neg c33_24, if_neg c44_26, if_neg c55_27, if_neg c66_29, if_neg c77_30, if_neg c88_32, if_pos c99_33]
                      rw [q_v19] at k
                      exact k
                    · skip
                      refine XS.icmpNo X1.here hx rfl (hb hby d5_99) rfl (flt c99_33).1 ?_
                      show Steps p.tables e below (T1.setTop (mkF m 102 #[.val (.ref a1), .val (.int p2), .val (.int p3), .val (.int v2), .unset, .val (.int (1 : Int32)), .unset, .unset, .unset] [])) t
                      refine XS.aloadN X1.here hx rfl (hb hby d5_102) rfl rfl  ?_
                      show Steps p.tables e below (T1.setTop (mkF m 103 #[.val (.ref a1), .val (.int p2), .val (.int p3), .val (.int v2), .unset, .val (.int (1 : Int32)), .unset, .unset, .unset] [(.ref a1)])) t
                      refine XS.iloadN X1.here hx rfl (hb hby d5_103) rfl  ?_
                      show Steps p.tables e below (T1.setTop (mkF m 104 #[.val (.ref a1), .val (.int p2), .val (.int p3), .val (.int v2), .unset, .val (.int (1 : Int32)), .unset, .unset, .unset] [(.int p2), (.ref a1)])) t
                      refine XS.iconst X1.here hx rfl (hb hby d5_104) ?_
                      show Steps p.tables e below (T1.setTop (mkF m 105 #[.val (.ref a1), .val (.int p2), .val (.int p3), .val (.int v2), .unset, .val (.int (1 : Int32)), .unset, .unset, .unset] [(.int (4 : Int32)), (.int p2), (.ref a1)])) t
                      refine XS.iadd X1.here hx rfl (hb hby d5_105) rfl ?_
                      show Steps p.tables e below (T1.setTop (mkF m 106 #[.val (.ref a1), .val (.int p2), .val (.int p3), .val (.int v2), .unset, .val (.int (1 : Int32)), .unset, .unset, .unset] [(.int (p2 + (4 : Int32))), (.ref a1)])) t
                      have z0 := c99_33
                      rw [← hv_v2] at z0
                      have hix : ¬ (p2 + (4 : Int32)) < 0 ∧ (p2 + (4 : Int32)) < (16 : Int32) := have z := own_ix (4 : Int32) (5 : Int32) g0 g1 h8 (by decide) (by decide) (by decide) z0; ⟨z.1, z.2.1⟩
                      have hin_106 := hix
                      have hat_106 := hU (p2 + (4 : Int32)) hix.1 hix.2
                      obtain ⟨cl34, Ar34, Qk34, Sz34, Nn34, Hh34, Gg34⟩ := id V_a1
                      have hin34 : ¬ ((p2 + (4 : Int32)) < 0 ∨ cl34.slots.size ≤ ((p2 + (4 : Int32))).toNatClampNeg) := inb_of Sz34 hin_106
                      refine X1.iaload hx (j := (p2 + (4 : Int32))) (v := (.int (uF (p2 + (4 : Int32))))) (by rw [e1]; exact Ar34.1) (State.isArrayOf_alike hZ.alike Ar34.2.1) Ar34.2.2 hin34 (Hh34.at hin34 hat_106) (g := (mkF m 106 #[.val (.ref a1), .val (.int p2), .val (.int p3), .val (.int v2), .unset, .val (.int (1 : Int32)), .unset, .unset, .unset] [(.int (p2 + (4 : Int32))), (.ref a1)])) rfl rfl (hb hby d5_106) _ ?_
                      show Steps p.tables e below (T1.setTop (mkF m 107 #[.val (.ref a1), .val (.int p2), .val (.int p3), .val (.int v2), .unset, .val (.int (1 : Int32)), .unset, .unset, .unset] [(.int (uF (p2 + (4 : Int32))))])) t
                      refine XS.sipush X1.here hx rfl (hb hby d5_107) ?_
                      show Steps p.tables e below (T1.setTop (mkF m 110 #[.val (.ref a1), .val (.int p2), .val (.int p3), .val (.int v2), .unset, .val (.int (1 : Int32)), .unset, .unset, .unset] [(.int (128 : Int32)), (.int (uF (p2 + (4 : Int32))))])) t
                      by_cases c110_35 : (uF (p2 + (4 : Int32))) < (128 : Int32)
                      · skip
                        refine XS.icmpNo X1.here hx rfl (hb hby d5_110) rfl (tlt c110_35).2.1 ?_
                        show Steps p.tables e below (T1.setTop (mkF m 113 #[.val (.ref a1), .val (.int p2), .val (.int p3), .val (.int v2), .unset, .val (.int (1 : Int32)), .unset, .unset, .unset] [])) t
                        refine XS.iconst X1.here hx rfl (hb hby d5_113) ?_
                        show Steps p.tables e below (T1.setTop (mkF m 114 #[.val (.ref a1), .val (.int p2), .val (.int p3), .val (.int v2), .unset, .val (.int (1 : Int32)), .unset, .unset, .unset] [(.int (5 : Int32))])) t
                        refine XS.istore X1.here hx rfl (hb hby d5_114) rfl (l' := #[.val (.ref a1), .val (.int p2), .val (.int p3), .val (.int v2), .val (.int (5 : Int32)), .val (.int (1 : Int32)), .unset, .unset, .unset]) rfl ?_
                        show Steps p.tables e below (T1.setTop (mkF m 116 #[.val (.ref a1), .val (.int p2), .val (.int p3), .val (.int v2), .val (.int (5 : Int32)), .val (.int (1 : Int32)), .unset, .unset, .unset] [])) t
                        refine XS.goto X1.here hx rfl (pc0 := 116) (pc' := 125) rfl (hb hby d5_116) (by decide) (by decide) ?_
                        show Steps p.tables e below (T1.setTop (mkF m 125 #[.val (.ref a1), .val (.int p2), .val (.int p3), .val (.int v2), .val (.int (5 : Int32)), .val (.int (1 : Int32)), .unset, .unset, .unset] [])) t
                        have q_v18 : v18 = (5 : Int32) := by rw [hv_v18, if_neg c13_21, if_neg c22_23, if_neg c33_24, if_neg c44_26, if_neg c55_27, if_neg c66_29, if_neg c77_30, if_neg c88_32, if_neg c99_33, if_pos c110_35]
                        rw [q_v18] at k
                        have q_v19 : v19 = (1 : Int32) := by rw [hv_v19, if_neg c13_21, if_neg c22_23, if_neg c33_24, if_neg c44_26, if_neg c55_27, if_neg c66_29, if_neg c77_30, if_neg c88_32, if_neg c99_33, if_pos c110_35]
                        rw [q_v19] at k
                        exact k
                      · skip
                        refine XS.icmpYes X1.here hx rfl (pc0 := 110) (pc' := 119) rfl (hb hby d5_110) rfl (flt c110_35).2.1 (by decide) (by decide) ?_
                        show Steps p.tables e below (T1.setTop (mkF m 119 #[.val (.ref a1), .val (.int p2), .val (.int p3), .val (.int v2), .unset, .val (.int (1 : Int32)), .unset, .unset, .unset] [])) t
                        refine XS.iloadN X1.here hx rfl (hb hby d5_119) rfl  ?_
                        show Steps p.tables e below (T1.setTop (mkF m 120 #[.val (.ref a1), .val (.int p2), .val (.int p3), .val (.int v2), .unset, .val (.int (1 : Int32)), .unset, .unset, .unset] [(.int v2)])) t
                        refine XS.istore X1.here hx rfl (hb hby d5_120) rfl (l' := #[.val (.ref a1), .val (.int p2), .val (.int p3), .val (.int v2), .val (.int v2), .val (.int (1 : Int32)), .unset, .unset, .unset]) rfl ?_
                        show Steps p.tables e below (T1.setTop (mkF m 122 #[.val (.ref a1), .val (.int p2), .val (.int p3), .val (.int v2), .val (.int v2), .val (.int (1 : Int32)), .unset, .unset, .unset] [])) t
                        refine XS.iconst X1.here hx rfl (hb hby d5_122) ?_
                        show Steps p.tables e below (T1.setTop (mkF m 123 #[.val (.ref a1), .val (.int p2), .val (.int p3), .val (.int v2), .val (.int v2), .val (.int (1 : Int32)), .unset, .unset, .unset] [(.int (0 : Int32))])) t
                        refine XS.istore X1.here hx rfl (hb hby d5_123) rfl (l' := #[.val (.ref a1), .val (.int p2), .val (.int p3), .val (.int v2), .val (.int v2), .val (.int (0 : Int32)), .unset, .unset, .unset]) rfl ?_
                        show Steps p.tables e below (T1.setTop (mkF m 125 #[.val (.ref a1), .val (.int p2), .val (.int p3), .val (.int v2), .val (.int v2), .val (.int (0 : Int32)), .unset, .unset, .unset] [])) t
                        have q_v18 : v18 = v2 := by rw [hv_v18, if_neg c13_21, if_neg c22_23, if_neg c33_24, if_neg c44_26, if_neg c55_27, if_neg c66_29, if_neg c77_30, if_neg c88_32, if_neg c99_33, if_neg c110_35]
                        rw [q_v18] at k
                        have q_v19 : v19 = (0 : Int32) := by rw [hv_v19, if_neg c13_21, if_neg c22_23, if_neg c33_24, if_neg c44_26, if_neg c55_27, if_neg c66_29, if_neg c77_30, if_neg c88_32, if_neg c99_33, if_neg c110_35]
                        rw [q_v19] at k
                        exact k
  refine OutW.back j20 ?_
  show OutW _ _ _ _ _ _ _ (T1.setTop (mkF m 125 #[.val (.ref a1), .val (.int p2), .val (.int p3), .val (.int v2), .val (.int v18), .val (.int v19), .unset, .unset, .unset] []))
  have hcm : ¬ v2 < v18 := by rw [hv_v18]; exact own_cle v2 _ _ _ _ _
  refine OutW.back (fun t k => XS.lconst X1.here hx rfl (hb hby d5_125) k) ?_
  show OutW _ _ _ _ _ _ _ (T1.setTop (mkF m 126 #[.val (.ref a1), .val (.int p2), .val (.int p3), .val (.int v2), .val (.int v18), .val (.int v19), .unset, .unset, .unset] [(.long (0 : Int64))]))
  refine OutW.back (fun t k => XS.lstore X1.here hx rfl (hb hby d5_126) rfl (l' := #[.val (.ref a1), .val (.int p2), .val (.int p3), .val (.int v2), .val (.int v18), .val (.int v19), .val (.long (0 : Int64)), .second, .unset]) rfl k) ?_
  show OutW _ _ _ _ _ _ _ (T1.setTop (mkF m 128 #[.val (.ref a1), .val (.int p2), .val (.int p3), .val (.int v2), .val (.int v18), .val (.int v19), .val (.long (0 : Int64)), .second, .unset] []))
  refine OutW.back (fun t k => XS.iload X1.here hx rfl (hb hby d5_128) rfl  k) ?_
  show OutW _ _ _ _ _ _ _ (T1.setTop (mkF m 130 #[.val (.ref a1), .val (.int p2), .val (.int p3), .val (.int v2), .val (.int v18), .val (.int v19), .val (.long (0 : Int64)), .second, .unset] [(.int v18)]))
  refine OutW.back (fun t k => XS.iconst X1.here hx rfl (hb hby d5_130) k) ?_
  show OutW _ _ _ _ _ _ _ (T1.setTop (mkF m 131 #[.val (.ref a1), .val (.int p2), .val (.int p3), .val (.int v2), .val (.int v18), .val (.int v19), .val (.long (0 : Int64)), .second, .unset] [(.int (1 : Int32)), (.int v18)]))
  obtain ⟨v38, hv_v38⟩ : ∃ z : Int64, z = (if v18 < (1 : Int32) then (0 : Int64) else ((0 : Int64) + ((uF p2) &&& (127 : Int32)).toInt64)) := ⟨_, rfl⟩
  have j39 : ∀ t, Steps p.tables e below (T1.setTop (mkF m 146 #[.val (.ref a1), .val (.int p2), .val (.int p3), .val (.int v2), .val (.int v18), .val (.int v19), .val (.long v38), .second, .unset] [])) t → Steps p.tables e below (T1.setTop (mkF m 131 #[.val (.ref a1), .val (.int p2), .val (.int p3), .val (.int v2), .val (.int v18), .val (.int v19), .val (.long (0 : Int64)), .second, .unset] [(.int (1 : Int32)), (.int v18)])) t := by
    intro t k
    by_cases c131_40 : v18 < (1 : Int32)
    · skip
      refine XS.icmpYes X1.here hx rfl (pc0 := 131) (pc' := 146) rfl (hb hby d5_131) rfl (tlt c131_40).1 (by decide) (by decide) ?_
      show Steps p.tables e below (T1.setTop (mkF m 146 #[.val (.ref a1), .val (.int p2), .val (.int p3), .val (.int v2), .val (.int v18), .val (.int v19), .val (.long (0 : Int64)), .second, .unset] [])) t
      have q_v38 : v38 = (0 : Int64) := by rw [hv_v38, if_pos c131_40]
      rw [q_v38] at k
      exact k
    · skip
      refine XS.icmpNo X1.here hx rfl (hb hby d5_131) rfl (flt c131_40).1 ?_
      show Steps p.tables e below (T1.setTop (mkF m 134 #[.val (.ref a1), .val (.int p2), .val (.int p3), .val (.int v2), .val (.int v18), .val (.int v19), .val (.long (0 : Int64)), .second, .unset] [])) t
      refine XS.lload X1.here hx rfl (hb hby d5_134) rfl  ?_
      show Steps p.tables e below (T1.setTop (mkF m 136 #[.val (.ref a1), .val (.int p2), .val (.int p3), .val (.int v2), .val (.int v18), .val (.int v19), .val (.long (0 : Int64)), .second, .unset] [(.long (0 : Int64))])) t
      refine XS.aloadN X1.here hx rfl (hb hby d5_136) rfl rfl  ?_
      show Steps p.tables e below (T1.setTop (mkF m 137 #[.val (.ref a1), .val (.int p2), .val (.int p3), .val (.int v2), .val (.int v18), .val (.int v19), .val (.long (0 : Int64)), .second, .unset] [(.ref a1), (.long (0 : Int64))])) t
      refine XS.iloadN X1.here hx rfl (hb hby d5_137) rfl  ?_
      show Steps p.tables e below (T1.setTop (mkF m 138 #[.val (.ref a1), .val (.int p2), .val (.int p3), .val (.int v2), .val (.int v18), .val (.int v19), .val (.long (0 : Int64)), .second, .unset] [(.int p2), (.ref a1), (.long (0 : Int64))])) t
      have z0 := own_cm hcm c131_40
      rw [← hv_v2] at z0
      have hix : ¬ p2 < 0 ∧ p2 < (16 : Int32) := by
        have z := own_ix (0 : Int32) (1 : Int32) g0 g1 h8 (by decide) (by decide) (by decide) z0
        rw [show p2 + (0 : Int32) = p2 from Int32.add_zero p2] at z
        exact ⟨z.1, z.2.1⟩
      have hin_138 := hix
      have hat_138 := hU p2 hix.1 hix.2
      obtain ⟨cl41, Ar41, Qk41, Sz41, Nn41, Hh41, Gg41⟩ := id V_a1
      have hin41 : ¬ (p2 < 0 ∨ cl41.slots.size ≤ (p2).toNatClampNeg) := inb_of Sz41 hin_138
      refine X1.iaload hx (j := p2) (v := (.int (uF p2))) (by rw [e1]; exact Ar41.1) (State.isArrayOf_alike hZ.alike Ar41.2.1) Ar41.2.2 hin41 (Hh41.at hin41 hat_138) (g := (mkF m 138 #[.val (.ref a1), .val (.int p2), .val (.int p3), .val (.int v2), .val (.int v18), .val (.int v19), .val (.long (0 : Int64)), .second, .unset] [(.int p2), (.ref a1), (.long (0 : Int64))])) rfl rfl (hb hby d5_138) _ ?_
      show Steps p.tables e below (T1.setTop (mkF m 139 #[.val (.ref a1), .val (.int p2), .val (.int p3), .val (.int v2), .val (.int v18), .val (.int v19), .val (.long (0 : Int64)), .second, .unset] [(.int (uF p2)), (.long (0 : Int64))])) t
      refine XS.bipush X1.here hx rfl (hb hby d5_139) ?_
      show Steps p.tables e below (T1.setTop (mkF m 141 #[.val (.ref a1), .val (.int p2), .val (.int p3), .val (.int v2), .val (.int v18), .val (.int v19), .val (.long (0 : Int64)), .second, .unset] [(.int (127 : Int32)), (.int (uF p2)), (.long (0 : Int64))])) t
      refine XS.iand X1.here hx rfl (hb hby d5_141) rfl ?_
      show Steps p.tables e below (T1.setTop (mkF m 142 #[.val (.ref a1), .val (.int p2), .val (.int p3), .val (.int v2), .val (.int v18), .val (.int v19), .val (.long (0 : Int64)), .second, .unset] [(.int ((uF p2) &&& (127 : Int32))), (.long (0 : Int64))])) t
      refine XS.i2l X1.here hx rfl (hb hby d5_142) rfl ?_
      show Steps p.tables e below (T1.setTop (mkF m 143 #[.val (.ref a1), .val (.int p2), .val (.int p3), .val (.int v2), .val (.int v18), .val (.int v19), .val (.long (0 : Int64)), .second, .unset] [(.long ((uF p2) &&& (127 : Int32)).toInt64), (.long (0 : Int64))])) t
      refine XS.ladd X1.here hx rfl (hb hby d5_143) rfl ?_
      show Steps p.tables e below (T1.setTop (mkF m 144 #[.val (.ref a1), .val (.int p2), .val (.int p3), .val (.int v2), .val (.int v18), .val (.int v19), .val (.long (0 : Int64)), .second, .unset] [(.long ((0 : Int64) + ((uF p2) &&& (127 : Int32)).toInt64))])) t
      refine XS.lstore X1.here hx rfl (hb hby d5_144) rfl (l' := #[.val (.ref a1), .val (.int p2), .val (.int p3), .val (.int v2), .val (.int v18), .val (.int v19), .val (.long ((0 : Int64) + ((uF p2) &&& (127 : Int32)).toInt64)), .second, .unset]) rfl ?_
      show Steps p.tables e below (T1.setTop (mkF m 146 #[.val (.ref a1), .val (.int p2), .val (.int p3), .val (.int v2), .val (.int v18), .val (.int v19), .val (.long ((0 : Int64) + ((uF p2) &&& (127 : Int32)).toInt64)), .second, .unset] [])) t
      have q_v38 : v38 = ((0 : Int64) + ((uF p2) &&& (127 : Int32)).toInt64) := by rw [hv_v38, if_neg c131_40]
      rw [q_v38] at k
      exact k
  refine OutW.back j39 ?_
  show OutW _ _ _ _ _ _ _ (T1.setTop (mkF m 146 #[.val (.ref a1), .val (.int p2), .val (.int p3), .val (.int v2), .val (.int v18), .val (.int v19), .val (.long v38), .second, .unset] []))
  refine OutW.back (fun t k => XS.iload X1.here hx rfl (hb hby d5_146) rfl  k) ?_
  show OutW _ _ _ _ _ _ _ (T1.setTop (mkF m 148 #[.val (.ref a1), .val (.int p2), .val (.int p3), .val (.int v2), .val (.int v18), .val (.int v19), .val (.long v38), .second, .unset] [(.int v18)]))
  refine OutW.back (fun t k => XS.iconst X1.here hx rfl (hb hby d5_148) k) ?_
  show OutW _ _ _ _ _ _ _ (T1.setTop (mkF m 149 #[.val (.ref a1), .val (.int p2), .val (.int p3), .val (.int v2), .val (.int v18), .val (.int v19), .val (.long v38), .second, .unset] [(.int (2 : Int32)), (.int v18)]))
  obtain ⟨v44, hv_v44⟩ : ∃ z : Int64, z = (if v18 < (2 : Int32) then v38 else (v38 + (((uF (p2 + (1 : Int32))) &&& (127 : Int32)).toInt64 * (128 : Int64)))) := ⟨_, rfl⟩
  have j45 : ∀ t, Steps p.tables e below (T1.setTop (mkF m 170 #[.val (.ref a1), .val (.int p2), .val (.int p3), .val (.int v2), .val (.int v18), .val (.int v19), .val (.long v44), .second, .unset] [])) t → Steps p.tables e below (T1.setTop (mkF m 149 #[.val (.ref a1), .val (.int p2), .val (.int p3), .val (.int v2), .val (.int v18), .val (.int v19), .val (.long v38), .second, .unset] [(.int (2 : Int32)), (.int v18)])) t := by
    intro t k
    by_cases c149_46 : v18 < (2 : Int32)
    · skip
      refine XS.icmpYes X1.here hx rfl (pc0 := 149) (pc' := 170) rfl (hb hby d5_149) rfl (tlt c149_46).1 (by decide) (by decide) ?_
      show Steps p.tables e below (T1.setTop (mkF m 170 #[.val (.ref a1), .val (.int p2), .val (.int p3), .val (.int v2), .val (.int v18), .val (.int v19), .val (.long v38), .second, .unset] [])) t
      have q_v44 : v44 = v38 := by rw [hv_v44, if_pos c149_46]
      rw [q_v44] at k
      exact k
    · skip
      refine XS.icmpNo X1.here hx rfl (hb hby d5_149) rfl (flt c149_46).1 ?_
      show Steps p.tables e below (T1.setTop (mkF m 152 #[.val (.ref a1), .val (.int p2), .val (.int p3), .val (.int v2), .val (.int v18), .val (.int v19), .val (.long v38), .second, .unset] [])) t
      refine XS.lload X1.here hx rfl (hb hby d5_152) rfl  ?_
      show Steps p.tables e below (T1.setTop (mkF m 154 #[.val (.ref a1), .val (.int p2), .val (.int p3), .val (.int v2), .val (.int v18), .val (.int v19), .val (.long v38), .second, .unset] [(.long v38)])) t
      refine XS.aloadN X1.here hx rfl (hb hby d5_154) rfl rfl  ?_
      show Steps p.tables e below (T1.setTop (mkF m 155 #[.val (.ref a1), .val (.int p2), .val (.int p3), .val (.int v2), .val (.int v18), .val (.int v19), .val (.long v38), .second, .unset] [(.ref a1), (.long v38)])) t
      refine XS.iloadN X1.here hx rfl (hb hby d5_155) rfl  ?_
      show Steps p.tables e below (T1.setTop (mkF m 156 #[.val (.ref a1), .val (.int p2), .val (.int p3), .val (.int v2), .val (.int v18), .val (.int v19), .val (.long v38), .second, .unset] [(.int p2), (.ref a1), (.long v38)])) t
      refine XS.iconst X1.here hx rfl (hb hby d5_156) ?_
      show Steps p.tables e below (T1.setTop (mkF m 157 #[.val (.ref a1), .val (.int p2), .val (.int p3), .val (.int v2), .val (.int v18), .val (.int v19), .val (.long v38), .second, .unset] [(.int (1 : Int32)), (.int p2), (.ref a1), (.long v38)])) t
      refine XS.iadd X1.here hx rfl (hb hby d5_157) rfl ?_
      show Steps p.tables e below (T1.setTop (mkF m 158 #[.val (.ref a1), .val (.int p2), .val (.int p3), .val (.int v2), .val (.int v18), .val (.int v19), .val (.long v38), .second, .unset] [(.int (p2 + (1 : Int32))), (.ref a1), (.long v38)])) t
      have z0 := own_cm hcm c149_46
      rw [← hv_v2] at z0
      have hix : ¬ (p2 + (1 : Int32)) < 0 ∧ (p2 + (1 : Int32)) < (16 : Int32) := have z := own_ix (1 : Int32) (2 : Int32) g0 g1 h8 (by decide) (by decide) (by decide) z0; ⟨z.1, z.2.1⟩
      have hin_158 := hix
      have hat_158 := hU (p2 + (1 : Int32)) hix.1 hix.2
      obtain ⟨cl47, Ar47, Qk47, Sz47, Nn47, Hh47, Gg47⟩ := id V_a1
      have hin47 : ¬ ((p2 + (1 : Int32)) < 0 ∨ cl47.slots.size ≤ ((p2 + (1 : Int32))).toNatClampNeg) := inb_of Sz47 hin_158
      refine X1.iaload hx (j := (p2 + (1 : Int32))) (v := (.int (uF (p2 + (1 : Int32))))) (by rw [e1]; exact Ar47.1) (State.isArrayOf_alike hZ.alike Ar47.2.1) Ar47.2.2 hin47 (Hh47.at hin47 hat_158) (g := (mkF m 158 #[.val (.ref a1), .val (.int p2), .val (.int p3), .val (.int v2), .val (.int v18), .val (.int v19), .val (.long v38), .second, .unset] [(.int (p2 + (1 : Int32))), (.ref a1), (.long v38)])) rfl rfl (hb hby d5_158) _ ?_
      show Steps p.tables e below (T1.setTop (mkF m 159 #[.val (.ref a1), .val (.int p2), .val (.int p3), .val (.int v2), .val (.int v18), .val (.int v19), .val (.long v38), .second, .unset] [(.int (uF (p2 + (1 : Int32)))), (.long v38)])) t
      refine XS.bipush X1.here hx rfl (hb hby d5_159) ?_
      show Steps p.tables e below (T1.setTop (mkF m 161 #[.val (.ref a1), .val (.int p2), .val (.int p3), .val (.int v2), .val (.int v18), .val (.int v19), .val (.long v38), .second, .unset] [(.int (127 : Int32)), (.int (uF (p2 + (1 : Int32)))), (.long v38)])) t
      refine XS.iand X1.here hx rfl (hb hby d5_161) rfl ?_
      show Steps p.tables e below (T1.setTop (mkF m 162 #[.val (.ref a1), .val (.int p2), .val (.int p3), .val (.int v2), .val (.int v18), .val (.int v19), .val (.long v38), .second, .unset] [(.int ((uF (p2 + (1 : Int32))) &&& (127 : Int32))), (.long v38)])) t
      refine XS.i2l X1.here hx rfl (hb hby d5_162) rfl ?_
      show Steps p.tables e below (T1.setTop (mkF m 163 #[.val (.ref a1), .val (.int p2), .val (.int p3), .val (.int v2), .val (.int v18), .val (.int v19), .val (.long v38), .second, .unset] [(.long ((uF (p2 + (1 : Int32))) &&& (127 : Int32)).toInt64), (.long v38)])) t
      refine X1.ldc2Long hx hown (mvT hZ (hw _ (List.mem_of_getElem? (i := 36) rfl))) (g := (mkF m 163 #[.val (.ref a1), .val (.int p2), .val (.int p3), .val (.int v2), .val (.int v18), .val (.int v19), .val (.long v38), .second, .unset] [(.long ((uF (p2 + (1 : Int32))) &&& (127 : Int32)).toInt64), (.long v38)])) rfl (hb hby d5_163) _ ?_
      show Steps p.tables e below (T1.setTop (mkF m 166 #[.val (.ref a1), .val (.int p2), .val (.int p3), .val (.int v2), .val (.int v18), .val (.int v19), .val (.long v38), .second, .unset] [(.long (128 : Int64)), (.long ((uF (p2 + (1 : Int32))) &&& (127 : Int32)).toInt64), (.long v38)])) t
      refine XS.lmul X1.here hx rfl (hb hby d5_166) rfl ?_
      show Steps p.tables e below (T1.setTop (mkF m 167 #[.val (.ref a1), .val (.int p2), .val (.int p3), .val (.int v2), .val (.int v18), .val (.int v19), .val (.long v38), .second, .unset] [(.long (((uF (p2 + (1 : Int32))) &&& (127 : Int32)).toInt64 * (128 : Int64))), (.long v38)])) t
      refine XS.ladd X1.here hx rfl (hb hby d5_167) rfl ?_
      show Steps p.tables e below (T1.setTop (mkF m 168 #[.val (.ref a1), .val (.int p2), .val (.int p3), .val (.int v2), .val (.int v18), .val (.int v19), .val (.long v38), .second, .unset] [(.long (v38 + (((uF (p2 + (1 : Int32))) &&& (127 : Int32)).toInt64 * (128 : Int64))))])) t
      refine XS.lstore X1.here hx rfl (hb hby d5_168) rfl (l' := #[.val (.ref a1), .val (.int p2), .val (.int p3), .val (.int v2), .val (.int v18), .val (.int v19), .val (.long (v38 + (((uF (p2 + (1 : Int32))) &&& (127 : Int32)).toInt64 * (128 : Int64)))), .second, .unset]) rfl ?_
      show Steps p.tables e below (T1.setTop (mkF m 170 #[.val (.ref a1), .val (.int p2), .val (.int p3), .val (.int v2), .val (.int v18), .val (.int v19), .val (.long (v38 + (((uF (p2 + (1 : Int32))) &&& (127 : Int32)).toInt64 * (128 : Int64)))), .second, .unset] [])) t
      have q_v44 : v44 = (v38 + (((uF (p2 + (1 : Int32))) &&& (127 : Int32)).toInt64 * (128 : Int64))) := by rw [hv_v44, if_neg c149_46]
      rw [q_v44] at k
      exact k
  refine OutW.back j45 ?_
  show OutW _ _ _ _ _ _ _ (T1.setTop (mkF m 170 #[.val (.ref a1), .val (.int p2), .val (.int p3), .val (.int v2), .val (.int v18), .val (.int v19), .val (.long v44), .second, .unset] []))
  refine OutW.back (fun t k => XS.iload X1.here hx rfl (hb hby d5_170) rfl  k) ?_
  show OutW _ _ _ _ _ _ _ (T1.setTop (mkF m 172 #[.val (.ref a1), .val (.int p2), .val (.int p3), .val (.int v2), .val (.int v18), .val (.int v19), .val (.long v44), .second, .unset] [(.int v18)]))
  refine OutW.back (fun t k => XS.iconst X1.here hx rfl (hb hby d5_172) k) ?_
  show OutW _ _ _ _ _ _ _ (T1.setTop (mkF m 173 #[.val (.ref a1), .val (.int p2), .val (.int p3), .val (.int v2), .val (.int v18), .val (.int v19), .val (.long v44), .second, .unset] [(.int (3 : Int32)), (.int v18)]))
  obtain ⟨v50, hv_v50⟩ : ∃ z : Int64, z = (if v18 < (3 : Int32) then v44 else (v44 + (((uF (p2 + (2 : Int32))) &&& (127 : Int32)).toInt64 * (16384 : Int64)))) := ⟨_, rfl⟩
  have j51 : ∀ t, Steps p.tables e below (T1.setTop (mkF m 194 #[.val (.ref a1), .val (.int p2), .val (.int p3), .val (.int v2), .val (.int v18), .val (.int v19), .val (.long v50), .second, .unset] [])) t → Steps p.tables e below (T1.setTop (mkF m 173 #[.val (.ref a1), .val (.int p2), .val (.int p3), .val (.int v2), .val (.int v18), .val (.int v19), .val (.long v44), .second, .unset] [(.int (3 : Int32)), (.int v18)])) t := by
    intro t k
    by_cases c173_52 : v18 < (3 : Int32)
    · skip
      refine XS.icmpYes X1.here hx rfl (pc0 := 173) (pc' := 194) rfl (hb hby d5_173) rfl (tlt c173_52).1 (by decide) (by decide) ?_
      show Steps p.tables e below (T1.setTop (mkF m 194 #[.val (.ref a1), .val (.int p2), .val (.int p3), .val (.int v2), .val (.int v18), .val (.int v19), .val (.long v44), .second, .unset] [])) t
      have q_v50 : v50 = v44 := by rw [hv_v50, if_pos c173_52]
      rw [q_v50] at k
      exact k
    · skip
      refine XS.icmpNo X1.here hx rfl (hb hby d5_173) rfl (flt c173_52).1 ?_
      show Steps p.tables e below (T1.setTop (mkF m 176 #[.val (.ref a1), .val (.int p2), .val (.int p3), .val (.int v2), .val (.int v18), .val (.int v19), .val (.long v44), .second, .unset] [])) t
      refine XS.lload X1.here hx rfl (hb hby d5_176) rfl  ?_
      show Steps p.tables e below (T1.setTop (mkF m 178 #[.val (.ref a1), .val (.int p2), .val (.int p3), .val (.int v2), .val (.int v18), .val (.int v19), .val (.long v44), .second, .unset] [(.long v44)])) t
      refine XS.aloadN X1.here hx rfl (hb hby d5_178) rfl rfl  ?_
      show Steps p.tables e below (T1.setTop (mkF m 179 #[.val (.ref a1), .val (.int p2), .val (.int p3), .val (.int v2), .val (.int v18), .val (.int v19), .val (.long v44), .second, .unset] [(.ref a1), (.long v44)])) t
      refine XS.iloadN X1.here hx rfl (hb hby d5_179) rfl  ?_
      show Steps p.tables e below (T1.setTop (mkF m 180 #[.val (.ref a1), .val (.int p2), .val (.int p3), .val (.int v2), .val (.int v18), .val (.int v19), .val (.long v44), .second, .unset] [(.int p2), (.ref a1), (.long v44)])) t
      refine XS.iconst X1.here hx rfl (hb hby d5_180) ?_
      show Steps p.tables e below (T1.setTop (mkF m 181 #[.val (.ref a1), .val (.int p2), .val (.int p3), .val (.int v2), .val (.int v18), .val (.int v19), .val (.long v44), .second, .unset] [(.int (2 : Int32)), (.int p2), (.ref a1), (.long v44)])) t
      refine XS.iadd X1.here hx rfl (hb hby d5_181) rfl ?_
      show Steps p.tables e below (T1.setTop (mkF m 182 #[.val (.ref a1), .val (.int p2), .val (.int p3), .val (.int v2), .val (.int v18), .val (.int v19), .val (.long v44), .second, .unset] [(.int (p2 + (2 : Int32))), (.ref a1), (.long v44)])) t
      have z0 := own_cm hcm c173_52
      rw [← hv_v2] at z0
      have hix : ¬ (p2 + (2 : Int32)) < 0 ∧ (p2 + (2 : Int32)) < (16 : Int32) := have z := own_ix (2 : Int32) (3 : Int32) g0 g1 h8 (by decide) (by decide) (by decide) z0; ⟨z.1, z.2.1⟩
      have hin_182 := hix
      have hat_182 := hU (p2 + (2 : Int32)) hix.1 hix.2
      obtain ⟨cl53, Ar53, Qk53, Sz53, Nn53, Hh53, Gg53⟩ := id V_a1
      have hin53 : ¬ ((p2 + (2 : Int32)) < 0 ∨ cl53.slots.size ≤ ((p2 + (2 : Int32))).toNatClampNeg) := inb_of Sz53 hin_182
      refine X1.iaload hx (j := (p2 + (2 : Int32))) (v := (.int (uF (p2 + (2 : Int32))))) (by rw [e1]; exact Ar53.1) (State.isArrayOf_alike hZ.alike Ar53.2.1) Ar53.2.2 hin53 (Hh53.at hin53 hat_182) (g := (mkF m 182 #[.val (.ref a1), .val (.int p2), .val (.int p3), .val (.int v2), .val (.int v18), .val (.int v19), .val (.long v44), .second, .unset] [(.int (p2 + (2 : Int32))), (.ref a1), (.long v44)])) rfl rfl (hb hby d5_182) _ ?_
      show Steps p.tables e below (T1.setTop (mkF m 183 #[.val (.ref a1), .val (.int p2), .val (.int p3), .val (.int v2), .val (.int v18), .val (.int v19), .val (.long v44), .second, .unset] [(.int (uF (p2 + (2 : Int32)))), (.long v44)])) t
      refine XS.bipush X1.here hx rfl (hb hby d5_183) ?_
      show Steps p.tables e below (T1.setTop (mkF m 185 #[.val (.ref a1), .val (.int p2), .val (.int p3), .val (.int v2), .val (.int v18), .val (.int v19), .val (.long v44), .second, .unset] [(.int (127 : Int32)), (.int (uF (p2 + (2 : Int32)))), (.long v44)])) t
      refine XS.iand X1.here hx rfl (hb hby d5_185) rfl ?_
      show Steps p.tables e below (T1.setTop (mkF m 186 #[.val (.ref a1), .val (.int p2), .val (.int p3), .val (.int v2), .val (.int v18), .val (.int v19), .val (.long v44), .second, .unset] [(.int ((uF (p2 + (2 : Int32))) &&& (127 : Int32))), (.long v44)])) t
      refine XS.i2l X1.here hx rfl (hb hby d5_186) rfl ?_
      show Steps p.tables e below (T1.setTop (mkF m 187 #[.val (.ref a1), .val (.int p2), .val (.int p3), .val (.int v2), .val (.int v18), .val (.int v19), .val (.long v44), .second, .unset] [(.long ((uF (p2 + (2 : Int32))) &&& (127 : Int32)).toInt64), (.long v44)])) t
      refine X1.ldc2Long hx hown (mvT hZ (hw _ (List.mem_of_getElem? (i := 37) rfl))) (g := (mkF m 187 #[.val (.ref a1), .val (.int p2), .val (.int p3), .val (.int v2), .val (.int v18), .val (.int v19), .val (.long v44), .second, .unset] [(.long ((uF (p2 + (2 : Int32))) &&& (127 : Int32)).toInt64), (.long v44)])) rfl (hb hby d5_187) _ ?_
      show Steps p.tables e below (T1.setTop (mkF m 190 #[.val (.ref a1), .val (.int p2), .val (.int p3), .val (.int v2), .val (.int v18), .val (.int v19), .val (.long v44), .second, .unset] [(.long (16384 : Int64)), (.long ((uF (p2 + (2 : Int32))) &&& (127 : Int32)).toInt64), (.long v44)])) t
      refine XS.lmul X1.here hx rfl (hb hby d5_190) rfl ?_
      show Steps p.tables e below (T1.setTop (mkF m 191 #[.val (.ref a1), .val (.int p2), .val (.int p3), .val (.int v2), .val (.int v18), .val (.int v19), .val (.long v44), .second, .unset] [(.long (((uF (p2 + (2 : Int32))) &&& (127 : Int32)).toInt64 * (16384 : Int64))), (.long v44)])) t
      refine XS.ladd X1.here hx rfl (hb hby d5_191) rfl ?_
      show Steps p.tables e below (T1.setTop (mkF m 192 #[.val (.ref a1), .val (.int p2), .val (.int p3), .val (.int v2), .val (.int v18), .val (.int v19), .val (.long v44), .second, .unset] [(.long (v44 + (((uF (p2 + (2 : Int32))) &&& (127 : Int32)).toInt64 * (16384 : Int64))))])) t
      refine XS.lstore X1.here hx rfl (hb hby d5_192) rfl (l' := #[.val (.ref a1), .val (.int p2), .val (.int p3), .val (.int v2), .val (.int v18), .val (.int v19), .val (.long (v44 + (((uF (p2 + (2 : Int32))) &&& (127 : Int32)).toInt64 * (16384 : Int64)))), .second, .unset]) rfl ?_
      show Steps p.tables e below (T1.setTop (mkF m 194 #[.val (.ref a1), .val (.int p2), .val (.int p3), .val (.int v2), .val (.int v18), .val (.int v19), .val (.long (v44 + (((uF (p2 + (2 : Int32))) &&& (127 : Int32)).toInt64 * (16384 : Int64)))), .second, .unset] [])) t
      have q_v50 : v50 = (v44 + (((uF (p2 + (2 : Int32))) &&& (127 : Int32)).toInt64 * (16384 : Int64))) := by rw [hv_v50, if_neg c173_52]
      rw [q_v50] at k
      exact k
  refine OutW.back j51 ?_
  show OutW _ _ _ _ _ _ _ (T1.setTop (mkF m 194 #[.val (.ref a1), .val (.int p2), .val (.int p3), .val (.int v2), .val (.int v18), .val (.int v19), .val (.long v50), .second, .unset] []))
  refine OutW.back (fun t k => XS.iload X1.here hx rfl (hb hby d5_194) rfl  k) ?_
  show OutW _ _ _ _ _ _ _ (T1.setTop (mkF m 196 #[.val (.ref a1), .val (.int p2), .val (.int p3), .val (.int v2), .val (.int v18), .val (.int v19), .val (.long v50), .second, .unset] [(.int v18)]))
  refine OutW.back (fun t k => XS.iconst X1.here hx rfl (hb hby d5_196) k) ?_
  show OutW _ _ _ _ _ _ _ (T1.setTop (mkF m 197 #[.val (.ref a1), .val (.int p2), .val (.int p3), .val (.int v2), .val (.int v18), .val (.int v19), .val (.long v50), .second, .unset] [(.int (4 : Int32)), (.int v18)]))
  obtain ⟨v56, hv_v56⟩ : ∃ z : Int64, z = (if v18 < (4 : Int32) then v50 else (v50 + (((uF (p2 + (3 : Int32))) &&& (127 : Int32)).toInt64 * (2097152 : Int64)))) := ⟨_, rfl⟩
  have j57 : ∀ t, Steps p.tables e below (T1.setTop (mkF m 218 #[.val (.ref a1), .val (.int p2), .val (.int p3), .val (.int v2), .val (.int v18), .val (.int v19), .val (.long v56), .second, .unset] [])) t → Steps p.tables e below (T1.setTop (mkF m 197 #[.val (.ref a1), .val (.int p2), .val (.int p3), .val (.int v2), .val (.int v18), .val (.int v19), .val (.long v50), .second, .unset] [(.int (4 : Int32)), (.int v18)])) t := by
    intro t k
    by_cases c197_58 : v18 < (4 : Int32)
    · skip
      refine XS.icmpYes X1.here hx rfl (pc0 := 197) (pc' := 218) rfl (hb hby d5_197) rfl (tlt c197_58).1 (by decide) (by decide) ?_
      show Steps p.tables e below (T1.setTop (mkF m 218 #[.val (.ref a1), .val (.int p2), .val (.int p3), .val (.int v2), .val (.int v18), .val (.int v19), .val (.long v50), .second, .unset] [])) t
      have q_v56 : v56 = v50 := by rw [hv_v56, if_pos c197_58]
      rw [q_v56] at k
      exact k
    · skip
      refine XS.icmpNo X1.here hx rfl (hb hby d5_197) rfl (flt c197_58).1 ?_
      show Steps p.tables e below (T1.setTop (mkF m 200 #[.val (.ref a1), .val (.int p2), .val (.int p3), .val (.int v2), .val (.int v18), .val (.int v19), .val (.long v50), .second, .unset] [])) t
      refine XS.lload X1.here hx rfl (hb hby d5_200) rfl  ?_
      show Steps p.tables e below (T1.setTop (mkF m 202 #[.val (.ref a1), .val (.int p2), .val (.int p3), .val (.int v2), .val (.int v18), .val (.int v19), .val (.long v50), .second, .unset] [(.long v50)])) t
      refine XS.aloadN X1.here hx rfl (hb hby d5_202) rfl rfl  ?_
      show Steps p.tables e below (T1.setTop (mkF m 203 #[.val (.ref a1), .val (.int p2), .val (.int p3), .val (.int v2), .val (.int v18), .val (.int v19), .val (.long v50), .second, .unset] [(.ref a1), (.long v50)])) t
      refine XS.iloadN X1.here hx rfl (hb hby d5_203) rfl  ?_
      show Steps p.tables e below (T1.setTop (mkF m 204 #[.val (.ref a1), .val (.int p2), .val (.int p3), .val (.int v2), .val (.int v18), .val (.int v19), .val (.long v50), .second, .unset] [(.int p2), (.ref a1), (.long v50)])) t
      refine XS.iconst X1.here hx rfl (hb hby d5_204) ?_
      show Steps p.tables e below (T1.setTop (mkF m 205 #[.val (.ref a1), .val (.int p2), .val (.int p3), .val (.int v2), .val (.int v18), .val (.int v19), .val (.long v50), .second, .unset] [(.int (3 : Int32)), (.int p2), (.ref a1), (.long v50)])) t
      refine XS.iadd X1.here hx rfl (hb hby d5_205) rfl ?_
      show Steps p.tables e below (T1.setTop (mkF m 206 #[.val (.ref a1), .val (.int p2), .val (.int p3), .val (.int v2), .val (.int v18), .val (.int v19), .val (.long v50), .second, .unset] [(.int (p2 + (3 : Int32))), (.ref a1), (.long v50)])) t
      have z0 := own_cm hcm c197_58
      rw [← hv_v2] at z0
      have hix : ¬ (p2 + (3 : Int32)) < 0 ∧ (p2 + (3 : Int32)) < (16 : Int32) := have z := own_ix (3 : Int32) (4 : Int32) g0 g1 h8 (by decide) (by decide) (by decide) z0; ⟨z.1, z.2.1⟩
      have hin_206 := hix
      have hat_206 := hU (p2 + (3 : Int32)) hix.1 hix.2
      obtain ⟨cl59, Ar59, Qk59, Sz59, Nn59, Hh59, Gg59⟩ := id V_a1
      have hin59 : ¬ ((p2 + (3 : Int32)) < 0 ∨ cl59.slots.size ≤ ((p2 + (3 : Int32))).toNatClampNeg) := inb_of Sz59 hin_206
      refine X1.iaload hx (j := (p2 + (3 : Int32))) (v := (.int (uF (p2 + (3 : Int32))))) (by rw [e1]; exact Ar59.1) (State.isArrayOf_alike hZ.alike Ar59.2.1) Ar59.2.2 hin59 (Hh59.at hin59 hat_206) (g := (mkF m 206 #[.val (.ref a1), .val (.int p2), .val (.int p3), .val (.int v2), .val (.int v18), .val (.int v19), .val (.long v50), .second, .unset] [(.int (p2 + (3 : Int32))), (.ref a1), (.long v50)])) rfl rfl (hb hby d5_206) _ ?_
      show Steps p.tables e below (T1.setTop (mkF m 207 #[.val (.ref a1), .val (.int p2), .val (.int p3), .val (.int v2), .val (.int v18), .val (.int v19), .val (.long v50), .second, .unset] [(.int (uF (p2 + (3 : Int32)))), (.long v50)])) t
      refine XS.bipush X1.here hx rfl (hb hby d5_207) ?_
      show Steps p.tables e below (T1.setTop (mkF m 209 #[.val (.ref a1), .val (.int p2), .val (.int p3), .val (.int v2), .val (.int v18), .val (.int v19), .val (.long v50), .second, .unset] [(.int (127 : Int32)), (.int (uF (p2 + (3 : Int32)))), (.long v50)])) t
      refine XS.iand X1.here hx rfl (hb hby d5_209) rfl ?_
      show Steps p.tables e below (T1.setTop (mkF m 210 #[.val (.ref a1), .val (.int p2), .val (.int p3), .val (.int v2), .val (.int v18), .val (.int v19), .val (.long v50), .second, .unset] [(.int ((uF (p2 + (3 : Int32))) &&& (127 : Int32))), (.long v50)])) t
      refine XS.i2l X1.here hx rfl (hb hby d5_210) rfl ?_
      show Steps p.tables e below (T1.setTop (mkF m 211 #[.val (.ref a1), .val (.int p2), .val (.int p3), .val (.int v2), .val (.int v18), .val (.int v19), .val (.long v50), .second, .unset] [(.long ((uF (p2 + (3 : Int32))) &&& (127 : Int32)).toInt64), (.long v50)])) t
      refine X1.ldc2Long hx hown (mvT hZ (hw _ (List.mem_of_getElem? (i := 38) rfl))) (g := (mkF m 211 #[.val (.ref a1), .val (.int p2), .val (.int p3), .val (.int v2), .val (.int v18), .val (.int v19), .val (.long v50), .second, .unset] [(.long ((uF (p2 + (3 : Int32))) &&& (127 : Int32)).toInt64), (.long v50)])) rfl (hb hby d5_211) _ ?_
      show Steps p.tables e below (T1.setTop (mkF m 214 #[.val (.ref a1), .val (.int p2), .val (.int p3), .val (.int v2), .val (.int v18), .val (.int v19), .val (.long v50), .second, .unset] [(.long (2097152 : Int64)), (.long ((uF (p2 + (3 : Int32))) &&& (127 : Int32)).toInt64), (.long v50)])) t
      refine XS.lmul X1.here hx rfl (hb hby d5_214) rfl ?_
      show Steps p.tables e below (T1.setTop (mkF m 215 #[.val (.ref a1), .val (.int p2), .val (.int p3), .val (.int v2), .val (.int v18), .val (.int v19), .val (.long v50), .second, .unset] [(.long (((uF (p2 + (3 : Int32))) &&& (127 : Int32)).toInt64 * (2097152 : Int64))), (.long v50)])) t
      refine XS.ladd X1.here hx rfl (hb hby d5_215) rfl ?_
      show Steps p.tables e below (T1.setTop (mkF m 216 #[.val (.ref a1), .val (.int p2), .val (.int p3), .val (.int v2), .val (.int v18), .val (.int v19), .val (.long v50), .second, .unset] [(.long (v50 + (((uF (p2 + (3 : Int32))) &&& (127 : Int32)).toInt64 * (2097152 : Int64))))])) t
      refine XS.lstore X1.here hx rfl (hb hby d5_216) rfl (l' := #[.val (.ref a1), .val (.int p2), .val (.int p3), .val (.int v2), .val (.int v18), .val (.int v19), .val (.long (v50 + (((uF (p2 + (3 : Int32))) &&& (127 : Int32)).toInt64 * (2097152 : Int64)))), .second, .unset]) rfl ?_
      show Steps p.tables e below (T1.setTop (mkF m 218 #[.val (.ref a1), .val (.int p2), .val (.int p3), .val (.int v2), .val (.int v18), .val (.int v19), .val (.long (v50 + (((uF (p2 + (3 : Int32))) &&& (127 : Int32)).toInt64 * (2097152 : Int64)))), .second, .unset] [])) t
      have q_v56 : v56 = (v50 + (((uF (p2 + (3 : Int32))) &&& (127 : Int32)).toInt64 * (2097152 : Int64))) := by rw [hv_v56, if_neg c197_58]
      rw [q_v56] at k
      exact k
  refine OutW.back j57 ?_
  show OutW _ _ _ _ _ _ _ (T1.setTop (mkF m 218 #[.val (.ref a1), .val (.int p2), .val (.int p3), .val (.int v2), .val (.int v18), .val (.int v19), .val (.long v56), .second, .unset] []))
  refine OutW.back (fun t k => XS.iload X1.here hx rfl (hb hby d5_218) rfl  k) ?_
  show OutW _ _ _ _ _ _ _ (T1.setTop (mkF m 220 #[.val (.ref a1), .val (.int p2), .val (.int p3), .val (.int v2), .val (.int v18), .val (.int v19), .val (.long v56), .second, .unset] [(.int v18)]))
  refine OutW.back (fun t k => XS.iconst X1.here hx rfl (hb hby d5_220) k) ?_
  show OutW _ _ _ _ _ _ _ (T1.setTop (mkF m 221 #[.val (.ref a1), .val (.int p2), .val (.int p3), .val (.int v2), .val (.int v18), .val (.int v19), .val (.long v56), .second, .unset] [(.int (5 : Int32)), (.int v18)]))
  obtain ⟨v62, hv_v62⟩ : ∃ z : Int64, z = (if v18 < (5 : Int32) then v56 else (v56 + (((uF (p2 + (4 : Int32))) &&& (127 : Int32)).toInt64 * (268435456 : Int64)))) := ⟨_, rfl⟩
  have j63 : ∀ t, Steps p.tables e below (T1.setTop (mkF m 242 #[.val (.ref a1), .val (.int p2), .val (.int p3), .val (.int v2), .val (.int v18), .val (.int v19), .val (.long v62), .second, .unset] [])) t → Steps p.tables e below (T1.setTop (mkF m 221 #[.val (.ref a1), .val (.int p2), .val (.int p3), .val (.int v2), .val (.int v18), .val (.int v19), .val (.long v56), .second, .unset] [(.int (5 : Int32)), (.int v18)])) t := by
    intro t k
    by_cases c221_64 : v18 < (5 : Int32)
    · skip
      refine XS.icmpYes X1.here hx rfl (pc0 := 221) (pc' := 242) rfl (hb hby d5_221) rfl (tlt c221_64).1 (by decide) (by decide) ?_
      show Steps p.tables e below (T1.setTop (mkF m 242 #[.val (.ref a1), .val (.int p2), .val (.int p3), .val (.int v2), .val (.int v18), .val (.int v19), .val (.long v56), .second, .unset] [])) t
      have q_v62 : v62 = v56 := by rw [hv_v62, if_pos c221_64]
      rw [q_v62] at k
      exact k
    · skip
      refine XS.icmpNo X1.here hx rfl (hb hby d5_221) rfl (flt c221_64).1 ?_
      show Steps p.tables e below (T1.setTop (mkF m 224 #[.val (.ref a1), .val (.int p2), .val (.int p3), .val (.int v2), .val (.int v18), .val (.int v19), .val (.long v56), .second, .unset] [])) t
      refine XS.lload X1.here hx rfl (hb hby d5_224) rfl  ?_
      show Steps p.tables e below (T1.setTop (mkF m 226 #[.val (.ref a1), .val (.int p2), .val (.int p3), .val (.int v2), .val (.int v18), .val (.int v19), .val (.long v56), .second, .unset] [(.long v56)])) t
      refine XS.aloadN X1.here hx rfl (hb hby d5_226) rfl rfl  ?_
      show Steps p.tables e below (T1.setTop (mkF m 227 #[.val (.ref a1), .val (.int p2), .val (.int p3), .val (.int v2), .val (.int v18), .val (.int v19), .val (.long v56), .second, .unset] [(.ref a1), (.long v56)])) t
      refine XS.iloadN X1.here hx rfl (hb hby d5_227) rfl  ?_
      show Steps p.tables e below (T1.setTop (mkF m 228 #[.val (.ref a1), .val (.int p2), .val (.int p3), .val (.int v2), .val (.int v18), .val (.int v19), .val (.long v56), .second, .unset] [(.int p2), (.ref a1), (.long v56)])) t
      refine XS.iconst X1.here hx rfl (hb hby d5_228) ?_
      show Steps p.tables e below (T1.setTop (mkF m 229 #[.val (.ref a1), .val (.int p2), .val (.int p3), .val (.int v2), .val (.int v18), .val (.int v19), .val (.long v56), .second, .unset] [(.int (4 : Int32)), (.int p2), (.ref a1), (.long v56)])) t
      refine XS.iadd X1.here hx rfl (hb hby d5_229) rfl ?_
      show Steps p.tables e below (T1.setTop (mkF m 230 #[.val (.ref a1), .val (.int p2), .val (.int p3), .val (.int v2), .val (.int v18), .val (.int v19), .val (.long v56), .second, .unset] [(.int (p2 + (4 : Int32))), (.ref a1), (.long v56)])) t
      have z0 := own_cm hcm c221_64
      rw [← hv_v2] at z0
      have hix : ¬ (p2 + (4 : Int32)) < 0 ∧ (p2 + (4 : Int32)) < (16 : Int32) := have z := own_ix (4 : Int32) (5 : Int32) g0 g1 h8 (by decide) (by decide) (by decide) z0; ⟨z.1, z.2.1⟩
      have hin_230 := hix
      have hat_230 := hU (p2 + (4 : Int32)) hix.1 hix.2
      obtain ⟨cl65, Ar65, Qk65, Sz65, Nn65, Hh65, Gg65⟩ := id V_a1
      have hin65 : ¬ ((p2 + (4 : Int32)) < 0 ∨ cl65.slots.size ≤ ((p2 + (4 : Int32))).toNatClampNeg) := inb_of Sz65 hin_230
      refine X1.iaload hx (j := (p2 + (4 : Int32))) (v := (.int (uF (p2 + (4 : Int32))))) (by rw [e1]; exact Ar65.1) (State.isArrayOf_alike hZ.alike Ar65.2.1) Ar65.2.2 hin65 (Hh65.at hin65 hat_230) (g := (mkF m 230 #[.val (.ref a1), .val (.int p2), .val (.int p3), .val (.int v2), .val (.int v18), .val (.int v19), .val (.long v56), .second, .unset] [(.int (p2 + (4 : Int32))), (.ref a1), (.long v56)])) rfl rfl (hb hby d5_230) _ ?_
      show Steps p.tables e below (T1.setTop (mkF m 231 #[.val (.ref a1), .val (.int p2), .val (.int p3), .val (.int v2), .val (.int v18), .val (.int v19), .val (.long v56), .second, .unset] [(.int (uF (p2 + (4 : Int32)))), (.long v56)])) t
      refine XS.bipush X1.here hx rfl (hb hby d5_231) ?_
      show Steps p.tables e below (T1.setTop (mkF m 233 #[.val (.ref a1), .val (.int p2), .val (.int p3), .val (.int v2), .val (.int v18), .val (.int v19), .val (.long v56), .second, .unset] [(.int (127 : Int32)), (.int (uF (p2 + (4 : Int32)))), (.long v56)])) t
      refine XS.iand X1.here hx rfl (hb hby d5_233) rfl ?_
      show Steps p.tables e below (T1.setTop (mkF m 234 #[.val (.ref a1), .val (.int p2), .val (.int p3), .val (.int v2), .val (.int v18), .val (.int v19), .val (.long v56), .second, .unset] [(.int ((uF (p2 + (4 : Int32))) &&& (127 : Int32))), (.long v56)])) t
      refine XS.i2l X1.here hx rfl (hb hby d5_234) rfl ?_
      show Steps p.tables e below (T1.setTop (mkF m 235 #[.val (.ref a1), .val (.int p2), .val (.int p3), .val (.int v2), .val (.int v18), .val (.int v19), .val (.long v56), .second, .unset] [(.long ((uF (p2 + (4 : Int32))) &&& (127 : Int32)).toInt64), (.long v56)])) t
      refine X1.ldc2Long hx hown (mvT hZ (hw _ (List.mem_of_getElem? (i := 39) rfl))) (g := (mkF m 235 #[.val (.ref a1), .val (.int p2), .val (.int p3), .val (.int v2), .val (.int v18), .val (.int v19), .val (.long v56), .second, .unset] [(.long ((uF (p2 + (4 : Int32))) &&& (127 : Int32)).toInt64), (.long v56)])) rfl (hb hby d5_235) _ ?_
      show Steps p.tables e below (T1.setTop (mkF m 238 #[.val (.ref a1), .val (.int p2), .val (.int p3), .val (.int v2), .val (.int v18), .val (.int v19), .val (.long v56), .second, .unset] [(.long (268435456 : Int64)), (.long ((uF (p2 + (4 : Int32))) &&& (127 : Int32)).toInt64), (.long v56)])) t
      refine XS.lmul X1.here hx rfl (hb hby d5_238) rfl ?_
      show Steps p.tables e below (T1.setTop (mkF m 239 #[.val (.ref a1), .val (.int p2), .val (.int p3), .val (.int v2), .val (.int v18), .val (.int v19), .val (.long v56), .second, .unset] [(.long (((uF (p2 + (4 : Int32))) &&& (127 : Int32)).toInt64 * (268435456 : Int64))), (.long v56)])) t
      refine XS.ladd X1.here hx rfl (hb hby d5_239) rfl ?_
      show Steps p.tables e below (T1.setTop (mkF m 240 #[.val (.ref a1), .val (.int p2), .val (.int p3), .val (.int v2), .val (.int v18), .val (.int v19), .val (.long v56), .second, .unset] [(.long (v56 + (((uF (p2 + (4 : Int32))) &&& (127 : Int32)).toInt64 * (268435456 : Int64))))])) t
      refine XS.lstore X1.here hx rfl (hb hby d5_240) rfl (l' := #[.val (.ref a1), .val (.int p2), .val (.int p3), .val (.int v2), .val (.int v18), .val (.int v19), .val (.long (v56 + (((uF (p2 + (4 : Int32))) &&& (127 : Int32)).toInt64 * (268435456 : Int64)))), .second, .unset]) rfl ?_
      show Steps p.tables e below (T1.setTop (mkF m 242 #[.val (.ref a1), .val (.int p2), .val (.int p3), .val (.int v2), .val (.int v18), .val (.int v19), .val (.long (v56 + (((uF (p2 + (4 : Int32))) &&& (127 : Int32)).toInt64 * (268435456 : Int64)))), .second, .unset] [])) t
      have q_v62 : v62 = (v56 + (((uF (p2 + (4 : Int32))) &&& (127 : Int32)).toInt64 * (268435456 : Int64))) := by rw [hv_v62, if_neg c221_64]
      rw [q_v62] at k
      exact k
  refine OutW.back j63 ?_
  show OutW _ _ _ _ _ _ _ (T1.setTop (mkF m 242 #[.val (.ref a1), .val (.int p2), .val (.int p3), .val (.int v2), .val (.int v18), .val (.int v19), .val (.long v62), .second, .unset] []))
  refine OutW.back (fun t k => XS.iload X1.here hx rfl (hb hby d5_242) rfl  k) ?_
  show OutW _ _ _ _ _ _ _ (T1.setTop (mkF m 244 #[.val (.ref a1), .val (.int p2), .val (.int p3), .val (.int v2), .val (.int v18), .val (.int v19), .val (.long v62), .second, .unset] [(.int v19)]))
  obtain ⟨v68, hv_v68⟩ : ∃ z : Int32, z = (if v19 = (0 : Int32) then (-1 : Int32) else (if (2147483647 : Int64) < v62 then (-1 : Int32) else v62.toInt32)) := ⟨_, rfl⟩
  have j69 : ∀ t, Steps p.tables e below (T1.setTop (mkF m 263 #[.val (.ref a1), .val (.int p2), .val (.int p3), .val (.int v2), .val (.int v18), .val (.int v19), .val (.long v62), .second, .unset] [(.int v68)])) t → Steps p.tables e below (T1.setTop (mkF m 244 #[.val (.ref a1), .val (.int p2), .val (.int p3), .val (.int v2), .val (.int v18), .val (.int v19), .val (.long v62), .second, .unset] [(.int v19)])) t := by
    intro t k
    by_cases c244_70 : v19 = (0 : Int32)
    · skip
      refine XS.ifYes X1.here hx rfl (pc0 := 244) (pc' := 262) rfl (hb hby d5_244) rfl ((if0 _ _).trans (teq c244_70).1) (by decide) (by decide) ?_
      show Steps p.tables e below (T1.setTop (mkF m 262 #[.val (.ref a1), .val (.int p2), .val (.int p3), .val (.int v2), .val (.int v18), .val (.int v19), .val (.long v62), .second, .unset] [])) t
      refine XS.iconst X1.here hx rfl (hb hby d5_262) ?_
      show Steps p.tables e below (T1.setTop (mkF m 263 #[.val (.ref a1), .val (.int p2), .val (.int p3), .val (.int v2), .val (.int v18), .val (.int v19), .val (.long v62), .second, .unset] [(.int (-1 : Int32))])) t
      have q_v68 : v68 = (-1 : Int32) := by rw [hv_v68, if_pos c244_70]
      rw [q_v68] at k
      exact k
    · skip
      refine XS.ifNo X1.here hx rfl (hb hby d5_244) rfl ((if0 _ _).trans (feq c244_70).1) ?_
      show Steps p.tables e below (T1.setTop (mkF m 247 #[.val (.ref a1), .val (.int p2), .val (.int p3), .val (.int v2), .val (.int v18), .val (.int v19), .val (.long v62), .second, .unset] [])) t
      refine XS.lload X1.here hx rfl (hb hby d5_247) rfl  ?_
      show Steps p.tables e below (T1.setTop (mkF m 249 #[.val (.ref a1), .val (.int p2), .val (.int p3), .val (.int v2), .val (.int v18), .val (.int v19), .val (.long v62), .second, .unset] [(.long v62)])) t
      refine X1.ldc2Long hx hown (mvT hZ (hw _ (List.mem_of_getElem? (i := 35) rfl))) (g := (mkF m 249 #[.val (.ref a1), .val (.int p2), .val (.int p3), .val (.int v2), .val (.int v18), .val (.int v19), .val (.long v62), .second, .unset] [(.long v62)])) rfl (hb hby d5_249) _ ?_
      show Steps p.tables e below (T1.setTop (mkF m 252 #[.val (.ref a1), .val (.int p2), .val (.int p3), .val (.int v2), .val (.int v18), .val (.int v19), .val (.long v62), .second, .unset] [(.long (2147483647 : Int64)), (.long v62)])) t
      refine XS.lcmp X1.here hx rfl (hb hby d5_252) rfl ?_
      show Steps p.tables e below (T1.setTop (mkF m 253 #[.val (.ref a1), .val (.int p2), .val (.int p3), .val (.int v2), .val (.int v18), .val (.int v19), .val (.long v62), .second, .unset] [(.int (lcmpW v62 (2147483647 : Int64)))])) t
      by_cases c253_71 : (2147483647 : Int64) < v62
      · skip
        refine XS.ifYes X1.here hx rfl (pc0 := 253) (pc' := 262) rfl (hb hby d5_253) rfl ((if0 _ _).trans (tlt ((lw_gt _ _).mpr c253_71)).2.2.1) (by decide) (by decide) ?_
        show Steps p.tables e below (T1.setTop (mkF m 262 #[.val (.ref a1), .val (.int p2), .val (.int p3), .val (.int v2), .val (.int v18), .val (.int v19), .val (.long v62), .second, .unset] [])) t
        refine XS.iconst X1.here hx rfl (hb hby d5_262) ?_
        show Steps p.tables e below (T1.setTop (mkF m 263 #[.val (.ref a1), .val (.int p2), .val (.int p3), .val (.int v2), .val (.int v18), .val (.int v19), .val (.long v62), .second, .unset] [(.int (-1 : Int32))])) t
        have q_v68 : v68 = (-1 : Int32) := by rw [hv_v68, if_neg c244_70, if_pos c253_71]
        rw [q_v68] at k
        exact k
      · skip
        refine XS.ifNo X1.here hx rfl (hb hby d5_253) rfl ((if0 _ _).trans (flt (fun q => c253_71 ((lw_gt _ _).mp q))).2.2.1) ?_
        show Steps p.tables e below (T1.setTop (mkF m 256 #[.val (.ref a1), .val (.int p2), .val (.int p3), .val (.int v2), .val (.int v18), .val (.int v19), .val (.long v62), .second, .unset] [])) t
        refine XS.lload X1.here hx rfl (hb hby d5_256) rfl  ?_
        show Steps p.tables e below (T1.setTop (mkF m 258 #[.val (.ref a1), .val (.int p2), .val (.int p3), .val (.int v2), .val (.int v18), .val (.int v19), .val (.long v62), .second, .unset] [(.long v62)])) t
        refine XS.l2i X1.here hx rfl (hb hby d5_258) rfl ?_
        show Steps p.tables e below (T1.setTop (mkF m 259 #[.val (.ref a1), .val (.int p2), .val (.int p3), .val (.int v2), .val (.int v18), .val (.int v19), .val (.long v62), .second, .unset] [(.int v62.toInt32)])) t
        refine XS.goto X1.here hx rfl (pc0 := 259) (pc' := 263) rfl (hb hby d5_259) (by decide) (by decide) ?_
        show Steps p.tables e below (T1.setTop (mkF m 263 #[.val (.ref a1), .val (.int p2), .val (.int p3), .val (.int v2), .val (.int v18), .val (.int v19), .val (.long v62), .second, .unset] [(.int v62.toInt32)])) t
        have q_v68 : v68 = v62.toInt32 := by rw [hv_v68, if_neg c244_70, if_neg c253_71]
        rw [q_v68] at k
        exact k
  refine OutW.back j69 ?_
  show OutW _ _ _ _ _ _ _ (T1.setTop (mkF m 263 #[.val (.ref a1), .val (.int p2), .val (.int p3), .val (.int v2), .val (.int v18), .val (.int v19), .val (.long v62), .second, .unset] [(.int v68)]))
  refine OutW.back (fun t k => XS.istore X1.here hx rfl (hb hby d5_263) rfl (l' := #[.val (.ref a1), .val (.int p2), .val (.int p3), .val (.int v2), .val (.int v18), .val (.int v19), .val (.long v62), .second, .val (.int v68)]) rfl k) ?_
  show OutW _ _ _ _ _ _ _ (T1.setTop (mkF m 265 #[.val (.ref a1), .val (.int p2), .val (.int p3), .val (.int v2), .val (.int v18), .val (.int v19), .val (.long v62), .second, .val (.int v68)] []))
  refine OutW.back (fun t k => XS.iload X1.here hx rfl (hb hby d5_265) rfl  k) ?_
  show OutW _ _ _ _ _ _ _ (T1.setTop (mkF m 267 #[.val (.ref a1), .val (.int p2), .val (.int p3), .val (.int v2), .val (.int v18), .val (.int v19), .val (.long v62), .second, .val (.int v68)] [(.int v18)]))
  refine OutW.back (fun t k => XS.i2l X1.here hx rfl (hb hby d5_267) rfl k) ?_
  show OutW _ _ _ _ _ _ _ (T1.setTop (mkF m 268 #[.val (.ref a1), .val (.int p2), .val (.int p3), .val (.int v2), .val (.int v18), .val (.int v19), .val (.long v62), .second, .val (.int v68)] [(.long v18.toInt64)]))
  refine OutW.back (fun t k => XS.bipush X1.here hx rfl (hb hby d5_268) k) ?_
  show OutW _ _ _ _ _ _ _ (T1.setTop (mkF m 270 #[.val (.ref a1), .val (.int p2), .val (.int p3), .val (.int v2), .val (.int v18), .val (.int v19), .val (.long v62), .second, .val (.int v68)] [(.int (32 : Int32)), (.long v18.toInt64)]))
  refine OutW.back (fun t k => XS.lshl X1.here hx rfl (hb hby d5_270) rfl k) ?_
  show OutW _ _ _ _ _ _ _ (T1.setTop (mkF m 271 #[.val (.ref a1), .val (.int p2), .val (.int p3), .val (.int v2), .val (.int v18), .val (.int v19), .val (.long v62), .second, .val (.int v68)] [(.long (v18.toInt64 <<< ((32 : Int32) &&& 0x3f).toInt64))]))
  refine OutW.back (fun t k => XS.iload X1.here hx rfl (hb hby d5_271) rfl  k) ?_
  show OutW _ _ _ _ _ _ _ (T1.setTop (mkF m 273 #[.val (.ref a1), .val (.int p2), .val (.int p3), .val (.int v2), .val (.int v18), .val (.int v19), .val (.long v62), .second, .val (.int v68)] [(.int v68), (.long (v18.toInt64 <<< ((32 : Int32) &&& 0x3f).toInt64))]))
  refine OutW.back (fun t k => XS.i2l X1.here hx rfl (hb hby d5_273) rfl k) ?_
  show OutW _ _ _ _ _ _ _ (T1.setTop (mkF m 274 #[.val (.ref a1), .val (.int p2), .val (.int p3), .val (.int v2), .val (.int v18), .val (.int v19), .val (.long v62), .second, .val (.int v68)] [(.long v68.toInt64), (.long (v18.toInt64 <<< ((32 : Int32) &&& 0x3f).toInt64))]))
  refine OutW.back (X1.ldc2Long hx hown (mvT hZ (hw _ (List.mem_of_getElem? (i := 33) rfl))) (g := (mkF m 274 #[.val (.ref a1), .val (.int p2), .val (.int p3), .val (.int v2), .val (.int v18), .val (.int v19), .val (.long v62), .second, .val (.int v68)] [(.long v68.toInt64), (.long (v18.toInt64 <<< ((32 : Int32) &&& 0x3f).toInt64))])) rfl (hb hby d5_274)) ?_
  show OutW _ _ _ _ _ _ _ (T1.setTop (mkF m 277 #[.val (.ref a1), .val (.int p2), .val (.int p3), .val (.int v2), .val (.int v18), .val (.int v19), .val (.long v62), .second, .val (.int v68)] [(.long (4294967295 : Int64)), (.long v68.toInt64), (.long (v18.toInt64 <<< ((32 : Int32) &&& 0x3f).toInt64))]))
  refine OutW.back (fun t k => XS.land X1.here hx rfl (hb hby d5_277) rfl k) ?_
  show OutW _ _ _ _ _ _ _ (T1.setTop (mkF m 278 #[.val (.ref a1), .val (.int p2), .val (.int p3), .val (.int v2), .val (.int v18), .val (.int v19), .val (.long v62), .second, .val (.int v68)] [(.long (v68.toInt64 &&& (4294967295 : Int64))), (.long (v18.toInt64 <<< ((32 : Int32) &&& 0x3f).toInt64))]))
  refine OutW.back (fun t k => XS.lor X1.here hx rfl (hb hby d5_278) rfl k) ?_
  show OutW _ _ _ _ _ _ _ (T1.setTop (mkF m 279 #[.val (.ref a1), .val (.int p2), .val (.int p3), .val (.int v2), .val (.int v18), .val (.int v19), .val (.long v62), .second, .val (.int v68)] [(.long ((v18.toInt64 <<< ((32 : Int32) &&& 0x3f).toInt64) ||| (v68.toInt64 &&& (4294967295 : Int64))))]))
  refine OutW.retJ X1 hx Bd.returns hlk (hb hby d5_279) (by decide) (by decide) ?_
  show Q5 Z a1 p2 p3 vs kk uF h0 n0 _ T1.heap _
  rw [e1]
  have qn := own_new uF p2 p3 v2 v18 v19 v68 v38 v44 v50 v56 v62 hv_v2 hv_v18 hv_v19 hv_v38 hv_v44 hv_v50 hv_v56 hv_v62 hv_v68
  exact ⟨by rw [qn.1, qn.2]; rfl, N1, rfl⟩
def Bn (l : List Int32) (j : Int32) : Int32 := l.getD j.toNatClampNeg 0
theorem own_getD (l : List Int32) (n : Nat) (d : Int32) : (l.map Value.int).getD n (.int d) = .int (l.getD n d) := by
  induction l generalizing n with
  | nil => cases n <;> rfl
  | cons a t ih =>
    cases n with
    | zero => rfl
    | succ n => exact ih n
theorem own_clamp {z q : Int32} (h : ¬ q < z) : z.toNatClampNeg ≤ q.toNatClampNeg := by
  rw [Int32.lt_iff_toInt_lt] at h
  simp only [Int32.toNatClampNeg]
  omega
theorem own_skip {Z : State} {h : Heap} {a : Addr} {k : ClassId} {ty : FieldType} {z : Int32} {vs : List Value} {dv v : Value} {i : Nat} (F : Arv Z h a k ty z vs dv) (hi : z.toNatClampNeg ≤ i) : Arv Z h a k ty z (vs.set i v) dv := by
  obtain ⟨c, A, r1, r2, r3, H, G⟩ := F
  have e : ∀ j, j < c.slots.size → (vs.set i v).getD j dv = vs.getD j dv := fun j hj => by
    have : i ≠ j := by omega
    simp [List.getD, List.getElem?_set_ne this]
  exact ⟨c, A, r1, r2, r3, fun j hj => by rw [e j hj]; exact H j hj, fun j hj => by rw [e j hj]; exact G j hj⟩
theorem own_nine (m v : Int32) (h : ((m &&& (15 : Int32)) % (9 : Int32)) = v) : ¬ v < 0 ∧ ¬ (8 : Int32) < v := by
  have q := c_and m (15 : Int32) (by decide)
  have r := (c_irem (m &&& (15 : Int32)) (9 : Int32) 9 (by decide)).1 q.1
  rw [h] at r
  simp only [Int32.lt_iff_toInt_lt, Int32.reduceToInt] at q ⊢
  omega
theorem own_cap {v : Int32} (h : ¬ (8 : Int32) < v) : v.toNatClampNeg ≤ 8 := own_clamp h
theorem own_bit (x : Int32) : (nar .byte x.toInt8.toInt32 &&& (128 : Int32)) = (x &&& (128 : Int32)) := by
  show (x.toInt8.toInt32.toInt8.toInt32 &&& (128 : Int32)) = _
  have e : (x.toInt8.toInt32.toInt8.toInt32 &&& (255 : Int32)) = (x &&& (255 : Int32)) := by
    apply Int32.toInt_inj.mp
    rw [c_mask _ (255 : Int32) 8 (by decide) (by decide), c_mask _ (255 : Int32) 8 (by decide) (by decide)]
    have a := c_i2b x
    have b := c_i2b x.toInt8.toInt32
    simp only [Nat.reducePow]
    omega
  have k : (128 : Int32) = (255 : Int32) &&& (128 : Int32) := by decide
  rw [k, ← Int32.and_assoc, ← Int32.and_assoc, e]
theorem own_low (x : Int32) : (nar .byte x.toInt8.toInt32 &&& (127 : Int32)) = (x &&& (127 : Int32)) := by
  show (x.toInt8.toInt32.toInt8.toInt32 &&& (127 : Int32)) = _
  apply Int32.toInt_inj.mp
  rw [c_mask _ (127 : Int32) 7 (by decide) (by decide), c_mask _ (127 : Int32) 7 (by decide) (by decide)]
  have a := c_i2b x
  have b := c_i2b x.toInt8.toInt32
  simp only [Nat.reducePow]
  omega
theorem own_hi (x : Int32) (h0 : 0 ≤ x.toInt) (h1 : x.toInt < 256) : ((x &&& (128 : Int32)) = 0) ↔ x < (128 : Int32) := by
  obtain ⟨k, hk⟩ : ∃ k : Fin 256, x = Int32.ofInt ((k.1 : Nat) : Int) := ⟨⟨x.toInt.toNat, by omega⟩, by
    have e : ((x.toInt.toNat : Nat) : Int) = x.toInt := by omega
    show x = Int32.ofInt ((x.toInt.toNat : Nat) : Int)
    rw [e, Int32.ofInt_toInt]⟩
  have t : ∀ k : Fin 256, ((Int32.ofInt ((k.1 : Nat) : Int) &&& (128 : Int32)) = 0) ↔ Int32.ofInt ((k.1 : Nat) : Int) < (128 : Int32) := by decide +kernel
  rw [hk]; exact t k
theorem own_or (acc d : Int64) (q : Int32) (k : Nat) (hq : q.toBitVec.toNat % 64 = k) (hk : k ≤ 28) (P : Int) (hP : P = (2 ^ k : Nat)) (a0 : 0 ≤ acc.toInt) (a1 : acc.toInt < P) (d0 : 0 ≤ d.toInt) (d1 : d.toInt < 128) (hP28 : P ≤ 268435456) : (acc ||| (d <<< (q &&& 0x3f).toInt64)).toInt = acc.toInt + d.toInt * P := by
  have s := c_lshl d q k hq
  rw [← hP] at s
  have P0 : 0 < P := by rw [hP]; exact Int.natCast_pos.mpr (Nat.two_pow_pos k)
  have u : d.toInt * P ≤ 127 * P := Int.mul_le_mul_of_nonneg_right (by omega) (by omega)
  have w : 0 ≤ d.toInt * P := Int.mul_nonneg d0 (by omega)
  have r := rng64 (d <<< (q &&& 0x3f).toInt64)
  have e : (d <<< (q &&& 0x3f).toInt64).toInt = d.toInt * P := by omega
  have o := c_orL' acc (d <<< (q &&& 0x3f).toInt64) k (by omega) P hP (by rw [e]; exact Int.mul_emod_left _ _) a0 a1
  have r2 := rng64 (acc ||| (d <<< (q &&& 0x3f).toInt64))
  rw [e] at o
  omega

theorem own_dig (x : Int32) : 0 ≤ (x &&& (127 : Int32)).toInt64.toInt ∧ (x &&& (127 : Int32)).toInt64.toInt < 128 := by
  have a := c_and x (127 : Int32) (by decide)
  rw [c_i2l]
  simp only [Int32.reduceToInt] at a
  omega
theorem own_add (v d : Int64) (K : Int64) (P : Int) (hK : K.toInt = P) (v0 : 0 ≤ v.toInt) (v1 : v.toInt < 268435456) (d0 : 0 ≤ d.toInt) (d1 : d.toInt < 128) (P0 : 0 ≤ P) (P1 : P ≤ 268435456) : (v + d * K).toInt = v.toInt + d.toInt * P := by
  have m := c_lmul d K
  have a := c_ladd v (d * K)
  rw [hK] at m
  have u : d.toInt * P ≤ 127 * P := Int.mul_le_mul_of_nonneg_right (by omega) P0
  have w : 0 ≤ d.toInt * P := Int.mul_nonneg d0 P0
  have r := rng64 (d * K)
  have r2 := rng64 (v + d * K)
  omega

theorem own_sum0 (x0 : Int32) : ((0 : Int64) ||| (((x0) &&& (127 : Int32)).toInt64 <<< ((0 : Int32) &&& 0x3f).toInt64)) = ((0 : Int64) + ((x0) &&& (127 : Int32)).toInt64) ∧ 0 ≤ (((0 : Int64) + ((x0) &&& (127 : Int32)).toInt64)).toInt ∧ (((0 : Int64) + ((x0) &&& (127 : Int32)).toInt64)).toInt < 128 := by
  have d := own_dig x0
  have o := own_or (0 : Int64) ((x0) &&& (127 : Int32)).toInt64 (0 : Int32) 0 (by decide) (by decide) 1 (by decide) (by decide) (by decide) d.1 d.2 (by decide)
  have a := c_ladd (0 : Int64) ((x0) &&& (127 : Int32)).toInt64
  have z : (0 : Int64).toInt = 0 := by decide
  have r := rng64 ((0 : Int64) + ((x0) &&& (127 : Int32)).toInt64)
  rw [z] at a o
  have e : ((0 : Int64) + ((x0) &&& (127 : Int32)).toInt64).toInt = (((x0) &&& (127 : Int32)).toInt64).toInt := by omega
  exact ⟨Int64.toInt_inj.mp (by rw [o, e]; omega), by omega, by omega⟩
theorem own_sum1 (x0 x1 : Int32) : (((0 : Int64) ||| (((x0) &&& (127 : Int32)).toInt64 <<< ((0 : Int32) &&& 0x3f).toInt64)) ||| (((x1) &&& (127 : Int32)).toInt64 <<< ((7 : Int32) &&& 0x3f).toInt64)) = (((0 : Int64) + ((x0) &&& (127 : Int32)).toInt64) + (((x1) &&& (127 : Int32)).toInt64 * (128 : Int64))) ∧ 0 ≤ ((((0 : Int64) + ((x0) &&& (127 : Int32)).toInt64) + (((x1) &&& (127 : Int32)).toInt64 * (128 : Int64)))).toInt ∧ ((((0 : Int64) + ((x0) &&& (127 : Int32)).toInt64) + (((x1) &&& (127 : Int32)).toInt64 * (128 : Int64)))).toInt < 16384 := by
  have d := own_dig x1
  have p := own_sum0 x0
  have o := own_or ((0 : Int64) + ((x0) &&& (127 : Int32)).toInt64) ((x1) &&& (127 : Int32)).toInt64 (7 : Int32) 7 (by decide) (by decide) 128 (by decide) (by omega) (by omega) d.1 d.2 (by decide)
  have a := own_add ((0 : Int64) + ((x0) &&& (127 : Int32)).toInt64) ((x1) &&& (127 : Int32)).toInt64 (128 : Int64) 128 (by decide) p.2.1 (by omega) d.1 d.2 (by decide) (by decide)
  rw [p.1]
  refine ⟨Int64.toInt_inj.mp (by rw [o, a]), ?_, ?_⟩
  · rw [a]; omega
  · rw [a]; omega
theorem own_sum2 (x0 x1 x2 : Int32) : ((((0 : Int64) ||| (((x0) &&& (127 : Int32)).toInt64 <<< ((0 : Int32) &&& 0x3f).toInt64)) ||| (((x1) &&& (127 : Int32)).toInt64 <<< ((7 : Int32) &&& 0x3f).toInt64)) ||| (((x2) &&& (127 : Int32)).toInt64 <<< ((14 : Int32) &&& 0x3f).toInt64)) = ((((0 : Int64) + ((x0) &&& (127 : Int32)).toInt64) + (((x1) &&& (127 : Int32)).toInt64 * (128 : Int64))) + (((x2) &&& (127 : Int32)).toInt64 * (16384 : Int64))) ∧ 0 ≤ (((((0 : Int64) + ((x0) &&& (127 : Int32)).toInt64) + (((x1) &&& (127 : Int32)).toInt64 * (128 : Int64))) + (((x2) &&& (127 : Int32)).toInt64 * (16384 : Int64)))).toInt ∧ (((((0 : Int64) + ((x0) &&& (127 : Int32)).toInt64) + (((x1) &&& (127 : Int32)).toInt64 * (128 : Int64))) + (((x2) &&& (127 : Int32)).toInt64 * (16384 : Int64)))).toInt < 2097152 := by
  have d := own_dig x2
  have p := own_sum1 x0 x1
  have o := own_or (((0 : Int64) + ((x0) &&& (127 : Int32)).toInt64) + (((x1) &&& (127 : Int32)).toInt64 * (128 : Int64))) ((x2) &&& (127 : Int32)).toInt64 (14 : Int32) 14 (by decide) (by decide) 16384 (by decide) (by omega) (by omega) d.1 d.2 (by decide)
  have a := own_add (((0 : Int64) + ((x0) &&& (127 : Int32)).toInt64) + (((x1) &&& (127 : Int32)).toInt64 * (128 : Int64))) ((x2) &&& (127 : Int32)).toInt64 (16384 : Int64) 16384 (by decide) p.2.1 (by omega) d.1 d.2 (by decide) (by decide)
  rw [p.1]
  refine ⟨Int64.toInt_inj.mp (by rw [o, a]), ?_, ?_⟩
  · rw [a]; omega
  · rw [a]; omega
theorem own_sum3 (x0 x1 x2 x3 : Int32) : (((((0 : Int64) ||| (((x0) &&& (127 : Int32)).toInt64 <<< ((0 : Int32) &&& 0x3f).toInt64)) ||| (((x1) &&& (127 : Int32)).toInt64 <<< ((7 : Int32) &&& 0x3f).toInt64)) ||| (((x2) &&& (127 : Int32)).toInt64 <<< ((14 : Int32) &&& 0x3f).toInt64)) ||| (((x3) &&& (127 : Int32)).toInt64 <<< ((21 : Int32) &&& 0x3f).toInt64)) = (((((0 : Int64) + ((x0) &&& (127 : Int32)).toInt64) + (((x1) &&& (127 : Int32)).toInt64 * (128 : Int64))) + (((x2) &&& (127 : Int32)).toInt64 * (16384 : Int64))) + (((x3) &&& (127 : Int32)).toInt64 * (2097152 : Int64))) ∧ 0 ≤ ((((((0 : Int64) + ((x0) &&& (127 : Int32)).toInt64) + (((x1) &&& (127 : Int32)).toInt64 * (128 : Int64))) + (((x2) &&& (127 : Int32)).toInt64 * (16384 : Int64))) + (((x3) &&& (127 : Int32)).toInt64 * (2097152 : Int64)))).toInt ∧ ((((((0 : Int64) + ((x0) &&& (127 : Int32)).toInt64) + (((x1) &&& (127 : Int32)).toInt64 * (128 : Int64))) + (((x2) &&& (127 : Int32)).toInt64 * (16384 : Int64))) + (((x3) &&& (127 : Int32)).toInt64 * (2097152 : Int64)))).toInt < 268435456 := by
  have d := own_dig x3
  have p := own_sum2 x0 x1 x2
  have o := own_or ((((0 : Int64) + ((x0) &&& (127 : Int32)).toInt64) + (((x1) &&& (127 : Int32)).toInt64 * (128 : Int64))) + (((x2) &&& (127 : Int32)).toInt64 * (16384 : Int64))) ((x3) &&& (127 : Int32)).toInt64 (21 : Int32) 21 (by decide) (by decide) 2097152 (by decide) (by omega) (by omega) d.1 d.2 (by decide)
  have a := own_add ((((0 : Int64) + ((x0) &&& (127 : Int32)).toInt64) + (((x1) &&& (127 : Int32)).toInt64 * (128 : Int64))) + (((x2) &&& (127 : Int32)).toInt64 * (16384 : Int64))) ((x3) &&& (127 : Int32)).toInt64 (2097152 : Int64) 2097152 (by decide) p.2.1 (by omega) d.1 d.2 (by decide) (by decide)
  rw [p.1]
  refine ⟨Int64.toInt_inj.mp (by rw [o, a]), ?_, ?_⟩
  · rw [a]; omega
  · rw [a]; omega
theorem own_sum4 (x0 x1 x2 x3 x4 : Int32) : ((((((0 : Int64) ||| (((x0) &&& (127 : Int32)).toInt64 <<< ((0 : Int32) &&& 0x3f).toInt64)) ||| (((x1) &&& (127 : Int32)).toInt64 <<< ((7 : Int32) &&& 0x3f).toInt64)) ||| (((x2) &&& (127 : Int32)).toInt64 <<< ((14 : Int32) &&& 0x3f).toInt64)) ||| (((x3) &&& (127 : Int32)).toInt64 <<< ((21 : Int32) &&& 0x3f).toInt64)) ||| (((x4) &&& (127 : Int32)).toInt64 <<< ((28 : Int32) &&& 0x3f).toInt64)) = ((((((0 : Int64) + ((x0) &&& (127 : Int32)).toInt64) + (((x1) &&& (127 : Int32)).toInt64 * (128 : Int64))) + (((x2) &&& (127 : Int32)).toInt64 * (16384 : Int64))) + (((x3) &&& (127 : Int32)).toInt64 * (2097152 : Int64))) + (((x4) &&& (127 : Int32)).toInt64 * (268435456 : Int64))) ∧ 0 ≤ (((((((0 : Int64) + ((x0) &&& (127 : Int32)).toInt64) + (((x1) &&& (127 : Int32)).toInt64 * (128 : Int64))) + (((x2) &&& (127 : Int32)).toInt64 * (16384 : Int64))) + (((x3) &&& (127 : Int32)).toInt64 * (2097152 : Int64))) + (((x4) &&& (127 : Int32)).toInt64 * (268435456 : Int64)))).toInt ∧ (((((((0 : Int64) + ((x0) &&& (127 : Int32)).toInt64) + (((x1) &&& (127 : Int32)).toInt64 * (128 : Int64))) + (((x2) &&& (127 : Int32)).toInt64 * (16384 : Int64))) + (((x3) &&& (127 : Int32)).toInt64 * (2097152 : Int64))) + (((x4) &&& (127 : Int32)).toInt64 * (268435456 : Int64)))).toInt < 34359738368 := by
  have d := own_dig x4
  have p := own_sum3 x0 x1 x2 x3
  have o := own_or (((((0 : Int64) + ((x0) &&& (127 : Int32)).toInt64) + (((x1) &&& (127 : Int32)).toInt64 * (128 : Int64))) + (((x2) &&& (127 : Int32)).toInt64 * (16384 : Int64))) + (((x3) &&& (127 : Int32)).toInt64 * (2097152 : Int64))) ((x4) &&& (127 : Int32)).toInt64 (28 : Int32) 28 (by decide) (by decide) 268435456 (by decide) (by omega) (by omega) d.1 d.2 (by decide)
  have a := own_add (((((0 : Int64) + ((x0) &&& (127 : Int32)).toInt64) + (((x1) &&& (127 : Int32)).toInt64 * (128 : Int64))) + (((x2) &&& (127 : Int32)).toInt64 * (16384 : Int64))) + (((x3) &&& (127 : Int32)).toInt64 * (2097152 : Int64))) ((x4) &&& (127 : Int32)).toInt64 (268435456 : Int64) 268435456 (by decide) p.2.1 (by omega) d.1 d.2 (by decide) (by decide)
  rw [p.1]
  refine ⟨Int64.toInt_inj.mp (by rw [o, a]), ?_, ?_⟩
  · rw [a]; omega
  · rw [a]; omega
theorem own_av (n off m : Int32) (k K : Int32) (hm : minF_0 (n - off) (5 : Int32) = m) (h0 : ¬ off < 0) (h1 : ¬ n < off) (h8 : ¬ (8 : Int32) < n) (hk : 0 ≤ k.toInt) (hK : K.toInt = k.toInt + 1) (hk5 : k.toInt < 5) : (off + k < n) ↔ ¬ m < K := by
  have a := own_min5 _ _ hm
  have b := c_isub n off
  have c := c_iadd off k
  have r1 := rng32 n; have r2 := rng32 off; have r3 := rng32 (n - off); have r4 := rng32 (off + k)
  simp only [Int32.lt_iff_toInt_lt, Int32.reduceToInt] at *
  omega
theorem own_rel (B U : Int32 → Int32) (n off : Int32) (h0 : ¬ off < 0) (h1 : ¬ n < off) (h8 : ¬ (8 : Int32) < n) (hb : ∀ j : Int32, ¬ j < 0 → j < n → (((B j &&& (128 : Int32)) = (0 : Int32)) ↔ U j < (128 : Int32)) ∧ (B j &&& (127 : Int32)) = (U j &&& (127 : Int32))) :
    nxt B n off = rF U off n ∧ nxt_position B n off = off + cF U off n ∧ ¬ cF U off n < 0 ∧ ¬ n < off + cF U off n ∧ ¬ (5 : Int32) < cF U off n := by
  obtain ⟨m, hm⟩ : ∃ z, minF_0 (n - off) (5 : Int32) = z := ⟨_, rfl⟩
  have av0 := own_av n off m 0 1 hm h0 h1 h8 (by decide) (by decide) (by decide)
  have av1 := own_av n off m 1 2 hm h0 h1 h8 (by decide) (by decide) (by decide)
  have av2 := own_av n off m 2 3 hm h0 h1 h8 (by decide) (by decide) (by decide)
  have av3 := own_av n off m 3 4 hm h0 h1 h8 (by decide) (by decide) (by decide)
  have av4 := own_av n off m 4 5 hm h0 h1 h8 (by decide) (by decide) (by decide)
  rw [Int32.add_zero] at av0
  have s2 : off + (1 : Int32) + (1 : Int32) = off + (2 : Int32) := by rw [Int32.add_assoc]; rfl
  have s3 : off + (2 : Int32) + (1 : Int32) = off + (3 : Int32) := by rw [Int32.add_assoc]; rfl
  have s4 : off + (3 : Int32) + (1 : Int32) = off + (4 : Int32) := by rw [Int32.add_assoc]; rfl
  have s5 : off + (4 : Int32) + (1 : Int32) = off + (5 : Int32) := by rw [Int32.add_assoc]; rfl
  have mm := own_min5 _ _ hm
  have bs := c_isub n off
  have rn := rng32 n; have ro := rng32 off; have rno := rng32 (n - off)
  have add : ∀ k : Int32, 0 ≤ k.toInt → k.toInt ≤ 5 → k.toInt ≤ n.toInt - off.toInt → ¬ k < 0 ∧ ¬ n < off + k ∧ ¬ (5 : Int32) < k := fun k k0 k5 kn => by
    have c := c_iadd off k
    have r4 := rng32 (off + k)
    simp only [Int32.lt_iff_toInt_lt, Int32.reduceToInt] at *
    omega
  have ge : ∀ k : Int32, 0 ≤ k.toInt → k.toInt < 5 → off + k < n → k.toInt + 1 ≤ n.toInt - off.toInt := fun k k0 k5 q => by
    have c := c_iadd off k
    have r4 := rng32 (off + k)
    simp only [Int32.lt_iff_toInt_lt, Int32.reduceToInt] at *
    omega
  have nn : ∀ k : Int32, 0 ≤ k.toInt → k.toInt < 5 → off + k < n → ¬ off + k < 0 := fun k k0 k5 q => by
    have c := c_iadd off k
    have r4 := rng32 (off + k)
    simp only [Int32.lt_iff_toInt_lt, Int32.reduceToInt] at *
    omega
  have z0 : (0 : Int32).toInt = 0 := by decide
  have lem : ∀ K : Int32, m < K → (K.toInt ≤ 5) → m.toInt = n.toInt - off.toInt := fun K q K5 => by
    simp only [Int32.lt_iff_toInt_lt, Int32.reduceToInt] at *
    omega
  have m0 : ¬ m < 0 := by
    simp only [Int32.lt_iff_toInt_lt, Int32.reduceToInt] at *
    omega
  have endm : ∀ K : Int32, m < K → K.toInt ≤ 5 → ¬ m < 0 ∧ ¬ n < off + m ∧ ¬ (5 : Int32) < m := fun K q K5 => by
    have e := lem K q K5
    exact add m (by rw [Int32.lt_iff_toInt_lt, z0] at m0; omega) (by omega) (by omega)
  have posm : ∀ k K : Int32, m < K → ¬ m < k → K.toInt = k.toInt + 1 → m = k := fun k K q r e => by
    apply Int32.toInt_inj.mp
    simp only [Int32.lt_iff_toInt_lt] at *
    omega
  unfold nxt nxt_position rF cF
  rw [hm]
  simp only [s2, s3, s4, s5]
  by_cases a0 : off < n
  · have g0 := ge 0 (by decide) (by decide) (by rw [Int32.add_zero]; exact a0)
    have b0 := hb off h0 a0
    rw [if_pos a0, if_pos a0, if_neg (av0.mp a0), if_neg (av0.mp a0)]
    by_cases t0 : U off < (128 : Int32)
    · rw [if_pos (b0.1.mpr t0), if_pos (b0.1.mpr t0), if_pos t0, if_pos t0, b0.2, (own_sum0 (U off)).1]
      exact ⟨rfl, rfl, add 1 (by decide) (by decide) (by simpa using g0)⟩
    · rw [if_neg fun z => t0 (b0.1.mp z), if_neg fun z => t0 (b0.1.mp z), if_neg t0, if_neg t0]
      by_cases a1 : off + (1 : Int32) < n
      · have g1 := ge 1 (by decide) (by decide) a1
        have b1 := hb (off + (1 : Int32)) (nn 1 (by decide) (by decide) a1) a1
        rw [if_pos a1, if_pos a1, if_neg (av1.mp a1), if_neg (av1.mp a1)]
        by_cases t1 : U (off + (1 : Int32)) < (128 : Int32)
        · rw [if_pos (b1.1.mpr t1), if_pos (b1.1.mpr t1), if_pos t1, if_pos t1, b0.2, b1.2, (own_sum1 (U off) (U (off + (1 : Int32)))).1]
          exact ⟨rfl, rfl, add 2 (by decide) (by decide) (by simpa using g1)⟩
        · rw [if_neg fun z => t1 (b1.1.mp z), if_neg fun z => t1 (b1.1.mp z), if_neg t1, if_neg t1]
          by_cases a2 : off + (2 : Int32) < n
          · have g2 := ge 2 (by decide) (by decide) a2
            have b2 := hb (off + (2 : Int32)) (nn 2 (by decide) (by decide) a2) a2
            rw [if_pos a2, if_pos a2, if_neg (av2.mp a2), if_neg (av2.mp a2)]
            by_cases t2 : U (off + (2 : Int32)) < (128 : Int32)
            · rw [if_pos (b2.1.mpr t2), if_pos (b2.1.mpr t2), if_pos t2, if_pos t2, b0.2, b1.2, b2.2, (own_sum2 (U off) (U (off + (1 : Int32))) (U (off + (2 : Int32)))).1]
              exact ⟨rfl, rfl, add 3 (by decide) (by decide) (by simpa using g2)⟩
            · rw [if_neg fun z => t2 (b2.1.mp z), if_neg fun z => t2 (b2.1.mp z), if_neg t2, if_neg t2]
              by_cases a3 : off + (3 : Int32) < n
              · have g3 := ge 3 (by decide) (by decide) a3
                have b3 := hb (off + (3 : Int32)) (nn 3 (by decide) (by decide) a3) a3
                rw [if_pos a3, if_pos a3, if_neg (av3.mp a3), if_neg (av3.mp a3)]
                by_cases t3 : U (off + (3 : Int32)) < (128 : Int32)
                · rw [if_pos (b3.1.mpr t3), if_pos (b3.1.mpr t3), if_pos t3, if_pos t3, b0.2, b1.2, b2.2, b3.2, (own_sum3 (U off) (U (off + (1 : Int32))) (U (off + (2 : Int32))) (U (off + (3 : Int32)))).1]
                  exact ⟨rfl, rfl, add 4 (by decide) (by decide) (by simpa using g3)⟩
                · rw [if_neg fun z => t3 (b3.1.mp z), if_neg fun z => t3 (b3.1.mp z), if_neg t3, if_neg t3]
                  by_cases a4 : off + (4 : Int32) < n
                  · have g4 := ge 4 (by decide) (by decide) a4
                    have b4 := hb (off + (4 : Int32)) (nn 4 (by decide) (by decide) a4) a4
                    rw [if_pos a4, if_pos a4, if_neg (av4.mp a4), if_neg (av4.mp a4)]
                    by_cases t4 : U (off + (4 : Int32)) < (128 : Int32)
                    · rw [if_pos (b4.1.mpr t4), if_pos t4, if_pos t4, b0.2, b1.2, b2.2, b3.2, b4.2, (own_sum4 (U off) (U (off + (1 : Int32))) (U (off + (2 : Int32))) (U (off + (3 : Int32))) (U (off + (4 : Int32)))).1]
                      exact ⟨rfl, rfl, add 5 (by decide) (by decide) (by simpa using g4)⟩
                    · rw [if_neg fun z => t4 (b4.1.mp z), if_neg t4, if_neg t4]
                      have e5 : m = 5 := by
                        have q := av4.mp a4
                        apply Int32.toInt_inj.mp
                        simp only [Int32.lt_iff_toInt_lt, Int32.reduceToInt] at *
                        omega
                      rw [e5]
                      exact ⟨rfl, rfl, add 5 (by decide) (by decide) (by simpa using g4)⟩
                  · have e4 : m < 5 := Classical.not_not.mp fun z => a4 (av4.mpr z)
                    rw [if_neg a4, if_neg a4, if_pos e4, if_pos e4]
                    have e := posm 4 5 e4 (av3.mp a3) (by decide)
                    exact ⟨rfl, by rw [e], endm 5 e4 (by decide)⟩
              · have e3 : m < 4 := Classical.not_not.mp fun z => a3 (av3.mpr z)
                rw [if_neg a3, if_neg a3, if_pos e3, if_pos e3]
                have e := posm 3 4 e3 (av2.mp a2) (by decide)
                exact ⟨rfl, by rw [e], endm 4 e3 (by decide)⟩
          · have e2 : m < 3 := Classical.not_not.mp fun z => a2 (av2.mpr z)
            rw [if_neg a2, if_neg a2, if_pos e2, if_pos e2]
            have e := posm 2 3 e2 (av1.mp a1) (by decide)
            exact ⟨rfl, by rw [e], endm 3 e2 (by decide)⟩
      · have e1 : m < 2 := Classical.not_not.mp fun z => a1 (av1.mpr z)
        rw [if_neg a1, if_neg a1, if_pos e1, if_pos e1]
        have e := posm 1 2 e1 (av0.mp a0) (by decide)
        exact ⟨rfl, by rw [e], endm 2 e1 (by decide)⟩
  · have e0 : m < 1 := Classical.not_not.mp fun z => a0 (av0.mpr z)
    rw [if_neg a0, if_neg a0, if_pos e0, if_pos e0]
    have e := posm 0 1 e0 m0 (by decide)
    exact ⟨rfl, by rw [e, Int32.add_zero], endm 1 e0 (by decide)⟩

theorem own_unp (c r : Int32) (h0 : ¬ c < 0) (h5 : ¬ (5 : Int32) < c) : (((pack c r).toUInt64 >>> ((32 : Int32) &&& 0x3f).toInt64.toUInt64).toInt64).toInt32 = c ∧ (pack c r).toInt32 = r := by
  have s := c_lshl c.toInt64 (32 : Int32) 32 (by decide)
  have m := c_maskL r.toInt64 (4294967295 : Int64) 32 (by decide) (by decide)
  have e1 := c_i2l c
  have e2 := c_i2l r
  simp only [Nat.reducePow] at s m
  have rr := rng32 r
  have rc := rng32 c
  have rs := rng64 (c.toInt64 <<< ((32 : Int32) &&& 0x3f).toInt64)
  simp only [Int32.lt_iff_toInt_lt, Int32.reduceToInt] at h0 h5
  have o := c_orL (c.toInt64 <<< ((32 : Int32) &&& 0x3f).toInt64) (r.toInt64 &&& (4294967295 : Int64)) 32 (by decide) 4294967296 (by decide) (by omega) (by omega) (by omega)
  have p : (pack c r) = ((c.toInt64 <<< ((32 : Int32) &&& 0x3f).toInt64) ||| (r.toInt64 &&& (4294967295 : Int64))) := rfl
  rw [← p] at o
  have rp := rng64 (pack c r)
  have u := c_lushr (pack c r) (32 : Int32) 32 (by decide) (by decide)
  simp only [Nat.reducePow] at u
  have a := c_l2i (((pack c r).toUInt64 >>> ((32 : Int32) &&& 0x3f).toInt64.toUInt64).toInt64)
  have b := c_l2i (pack c r)
  have ra := rng32 ((((pack c r).toUInt64 >>> ((32 : Int32) &&& 0x3f).toInt64.toUInt64).toInt64).toInt32)
  have rb := rng32 (pack c r).toInt32
  exact ⟨Int32.toInt_inj.mp (by omega), Int32.toInt_inj.mp (by omega)⟩
theorem own_sees (u : List Int32) (hu : ∀ x ∈ u, 0 ≤ x.toInt ∧ x.toInt < 256) (hl : u.length = 8) (n : Int32) (h8 : ¬ (8 : Int32) < n) (j : Int32) (j0 : ¬ j < 0) (jn : j < n) : (((Bn (u.map fun x => nar .byte x.toInt8.toInt32) j &&& (128 : Int32)) = (0 : Int32)) ↔ Bn (u ++ List.replicate 8 0) j < (128 : Int32)) ∧ (Bn (u.map fun x => nar .byte x.toInt8.toInt32) j &&& (127 : Int32)) = (Bn (u ++ List.replicate 8 0) j &&& (127 : Int32)) := by
  have hj : j.toNatClampNeg < u.length := by
    rw [hl]
    simp only [Int32.lt_iff_toInt_lt, Int32.reduceToInt] at *
    simp only [Int32.toNatClampNeg]
    omega
  have e1 : Bn (u.map fun x => nar .byte x.toInt8.toInt32) j = nar .byte (u[j.toNatClampNeg]).toInt8.toInt32 := by
    unfold Bn
    simp [List.getD, hj]
  have e2 : Bn (u ++ List.replicate 8 0) j = u[j.toNatClampNeg] := by
    unfold Bn
    simp [List.getD, List.getElem?_append_left hj, hj]
  have b := hu _ (List.getElem_mem hj)
  rw [e1, e2, own_bit, own_low]
  exact ⟨own_hi _ b.1 b.2, rfl⟩
theorem own_b255 (x v : Int32) (h : (x &&& (255 : Int32)) = v) : 0 ≤ v.toInt ∧ v.toInt < 256 := by
  have q := c_and x (255 : Int32) (by decide)
  rw [h] at q
  simp only [Int32.reduceToInt] at q
  omega

theorem pd_1 : parseMethodDescriptor "([B)V" = some ⟨[(.array .byte)], none⟩ := by decide +kernel
theorem pd_2 : parseMethodDescriptor "()I" = some ⟨[], some .int⟩ := by decide +kernel
theorem pd_3 : parseMethodDescriptor "()Z" = some ⟨[], some .boolean⟩ := by decide +kernel
theorem pd_4 : parseMethodDescriptor "([III)J" = some ⟨[(.array .int), .int, .int], some .long⟩ := by decide +kernel
theorem pn_0 : plainName "com/example/fulltext_workbench/fulltextworkbench/index/VarintReaderNextPinLaw" = true := by first | (simp [plainName, overriddenIn]; done) | decide +kernel
theorem ef_0 (m : MethodId) (x0 : Int32) (x1 : Int32) (x2 : Int32) : entryFrame m #[(.int x0), (.int x1), (.int x2)] maxLocals = mkF m 0 #[.val (.int x0), .val (.int x1), .val (.int x2), .unset, .unset, .unset, .unset, .unset, .unset, .unset, .unset, .unset, .unset, .unset, .unset, .unset, .unset, .unset, .unset] [] := by first | (simp [entryFrame, mkF, argsToLocals, Value.category, maxLocals]; done) | rfl
def Q0 (Z : State) (p1 : Int32) (p2 : Int32) (p3 : Int32)  (h0 : Heap) (n0 : Nat) (v : Option Value) (h : Heap) (L : List Loc) : Prop := v = some (.int 1) ∧ Fr n0 L
set_option maxRecDepth 65536 in
set_option maxHeartbeats 40000000 in
theorem rm0 (l : Launch) (Z : State) (a0 : Array Value) (hw : ∀ d ∈ tables_1, d.before a0 Z = true) (ws : List Jvm.Cond) (p1 : Int32) (p2 : Int32) (p3 : Int32)  (h0 : Heap) (n0 : Nat) (Z0 : n0 ≤ h0.size) :
    MetFree l x (head1 (Jvm.Cond.code x code maxLocals ret :: ws) room_1) (fun a U => a = #[(.int p1), (.int p2), (.int p3)] ∧ Z.Warmed39 U.vm ∧ U.heap = h0) (fun _ _ _ _ _ => True) (fun _ U o U' => ∃ v L, o = .returned v ∧ Q0 Z p1 p2 p3 h0 n0 v U'.heap L ∧ FrameEnd U o U' L room_1.cells room_1.slots) := by
  refine MetFree.of_bodySF (plainFor_of_name pn_0) hisR ?_
  intro p e s m args below meth c s₁ Bd hml0 hP hK
  obtain ⟨rfl, hZ, hh⟩ := hP
  have hx := Bd.exec
  have hby := Bd.bytes
  have hlk := Bd.notSynchronized
  have hml : c.maxLocals = 19 := hml0
  have hown : s.vm.findClass "com/example/fulltext_workbench/fulltextworkbench/index/VarintReaderNextPinLaw" = some m.cls := findClass_of_methodNamed Bd.named
  have hnm := (name_of_methodNamed Bd.named Bd.method).1
  have X0 : Stand p l e room_1 s m #[(.int p1), (.int p2), (.int p3)] below meth c s₁ [] 0 0 := Stand.of_body Bd
  have e0 : s₁.heap = h0 := by rw [← hh, Bd.state]; rfl
  have N0 := Fr.nil n0
  have K0 : Keep h0 h0 [] := Keep.refl h0 _
  show OutW p e below s room_1.cells room_1.slots (Q0 Z p1 p2 p3 h0 n0) _
  refine OutW.back (fun t k => castTop (ef_0 m p1 p2 p3) k) ?_
  show OutW _ _ _ _ _ _ _ (s₁.setTop (mkF m 0 #[.val (.int p1), .val (.int p2), .val (.int p3), .unset, .unset, .unset, .unset, .unset, .unset, .unset, .unset, .unset, .unset, .unset, .unset, .unset, .unset, .unset, .unset] []))
  refine OutW.back (fun t k => XS.iloadN X0.here hx rfl (hb hby at_0) rfl  k) ?_
  show OutW _ _ _ _ _ _ _ (s₁.setTop (mkF m 1 #[.val (.int p1), .val (.int p2), .val (.int p3), .unset, .unset, .unset, .unset, .unset, .unset, .unset, .unset, .unset, .unset, .unset, .unset, .unset, .unset, .unset, .unset] [(.int p1)]))
  refine OutW.back (fun t k => XS.bipush X0.here hx rfl (hb hby at_1) k) ?_
  show OutW _ _ _ _ _ _ _ (s₁.setTop (mkF m 3 #[.val (.int p1), .val (.int p2), .val (.int p3), .unset, .unset, .unset, .unset, .unset, .unset, .unset, .unset, .unset, .unset, .unset, .unset, .unset, .unset, .unset, .unset] [(.int (15 : Int32)), (.int p1)]))
  refine OutW.back (fun t k => XS.iand X0.here hx rfl (hb hby at_3) rfl k) ?_
  show OutW _ _ _ _ _ _ _ (s₁.setTop (mkF m 4 #[.val (.int p1), .val (.int p2), .val (.int p3), .unset, .unset, .unset, .unset, .unset, .unset, .unset, .unset, .unset, .unset, .unset, .unset, .unset, .unset, .unset, .unset] [(.int (p1 &&& (15 : Int32)))]))
  refine OutW.back (fun t k => XS.bipush X0.here hx rfl (hb hby at_4) k) ?_
  show OutW _ _ _ _ _ _ _ (s₁.setTop (mkF m 6 #[.val (.int p1), .val (.int p2), .val (.int p3), .unset, .unset, .unset, .unset, .unset, .unset, .unset, .unset, .unset, .unset, .unset, .unset, .unset, .unset, .unset, .unset] [(.int (9 : Int32)), (.int (p1 &&& (15 : Int32)))]))
  refine OutW.back (fun t k => iremM X0 hx rfl (hb hby at_6) rfl (by decide) k) ?_
  show OutW _ _ _ _ _ _ _ (s₁.setTop (mkF m 7 #[.val (.int p1), .val (.int p2), .val (.int p3), .unset, .unset, .unset, .unset, .unset, .unset, .unset, .unset, .unset, .unset, .unset, .unset, .unset, .unset, .unset, .unset] [(.int ((p1 &&& (15 : Int32)) % (9 : Int32)))]))
  generalize hv_v1 : ((p1 &&& (15 : Int32)) % (9 : Int32)) = v1
  refine OutW.back (fun t k => XS.istoreN X0.here hx rfl (hb hby at_7) rfl (l' := #[.val (.int p1), .val (.int p2), .val (.int p3), .val (.int v1), .unset, .unset, .unset, .unset, .unset, .unset, .unset, .unset, .unset, .unset, .unset, .unset, .unset, .unset, .unset]) rfl k) ?_
  show OutW _ _ _ _ _ _ _ (s₁.setTop (mkF m 8 #[.val (.int p1), .val (.int p2), .val (.int p3), .val (.int v1), .unset, .unset, .unset, .unset, .unset, .unset, .unset, .unset, .unset, .unset, .unset, .unset, .unset, .unset, .unset] []))
  have hn8 := own_nine _ _ hv_v1
  refine OutW.back (fun t k => XS.bipush X0.here hx rfl (hb hby at_8) k) ?_
  show OutW _ _ _ _ _ _ _ (s₁.setTop (mkF m 10 #[.val (.int p1), .val (.int p2), .val (.int p3), .val (.int v1), .unset, .unset, .unset, .unset, .unset, .unset, .unset, .unset, .unset, .unset, .unset, .unset, .unset, .unset, .unset] [(.int (16 : Int32))]))
  obtain ⟨T2, h2, k2, X2, e2, E2, A2, st2⟩ := newP X0 hx hZ (hw _ (List.mem_of_getElem? (i := 0) rfl)) e0 (g := (mkF m 10 #[.val (.int p1), .val (.int p2), .val (.int p3), .val (.int v1), .unset, .unset, .unset, .unset, .unset, .unset, .unset, .unset, .unset, .unset, .unset, .unset, .unset, .unset, .unset] [(.int (16 : Int32))])) rfl (hb hby at_10) rfl (by decide) (cap := 16) (by decide) (by decide) (by decide) (by decide)
  obtain ⟨b2, g2⟩ : ∃ z, z = h0.size := ⟨_, rfl⟩
  rw [← g2] at A2 st2
  have g_b2 : n0 ≤ b2 := Nat.le_trans Z0 (Nat.le_of_eq g2.symm)
  have sz_b2 : h0.size ≤ b2 := Nat.le_trans K0.1 (Nat.le_of_eq g2.symm)
  have Z2 : n0 ≤ h2.size := Nat.le_trans Z0 E2.1
  have K2 := K0.ext E2
  have V_b2 : Arv Z h2 b2 k2 .int (16 : Int32) [(.int (0 : Int32)), (.int (0 : Int32)), (.int (0 : Int32)), (.int (0 : Int32)), (.int (0 : Int32)), (.int (0 : Int32)), (.int (0 : Int32)), (.int (0 : Int32)), (.int (0 : Int32)), (.int (0 : Int32)), (.int (0 : Int32)), (.int (0 : Int32)), (.int (0 : Int32)), (.int (0 : Int32)), (.int (0 : Int32)), (.int (0 : Int32))] (.int (0 : Int32)) := (Arv.new A2 (by decide)).pad (pad_rep [] (.int (0 : Int32)) 16)
  refine OutW.back st2 ?_
  show OutW _ _ _ _ _ _ _ (T2.setTop (mkF m 12 #[.val (.int p1), .val (.int p2), .val (.int p3), .val (.int v1), .unset, .unset, .unset, .unset, .unset, .unset, .unset, .unset, .unset, .unset, .unset, .unset, .unset, .unset, .unset] [(.ref b2)]))
  refine OutW.back (fun t k => XS.astore X2.here hx rfl (hb hby at_12) rfl rfl (l' := #[.val (.int p1), .val (.int p2), .val (.int p3), .val (.int v1), .val (.ref b2), .unset, .unset, .unset, .unset, .unset, .unset, .unset, .unset, .unset, .unset, .unset, .unset, .unset, .unset]) rfl k) ?_
  show OutW _ _ _ _ _ _ _ (T2.setTop (mkF m 14 #[.val (.int p1), .val (.int p2), .val (.int p3), .val (.int v1), .val (.ref b2), .unset, .unset, .unset, .unset, .unset, .unset, .unset, .unset, .unset, .unset, .unset, .unset, .unset, .unset] []))
  refine OutW.back (fun t k => XS.aload X2.here hx rfl (hb hby at_14) rfl rfl  k) ?_
  show OutW _ _ _ _ _ _ _ (T2.setTop (mkF m 16 #[.val (.int p1), .val (.int p2), .val (.int p3), .val (.int v1), .val (.ref b2), .unset, .unset, .unset, .unset, .unset, .unset, .unset, .unset, .unset, .unset, .unset, .unset, .unset, .unset] [(.ref b2)]))
  refine OutW.back (fun t k => XS.iconst X2.here hx rfl (hb hby at_16) k) ?_
  show OutW _ _ _ _ _ _ _ (T2.setTop (mkF m 17 #[.val (.int p1), .val (.int p2), .val (.int p3), .val (.int v1), .val (.ref b2), .unset, .unset, .unset, .unset, .unset, .unset, .unset, .unset, .unset, .unset, .unset, .unset, .unset, .unset] [(.int (0 : Int32)), (.ref b2)]))
  refine OutW.back (fun t k => XS.iloadN X2.here hx rfl (hb hby at_17) rfl  k) ?_
  show OutW _ _ _ _ _ _ _ (T2.setTop (mkF m 18 #[.val (.int p1), .val (.int p2), .val (.int p3), .val (.int v1), .val (.ref b2), .unset, .unset, .unset, .unset, .unset, .unset, .unset, .unset, .unset, .unset, .unset, .unset, .unset, .unset] [(.int p2), (.int (0 : Int32)), (.ref b2)]))
  refine OutW.back (fun t k => XS.sipush X2.here hx rfl (hb hby at_18) k) ?_
  show OutW _ _ _ _ _ _ _ (T2.setTop (mkF m 21 #[.val (.int p1), .val (.int p2), .val (.int p3), .val (.int v1), .val (.ref b2), .unset, .unset, .unset, .unset, .unset, .unset, .unset, .unset, .unset, .unset, .unset, .unset, .unset, .unset] [(.int (255 : Int32)), (.int p2), (.int (0 : Int32)), (.ref b2)]))
  refine OutW.back (fun t k => XS.iand X2.here hx rfl (hb hby at_21) rfl k) ?_
  show OutW _ _ _ _ _ _ _ (T2.setTop (mkF m 22 #[.val (.int p1), .val (.int p2), .val (.int p3), .val (.int v1), .val (.ref b2), .unset, .unset, .unset, .unset, .unset, .unset, .unset, .unset, .unset, .unset, .unset, .unset, .unset, .unset] [(.int (p2 &&& (255 : Int32))), (.int (0 : Int32)), (.ref b2)]))
  generalize hv_v3 : (p2 &&& (255 : Int32)) = v3
  obtain ⟨cl4, Ar4, Qk4, Sz4, Nn4, Hh4, Gg4⟩ := id V_b2
  have hin4 : ¬ ((0 : Int32) < 0 ∨ cl4.slots.size ≤ ((0 : Int32)).toNatClampNeg) := inb_of Sz4 ⟨by decide, by decide⟩
  obtain ⟨T4, h4, X4, e4, W4, st4⟩ := stI X2 hx hZ e2 Ar4 (j := (0 : Int32)) hin4 (g := (mkF m 22 #[.val (.int p1), .val (.int p2), .val (.int p3), .val (.int v1), .val (.ref b2), .unset, .unset, .unset, .unset, .unset, .unset, .unset, .unset, .unset, .unset, .unset, .unset, .unset, .unset] [(.int v3), (.int (0 : Int32)), (.ref b2)])) rfl rfl (hb hby at_22)
  have V_b2_4 : Arv Z h4 b2 k2 .int (16 : Int32) [(.int v3), (.int (0 : Int32)), (.int (0 : Int32)), (.int (0 : Int32)), (.int (0 : Int32)), (.int (0 : Int32)), (.int (0 : Int32)), (.int (0 : Int32)), (.int (0 : Int32)), (.int (0 : Int32)), (.int (0 : Int32)), (.int (0 : Int32)), (.int (0 : Int32)), (.int (0 : Int32)), (.int (0 : Int32)), (.int (0 : Int32))] (.int (0 : Int32)) := Arv.set Ar4 Qk4 Sz4 Nn4 Hh4 Gg4 rfl W4 0 rfl (Nat.le_of_ble_eq_true rfl)
  have N4 := Fr.snoc X4 N0 g_b2
  have Z4 : n0 ≤ h4.size := Nat.le_trans Z2 (Keep.of_wr W4).1
  have K4 := K2.wr W4 (Or.inr sz_b2)
  obtain ⟨lc4, X4, N4⟩ : ∃ lc, Stand p l e room_1 s m #[(.int p1), (.int p2), (.int p3)] below meth c T4 lc 1 16 ∧ Fr n0 lc := ⟨_, X4, N4⟩
  refine OutW.back st4 ?_
  show OutW _ _ _ _ _ _ _ (T4.setTop (mkF m 23 #[.val (.int p1), .val (.int p2), .val (.int p3), .val (.int v1), .val (.ref b2), .unset, .unset, .unset, .unset, .unset, .unset, .unset, .unset, .unset, .unset, .unset, .unset, .unset, .unset] []))
  refine OutW.back (fun t k => XS.aload X4.here hx rfl (hb hby at_23) rfl rfl  k) ?_
  show OutW _ _ _ _ _ _ _ (T4.setTop (mkF m 25 #[.val (.int p1), .val (.int p2), .val (.int p3), .val (.int v1), .val (.ref b2), .unset, .unset, .unset, .unset, .unset, .unset, .unset, .unset, .unset, .unset, .unset, .unset, .unset, .unset] [(.ref b2)]))
  refine OutW.back (fun t k => XS.iconst X4.here hx rfl (hb hby at_25) k) ?_
  show OutW _ _ _ _ _ _ _ (T4.setTop (mkF m 26 #[.val (.int p1), .val (.int p2), .val (.int p3), .val (.int v1), .val (.ref b2), .unset, .unset, .unset, .unset, .unset, .unset, .unset, .unset, .unset, .unset, .unset, .unset, .unset, .unset] [(.int (1 : Int32)), (.ref b2)]))
  refine OutW.back (fun t k => XS.iloadN X4.here hx rfl (hb hby at_26) rfl  k) ?_
  show OutW _ _ _ _ _ _ _ (T4.setTop (mkF m 27 #[.val (.int p1), .val (.int p2), .val (.int p3), .val (.int v1), .val (.ref b2), .unset, .unset, .unset, .unset, .unset, .unset, .unset, .unset, .unset, .unset, .unset, .unset, .unset, .unset] [(.int p2), (.int (1 : Int32)), (.ref b2)]))
  refine OutW.back (fun t k => XS.bipush X4.here hx rfl (hb hby at_27) k) ?_
  show OutW _ _ _ _ _ _ _ (T4.setTop (mkF m 29 #[.val (.int p1), .val (.int p2), .val (.int p3), .val (.int v1), .val (.ref b2), .unset, .unset, .unset, .unset, .unset, .unset, .unset, .unset, .unset, .unset, .unset, .unset, .unset, .unset] [(.int (8 : Int32)), (.int p2), (.int (1 : Int32)), (.ref b2)]))
  refine OutW.back (fun t k => XS.iushr X4.here hx rfl (hb hby at_29) rfl k) ?_
  show OutW _ _ _ _ _ _ _ (T4.setTop (mkF m 30 #[.val (.int p1), .val (.int p2), .val (.int p3), .val (.int v1), .val (.ref b2), .unset, .unset, .unset, .unset, .unset, .unset, .unset, .unset, .unset, .unset, .unset, .unset, .unset, .unset] [(.int ((p2.toUInt32 >>> ((8 : Int32) &&& 31).toUInt32).toInt32)), (.int (1 : Int32)), (.ref b2)]))
  refine OutW.back (fun t k => XS.sipush X4.here hx rfl (hb hby at_30) k) ?_
  show OutW _ _ _ _ _ _ _ (T4.setTop (mkF m 33 #[.val (.int p1), .val (.int p2), .val (.int p3), .val (.int v1), .val (.ref b2), .unset, .unset, .unset, .unset, .unset, .unset, .unset, .unset, .unset, .unset, .unset, .unset, .unset, .unset] [(.int (255 : Int32)), (.int ((p2.toUInt32 >>> ((8 : Int32) &&& 31).toUInt32).toInt32)), (.int (1 : Int32)), (.ref b2)]))
  refine OutW.back (fun t k => XS.iand X4.here hx rfl (hb hby at_33) rfl k) ?_
  show OutW _ _ _ _ _ _ _ (T4.setTop (mkF m 34 #[.val (.int p1), .val (.int p2), .val (.int p3), .val (.int v1), .val (.ref b2), .unset, .unset, .unset, .unset, .unset, .unset, .unset, .unset, .unset, .unset, .unset, .unset, .unset, .unset] [(.int (((p2.toUInt32 >>> ((8 : Int32) &&& 31).toUInt32).toInt32) &&& (255 : Int32))), (.int (1 : Int32)), (.ref b2)]))
  generalize hv_v5 : (((p2.toUInt32 >>> ((8 : Int32) &&& 31).toUInt32).toInt32) &&& (255 : Int32)) = v5
  obtain ⟨cl6, Ar6, Qk6, Sz6, Nn6, Hh6, Gg6⟩ := id V_b2_4
  have hin6 : ¬ ((1 : Int32) < 0 ∨ cl6.slots.size ≤ ((1 : Int32)).toNatClampNeg) := inb_of Sz6 ⟨by decide, by decide⟩
  obtain ⟨T6, h6, X6, e6, W6, st6⟩ := stI X4 hx hZ e4 Ar6 (j := (1 : Int32)) hin6 (g := (mkF m 34 #[.val (.int p1), .val (.int p2), .val (.int p3), .val (.int v1), .val (.ref b2), .unset, .unset, .unset, .unset, .unset, .unset, .unset, .unset, .unset, .unset, .unset, .unset, .unset, .unset] [(.int v5), (.int (1 : Int32)), (.ref b2)])) rfl rfl (hb hby at_34)
  have V_b2_6 : Arv Z h6 b2 k2 .int (16 : Int32) [(.int v3), (.int v5), (.int (0 : Int32)), (.int (0 : Int32)), (.int (0 : Int32)), (.int (0 : Int32)), (.int (0 : Int32)), (.int (0 : Int32)), (.int (0 : Int32)), (.int (0 : Int32)), (.int (0 : Int32)), (.int (0 : Int32)), (.int (0 : Int32)), (.int (0 : Int32)), (.int (0 : Int32)), (.int (0 : Int32))] (.int (0 : Int32)) := Arv.set Ar6 Qk6 Sz6 Nn6 Hh6 Gg6 rfl W6 1 rfl (Nat.le_of_ble_eq_true rfl)
  have N6 := Fr.snoc X6 N4 g_b2
  have Z6 : n0 ≤ h6.size := Nat.le_trans Z4 (Keep.of_wr W6).1
  have K6 := K4.wr W6 (Or.inr sz_b2)
  obtain ⟨lc6, X6, N6⟩ : ∃ lc, Stand p l e room_1 s m #[(.int p1), (.int p2), (.int p3)] below meth c T6 lc 1 16 ∧ Fr n0 lc := ⟨_, X6, N6⟩
  refine OutW.back st6 ?_
  show OutW _ _ _ _ _ _ _ (T6.setTop (mkF m 35 #[.val (.int p1), .val (.int p2), .val (.int p3), .val (.int v1), .val (.ref b2), .unset, .unset, .unset, .unset, .unset, .unset, .unset, .unset, .unset, .unset, .unset, .unset, .unset, .unset] []))
  refine OutW.back (fun t k => XS.aload X6.here hx rfl (hb hby at_35) rfl rfl  k) ?_
  show OutW _ _ _ _ _ _ _ (T6.setTop (mkF m 37 #[.val (.int p1), .val (.int p2), .val (.int p3), .val (.int v1), .val (.ref b2), .unset, .unset, .unset, .unset, .unset, .unset, .unset, .unset, .unset, .unset, .unset, .unset, .unset, .unset] [(.ref b2)]))
  refine OutW.back (fun t k => XS.iconst X6.here hx rfl (hb hby at_37) k) ?_
  show OutW _ _ _ _ _ _ _ (T6.setTop (mkF m 38 #[.val (.int p1), .val (.int p2), .val (.int p3), .val (.int v1), .val (.ref b2), .unset, .unset, .unset, .unset, .unset, .unset, .unset, .unset, .unset, .unset, .unset, .unset, .unset, .unset] [(.int (2 : Int32)), (.ref b2)]))
  refine OutW.back (fun t k => XS.iloadN X6.here hx rfl (hb hby at_38) rfl  k) ?_
  show OutW _ _ _ _ _ _ _ (T6.setTop (mkF m 39 #[.val (.int p1), .val (.int p2), .val (.int p3), .val (.int v1), .val (.ref b2), .unset, .unset, .unset, .unset, .unset, .unset, .unset, .unset, .unset, .unset, .unset, .unset, .unset, .unset] [(.int p2), (.int (2 : Int32)), (.ref b2)]))
  refine OutW.back (fun t k => XS.bipush X6.here hx rfl (hb hby at_39) k) ?_
  show OutW _ _ _ _ _ _ _ (T6.setTop (mkF m 41 #[.val (.int p1), .val (.int p2), .val (.int p3), .val (.int v1), .val (.ref b2), .unset, .unset, .unset, .unset, .unset, .unset, .unset, .unset, .unset, .unset, .unset, .unset, .unset, .unset] [(.int (16 : Int32)), (.int p2), (.int (2 : Int32)), (.ref b2)]))
  refine OutW.back (fun t k => XS.iushr X6.here hx rfl (hb hby at_41) rfl k) ?_
  show OutW _ _ _ _ _ _ _ (T6.setTop (mkF m 42 #[.val (.int p1), .val (.int p2), .val (.int p3), .val (.int v1), .val (.ref b2), .unset, .unset, .unset, .unset, .unset, .unset, .unset, .unset, .unset, .unset, .unset, .unset, .unset, .unset] [(.int ((p2.toUInt32 >>> ((16 : Int32) &&& 31).toUInt32).toInt32)), (.int (2 : Int32)), (.ref b2)]))
  refine OutW.back (fun t k => XS.sipush X6.here hx rfl (hb hby at_42) k) ?_
  show OutW _ _ _ _ _ _ _ (T6.setTop (mkF m 45 #[.val (.int p1), .val (.int p2), .val (.int p3), .val (.int v1), .val (.ref b2), .unset, .unset, .unset, .unset, .unset, .unset, .unset, .unset, .unset, .unset, .unset, .unset, .unset, .unset] [(.int (255 : Int32)), (.int ((p2.toUInt32 >>> ((16 : Int32) &&& 31).toUInt32).toInt32)), (.int (2 : Int32)), (.ref b2)]))
  refine OutW.back (fun t k => XS.iand X6.here hx rfl (hb hby at_45) rfl k) ?_
  show OutW _ _ _ _ _ _ _ (T6.setTop (mkF m 46 #[.val (.int p1), .val (.int p2), .val (.int p3), .val (.int v1), .val (.ref b2), .unset, .unset, .unset, .unset, .unset, .unset, .unset, .unset, .unset, .unset, .unset, .unset, .unset, .unset] [(.int (((p2.toUInt32 >>> ((16 : Int32) &&& 31).toUInt32).toInt32) &&& (255 : Int32))), (.int (2 : Int32)), (.ref b2)]))
  generalize hv_v7 : (((p2.toUInt32 >>> ((16 : Int32) &&& 31).toUInt32).toInt32) &&& (255 : Int32)) = v7
  obtain ⟨cl8, Ar8, Qk8, Sz8, Nn8, Hh8, Gg8⟩ := id V_b2_6
  have hin8 : ¬ ((2 : Int32) < 0 ∨ cl8.slots.size ≤ ((2 : Int32)).toNatClampNeg) := inb_of Sz8 ⟨by decide, by decide⟩
  obtain ⟨T8, h8, X8, e8, W8, st8⟩ := stI X6 hx hZ e6 Ar8 (j := (2 : Int32)) hin8 (g := (mkF m 46 #[.val (.int p1), .val (.int p2), .val (.int p3), .val (.int v1), .val (.ref b2), .unset, .unset, .unset, .unset, .unset, .unset, .unset, .unset, .unset, .unset, .unset, .unset, .unset, .unset] [(.int v7), (.int (2 : Int32)), (.ref b2)])) rfl rfl (hb hby at_46)
  have V_b2_8 : Arv Z h8 b2 k2 .int (16 : Int32) [(.int v3), (.int v5), (.int v7), (.int (0 : Int32)), (.int (0 : Int32)), (.int (0 : Int32)), (.int (0 : Int32)), (.int (0 : Int32)), (.int (0 : Int32)), (.int (0 : Int32)), (.int (0 : Int32)), (.int (0 : Int32)), (.int (0 : Int32)), (.int (0 : Int32)), (.int (0 : Int32)), (.int (0 : Int32))] (.int (0 : Int32)) := Arv.set Ar8 Qk8 Sz8 Nn8 Hh8 Gg8 rfl W8 2 rfl (Nat.le_of_ble_eq_true rfl)
  have N8 := Fr.snoc X8 N6 g_b2
  have Z8 : n0 ≤ h8.size := Nat.le_trans Z6 (Keep.of_wr W8).1
  have K8 := K6.wr W8 (Or.inr sz_b2)
  obtain ⟨lc8, X8, N8⟩ : ∃ lc, Stand p l e room_1 s m #[(.int p1), (.int p2), (.int p3)] below meth c T8 lc 1 16 ∧ Fr n0 lc := ⟨_, X8, N8⟩
  refine OutW.back st8 ?_
  show OutW _ _ _ _ _ _ _ (T8.setTop (mkF m 47 #[.val (.int p1), .val (.int p2), .val (.int p3), .val (.int v1), .val (.ref b2), .unset, .unset, .unset, .unset, .unset, .unset, .unset, .unset, .unset, .unset, .unset, .unset, .unset, .unset] []))
  refine OutW.back (fun t k => XS.aload X8.here hx rfl (hb hby at_47) rfl rfl  k) ?_
  show OutW _ _ _ _ _ _ _ (T8.setTop (mkF m 49 #[.val (.int p1), .val (.int p2), .val (.int p3), .val (.int v1), .val (.ref b2), .unset, .unset, .unset, .unset, .unset, .unset, .unset, .unset, .unset, .unset, .unset, .unset, .unset, .unset] [(.ref b2)]))
  refine OutW.back (fun t k => XS.iconst X8.here hx rfl (hb hby at_49) k) ?_
  show OutW _ _ _ _ _ _ _ (T8.setTop (mkF m 50 #[.val (.int p1), .val (.int p2), .val (.int p3), .val (.int v1), .val (.ref b2), .unset, .unset, .unset, .unset, .unset, .unset, .unset, .unset, .unset, .unset, .unset, .unset, .unset, .unset] [(.int (3 : Int32)), (.ref b2)]))
  refine OutW.back (fun t k => XS.iloadN X8.here hx rfl (hb hby at_50) rfl  k) ?_
  show OutW _ _ _ _ _ _ _ (T8.setTop (mkF m 51 #[.val (.int p1), .val (.int p2), .val (.int p3), .val (.int v1), .val (.ref b2), .unset, .unset, .unset, .unset, .unset, .unset, .unset, .unset, .unset, .unset, .unset, .unset, .unset, .unset] [(.int p2), (.int (3 : Int32)), (.ref b2)]))
  refine OutW.back (fun t k => XS.bipush X8.here hx rfl (hb hby at_51) k) ?_
  show OutW _ _ _ _ _ _ _ (T8.setTop (mkF m 53 #[.val (.int p1), .val (.int p2), .val (.int p3), .val (.int v1), .val (.ref b2), .unset, .unset, .unset, .unset, .unset, .unset, .unset, .unset, .unset, .unset, .unset, .unset, .unset, .unset] [(.int (24 : Int32)), (.int p2), (.int (3 : Int32)), (.ref b2)]))
  refine OutW.back (fun t k => XS.iushr X8.here hx rfl (hb hby at_53) rfl k) ?_
  show OutW _ _ _ _ _ _ _ (T8.setTop (mkF m 54 #[.val (.int p1), .val (.int p2), .val (.int p3), .val (.int v1), .val (.ref b2), .unset, .unset, .unset, .unset, .unset, .unset, .unset, .unset, .unset, .unset, .unset, .unset, .unset, .unset] [(.int ((p2.toUInt32 >>> ((24 : Int32) &&& 31).toUInt32).toInt32)), (.int (3 : Int32)), (.ref b2)]))
  refine OutW.back (fun t k => XS.sipush X8.here hx rfl (hb hby at_54) k) ?_
  show OutW _ _ _ _ _ _ _ (T8.setTop (mkF m 57 #[.val (.int p1), .val (.int p2), .val (.int p3), .val (.int v1), .val (.ref b2), .unset, .unset, .unset, .unset, .unset, .unset, .unset, .unset, .unset, .unset, .unset, .unset, .unset, .unset] [(.int (255 : Int32)), (.int ((p2.toUInt32 >>> ((24 : Int32) &&& 31).toUInt32).toInt32)), (.int (3 : Int32)), (.ref b2)]))
  refine OutW.back (fun t k => XS.iand X8.here hx rfl (hb hby at_57) rfl k) ?_
  show OutW _ _ _ _ _ _ _ (T8.setTop (mkF m 58 #[.val (.int p1), .val (.int p2), .val (.int p3), .val (.int v1), .val (.ref b2), .unset, .unset, .unset, .unset, .unset, .unset, .unset, .unset, .unset, .unset, .unset, .unset, .unset, .unset] [(.int (((p2.toUInt32 >>> ((24 : Int32) &&& 31).toUInt32).toInt32) &&& (255 : Int32))), (.int (3 : Int32)), (.ref b2)]))
  generalize hv_v9 : (((p2.toUInt32 >>> ((24 : Int32) &&& 31).toUInt32).toInt32) &&& (255 : Int32)) = v9
  obtain ⟨cl10, Ar10, Qk10, Sz10, Nn10, Hh10, Gg10⟩ := id V_b2_8
  have hin10 : ¬ ((3 : Int32) < 0 ∨ cl10.slots.size ≤ ((3 : Int32)).toNatClampNeg) := inb_of Sz10 ⟨by decide, by decide⟩
  obtain ⟨T10, h10, X10, e10, W10, st10⟩ := stI X8 hx hZ e8 Ar10 (j := (3 : Int32)) hin10 (g := (mkF m 58 #[.val (.int p1), .val (.int p2), .val (.int p3), .val (.int v1), .val (.ref b2), .unset, .unset, .unset, .unset, .unset, .unset, .unset, .unset, .unset, .unset, .unset, .unset, .unset, .unset] [(.int v9), (.int (3 : Int32)), (.ref b2)])) rfl rfl (hb hby at_58)
  have V_b2_10 : Arv Z h10 b2 k2 .int (16 : Int32) [(.int v3), (.int v5), (.int v7), (.int v9), (.int (0 : Int32)), (.int (0 : Int32)), (.int (0 : Int32)), (.int (0 : Int32)), (.int (0 : Int32)), (.int (0 : Int32)), (.int (0 : Int32)), (.int (0 : Int32)), (.int (0 : Int32)), (.int (0 : Int32)), (.int (0 : Int32)), (.int (0 : Int32))] (.int (0 : Int32)) := Arv.set Ar10 Qk10 Sz10 Nn10 Hh10 Gg10 rfl W10 3 rfl (Nat.le_of_ble_eq_true rfl)
  have N10 := Fr.snoc X10 N8 g_b2
  have Z10 : n0 ≤ h10.size := Nat.le_trans Z8 (Keep.of_wr W10).1
  have K10 := K8.wr W10 (Or.inr sz_b2)
  obtain ⟨lc10, X10, N10⟩ : ∃ lc, Stand p l e room_1 s m #[(.int p1), (.int p2), (.int p3)] below meth c T10 lc 1 16 ∧ Fr n0 lc := ⟨_, X10, N10⟩
  refine OutW.back st10 ?_
  show OutW _ _ _ _ _ _ _ (T10.setTop (mkF m 59 #[.val (.int p1), .val (.int p2), .val (.int p3), .val (.int v1), .val (.ref b2), .unset, .unset, .unset, .unset, .unset, .unset, .unset, .unset, .unset, .unset, .unset, .unset, .unset, .unset] []))
  refine OutW.back (fun t k => XS.aload X10.here hx rfl (hb hby at_59) rfl rfl  k) ?_
  show OutW _ _ _ _ _ _ _ (T10.setTop (mkF m 61 #[.val (.int p1), .val (.int p2), .val (.int p3), .val (.int v1), .val (.ref b2), .unset, .unset, .unset, .unset, .unset, .unset, .unset, .unset, .unset, .unset, .unset, .unset, .unset, .unset] [(.ref b2)]))
  refine OutW.back (fun t k => XS.iconst X10.here hx rfl (hb hby at_61) k) ?_
  show OutW _ _ _ _ _ _ _ (T10.setTop (mkF m 62 #[.val (.int p1), .val (.int p2), .val (.int p3), .val (.int v1), .val (.ref b2), .unset, .unset, .unset, .unset, .unset, .unset, .unset, .unset, .unset, .unset, .unset, .unset, .unset, .unset] [(.int (4 : Int32)), (.ref b2)]))
  refine OutW.back (fun t k => XS.iloadN X10.here hx rfl (hb hby at_62) rfl  k) ?_
  show OutW _ _ _ _ _ _ _ (T10.setTop (mkF m 63 #[.val (.int p1), .val (.int p2), .val (.int p3), .val (.int v1), .val (.ref b2), .unset, .unset, .unset, .unset, .unset, .unset, .unset, .unset, .unset, .unset, .unset, .unset, .unset, .unset] [(.int p3), (.int (4 : Int32)), (.ref b2)]))
  refine OutW.back (fun t k => XS.sipush X10.here hx rfl (hb hby at_63) k) ?_
  show OutW _ _ _ _ _ _ _ (T10.setTop (mkF m 66 #[.val (.int p1), .val (.int p2), .val (.int p3), .val (.int v1), .val (.ref b2), .unset, .unset, .unset, .unset, .unset, .unset, .unset, .unset, .unset, .unset, .unset, .unset, .unset, .unset] [(.int (255 : Int32)), (.int p3), (.int (4 : Int32)), (.ref b2)]))
  refine OutW.back (fun t k => XS.iand X10.here hx rfl (hb hby at_66) rfl k) ?_
  show OutW _ _ _ _ _ _ _ (T10.setTop (mkF m 67 #[.val (.int p1), .val (.int p2), .val (.int p3), .val (.int v1), .val (.ref b2), .unset, .unset, .unset, .unset, .unset, .unset, .unset, .unset, .unset, .unset, .unset, .unset, .unset, .unset] [(.int (p3 &&& (255 : Int32))), (.int (4 : Int32)), (.ref b2)]))
  generalize hv_v11 : (p3 &&& (255 : Int32)) = v11
  obtain ⟨cl12, Ar12, Qk12, Sz12, Nn12, Hh12, Gg12⟩ := id V_b2_10
  have hin12 : ¬ ((4 : Int32) < 0 ∨ cl12.slots.size ≤ ((4 : Int32)).toNatClampNeg) := inb_of Sz12 ⟨by decide, by decide⟩
  obtain ⟨T12, h12, X12, e12, W12, st12⟩ := stI X10 hx hZ e10 Ar12 (j := (4 : Int32)) hin12 (g := (mkF m 67 #[.val (.int p1), .val (.int p2), .val (.int p3), .val (.int v1), .val (.ref b2), .unset, .unset, .unset, .unset, .unset, .unset, .unset, .unset, .unset, .unset, .unset, .unset, .unset, .unset] [(.int v11), (.int (4 : Int32)), (.ref b2)])) rfl rfl (hb hby at_67)
  have V_b2_12 : Arv Z h12 b2 k2 .int (16 : Int32) [(.int v3), (.int v5), (.int v7), (.int v9), (.int v11), (.int (0 : Int32)), (.int (0 : Int32)), (.int (0 : Int32)), (.int (0 : Int32)), (.int (0 : Int32)), (.int (0 : Int32)), (.int (0 : Int32)), (.int (0 : Int32)), (.int (0 : Int32)), (.int (0 : Int32)), (.int (0 : Int32))] (.int (0 : Int32)) := Arv.set Ar12 Qk12 Sz12 Nn12 Hh12 Gg12 rfl W12 4 rfl (Nat.le_of_ble_eq_true rfl)
  have N12 := Fr.snoc X12 N10 g_b2
  have Z12 : n0 ≤ h12.size := Nat.le_trans Z10 (Keep.of_wr W12).1
  have K12 := K10.wr W12 (Or.inr sz_b2)
  obtain ⟨lc12, X12, N12⟩ : ∃ lc, Stand p l e room_1 s m #[(.int p1), (.int p2), (.int p3)] below meth c T12 lc 1 16 ∧ Fr n0 lc := ⟨_, X12, N12⟩
  refine OutW.back st12 ?_
  show OutW _ _ _ _ _ _ _ (T12.setTop (mkF m 68 #[.val (.int p1), .val (.int p2), .val (.int p3), .val (.int v1), .val (.ref b2), .unset, .unset, .unset, .unset, .unset, .unset, .unset, .unset, .unset, .unset, .unset, .unset, .unset, .unset] []))
  refine OutW.back (fun t k => XS.aload X12.here hx rfl (hb hby at_68) rfl rfl  k) ?_
  show OutW _ _ _ _ _ _ _ (T12.setTop (mkF m 70 #[.val (.int p1), .val (.int p2), .val (.int p3), .val (.int v1), .val (.ref b2), .unset, .unset, .unset, .unset, .unset, .unset, .unset, .unset, .unset, .unset, .unset, .unset, .unset, .unset] [(.ref b2)]))
  refine OutW.back (fun t k => XS.iconst X12.here hx rfl (hb hby at_70) k) ?_
  show OutW _ _ _ _ _ _ _ (T12.setTop (mkF m 71 #[.val (.int p1), .val (.int p2), .val (.int p3), .val (.int v1), .val (.ref b2), .unset, .unset, .unset, .unset, .unset, .unset, .unset, .unset, .unset, .unset, .unset, .unset, .unset, .unset] [(.int (5 : Int32)), (.ref b2)]))
  refine OutW.back (fun t k => XS.iloadN X12.here hx rfl (hb hby at_71) rfl  k) ?_
  show OutW _ _ _ _ _ _ _ (T12.setTop (mkF m 72 #[.val (.int p1), .val (.int p2), .val (.int p3), .val (.int v1), .val (.ref b2), .unset, .unset, .unset, .unset, .unset, .unset, .unset, .unset, .unset, .unset, .unset, .unset, .unset, .unset] [(.int p3), (.int (5 : Int32)), (.ref b2)]))
  refine OutW.back (fun t k => XS.bipush X12.here hx rfl (hb hby at_72) k) ?_
  show OutW _ _ _ _ _ _ _ (T12.setTop (mkF m 74 #[.val (.int p1), .val (.int p2), .val (.int p3), .val (.int v1), .val (.ref b2), .unset, .unset, .unset, .unset, .unset, .unset, .unset, .unset, .unset, .unset, .unset, .unset, .unset, .unset] [(.int (8 : Int32)), (.int p3), (.int (5 : Int32)), (.ref b2)]))
  refine OutW.back (fun t k => XS.iushr X12.here hx rfl (hb hby at_74) rfl k) ?_
  show OutW _ _ _ _ _ _ _ (T12.setTop (mkF m 75 #[.val (.int p1), .val (.int p2), .val (.int p3), .val (.int v1), .val (.ref b2), .unset, .unset, .unset, .unset, .unset, .unset, .unset, .unset, .unset, .unset, .unset, .unset, .unset, .unset] [(.int ((p3.toUInt32 >>> ((8 : Int32) &&& 31).toUInt32).toInt32)), (.int (5 : Int32)), (.ref b2)]))
  refine OutW.back (fun t k => XS.sipush X12.here hx rfl (hb hby at_75) k) ?_
  show OutW _ _ _ _ _ _ _ (T12.setTop (mkF m 78 #[.val (.int p1), .val (.int p2), .val (.int p3), .val (.int v1), .val (.ref b2), .unset, .unset, .unset, .unset, .unset, .unset, .unset, .unset, .unset, .unset, .unset, .unset, .unset, .unset] [(.int (255 : Int32)), (.int ((p3.toUInt32 >>> ((8 : Int32) &&& 31).toUInt32).toInt32)), (.int (5 : Int32)), (.ref b2)]))
  refine OutW.back (fun t k => XS.iand X12.here hx rfl (hb hby at_78) rfl k) ?_
  show OutW _ _ _ _ _ _ _ (T12.setTop (mkF m 79 #[.val (.int p1), .val (.int p2), .val (.int p3), .val (.int v1), .val (.ref b2), .unset, .unset, .unset, .unset, .unset, .unset, .unset, .unset, .unset, .unset, .unset, .unset, .unset, .unset] [(.int (((p3.toUInt32 >>> ((8 : Int32) &&& 31).toUInt32).toInt32) &&& (255 : Int32))), (.int (5 : Int32)), (.ref b2)]))
  generalize hv_v13 : (((p3.toUInt32 >>> ((8 : Int32) &&& 31).toUInt32).toInt32) &&& (255 : Int32)) = v13
  obtain ⟨cl14, Ar14, Qk14, Sz14, Nn14, Hh14, Gg14⟩ := id V_b2_12
  have hin14 : ¬ ((5 : Int32) < 0 ∨ cl14.slots.size ≤ ((5 : Int32)).toNatClampNeg) := inb_of Sz14 ⟨by decide, by decide⟩
  obtain ⟨T14, h14, X14, e14, W14, st14⟩ := stI X12 hx hZ e12 Ar14 (j := (5 : Int32)) hin14 (g := (mkF m 79 #[.val (.int p1), .val (.int p2), .val (.int p3), .val (.int v1), .val (.ref b2), .unset, .unset, .unset, .unset, .unset, .unset, .unset, .unset, .unset, .unset, .unset, .unset, .unset, .unset] [(.int v13), (.int (5 : Int32)), (.ref b2)])) rfl rfl (hb hby at_79)
  have V_b2_14 : Arv Z h14 b2 k2 .int (16 : Int32) [(.int v3), (.int v5), (.int v7), (.int v9), (.int v11), (.int v13), (.int (0 : Int32)), (.int (0 : Int32)), (.int (0 : Int32)), (.int (0 : Int32)), (.int (0 : Int32)), (.int (0 : Int32)), (.int (0 : Int32)), (.int (0 : Int32)), (.int (0 : Int32)), (.int (0 : Int32))] (.int (0 : Int32)) := Arv.set Ar14 Qk14 Sz14 Nn14 Hh14 Gg14 rfl W14 5 rfl (Nat.le_of_ble_eq_true rfl)
  have N14 := Fr.snoc X14 N12 g_b2
  have Z14 : n0 ≤ h14.size := Nat.le_trans Z12 (Keep.of_wr W14).1
  have K14 := K12.wr W14 (Or.inr sz_b2)
  obtain ⟨lc14, X14, N14⟩ : ∃ lc, Stand p l e room_1 s m #[(.int p1), (.int p2), (.int p3)] below meth c T14 lc 1 16 ∧ Fr n0 lc := ⟨_, X14, N14⟩
  refine OutW.back st14 ?_
  show OutW _ _ _ _ _ _ _ (T14.setTop (mkF m 80 #[.val (.int p1), .val (.int p2), .val (.int p3), .val (.int v1), .val (.ref b2), .unset, .unset, .unset, .unset, .unset, .unset, .unset, .unset, .unset, .unset, .unset, .unset, .unset, .unset] []))
  refine OutW.back (fun t k => XS.aload X14.here hx rfl (hb hby at_80) rfl rfl  k) ?_
  show OutW _ _ _ _ _ _ _ (T14.setTop (mkF m 82 #[.val (.int p1), .val (.int p2), .val (.int p3), .val (.int v1), .val (.ref b2), .unset, .unset, .unset, .unset, .unset, .unset, .unset, .unset, .unset, .unset, .unset, .unset, .unset, .unset] [(.ref b2)]))
  refine OutW.back (fun t k => XS.bipush X14.here hx rfl (hb hby at_82) k) ?_
  show OutW _ _ _ _ _ _ _ (T14.setTop (mkF m 84 #[.val (.int p1), .val (.int p2), .val (.int p3), .val (.int v1), .val (.ref b2), .unset, .unset, .unset, .unset, .unset, .unset, .unset, .unset, .unset, .unset, .unset, .unset, .unset, .unset] [(.int (6 : Int32)), (.ref b2)]))
  refine OutW.back (fun t k => XS.iloadN X14.here hx rfl (hb hby at_84) rfl  k) ?_
  show OutW _ _ _ _ _ _ _ (T14.setTop (mkF m 85 #[.val (.int p1), .val (.int p2), .val (.int p3), .val (.int v1), .val (.ref b2), .unset, .unset, .unset, .unset, .unset, .unset, .unset, .unset, .unset, .unset, .unset, .unset, .unset, .unset] [(.int p3), (.int (6 : Int32)), (.ref b2)]))
  refine OutW.back (fun t k => XS.bipush X14.here hx rfl (hb hby at_85) k) ?_
  show OutW _ _ _ _ _ _ _ (T14.setTop (mkF m 87 #[.val (.int p1), .val (.int p2), .val (.int p3), .val (.int v1), .val (.ref b2), .unset, .unset, .unset, .unset, .unset, .unset, .unset, .unset, .unset, .unset, .unset, .unset, .unset, .unset] [(.int (16 : Int32)), (.int p3), (.int (6 : Int32)), (.ref b2)]))
  refine OutW.back (fun t k => XS.iushr X14.here hx rfl (hb hby at_87) rfl k) ?_
  show OutW _ _ _ _ _ _ _ (T14.setTop (mkF m 88 #[.val (.int p1), .val (.int p2), .val (.int p3), .val (.int v1), .val (.ref b2), .unset, .unset, .unset, .unset, .unset, .unset, .unset, .unset, .unset, .unset, .unset, .unset, .unset, .unset] [(.int ((p3.toUInt32 >>> ((16 : Int32) &&& 31).toUInt32).toInt32)), (.int (6 : Int32)), (.ref b2)]))
  refine OutW.back (fun t k => XS.sipush X14.here hx rfl (hb hby at_88) k) ?_
  show OutW _ _ _ _ _ _ _ (T14.setTop (mkF m 91 #[.val (.int p1), .val (.int p2), .val (.int p3), .val (.int v1), .val (.ref b2), .unset, .unset, .unset, .unset, .unset, .unset, .unset, .unset, .unset, .unset, .unset, .unset, .unset, .unset] [(.int (255 : Int32)), (.int ((p3.toUInt32 >>> ((16 : Int32) &&& 31).toUInt32).toInt32)), (.int (6 : Int32)), (.ref b2)]))
  refine OutW.back (fun t k => XS.iand X14.here hx rfl (hb hby at_91) rfl k) ?_
  show OutW _ _ _ _ _ _ _ (T14.setTop (mkF m 92 #[.val (.int p1), .val (.int p2), .val (.int p3), .val (.int v1), .val (.ref b2), .unset, .unset, .unset, .unset, .unset, .unset, .unset, .unset, .unset, .unset, .unset, .unset, .unset, .unset] [(.int (((p3.toUInt32 >>> ((16 : Int32) &&& 31).toUInt32).toInt32) &&& (255 : Int32))), (.int (6 : Int32)), (.ref b2)]))
  generalize hv_v15 : (((p3.toUInt32 >>> ((16 : Int32) &&& 31).toUInt32).toInt32) &&& (255 : Int32)) = v15
  obtain ⟨cl16, Ar16, Qk16, Sz16, Nn16, Hh16, Gg16⟩ := id V_b2_14
  have hin16 : ¬ ((6 : Int32) < 0 ∨ cl16.slots.size ≤ ((6 : Int32)).toNatClampNeg) := inb_of Sz16 ⟨by decide, by decide⟩
  obtain ⟨T16, h16, X16, e16, W16, st16⟩ := stI X14 hx hZ e14 Ar16 (j := (6 : Int32)) hin16 (g := (mkF m 92 #[.val (.int p1), .val (.int p2), .val (.int p3), .val (.int v1), .val (.ref b2), .unset, .unset, .unset, .unset, .unset, .unset, .unset, .unset, .unset, .unset, .unset, .unset, .unset, .unset] [(.int v15), (.int (6 : Int32)), (.ref b2)])) rfl rfl (hb hby at_92)
  have V_b2_16 : Arv Z h16 b2 k2 .int (16 : Int32) [(.int v3), (.int v5), (.int v7), (.int v9), (.int v11), (.int v13), (.int v15), (.int (0 : Int32)), (.int (0 : Int32)), (.int (0 : Int32)), (.int (0 : Int32)), (.int (0 : Int32)), (.int (0 : Int32)), (.int (0 : Int32)), (.int (0 : Int32)), (.int (0 : Int32))] (.int (0 : Int32)) := Arv.set Ar16 Qk16 Sz16 Nn16 Hh16 Gg16 rfl W16 6 rfl (Nat.le_of_ble_eq_true rfl)
  have N16 := Fr.snoc X16 N14 g_b2
  have Z16 : n0 ≤ h16.size := Nat.le_trans Z14 (Keep.of_wr W16).1
  have K16 := K14.wr W16 (Or.inr sz_b2)
  obtain ⟨lc16, X16, N16⟩ : ∃ lc, Stand p l e room_1 s m #[(.int p1), (.int p2), (.int p3)] below meth c T16 lc 1 16 ∧ Fr n0 lc := ⟨_, X16, N16⟩
  refine OutW.back st16 ?_
  show OutW _ _ _ _ _ _ _ (T16.setTop (mkF m 93 #[.val (.int p1), .val (.int p2), .val (.int p3), .val (.int v1), .val (.ref b2), .unset, .unset, .unset, .unset, .unset, .unset, .unset, .unset, .unset, .unset, .unset, .unset, .unset, .unset] []))
  refine OutW.back (fun t k => XS.aload X16.here hx rfl (hb hby at_93) rfl rfl  k) ?_
  show OutW _ _ _ _ _ _ _ (T16.setTop (mkF m 95 #[.val (.int p1), .val (.int p2), .val (.int p3), .val (.int v1), .val (.ref b2), .unset, .unset, .unset, .unset, .unset, .unset, .unset, .unset, .unset, .unset, .unset, .unset, .unset, .unset] [(.ref b2)]))
  refine OutW.back (fun t k => XS.bipush X16.here hx rfl (hb hby at_95) k) ?_
  show OutW _ _ _ _ _ _ _ (T16.setTop (mkF m 97 #[.val (.int p1), .val (.int p2), .val (.int p3), .val (.int v1), .val (.ref b2), .unset, .unset, .unset, .unset, .unset, .unset, .unset, .unset, .unset, .unset, .unset, .unset, .unset, .unset] [(.int (7 : Int32)), (.ref b2)]))
  refine OutW.back (fun t k => XS.iloadN X16.here hx rfl (hb hby at_97) rfl  k) ?_
  show OutW _ _ _ _ _ _ _ (T16.setTop (mkF m 98 #[.val (.int p1), .val (.int p2), .val (.int p3), .val (.int v1), .val (.ref b2), .unset, .unset, .unset, .unset, .unset, .unset, .unset, .unset, .unset, .unset, .unset, .unset, .unset, .unset] [(.int p3), (.int (7 : Int32)), (.ref b2)]))
  refine OutW.back (fun t k => XS.bipush X16.here hx rfl (hb hby at_98) k) ?_
  show OutW _ _ _ _ _ _ _ (T16.setTop (mkF m 100 #[.val (.int p1), .val (.int p2), .val (.int p3), .val (.int v1), .val (.ref b2), .unset, .unset, .unset, .unset, .unset, .unset, .unset, .unset, .unset, .unset, .unset, .unset, .unset, .unset] [(.int (24 : Int32)), (.int p3), (.int (7 : Int32)), (.ref b2)]))
  refine OutW.back (fun t k => XS.iushr X16.here hx rfl (hb hby at_100) rfl k) ?_
  show OutW _ _ _ _ _ _ _ (T16.setTop (mkF m 101 #[.val (.int p1), .val (.int p2), .val (.int p3), .val (.int v1), .val (.ref b2), .unset, .unset, .unset, .unset, .unset, .unset, .unset, .unset, .unset, .unset, .unset, .unset, .unset, .unset] [(.int ((p3.toUInt32 >>> ((24 : Int32) &&& 31).toUInt32).toInt32)), (.int (7 : Int32)), (.ref b2)]))
  refine OutW.back (fun t k => XS.sipush X16.here hx rfl (hb hby at_101) k) ?_
  show OutW _ _ _ _ _ _ _ (T16.setTop (mkF m 104 #[.val (.int p1), .val (.int p2), .val (.int p3), .val (.int v1), .val (.ref b2), .unset, .unset, .unset, .unset, .unset, .unset, .unset, .unset, .unset, .unset, .unset, .unset, .unset, .unset] [(.int (255 : Int32)), (.int ((p3.toUInt32 >>> ((24 : Int32) &&& 31).toUInt32).toInt32)), (.int (7 : Int32)), (.ref b2)]))
  refine OutW.back (fun t k => XS.iand X16.here hx rfl (hb hby at_104) rfl k) ?_
  show OutW _ _ _ _ _ _ _ (T16.setTop (mkF m 105 #[.val (.int p1), .val (.int p2), .val (.int p3), .val (.int v1), .val (.ref b2), .unset, .unset, .unset, .unset, .unset, .unset, .unset, .unset, .unset, .unset, .unset, .unset, .unset, .unset] [(.int (((p3.toUInt32 >>> ((24 : Int32) &&& 31).toUInt32).toInt32) &&& (255 : Int32))), (.int (7 : Int32)), (.ref b2)]))
  generalize hv_v17 : (((p3.toUInt32 >>> ((24 : Int32) &&& 31).toUInt32).toInt32) &&& (255 : Int32)) = v17
  obtain ⟨cl18, Ar18, Qk18, Sz18, Nn18, Hh18, Gg18⟩ := id V_b2_16
  have hin18 : ¬ ((7 : Int32) < 0 ∨ cl18.slots.size ≤ ((7 : Int32)).toNatClampNeg) := inb_of Sz18 ⟨by decide, by decide⟩
  obtain ⟨T18, h18, X18, e18, W18, st18⟩ := stI X16 hx hZ e16 Ar18 (j := (7 : Int32)) hin18 (g := (mkF m 105 #[.val (.int p1), .val (.int p2), .val (.int p3), .val (.int v1), .val (.ref b2), .unset, .unset, .unset, .unset, .unset, .unset, .unset, .unset, .unset, .unset, .unset, .unset, .unset, .unset] [(.int v17), (.int (7 : Int32)), (.ref b2)])) rfl rfl (hb hby at_105)
  have V_b2_18 : Arv Z h18 b2 k2 .int (16 : Int32) [(.int v3), (.int v5), (.int v7), (.int v9), (.int v11), (.int v13), (.int v15), (.int v17), (.int (0 : Int32)), (.int (0 : Int32)), (.int (0 : Int32)), (.int (0 : Int32)), (.int (0 : Int32)), (.int (0 : Int32)), (.int (0 : Int32)), (.int (0 : Int32))] (.int (0 : Int32)) := Arv.set Ar18 Qk18 Sz18 Nn18 Hh18 Gg18 rfl W18 7 rfl (Nat.le_of_ble_eq_true rfl)
  have N18 := Fr.snoc X18 N16 g_b2
  have Z18 : n0 ≤ h18.size := Nat.le_trans Z16 (Keep.of_wr W18).1
  have K18 := K16.wr W18 (Or.inr sz_b2)
  obtain ⟨lc18, X18, N18⟩ : ∃ lc, Stand p l e room_1 s m #[(.int p1), (.int p2), (.int p3)] below meth c T18 lc 1 16 ∧ Fr n0 lc := ⟨_, X18, N18⟩
  refine OutW.back st18 ?_
  show OutW _ _ _ _ _ _ _ (T18.setTop (mkF m 106 #[.val (.int p1), .val (.int p2), .val (.int p3), .val (.int v1), .val (.ref b2), .unset, .unset, .unset, .unset, .unset, .unset, .unset, .unset, .unset, .unset, .unset, .unset, .unset, .unset] []))
  refine OutW.back (fun t k => XS.iloadN X18.here hx rfl (hb hby at_106) rfl  k) ?_
  show OutW _ _ _ _ _ _ _ (T18.setTop (mkF m 107 #[.val (.int p1), .val (.int p2), .val (.int p3), .val (.int v1), .val (.ref b2), .unset, .unset, .unset, .unset, .unset, .unset, .unset, .unset, .unset, .unset, .unset, .unset, .unset, .unset] [(.int v1)]))
  have hneg_107 := hn8.1
  have hcap_107 := own_cap hn8.2
  obtain ⟨T19, h19, k19, X19, e19, E19, A19, st19⟩ := newP X18 hx hZ (hw _ (List.mem_of_getElem? (i := 1) rfl)) e18 (g := (mkF m 107 #[.val (.int p1), .val (.int p2), .val (.int p3), .val (.int v1), .val (.ref b2), .unset, .unset, .unset, .unset, .unset, .unset, .unset, .unset, .unset, .unset, .unset, .unset, .unset, .unset] [(.int v1)])) rfl (hb hby at_107) rfl hneg_107 (cap := 8) hcap_107 (by decide) (by decide) (by decide)
  obtain ⟨b19, g19⟩ : ∃ z, z = h18.size := ⟨_, rfl⟩
  rw [← g19] at A19 st19
  have ne_b2_b19 : b2 ≠ b19 := Nat.ne_of_lt (Nat.lt_of_lt_of_le V_b2_18.lt (Nat.le_of_eq g19.symm))
  have g_b19 : n0 ≤ b19 := Nat.le_trans Z18 (Nat.le_of_eq g19.symm)
  have sz_b19 : h0.size ≤ b19 := Nat.le_trans K18.1 (Nat.le_of_eq g19.symm)
  have V_b2_18 := V_b2_18.ext E19
  have Z19 : n0 ≤ h19.size := Nat.le_trans Z18 E19.1
  have K19 := K18.ext E19
  have V_b19 : Arv Z h19 b19 k19 .byte v1 [(.int (0 : Int32)), (.int (0 : Int32)), (.int (0 : Int32)), (.int (0 : Int32)), (.int (0 : Int32)), (.int (0 : Int32)), (.int (0 : Int32)), (.int (0 : Int32))] (.int (0 : Int32)) := (Arv.new A19 hneg_107).pad (pad_rep [] (.int (0 : Int32)) 8)
  refine OutW.back st19 ?_
  show OutW _ _ _ _ _ _ _ (T19.setTop (mkF m 109 #[.val (.int p1), .val (.int p2), .val (.int p3), .val (.int v1), .val (.ref b2), .unset, .unset, .unset, .unset, .unset, .unset, .unset, .unset, .unset, .unset, .unset, .unset, .unset, .unset] [(.ref b19)]))
  refine OutW.back (fun t k => XS.astore X19.here hx rfl (hb hby at_109) rfl rfl (l' := #[.val (.int p1), .val (.int p2), .val (.int p3), .val (.int v1), .val (.ref b2), .val (.ref b19), .unset, .unset, .unset, .unset, .unset, .unset, .unset, .unset, .unset, .unset, .unset, .unset, .unset]) rfl k) ?_
  show OutW _ _ _ _ _ _ _ (T19.setTop (mkF m 111 #[.val (.int p1), .val (.int p2), .val (.int p3), .val (.int v1), .val (.ref b2), .val (.ref b19), .unset, .unset, .unset, .unset, .unset, .unset, .unset, .unset, .unset, .unset, .unset, .unset, .unset] []))
  refine OutW.back (fun t k => XS.iloadN X19.here hx rfl (hb hby at_111) rfl  k) ?_
  show OutW _ _ _ _ _ _ _ (T19.setTop (mkF m 112 #[.val (.int p1), .val (.int p2), .val (.int p3), .val (.int v1), .val (.ref b2), .val (.ref b19), .unset, .unset, .unset, .unset, .unset, .unset, .unset, .unset, .unset, .unset, .unset, .unset, .unset] [(.int v1)]))
  have cont20 : ∀ (T20 : State) (h20 : Heap) (lc20 : List Loc) (_ : Stand p l e room_1 s m #[(.int p1), (.int p2), (.int p3)] below meth c T20 lc20 2 24) (_ : T20.heap = h20) (_ : Fr n0 lc20) (_ : n0 ≤ h20.size) (_ : Keep h0 h20 []) (_ : Arv Z h20 b2 k2 .int (16 : Int32) [(.int v3), (.int v5), (.int v7), (.int v9), (.int v11), (.int v13), (.int v15), (.int v17), (.int (0 : Int32)), (.int (0 : Int32)), (.int (0 : Int32)), (.int (0 : Int32)), (.int (0 : Int32)), (.int (0 : Int32)), (.int (0 : Int32)), (.int (0 : Int32))] (.int (0 : Int32))) (_ : Arv Z h20 b19 k19 .byte v1 [(.int (nar .byte v3.toInt8.toInt32)), (.int (0 : Int32)), (.int (0 : Int32)), (.int (0 : Int32)), (.int (0 : Int32)), (.int (0 : Int32)), (.int (0 : Int32)), (.int (0 : Int32))] (.int (0 : Int32))), OutW p e below s room_1.cells room_1.slots (Q0 Z p1 p2 p3 h0 n0) (T20.setTop (mkF m 124 #[.val (.int p1), .val (.int p2), .val (.int p3), .val (.int v1), .val (.ref b2), .val (.ref b19), .unset, .unset, .unset, .unset, .unset, .unset, .unset, .unset, .unset, .unset, .unset, .unset, .unset] [])) := by
    intro T20 h20 lc20 X20 e20 N20 Z20 K20 V_b2_18 V_b19_c
    show OutW _ _ _ _ _ _ _ (T20.setTop (mkF m 124 #[.val (.int p1), .val (.int p2), .val (.int p3), .val (.int v1), .val (.ref b2), .val (.ref b19), .unset, .unset, .unset, .unset, .unset, .unset, .unset, .unset, .unset, .unset, .unset, .unset, .unset] []))
    refine OutW.back (fun t k => XS.iloadN X20.here hx rfl (hb hby at_124) rfl  k) ?_
    show OutW _ _ _ _ _ _ _ (T20.setTop (mkF m 125 #[.val (.int p1), .val (.int p2), .val (.int p3), .val (.int v1), .val (.ref b2), .val (.ref b19), .unset, .unset, .unset, .unset, .unset, .unset, .unset, .unset, .unset, .unset, .unset, .unset, .unset] [(.int v1)]))
    refine OutW.back (fun t k => XS.iconst X20.here hx rfl (hb hby at_125) k) ?_
    show OutW _ _ _ _ _ _ _ (T20.setTop (mkF m 126 #[.val (.int p1), .val (.int p2), .val (.int p3), .val (.int v1), .val (.ref b2), .val (.ref b19), .unset, .unset, .unset, .unset, .unset, .unset, .unset, .unset, .unset, .unset, .unset, .unset, .unset] [(.int (1 : Int32)), (.int v1)]))
    have cont21 : ∀ (T21 : State) (h21 : Heap) (lc21 : List Loc) (_ : Stand p l e room_1 s m #[(.int p1), (.int p2), (.int p3)] below meth c T21 lc21 2 24) (_ : T21.heap = h21) (_ : Fr n0 lc21) (_ : n0 ≤ h21.size) (_ : Keep h0 h21 []) (_ : Arv Z h21 b2 k2 .int (16 : Int32) [(.int v3), (.int v5), (.int v7), (.int v9), (.int v11), (.int v13), (.int v15), (.int v17), (.int (0 : Int32)), (.int (0 : Int32)), (.int (0 : Int32)), (.int (0 : Int32)), (.int (0 : Int32)), (.int (0 : Int32)), (.int (0 : Int32)), (.int (0 : Int32))] (.int (0 : Int32))) (_ : Arv Z h21 b19 k19 .byte v1 [(.int (nar .byte v3.toInt8.toInt32)), (.int (nar .byte v5.toInt8.toInt32)), (.int (0 : Int32)), (.int (0 : Int32)), (.int (0 : Int32)), (.int (0 : Int32)), (.int (0 : Int32)), (.int (0 : Int32))] (.int (0 : Int32))), OutW p e below s room_1.cells room_1.slots (Q0 Z p1 p2 p3 h0 n0) (T21.setTop (mkF m 138 #[.val (.int p1), .val (.int p2), .val (.int p3), .val (.int v1), .val (.ref b2), .val (.ref b19), .unset, .unset, .unset, .unset, .unset, .unset, .unset, .unset, .unset, .unset, .unset, .unset, .unset] [])) := by
      intro T21 h21 lc21 X21 e21 N21 Z21 K21 V_b2_18 V_b19_c
      show OutW _ _ _ _ _ _ _ (T21.setTop (mkF m 138 #[.val (.int p1), .val (.int p2), .val (.int p3), .val (.int v1), .val (.ref b2), .val (.ref b19), .unset, .unset, .unset, .unset, .unset, .unset, .unset, .unset, .unset, .unset, .unset, .unset, .unset] []))
      refine OutW.back (fun t k => XS.iloadN X21.here hx rfl (hb hby at_138) rfl  k) ?_
      show OutW _ _ _ _ _ _ _ (T21.setTop (mkF m 139 #[.val (.int p1), .val (.int p2), .val (.int p3), .val (.int v1), .val (.ref b2), .val (.ref b19), .unset, .unset, .unset, .unset, .unset, .unset, .unset, .unset, .unset, .unset, .unset, .unset, .unset] [(.int v1)]))
      refine OutW.back (fun t k => XS.iconst X21.here hx rfl (hb hby at_139) k) ?_
      show OutW _ _ _ _ _ _ _ (T21.setTop (mkF m 140 #[.val (.int p1), .val (.int p2), .val (.int p3), .val (.int v1), .val (.ref b2), .val (.ref b19), .unset, .unset, .unset, .unset, .unset, .unset, .unset, .unset, .unset, .unset, .unset, .unset, .unset] [(.int (2 : Int32)), (.int v1)]))
      have cont22 : ∀ (T22 : State) (h22 : Heap) (lc22 : List Loc) (_ : Stand p l e room_1 s m #[(.int p1), (.int p2), (.int p3)] below meth c T22 lc22 2 24) (_ : T22.heap = h22) (_ : Fr n0 lc22) (_ : n0 ≤ h22.size) (_ : Keep h0 h22 []) (_ : Arv Z h22 b2 k2 .int (16 : Int32) [(.int v3), (.int v5), (.int v7), (.int v9), (.int v11), (.int v13), (.int v15), (.int v17), (.int (0 : Int32)), (.int (0 : Int32)), (.int (0 : Int32)), (.int (0 : Int32)), (.int (0 : Int32)), (.int (0 : Int32)), (.int (0 : Int32)), (.int (0 : Int32))] (.int (0 : Int32))) (_ : Arv Z h22 b19 k19 .byte v1 [(.int (nar .byte v3.toInt8.toInt32)), (.int (nar .byte v5.toInt8.toInt32)), (.int (nar .byte v7.toInt8.toInt32)), (.int (0 : Int32)), (.int (0 : Int32)), (.int (0 : Int32)), (.int (0 : Int32)), (.int (0 : Int32))] (.int (0 : Int32))), OutW p e below s room_1.cells room_1.slots (Q0 Z p1 p2 p3 h0 n0) (T22.setTop (mkF m 152 #[.val (.int p1), .val (.int p2), .val (.int p3), .val (.int v1), .val (.ref b2), .val (.ref b19), .unset, .unset, .unset, .unset, .unset, .unset, .unset, .unset, .unset, .unset, .unset, .unset, .unset] [])) := by
        intro T22 h22 lc22 X22 e22 N22 Z22 K22 V_b2_18 V_b19_c
        show OutW _ _ _ _ _ _ _ (T22.setTop (mkF m 152 #[.val (.int p1), .val (.int p2), .val (.int p3), .val (.int v1), .val (.ref b2), .val (.ref b19), .unset, .unset, .unset, .unset, .unset, .unset, .unset, .unset, .unset, .unset, .unset, .unset, .unset] []))
        refine OutW.back (fun t k => XS.iloadN X22.here hx rfl (hb hby at_152) rfl  k) ?_
        show OutW _ _ _ _ _ _ _ (T22.setTop (mkF m 153 #[.val (.int p1), .val (.int p2), .val (.int p3), .val (.int v1), .val (.ref b2), .val (.ref b19), .unset, .unset, .unset, .unset, .unset, .unset, .unset, .unset, .unset, .unset, .unset, .unset, .unset] [(.int v1)]))
        refine OutW.back (fun t k => XS.iconst X22.here hx rfl (hb hby at_153) k) ?_
        show OutW _ _ _ _ _ _ _ (T22.setTop (mkF m 154 #[.val (.int p1), .val (.int p2), .val (.int p3), .val (.int v1), .val (.ref b2), .val (.ref b19), .unset, .unset, .unset, .unset, .unset, .unset, .unset, .unset, .unset, .unset, .unset, .unset, .unset] [(.int (3 : Int32)), (.int v1)]))
        have cont23 : ∀ (T23 : State) (h23 : Heap) (lc23 : List Loc) (_ : Stand p l e room_1 s m #[(.int p1), (.int p2), (.int p3)] below meth c T23 lc23 2 24) (_ : T23.heap = h23) (_ : Fr n0 lc23) (_ : n0 ≤ h23.size) (_ : Keep h0 h23 []) (_ : Arv Z h23 b2 k2 .int (16 : Int32) [(.int v3), (.int v5), (.int v7), (.int v9), (.int v11), (.int v13), (.int v15), (.int v17), (.int (0 : Int32)), (.int (0 : Int32)), (.int (0 : Int32)), (.int (0 : Int32)), (.int (0 : Int32)), (.int (0 : Int32)), (.int (0 : Int32)), (.int (0 : Int32))] (.int (0 : Int32))) (_ : Arv Z h23 b19 k19 .byte v1 [(.int (nar .byte v3.toInt8.toInt32)), (.int (nar .byte v5.toInt8.toInt32)), (.int (nar .byte v7.toInt8.toInt32)), (.int (nar .byte v9.toInt8.toInt32)), (.int (0 : Int32)), (.int (0 : Int32)), (.int (0 : Int32)), (.int (0 : Int32))] (.int (0 : Int32))), OutW p e below s room_1.cells room_1.slots (Q0 Z p1 p2 p3 h0 n0) (T23.setTop (mkF m 166 #[.val (.int p1), .val (.int p2), .val (.int p3), .val (.int v1), .val (.ref b2), .val (.ref b19), .unset, .unset, .unset, .unset, .unset, .unset, .unset, .unset, .unset, .unset, .unset, .unset, .unset] [])) := by
          intro T23 h23 lc23 X23 e23 N23 Z23 K23 V_b2_18 V_b19_c
          show OutW _ _ _ _ _ _ _ (T23.setTop (mkF m 166 #[.val (.int p1), .val (.int p2), .val (.int p3), .val (.int v1), .val (.ref b2), .val (.ref b19), .unset, .unset, .unset, .unset, .unset, .unset, .unset, .unset, .unset, .unset, .unset, .unset, .unset] []))
          refine OutW.back (fun t k => XS.iloadN X23.here hx rfl (hb hby at_166) rfl  k) ?_
          show OutW _ _ _ _ _ _ _ (T23.setTop (mkF m 167 #[.val (.int p1), .val (.int p2), .val (.int p3), .val (.int v1), .val (.ref b2), .val (.ref b19), .unset, .unset, .unset, .unset, .unset, .unset, .unset, .unset, .unset, .unset, .unset, .unset, .unset] [(.int v1)]))
          refine OutW.back (fun t k => XS.iconst X23.here hx rfl (hb hby at_167) k) ?_
          show OutW _ _ _ _ _ _ _ (T23.setTop (mkF m 168 #[.val (.int p1), .val (.int p2), .val (.int p3), .val (.int v1), .val (.ref b2), .val (.ref b19), .unset, .unset, .unset, .unset, .unset, .unset, .unset, .unset, .unset, .unset, .unset, .unset, .unset] [(.int (4 : Int32)), (.int v1)]))
          have cont24 : ∀ (T24 : State) (h24 : Heap) (lc24 : List Loc) (_ : Stand p l e room_1 s m #[(.int p1), (.int p2), (.int p3)] below meth c T24 lc24 2 24) (_ : T24.heap = h24) (_ : Fr n0 lc24) (_ : n0 ≤ h24.size) (_ : Keep h0 h24 []) (_ : Arv Z h24 b2 k2 .int (16 : Int32) [(.int v3), (.int v5), (.int v7), (.int v9), (.int v11), (.int v13), (.int v15), (.int v17), (.int (0 : Int32)), (.int (0 : Int32)), (.int (0 : Int32)), (.int (0 : Int32)), (.int (0 : Int32)), (.int (0 : Int32)), (.int (0 : Int32)), (.int (0 : Int32))] (.int (0 : Int32))) (_ : Arv Z h24 b19 k19 .byte v1 [(.int (nar .byte v3.toInt8.toInt32)), (.int (nar .byte v5.toInt8.toInt32)), (.int (nar .byte v7.toInt8.toInt32)), (.int (nar .byte v9.toInt8.toInt32)), (.int (nar .byte v11.toInt8.toInt32)), (.int (0 : Int32)), (.int (0 : Int32)), (.int (0 : Int32))] (.int (0 : Int32))), OutW p e below s room_1.cells room_1.slots (Q0 Z p1 p2 p3 h0 n0) (T24.setTop (mkF m 180 #[.val (.int p1), .val (.int p2), .val (.int p3), .val (.int v1), .val (.ref b2), .val (.ref b19), .unset, .unset, .unset, .unset, .unset, .unset, .unset, .unset, .unset, .unset, .unset, .unset, .unset] [])) := by
            intro T24 h24 lc24 X24 e24 N24 Z24 K24 V_b2_18 V_b19_c
            show OutW _ _ _ _ _ _ _ (T24.setTop (mkF m 180 #[.val (.int p1), .val (.int p2), .val (.int p3), .val (.int v1), .val (.ref b2), .val (.ref b19), .unset, .unset, .unset, .unset, .unset, .unset, .unset, .unset, .unset, .unset, .unset, .unset, .unset] []))
            refine OutW.back (fun t k => XS.iloadN X24.here hx rfl (hb hby at_180) rfl  k) ?_
            show OutW _ _ _ _ _ _ _ (T24.setTop (mkF m 181 #[.val (.int p1), .val (.int p2), .val (.int p3), .val (.int v1), .val (.ref b2), .val (.ref b19), .unset, .unset, .unset, .unset, .unset, .unset, .unset, .unset, .unset, .unset, .unset, .unset, .unset] [(.int v1)]))
            refine OutW.back (fun t k => XS.iconst X24.here hx rfl (hb hby at_181) k) ?_
            show OutW _ _ _ _ _ _ _ (T24.setTop (mkF m 182 #[.val (.int p1), .val (.int p2), .val (.int p3), .val (.int v1), .val (.ref b2), .val (.ref b19), .unset, .unset, .unset, .unset, .unset, .unset, .unset, .unset, .unset, .unset, .unset, .unset, .unset] [(.int (5 : Int32)), (.int v1)]))
            have cont25 : ∀ (T25 : State) (h25 : Heap) (lc25 : List Loc) (_ : Stand p l e room_1 s m #[(.int p1), (.int p2), (.int p3)] below meth c T25 lc25 2 24) (_ : T25.heap = h25) (_ : Fr n0 lc25) (_ : n0 ≤ h25.size) (_ : Keep h0 h25 []) (_ : Arv Z h25 b2 k2 .int (16 : Int32) [(.int v3), (.int v5), (.int v7), (.int v9), (.int v11), (.int v13), (.int v15), (.int v17), (.int (0 : Int32)), (.int (0 : Int32)), (.int (0 : Int32)), (.int (0 : Int32)), (.int (0 : Int32)), (.int (0 : Int32)), (.int (0 : Int32)), (.int (0 : Int32))] (.int (0 : Int32))) (_ : Arv Z h25 b19 k19 .byte v1 [(.int (nar .byte v3.toInt8.toInt32)), (.int (nar .byte v5.toInt8.toInt32)), (.int (nar .byte v7.toInt8.toInt32)), (.int (nar .byte v9.toInt8.toInt32)), (.int (nar .byte v11.toInt8.toInt32)), (.int (nar .byte v13.toInt8.toInt32)), (.int (0 : Int32)), (.int (0 : Int32))] (.int (0 : Int32))), OutW p e below s room_1.cells room_1.slots (Q0 Z p1 p2 p3 h0 n0) (T25.setTop (mkF m 194 #[.val (.int p1), .val (.int p2), .val (.int p3), .val (.int v1), .val (.ref b2), .val (.ref b19), .unset, .unset, .unset, .unset, .unset, .unset, .unset, .unset, .unset, .unset, .unset, .unset, .unset] [])) := by
              intro T25 h25 lc25 X25 e25 N25 Z25 K25 V_b2_18 V_b19_c
              show OutW _ _ _ _ _ _ _ (T25.setTop (mkF m 194 #[.val (.int p1), .val (.int p2), .val (.int p3), .val (.int v1), .val (.ref b2), .val (.ref b19), .unset, .unset, .unset, .unset, .unset, .unset, .unset, .unset, .unset, .unset, .unset, .unset, .unset] []))
              refine OutW.back (fun t k => XS.iloadN X25.here hx rfl (hb hby at_194) rfl  k) ?_
              show OutW _ _ _ _ _ _ _ (T25.setTop (mkF m 195 #[.val (.int p1), .val (.int p2), .val (.int p3), .val (.int v1), .val (.ref b2), .val (.ref b19), .unset, .unset, .unset, .unset, .unset, .unset, .unset, .unset, .unset, .unset, .unset, .unset, .unset] [(.int v1)]))
              refine OutW.back (fun t k => XS.bipush X25.here hx rfl (hb hby at_195) k) ?_
              show OutW _ _ _ _ _ _ _ (T25.setTop (mkF m 197 #[.val (.int p1), .val (.int p2), .val (.int p3), .val (.int v1), .val (.ref b2), .val (.ref b19), .unset, .unset, .unset, .unset, .unset, .unset, .unset, .unset, .unset, .unset, .unset, .unset, .unset] [(.int (6 : Int32)), (.int v1)]))
              have cont26 : ∀ (T26 : State) (h26 : Heap) (lc26 : List Loc) (_ : Stand p l e room_1 s m #[(.int p1), (.int p2), (.int p3)] below meth c T26 lc26 2 24) (_ : T26.heap = h26) (_ : Fr n0 lc26) (_ : n0 ≤ h26.size) (_ : Keep h0 h26 []) (_ : Arv Z h26 b2 k2 .int (16 : Int32) [(.int v3), (.int v5), (.int v7), (.int v9), (.int v11), (.int v13), (.int v15), (.int v17), (.int (0 : Int32)), (.int (0 : Int32)), (.int (0 : Int32)), (.int (0 : Int32)), (.int (0 : Int32)), (.int (0 : Int32)), (.int (0 : Int32)), (.int (0 : Int32))] (.int (0 : Int32))) (_ : Arv Z h26 b19 k19 .byte v1 [(.int (nar .byte v3.toInt8.toInt32)), (.int (nar .byte v5.toInt8.toInt32)), (.int (nar .byte v7.toInt8.toInt32)), (.int (nar .byte v9.toInt8.toInt32)), (.int (nar .byte v11.toInt8.toInt32)), (.int (nar .byte v13.toInt8.toInt32)), (.int (nar .byte v15.toInt8.toInt32)), (.int (0 : Int32))] (.int (0 : Int32))), OutW p e below s room_1.cells room_1.slots (Q0 Z p1 p2 p3 h0 n0) (T26.setTop (mkF m 211 #[.val (.int p1), .val (.int p2), .val (.int p3), .val (.int v1), .val (.ref b2), .val (.ref b19), .unset, .unset, .unset, .unset, .unset, .unset, .unset, .unset, .unset, .unset, .unset, .unset, .unset] [])) := by
                intro T26 h26 lc26 X26 e26 N26 Z26 K26 V_b2_18 V_b19_c
                show OutW _ _ _ _ _ _ _ (T26.setTop (mkF m 211 #[.val (.int p1), .val (.int p2), .val (.int p3), .val (.int v1), .val (.ref b2), .val (.ref b19), .unset, .unset, .unset, .unset, .unset, .unset, .unset, .unset, .unset, .unset, .unset, .unset, .unset] []))
                refine OutW.back (fun t k => XS.iloadN X26.here hx rfl (hb hby at_211) rfl  k) ?_
                show OutW _ _ _ _ _ _ _ (T26.setTop (mkF m 212 #[.val (.int p1), .val (.int p2), .val (.int p3), .val (.int v1), .val (.ref b2), .val (.ref b19), .unset, .unset, .unset, .unset, .unset, .unset, .unset, .unset, .unset, .unset, .unset, .unset, .unset] [(.int v1)]))
                refine OutW.back (fun t k => XS.bipush X26.here hx rfl (hb hby at_212) k) ?_
                show OutW _ _ _ _ _ _ _ (T26.setTop (mkF m 214 #[.val (.int p1), .val (.int p2), .val (.int p3), .val (.int v1), .val (.ref b2), .val (.ref b19), .unset, .unset, .unset, .unset, .unset, .unset, .unset, .unset, .unset, .unset, .unset, .unset, .unset] [(.int (7 : Int32)), (.int v1)]))
                have cont27 : ∀ (T27 : State) (h27 : Heap) (lc27 : List Loc) (_ : Stand p l e room_1 s m #[(.int p1), (.int p2), (.int p3)] below meth c T27 lc27 2 24) (_ : T27.heap = h27) (_ : Fr n0 lc27) (_ : n0 ≤ h27.size) (_ : Keep h0 h27 []) (_ : Arv Z h27 b2 k2 .int (16 : Int32) [(.int v3), (.int v5), (.int v7), (.int v9), (.int v11), (.int v13), (.int v15), (.int v17), (.int (0 : Int32)), (.int (0 : Int32)), (.int (0 : Int32)), (.int (0 : Int32)), (.int (0 : Int32)), (.int (0 : Int32)), (.int (0 : Int32)), (.int (0 : Int32))] (.int (0 : Int32))) (_ : Arv Z h27 b19 k19 .byte v1 [(.int (nar .byte v3.toInt8.toInt32)), (.int (nar .byte v5.toInt8.toInt32)), (.int (nar .byte v7.toInt8.toInt32)), (.int (nar .byte v9.toInt8.toInt32)), (.int (nar .byte v11.toInt8.toInt32)), (.int (nar .byte v13.toInt8.toInt32)), (.int (nar .byte v15.toInt8.toInt32)), (.int (nar .byte v17.toInt8.toInt32))] (.int (0 : Int32))), OutW p e below s room_1.cells room_1.slots (Q0 Z p1 p2 p3 h0 n0) (T27.setTop (mkF m 228 #[.val (.int p1), .val (.int p2), .val (.int p3), .val (.int v1), .val (.ref b2), .val (.ref b19), .unset, .unset, .unset, .unset, .unset, .unset, .unset, .unset, .unset, .unset, .unset, .unset, .unset] [])) := by
                  intro T27 h27 lc27 X27 e27 N27 Z27 K27 V_b2_18 V_b19_c
                  show OutW _ _ _ _ _ _ _ (T27.setTop (mkF m 228 #[.val (.int p1), .val (.int p2), .val (.int p3), .val (.int v1), .val (.ref b2), .val (.ref b19), .unset, .unset, .unset, .unset, .unset, .unset, .unset, .unset, .unset, .unset, .unset, .unset, .unset] []))
                  obtain ⟨T28, h28, X28, e28, E28, A28, D28, -, st28⟩ := newO X27 hx hZ hown (hw _ (List.mem_of_getElem? (i := 2) rfl)) (hw _ (List.mem_of_getElem? (i := 3) rfl)) (hw _ (List.mem_of_getElem? (i := 4) rfl)) e27 (g := (mkF m 228 #[.val (.int p1), .val (.int p2), .val (.int p3), .val (.int v1), .val (.ref b2), .val (.ref b19), .unset, .unset, .unset, .unset, .unset, .unset, .unset, .unset, .unset, .unset, .unset, .unset, .unset] [])) rfl (hb hby at_228) (by decide) (by decide)
                  obtain ⟨b28, g28⟩ : ∃ z, z = h27.size := ⟨_, rfl⟩
                  rw [← g28] at A28 D28 st28
                  have ne_b2_b28 : b2 ≠ b28 := Nat.ne_of_lt (Nat.lt_of_lt_of_le V_b2_18.lt (Nat.le_of_eq g28.symm))
                  have ne_b19_b28 : b19 ≠ b28 := Nat.ne_of_lt (Nat.lt_of_lt_of_le V_b19_c.lt (Nat.le_of_eq g28.symm))
                  have g_b28 : n0 ≤ b28 := Nat.le_trans Z27 (Nat.le_of_eq g28.symm)
                  have sz_b28 : h0.size ≤ b28 := Nat.le_trans K27.1 (Nat.le_of_eq g28.symm)
                  have V_b2_18 := V_b2_18.ext E28
                  have V_b19_c := V_b19_c.ext E28
                  have Z28 : n0 ≤ h28.size := Nat.le_trans Z27 E28.1
                  have K28 := K27.ext E28
                  have E_b28 := A28
                  have F_bytes_b28 : Fld Z h28 b28 "com/example/fulltext_workbench/fulltextworkbench/index/VarintReader" "bytes" "[B" .null := D28 (Or.inr (hw _ (List.mem_of_getElem? (i := 12) rfl))) (ty := (.array .byte)) (by decide)
                  have F_position_b28 : Fld Z h28 b28 "com/example/fulltext_workbench/fulltextworkbench/index/VarintReader" "position" "I" (.int (0 : Int32)) := D28 (Or.inl (hw _ (List.mem_of_getElem? (i := 19) rfl))) (ty := .int) (by decide)
                  refine OutW.back st28 ?_
                  show OutW _ _ _ _ _ _ _ (T28.setTop (mkF m 231 #[.val (.int p1), .val (.int p2), .val (.int p3), .val (.int v1), .val (.ref b2), .val (.ref b19), .unset, .unset, .unset, .unset, .unset, .unset, .unset, .unset, .unset, .unset, .unset, .unset, .unset] [(.ref b28)]))
                  refine OutW.back (fun t k => XS.dup X28.here hx rfl (hb hby at_231) rfl rfl k) ?_
                  show OutW _ _ _ _ _ _ _ (T28.setTop (mkF m 232 #[.val (.int p1), .val (.int p2), .val (.int p3), .val (.int v1), .val (.ref b2), .val (.ref b19), .unset, .unset, .unset, .unset, .unset, .unset, .unset, .unset, .unset, .unset, .unset, .unset, .unset] [(.ref b28), (.ref b28)]))
                  refine OutW.back (fun t k => XS.aload X28.here hx rfl (hb hby at_232) rfl rfl  k) ?_
                  show OutW _ _ _ _ _ _ _ (T28.setTop (mkF m 234 #[.val (.int p1), .val (.int p2), .val (.int p3), .val (.int v1), .val (.ref b2), .val (.ref b19), .unset, .unset, .unset, .unset, .unset, .unset, .unset, .unset, .unset, .unset, .unset, .unset, .unset] [(.ref b19), (.ref b28), (.ref b28)]))
                  obtain ⟨_, _, ⟨T29, L29, k29, n29⟩, -, X29, ⟨Lc29, hQ29, l29, y29, z29⟩, st29⟩ := X28.specialBack hx (y := (⟨"com/example/fulltext_workbench/fulltextworkbench/index/VarintReader", "<init>", "([B)V"⟩ : MethodName)) rfl hown (mvT hZ (hw _ (List.mem_of_getElem? (i := 5) rfl))) (mvT hZ (hw _ (List.mem_of_getElem? (i := 6) rfl))) (mvT hZ (hw _ (List.mem_of_getElem? (i := 7) rfl))) (by decide) (backOf (W := 1) (rm1 l Z a0 hw [] b28 b19 (0 : Int32) h28 n0 Z28 E_b28 g_b28 F_bytes_b28 F_position_b28) hZ (hw _ (List.mem_of_getElem? (i := 7) rfl)) (hw _ (List.mem_of_getElem? (i := 4) rfl)) (by decide) (by decide)) (g := (mkF m 234 #[.val (.int p1), .val (.int p2), .val (.int p3), .val (.int v1), .val (.ref b2), .val (.ref b19), .unset, .unset, .unset, .unset, .unset, .unset, .unset, .unset, .unset, .unset, .unset, .unset, .unset] [(.ref b19), (.ref b28), (.ref b28)])) rfl (by rw [hml]; rfl) (Steps.refl _) (a := b28) (argsL := [(.ref b19)]) (rest := [(.ref b28)]) (lenOf pd_1 rfl) rfl (by show 2 * 0 + _ ≤ _; exact Nat.le_of_eq rfl) (hb hby at_234) (fun _ _ => ⟨rfl, e28, (by decide : 3 + 0 ≤ _), (by decide : 26 + 0 ≤ _)⟩)
                  dsimp only [Pt.U, Pt.locs, Pt.cells, Pt.slots] at X29 l29 y29 z29 st29 hQ29
                  subst l29 y29 z29
                  obtain ⟨h29, eh29⟩ : ∃ z, z = T29.heap := ⟨_, rfl⟩
                  rw [← eh29] at hQ29
                  have e29 : T29.heap = h29 := eh29.symm
                  obtain ⟨rfl, Nq29, Kq29, F_bytes_b28, F_position_b28⟩ := hQ29
                  have V_b2_18 := V_b2_18.keep Kq29 (ninS ne_b2_b28 nin0)
                  have V_b19_c := V_b19_c.keep Kq29 (ninS ne_b19_b28 nin0)
                  have E_b28 := E_b28.keep Kq29
                  have Z29 : n0 ≤ h29.size := Nat.le_trans Z28 Kq29.1
                  have K29 := K28.trans Kq29 (allS (Or.inr sz_b28) all0)
                  have N29 := Fr.app N27 Nq29
                  obtain ⟨lc29, X29, N29⟩ : ∃ lc, Stand p l e room_1 s m #[(.int p1), (.int p2), (.int p3)] below meth c T29 lc 3 26 ∧ Fr n0 lc := ⟨_, X29, N29⟩
                  refine OutW.via st29 ?_
                  show OutW _ _ _ _ _ _ _ (T29.setTop (mkF m 237 #[.val (.int p1), .val (.int p2), .val (.int p3), .val (.int v1), .val (.ref b2), .val (.ref b19), .unset, .unset, .unset, .unset, .unset, .unset, .unset, .unset, .unset, .unset, .unset, .unset, .unset] [(.ref b28)]))
                  refine OutW.back (fun t k => XS.astore X29.here hx rfl (hb hby at_237) rfl rfl (l' := #[.val (.int p1), .val (.int p2), .val (.int p3), .val (.int v1), .val (.ref b2), .val (.ref b19), .val (.ref b28), .unset, .unset, .unset, .unset, .unset, .unset, .unset, .unset, .unset, .unset, .unset, .unset]) rfl k) ?_
                  show OutW _ _ _ _ _ _ _ (T29.setTop (mkF m 239 #[.val (.int p1), .val (.int p2), .val (.int p3), .val (.int v1), .val (.ref b2), .val (.ref b19), .val (.ref b28), .unset, .unset, .unset, .unset, .unset, .unset, .unset, .unset, .unset, .unset, .unset, .unset] []))
                  have hu : ∀ x ∈ ([v3, v5, v7, v9, v11, v13, v15, v17] : List Int32), 0 ≤ x.toInt ∧ x.toInt < 256 := by
                    intro x hx
                    simp only [List.mem_cons, List.not_mem_nil, or_false] at hx
                    rcases hx with rfl | rfl | rfl | rfl | rfl | rfl | rfl | rfl
                    · exact own_b255 _ _ hv_v3
                    · exact own_b255 _ _ hv_v5
                    · exact own_b255 _ _ hv_v7
                    · exact own_b255 _ _ hv_v9
                    · exact own_b255 _ _ hv_v11
                    · exact own_b255 _ _ hv_v13
                    · exact own_b255 _ _ hv_v15
                    · exact own_b255 _ _ hv_v17
                  have kr0 := own_rel (Bn [(nar .byte v3.toInt8.toInt32), (nar .byte v5.toInt8.toInt32), (nar .byte v7.toInt8.toInt32), (nar .byte v9.toInt8.toInt32), (nar .byte v11.toInt8.toInt32), (nar .byte v13.toInt8.toInt32), (nar .byte v15.toInt8.toInt32), (nar .byte v17.toInt8.toInt32)]) (Bn [v3, v5, v7, v9, v11, v13, v15, v17, (0 : Int32), (0 : Int32), (0 : Int32), (0 : Int32), (0 : Int32), (0 : Int32), (0 : Int32), (0 : Int32)]) v1 (0 : Int32) (by decide) hn8.1 hn8.2 (fun j j0 jn => own_sees [v3, v5, v7, v9, v11, v13, v15, v17] hu rfl v1 hn8.2 j j0 jn)
                  refine OutW.back (fun t k => XS.aload X29.here hx rfl (hb hby at_239) rfl rfl  k) ?_
                  show OutW _ _ _ _ _ _ _ (T29.setTop (mkF m 241 #[.val (.int p1), .val (.int p2), .val (.int p3), .val (.int v1), .val (.ref b2), .val (.ref b19), .val (.ref b28), .unset, .unset, .unset, .unset, .unset, .unset, .unset, .unset, .unset, .unset, .unset, .unset] [(.ref b28)]))
                  obtain ⟨cq30, kq30, qa30, qb30, qc30⟩ := isOf hZ e29 E_b28
                  obtain ⟨_, _, ⟨T30, L30, k30, n30⟩, -, X30, ⟨Lc30, hQ30, l30, y30, z30⟩, st30⟩ := X29.virtualBack hx (y := (⟨"com/example/fulltext_workbench/fulltextworkbench/index/VarintReader", "next", "()I"⟩ : MethodName)) (z := (⟨"com/example/fulltext_workbench/fulltextworkbench/index/VarintReader", "next", "()I"⟩ : MethodName)) hown (mvT hZ (hw _ (List.mem_of_getElem? (i := 13) rfl))) (mvT hZ (hw _ (List.mem_of_getElem? (i := 14) rfl))) (notFace_of_selects (args := #[]) (mvT hZ (hw _ (List.mem_of_getElem? (i := 16) rfl)))) (mvT hZ (hw _ (List.mem_of_getElem? (i := 16) rfl))) (mvT hZ (hw _ (List.mem_of_getElem? (i := 15) rfl))) (by decide) (backOf (W := 0) (rm3 l Z a0 hw [] b28 b19 (0 : Int32) v1 [(.int (nar .byte v3.toInt8.toInt32)), (.int (nar .byte v5.toInt8.toInt32)), (.int (nar .byte v7.toInt8.toInt32)), (.int (nar .byte v9.toInt8.toInt32)), (.int (nar .byte v11.toInt8.toInt32)), (.int (nar .byte v13.toInt8.toInt32)), (.int (nar .byte v15.toInt8.toInt32)), (.int (nar .byte v17.toInt8.toInt32))] k19 (Bn [(nar .byte v3.toInt8.toInt32), (nar .byte v5.toInt8.toInt32), (nar .byte v7.toInt8.toInt32), (nar .byte v9.toInt8.toInt32), (nar .byte v11.toInt8.toInt32), (nar .byte v13.toInt8.toInt32), (nar .byte v15.toInt8.toInt32), (nar .byte v17.toInt8.toInt32)]) h29 n0 Z29 E_b28 g_b28 F_bytes_b28 F_position_b28 V_b19_c ne_b19_b28 (fun j _ _ => own_getD [(nar .byte v3.toInt8.toInt32), (nar .byte v5.toInt8.toInt32), (nar .byte v7.toInt8.toInt32), (nar .byte v9.toInt8.toInt32), (nar .byte v11.toInt8.toInt32), (nar .byte v13.toInt8.toInt32), (nar .byte v15.toInt8.toInt32), (nar .byte v17.toInt8.toInt32)] _ 0) (by decide)) hZ (hw _ (List.mem_of_getElem? (i := 17) rfl)) (hw _ (List.mem_of_getElem? (i := 4) rfl)) (by decide) (by decide)) qa30 qc30 (g := (mkF m 241 #[.val (.int p1), .val (.int p2), .val (.int p3), .val (.int v1), .val (.ref b2), .val (.ref b19), .val (.ref b28), .unset, .unset, .unset, .unset, .unset, .unset, .unset, .unset, .unset, .unset, .unset, .unset] [(.ref b28)])) rfl (by rw [hml]; rfl) (Steps.refl _) (argsL := []) (rest := []) (lenOf pd_2 rfl) rfl (by show 2 * 0 + _ ≤ _; exact Nat.le_of_eq rfl) (hb hby at_241) (fun _ _ => ⟨rfl, e29, (by decide : 3 + 0 ≤ _), (by decide : 26 + 0 ≤ _)⟩)
                  dsimp only [Pt.U, Pt.locs, Pt.cells, Pt.slots] at X30 l30 y30 z30 st30 hQ30
                  subst l30 y30 z30
                  obtain ⟨h30, eh30⟩ : ∃ z, z = T30.heap := ⟨_, rfl⟩
                  rw [← eh30] at hQ30
                  have e30 : T30.heap = h30 := eh30.symm
                  obtain ⟨rfl, Nq30, Kq30, F_position_b28, F_bytes_b28⟩ := hQ30
                  have V_b2_18 := V_b2_18.keep Kq30 (ninS ne_b2_b28 nin0)
                  have V_b19_c := V_b19_c.keep Kq30 (ninS ne_b19_b28 nin0)
                  have E_b28 := E_b28.keep Kq30
                  have Z30 : n0 ≤ h30.size := Nat.le_trans Z29 Kq30.1
                  have K30 := K29.trans Kq30 (allS (Or.inr sz_b28) all0)
                  have N30 := Fr.app N29 Nq30
                  obtain ⟨lc30, X30, N30⟩ : ∃ lc, Stand p l e room_1 s m #[(.int p1), (.int p2), (.int p3)] below meth c T30 lc 3 26 ∧ Fr n0 lc := ⟨_, X30, N30⟩
                  refine OutW.via st30 ?_
                  show OutW _ _ _ _ _ _ _ (T30.setTop (mkF m 244 #[.val (.int p1), .val (.int p2), .val (.int p3), .val (.int v1), .val (.ref b2), .val (.ref b19), .val (.ref b28), .unset, .unset, .unset, .unset, .unset, .unset, .unset, .unset, .unset, .unset, .unset, .unset] [(.int (nxt (Bn [(nar .byte v3.toInt8.toInt32), (nar .byte v5.toInt8.toInt32), (nar .byte v7.toInt8.toInt32), (nar .byte v9.toInt8.toInt32), (nar .byte v11.toInt8.toInt32), (nar .byte v13.toInt8.toInt32), (nar .byte v15.toInt8.toInt32), (nar .byte v17.toInt8.toInt32)]) v1 (0 : Int32)))]))
                  generalize hv_v31 : (nxt (Bn [(nar .byte v3.toInt8.toInt32), (nar .byte v5.toInt8.toInt32), (nar .byte v7.toInt8.toInt32), (nar .byte v9.toInt8.toInt32), (nar .byte v11.toInt8.toInt32), (nar .byte v13.toInt8.toInt32), (nar .byte v15.toInt8.toInt32), (nar .byte v17.toInt8.toInt32)]) v1 (0 : Int32)) = v31
                  refine OutW.back (fun t k => XS.istore X30.here hx rfl (hb hby at_244) rfl (l' := #[.val (.int p1), .val (.int p2), .val (.int p3), .val (.int v1), .val (.ref b2), .val (.ref b19), .val (.ref b28), .val (.int v31), .unset, .unset, .unset, .unset, .unset, .unset, .unset, .unset, .unset, .unset, .unset]) rfl k) ?_
                  show OutW _ _ _ _ _ _ _ (T30.setTop (mkF m 246 #[.val (.int p1), .val (.int p2), .val (.int p3), .val (.int v1), .val (.ref b2), .val (.ref b19), .val (.ref b28), .val (.int v31), .unset, .unset, .unset, .unset, .unset, .unset, .unset, .unset, .unset, .unset, .unset] []))
                  have kp := kr0.2.1
                  rw [Int32.zero_add] at kp
                  rw [kp] at F_position_b28
                  have kc := kr0.2.2
                  rw [Int32.zero_add] at kc
                  generalize hc1 : cF (Bn [v3, v5, v7, v9, v11, v13, v15, v17, (0 : Int32), (0 : Int32), (0 : Int32), (0 : Int32), (0 : Int32), (0 : Int32), (0 : Int32), (0 : Int32)]) (0 : Int32) v1 = c1 at kp kc F_position_b28
                  have hps : ¬ c1 < 0 := kc.1
                  have kr2 := own_rel (Bn [(nar .byte v3.toInt8.toInt32), (nar .byte v5.toInt8.toInt32), (nar .byte v7.toInt8.toInt32), (nar .byte v9.toInt8.toInt32), (nar .byte v11.toInt8.toInt32), (nar .byte v13.toInt8.toInt32), (nar .byte v15.toInt8.toInt32), (nar .byte v17.toInt8.toInt32)]) (Bn [v3, v5, v7, v9, v11, v13, v15, v17, (0 : Int32), (0 : Int32), (0 : Int32), (0 : Int32), (0 : Int32), (0 : Int32), (0 : Int32), (0 : Int32)]) v1 c1 kc.1 kc.2.1 hn8.2 (fun j j0 jn => own_sees [v3, v5, v7, v9, v11, v13, v15, v17] hu rfl v1 hn8.2 j j0 jn)
                  refine OutW.back (fun t k => XS.aload X30.here hx rfl (hb hby at_246) rfl rfl  k) ?_
                  show OutW _ _ _ _ _ _ _ (T30.setTop (mkF m 248 #[.val (.int p1), .val (.int p2), .val (.int p3), .val (.int v1), .val (.ref b2), .val (.ref b19), .val (.ref b28), .val (.int v31), .unset, .unset, .unset, .unset, .unset, .unset, .unset, .unset, .unset, .unset, .unset] [(.ref b28)]))
                  obtain ⟨cq32, kq32, qa32, qb32, qc32⟩ := isOf hZ e30 E_b28
                  obtain ⟨_, _, ⟨T32, L32, k32, n32⟩, -, X32, ⟨Lc32, hQ32, l32, y32, z32⟩, st32⟩ := X30.virtualBack hx (y := (⟨"com/example/fulltext_workbench/fulltextworkbench/index/VarintReader", "atEnd", "()Z"⟩ : MethodName)) (z := (⟨"com/example/fulltext_workbench/fulltextworkbench/index/VarintReader", "atEnd", "()Z"⟩ : MethodName)) hown (mvT hZ (hw _ (List.mem_of_getElem? (i := 20) rfl))) (mvT hZ (hw _ (List.mem_of_getElem? (i := 21) rfl))) (notFace_of_selects (args := #[]) (mvT hZ (hw _ (List.mem_of_getElem? (i := 23) rfl)))) (mvT hZ (hw _ (List.mem_of_getElem? (i := 23) rfl))) (mvT hZ (hw _ (List.mem_of_getElem? (i := 22) rfl))) (by decide) (backOf (W := 0) (rm4 l Z a0 hw [] b28 b19 c1 v1 [(.int (nar .byte v3.toInt8.toInt32)), (.int (nar .byte v5.toInt8.toInt32)), (.int (nar .byte v7.toInt8.toInt32)), (.int (nar .byte v9.toInt8.toInt32)), (.int (nar .byte v11.toInt8.toInt32)), (.int (nar .byte v13.toInt8.toInt32)), (.int (nar .byte v15.toInt8.toInt32)), (.int (nar .byte v17.toInt8.toInt32))] k19 h30 n0 Z30 F_bytes_b28 F_position_b28 V_b19_c) hZ (hw _ (List.mem_of_getElem? (i := 24) rfl)) (hw _ (List.mem_of_getElem? (i := 4) rfl)) (by decide) (by decide)) qa32 qc32 (g := (mkF m 248 #[.val (.int p1), .val (.int p2), .val (.int p3), .val (.int v1), .val (.ref b2), .val (.ref b19), .val (.ref b28), .val (.int v31), .unset, .unset, .unset, .unset, .unset, .unset, .unset, .unset, .unset, .unset, .unset] [(.ref b28)])) rfl (by rw [hml]; rfl) (Steps.refl _) (argsL := []) (rest := []) (lenOf pd_3 rfl) rfl (by show 2 * 0 + _ ≤ _; exact Nat.le_of_eq rfl) (hb hby at_248) (fun _ _ => ⟨rfl, e30, (by decide : 3 + 0 ≤ _), (by decide : 26 + 0 ≤ _)⟩)
                  dsimp only [Pt.U, Pt.locs, Pt.cells, Pt.slots] at X32 l32 y32 z32 st32 hQ32
                  subst l32 y32 z32
                  obtain ⟨rfl, Nq32, e32⟩ := hQ32
                  have N32 := Fr.app N30 Nq32
                  obtain ⟨lc32, X32, N32⟩ : ∃ lc, Stand p l e room_1 s m #[(.int p1), (.int p2), (.int p3)] below meth c T32 lc 3 26 ∧ Fr n0 lc := ⟨_, X32, N32⟩
                  refine OutW.via st32 ?_
                  show OutW _ _ _ _ _ _ _ (T32.setTop (mkF m 251 #[.val (.int p1), .val (.int p2), .val (.int p3), .val (.int v1), .val (.ref b2), .val (.ref b19), .val (.ref b28), .val (.int v31), .unset, .unset, .unset, .unset, .unset, .unset, .unset, .unset, .unset, .unset, .unset] [(.int (atE c1 v1))]))
                  generalize hv_v33 : (atE c1 v1) = v33
                  refine OutW.back (fun t k => XS.istore X32.here hx rfl (hb hby at_251) rfl (l' := #[.val (.int p1), .val (.int p2), .val (.int p3), .val (.int v1), .val (.ref b2), .val (.ref b19), .val (.ref b28), .val (.int v31), .val (.int v33), .unset, .unset, .unset, .unset, .unset, .unset, .unset, .unset, .unset, .unset]) rfl k) ?_
                  show OutW _ _ _ _ _ _ _ (T32.setTop (mkF m 253 #[.val (.int p1), .val (.int p2), .val (.int p3), .val (.int v1), .val (.ref b2), .val (.ref b19), .val (.ref b28), .val (.int v31), .val (.int v33), .unset, .unset, .unset, .unset, .unset, .unset, .unset, .unset, .unset, .unset] []))
                  refine OutW.back (fun t k => XS.aload X32.here hx rfl (hb hby at_253) rfl rfl  k) ?_
                  show OutW _ _ _ _ _ _ _ (T32.setTop (mkF m 255 #[.val (.int p1), .val (.int p2), .val (.int p3), .val (.int v1), .val (.ref b2), .val (.ref b19), .val (.ref b28), .val (.int v31), .val (.int v33), .unset, .unset, .unset, .unset, .unset, .unset, .unset, .unset, .unset, .unset] [(.ref b28)]))
                  obtain ⟨cq34, kq34, qa34, qb34, qc34⟩ := isOf hZ e32 E_b28
                  obtain ⟨_, _, ⟨T34, L34, k34, n34⟩, -, X34, ⟨Lc34, hQ34, l34, y34, z34⟩, st34⟩ := X32.virtualBack hx (y := (⟨"com/example/fulltext_workbench/fulltextworkbench/index/VarintReader", "next", "()I"⟩ : MethodName)) (z := (⟨"com/example/fulltext_workbench/fulltextworkbench/index/VarintReader", "next", "()I"⟩ : MethodName)) hown (mvT hZ (hw _ (List.mem_of_getElem? (i := 13) rfl))) (mvT hZ (hw _ (List.mem_of_getElem? (i := 14) rfl))) (notFace_of_selects (args := #[]) (mvT hZ (hw _ (List.mem_of_getElem? (i := 16) rfl)))) (mvT hZ (hw _ (List.mem_of_getElem? (i := 16) rfl))) (mvT hZ (hw _ (List.mem_of_getElem? (i := 15) rfl))) (by decide) (backOf (W := 0) (rm3 l Z a0 hw [] b28 b19 c1 v1 [(.int (nar .byte v3.toInt8.toInt32)), (.int (nar .byte v5.toInt8.toInt32)), (.int (nar .byte v7.toInt8.toInt32)), (.int (nar .byte v9.toInt8.toInt32)), (.int (nar .byte v11.toInt8.toInt32)), (.int (nar .byte v13.toInt8.toInt32)), (.int (nar .byte v15.toInt8.toInt32)), (.int (nar .byte v17.toInt8.toInt32))] k19 (Bn [(nar .byte v3.toInt8.toInt32), (nar .byte v5.toInt8.toInt32), (nar .byte v7.toInt8.toInt32), (nar .byte v9.toInt8.toInt32), (nar .byte v11.toInt8.toInt32), (nar .byte v13.toInt8.toInt32), (nar .byte v15.toInt8.toInt32), (nar .byte v17.toInt8.toInt32)]) h30 n0 Z30 E_b28 g_b28 F_bytes_b28 F_position_b28 V_b19_c ne_b19_b28 (fun j _ _ => own_getD [(nar .byte v3.toInt8.toInt32), (nar .byte v5.toInt8.toInt32), (nar .byte v7.toInt8.toInt32), (nar .byte v9.toInt8.toInt32), (nar .byte v11.toInt8.toInt32), (nar .byte v13.toInt8.toInt32), (nar .byte v15.toInt8.toInt32), (nar .byte v17.toInt8.toInt32)] _ 0) hps) hZ (hw _ (List.mem_of_getElem? (i := 17) rfl)) (hw _ (List.mem_of_getElem? (i := 4) rfl)) (by decide) (by decide)) qa34 qc34 (g := (mkF m 255 #[.val (.int p1), .val (.int p2), .val (.int p3), .val (.int v1), .val (.ref b2), .val (.ref b19), .val (.ref b28), .val (.int v31), .val (.int v33), .unset, .unset, .unset, .unset, .unset, .unset, .unset, .unset, .unset, .unset] [(.ref b28)])) rfl (by rw [hml]; rfl) (Steps.refl _) (argsL := []) (rest := []) (lenOf pd_2 rfl) rfl (by show 2 * 0 + _ ≤ _; exact Nat.le_of_eq rfl) (hb hby at_255) (fun _ _ => ⟨rfl, e32, (by decide : 3 + 0 ≤ _), (by decide : 26 + 0 ≤ _)⟩)
                  dsimp only [Pt.U, Pt.locs, Pt.cells, Pt.slots] at X34 l34 y34 z34 st34 hQ34
                  subst l34 y34 z34
                  obtain ⟨h34, eh34⟩ : ∃ z, z = T34.heap := ⟨_, rfl⟩
                  rw [← eh34] at hQ34
                  have e34 : T34.heap = h34 := eh34.symm
                  obtain ⟨rfl, Nq34, Kq34, F_position_b28, F_bytes_b28⟩ := hQ34
                  have V_b2_18 := V_b2_18.keep Kq34 (ninS ne_b2_b28 nin0)
                  have V_b19_c := V_b19_c.keep Kq34 (ninS ne_b19_b28 nin0)
                  have E_b28 := E_b28.keep Kq34
                  have Z34 : n0 ≤ h34.size := Nat.le_trans Z30 Kq34.1
                  have K34 := K30.trans Kq34 (allS (Or.inr sz_b28) all0)
                  have N34 := Fr.app N32 Nq34
                  obtain ⟨lc34, X34, N34⟩ : ∃ lc, Stand p l e room_1 s m #[(.int p1), (.int p2), (.int p3)] below meth c T34 lc 3 26 ∧ Fr n0 lc := ⟨_, X34, N34⟩
                  refine OutW.via st34 ?_
                  show OutW _ _ _ _ _ _ _ (T34.setTop (mkF m 258 #[.val (.int p1), .val (.int p2), .val (.int p3), .val (.int v1), .val (.ref b2), .val (.ref b19), .val (.ref b28), .val (.int v31), .val (.int v33), .unset, .unset, .unset, .unset, .unset, .unset, .unset, .unset, .unset, .unset] [(.int (nxt (Bn [(nar .byte v3.toInt8.toInt32), (nar .byte v5.toInt8.toInt32), (nar .byte v7.toInt8.toInt32), (nar .byte v9.toInt8.toInt32), (nar .byte v11.toInt8.toInt32), (nar .byte v13.toInt8.toInt32), (nar .byte v15.toInt8.toInt32), (nar .byte v17.toInt8.toInt32)]) v1 c1))]))
                  generalize hv_v35 : (nxt (Bn [(nar .byte v3.toInt8.toInt32), (nar .byte v5.toInt8.toInt32), (nar .byte v7.toInt8.toInt32), (nar .byte v9.toInt8.toInt32), (nar .byte v11.toInt8.toInt32), (nar .byte v13.toInt8.toInt32), (nar .byte v15.toInt8.toInt32), (nar .byte v17.toInt8.toInt32)]) v1 c1) = v35
                  refine OutW.back (fun t k => XS.istore X34.here hx rfl (hb hby at_258) rfl (l' := #[.val (.int p1), .val (.int p2), .val (.int p3), .val (.int v1), .val (.ref b2), .val (.ref b19), .val (.ref b28), .val (.int v31), .val (.int v33), .val (.int v35), .unset, .unset, .unset, .unset, .unset, .unset, .unset, .unset, .unset]) rfl k) ?_
                  show OutW _ _ _ _ _ _ _ (T34.setTop (mkF m 260 #[.val (.int p1), .val (.int p2), .val (.int p3), .val (.int v1), .val (.ref b2), .val (.ref b19), .val (.ref b28), .val (.int v31), .val (.int v33), .val (.int v35), .unset, .unset, .unset, .unset, .unset, .unset, .unset, .unset, .unset] []))
                  rw [kr2.2.1] at F_position_b28
                  generalize hc2 : cF (Bn [v3, v5, v7, v9, v11, v13, v15, v17, (0 : Int32), (0 : Int32), (0 : Int32), (0 : Int32), (0 : Int32), (0 : Int32), (0 : Int32), (0 : Int32)]) c1 v1 = c2 at kr2 F_position_b28
                  refine OutW.back (fun t k => XS.aload X34.here hx rfl (hb hby at_260) rfl rfl  k) ?_
                  show OutW _ _ _ _ _ _ _ (T34.setTop (mkF m 262 #[.val (.int p1), .val (.int p2), .val (.int p3), .val (.int v1), .val (.ref b2), .val (.ref b19), .val (.ref b28), .val (.int v31), .val (.int v33), .val (.int v35), .unset, .unset, .unset, .unset, .unset, .unset, .unset, .unset, .unset] [(.ref b28)]))
                  obtain ⟨cq36, kq36, qa36, qb36, qc36⟩ := isOf hZ e34 E_b28
                  obtain ⟨_, _, ⟨T36, L36, k36, n36⟩, -, X36, ⟨Lc36, hQ36, l36, y36, z36⟩, st36⟩ := X34.virtualBack hx (y := (⟨"com/example/fulltext_workbench/fulltextworkbench/index/VarintReader", "atEnd", "()Z"⟩ : MethodName)) (z := (⟨"com/example/fulltext_workbench/fulltextworkbench/index/VarintReader", "atEnd", "()Z"⟩ : MethodName)) hown (mvT hZ (hw _ (List.mem_of_getElem? (i := 20) rfl))) (mvT hZ (hw _ (List.mem_of_getElem? (i := 21) rfl))) (notFace_of_selects (args := #[]) (mvT hZ (hw _ (List.mem_of_getElem? (i := 23) rfl)))) (mvT hZ (hw _ (List.mem_of_getElem? (i := 23) rfl))) (mvT hZ (hw _ (List.mem_of_getElem? (i := 22) rfl))) (by decide) (backOf (W := 0) (rm4 l Z a0 hw [] b28 b19 (c1 + c2) v1 [(.int (nar .byte v3.toInt8.toInt32)), (.int (nar .byte v5.toInt8.toInt32)), (.int (nar .byte v7.toInt8.toInt32)), (.int (nar .byte v9.toInt8.toInt32)), (.int (nar .byte v11.toInt8.toInt32)), (.int (nar .byte v13.toInt8.toInt32)), (.int (nar .byte v15.toInt8.toInt32)), (.int (nar .byte v17.toInt8.toInt32))] k19 h34 n0 Z34 F_bytes_b28 F_position_b28 V_b19_c) hZ (hw _ (List.mem_of_getElem? (i := 24) rfl)) (hw _ (List.mem_of_getElem? (i := 4) rfl)) (by decide) (by decide)) qa36 qc36 (g := (mkF m 262 #[.val (.int p1), .val (.int p2), .val (.int p3), .val (.int v1), .val (.ref b2), .val (.ref b19), .val (.ref b28), .val (.int v31), .val (.int v33), .val (.int v35), .unset, .unset, .unset, .unset, .unset, .unset, .unset, .unset, .unset] [(.ref b28)])) rfl (by rw [hml]; rfl) (Steps.refl _) (argsL := []) (rest := []) (lenOf pd_3 rfl) rfl (by show 2 * 0 + _ ≤ _; exact Nat.le_of_eq rfl) (hb hby at_262) (fun _ _ => ⟨rfl, e34, (by decide : 3 + 0 ≤ _), (by decide : 26 + 0 ≤ _)⟩)
                  dsimp only [Pt.U, Pt.locs, Pt.cells, Pt.slots] at X36 l36 y36 z36 st36 hQ36
                  subst l36 y36 z36
                  obtain ⟨rfl, Nq36, e36⟩ := hQ36
                  have N36 := Fr.app N34 Nq36
                  obtain ⟨lc36, X36, N36⟩ : ∃ lc, Stand p l e room_1 s m #[(.int p1), (.int p2), (.int p3)] below meth c T36 lc 3 26 ∧ Fr n0 lc := ⟨_, X36, N36⟩
                  refine OutW.via st36 ?_
                  show OutW _ _ _ _ _ _ _ (T36.setTop (mkF m 265 #[.val (.int p1), .val (.int p2), .val (.int p3), .val (.int v1), .val (.ref b2), .val (.ref b19), .val (.ref b28), .val (.int v31), .val (.int v33), .val (.int v35), .unset, .unset, .unset, .unset, .unset, .unset, .unset, .unset, .unset] [(.int (atE (c1 + c2) v1))]))
                  generalize hv_v37 : (atE (c1 + c2) v1) = v37
                  refine OutW.back (fun t k => XS.istore X36.here hx rfl (hb hby at_265) rfl (l' := #[.val (.int p1), .val (.int p2), .val (.int p3), .val (.int v1), .val (.ref b2), .val (.ref b19), .val (.ref b28), .val (.int v31), .val (.int v33), .val (.int v35), .val (.int v37), .unset, .unset, .unset, .unset, .unset, .unset, .unset, .unset]) rfl k) ?_
                  show OutW _ _ _ _ _ _ _ (T36.setTop (mkF m 267 #[.val (.int p1), .val (.int p2), .val (.int p3), .val (.int v1), .val (.ref b2), .val (.ref b19), .val (.ref b28), .val (.int v31), .val (.int v33), .val (.int v35), .val (.int v37), .unset, .unset, .unset, .unset, .unset, .unset, .unset, .unset] []))
                  refine OutW.back (fun t k => XS.aload X36.here hx rfl (hb hby at_267) rfl rfl  k) ?_
                  show OutW _ _ _ _ _ _ _ (T36.setTop (mkF m 269 #[.val (.int p1), .val (.int p2), .val (.int p3), .val (.int v1), .val (.ref b2), .val (.ref b19), .val (.ref b28), .val (.int v31), .val (.int v33), .val (.int v35), .val (.int v37), .unset, .unset, .unset, .unset, .unset, .unset, .unset, .unset] [(.ref b2)]))
                  refine OutW.back (fun t k => XS.iconst X36.here hx rfl (hb hby at_269) k) ?_
                  show OutW _ _ _ _ _ _ _ (T36.setTop (mkF m 270 #[.val (.int p1), .val (.int p2), .val (.int p3), .val (.int v1), .val (.ref b2), .val (.ref b19), .val (.ref b28), .val (.int v31), .val (.int v33), .val (.int v35), .val (.int v37), .unset, .unset, .unset, .unset, .unset, .unset, .unset, .unset] [(.int (0 : Int32)), (.ref b2)]))
                  refine OutW.back (fun t k => XS.iloadN X36.here hx rfl (hb hby at_270) rfl  k) ?_
                  show OutW _ _ _ _ _ _ _ (T36.setTop (mkF m 271 #[.val (.int p1), .val (.int p2), .val (.int p3), .val (.int v1), .val (.ref b2), .val (.ref b19), .val (.ref b28), .val (.int v31), .val (.int v33), .val (.int v35), .val (.int v37), .unset, .unset, .unset, .unset, .unset, .unset, .unset, .unset] [(.int v1), (.int (0 : Int32)), (.ref b2)]))
                  obtain ⟨_, _, ⟨T38, L38, k38, n38⟩, -, X38, ⟨Lc38, hQ38, l38, y38, z38⟩, st38⟩ := Jvm.LawKit.callS X36 hx (y := (⟨"com/example/fulltext_workbench/fulltextworkbench/index/VarintReaderNextPinLaw", "expected", "([III)J"⟩ : MethodName)) hown (mvT hZ (hw _ (List.mem_of_getElem? (i := 25) rfl))) (mvT hZ (hw _ (List.mem_of_getElem? (i := 26) rfl))) (mvT hZ (hw _ (List.mem_of_getElem? (i := 27) rfl))) (mvT hZ (hw _ (List.mem_of_getElem? (i := 28) rfl))) (by decide) (backOf (W := 0) (rm5 l Z a0 hw [] b2 (0 : Int32) v1 [(.int v3), (.int v5), (.int v7), (.int v9), (.int v11), (.int v13), (.int v15), (.int v17), (.int (0 : Int32)), (.int (0 : Int32)), (.int (0 : Int32)), (.int (0 : Int32)), (.int (0 : Int32)), (.int (0 : Int32)), (.int (0 : Int32)), (.int (0 : Int32))] k2 (Bn [v3, v5, v7, v9, v11, v13, v15, v17, (0 : Int32), (0 : Int32), (0 : Int32), (0 : Int32), (0 : Int32), (0 : Int32), (0 : Int32), (0 : Int32)]) h34 n0 Z34 V_b2_18 (fun j _ _ => own_getD [v3, v5, v7, v9, v11, v13, v15, v17, (0 : Int32), (0 : Int32), (0 : Int32), (0 : Int32), (0 : Int32), (0 : Int32), (0 : Int32), (0 : Int32)] _ 0) (by decide) hn8.1 hn8.2) hZ (hw _ (List.mem_of_getElem? (i := 28) rfl)) (hw _ (List.mem_of_getElem? (i := 27) rfl)) (by decide) (by decide)) (g := (mkF m 271 #[.val (.int p1), .val (.int p2), .val (.int p3), .val (.int v1), .val (.ref b2), .val (.ref b19), .val (.ref b28), .val (.int v31), .val (.int v33), .val (.int v35), .val (.int v37), .unset, .unset, .unset, .unset, .unset, .unset, .unset, .unset] [(.int v1), (.int (0 : Int32)), (.ref b2)])) rfl (by rw [hml]; rfl) (argsL := [(.ref b2), (.int (0 : Int32)), (.int v1)]) (rest := []) (lenOf pd_4 rfl) rfl (by show 2 * 0 + _ ≤ _; exact Nat.le_of_eq rfl) (hb hby at_271) (fun _ _ => ⟨rfl, e36, (by decide : 3 + 0 ≤ _), (by decide : 26 + 0 ≤ _)⟩)
                  dsimp only [Pt.U, Pt.locs, Pt.cells, Pt.slots] at X38 l38 y38 z38 st38 hQ38
                  subst l38 y38 z38
                  obtain ⟨rfl, Nq38, e38⟩ := hQ38
                  have N38 := Fr.app N36 Nq38
                  obtain ⟨lc38, X38, N38⟩ : ∃ lc, Stand p l e room_1 s m #[(.int p1), (.int p2), (.int p3)] below meth c T38 lc 3 26 ∧ Fr n0 lc := ⟨_, X38, N38⟩
                  refine OutW.back st38 ?_
                  show OutW _ _ _ _ _ _ _ (T38.setTop (mkF m 274 #[.val (.int p1), .val (.int p2), .val (.int p3), .val (.int v1), .val (.ref b2), .val (.ref b19), .val (.ref b28), .val (.int v31), .val (.int v33), .val (.int v35), .val (.int v37), .unset, .unset, .unset, .unset, .unset, .unset, .unset, .unset] [(.long (pack (cF (Bn [v3, v5, v7, v9, v11, v13, v15, v17, (0 : Int32), (0 : Int32), (0 : Int32), (0 : Int32), (0 : Int32), (0 : Int32), (0 : Int32), (0 : Int32)]) (0 : Int32) v1) (rF (Bn [v3, v5, v7, v9, v11, v13, v15, v17, (0 : Int32), (0 : Int32), (0 : Int32), (0 : Int32), (0 : Int32), (0 : Int32), (0 : Int32), (0 : Int32)]) (0 : Int32) v1)))]))
                  generalize hv_v39 : (pack (cF (Bn [v3, v5, v7, v9, v11, v13, v15, v17, (0 : Int32), (0 : Int32), (0 : Int32), (0 : Int32), (0 : Int32), (0 : Int32), (0 : Int32), (0 : Int32)]) (0 : Int32) v1) (rF (Bn [v3, v5, v7, v9, v11, v13, v15, v17, (0 : Int32), (0 : Int32), (0 : Int32), (0 : Int32), (0 : Int32), (0 : Int32), (0 : Int32), (0 : Int32)]) (0 : Int32) v1)) = v39
                  refine OutW.back (fun t k => XS.lstore X38.here hx rfl (hb hby at_274) rfl (l' := #[.val (.int p1), .val (.int p2), .val (.int p3), .val (.int v1), .val (.ref b2), .val (.ref b19), .val (.ref b28), .val (.int v31), .val (.int v33), .val (.int v35), .val (.int v37), .val (.long v39), .second, .unset, .unset, .unset, .unset, .unset, .unset]) rfl k) ?_
                  show OutW _ _ _ _ _ _ _ (T38.setTop (mkF m 276 #[.val (.int p1), .val (.int p2), .val (.int p3), .val (.int v1), .val (.ref b2), .val (.ref b19), .val (.ref b28), .val (.int v31), .val (.int v33), .val (.int v35), .val (.int v37), .val (.long v39), .second, .unset, .unset, .unset, .unset, .unset, .unset] []))
                  refine OutW.back (fun t k => XS.lload X38.here hx rfl (hb hby at_276) rfl  k) ?_
                  show OutW _ _ _ _ _ _ _ (T38.setTop (mkF m 278 #[.val (.int p1), .val (.int p2), .val (.int p3), .val (.int v1), .val (.ref b2), .val (.ref b19), .val (.ref b28), .val (.int v31), .val (.int v33), .val (.int v35), .val (.int v37), .val (.long v39), .second, .unset, .unset, .unset, .unset, .unset, .unset] [(.long v39)]))
                  refine OutW.back (fun t k => XS.bipush X38.here hx rfl (hb hby at_278) k) ?_
                  show OutW _ _ _ _ _ _ _ (T38.setTop (mkF m 280 #[.val (.int p1), .val (.int p2), .val (.int p3), .val (.int v1), .val (.ref b2), .val (.ref b19), .val (.ref b28), .val (.int v31), .val (.int v33), .val (.int v35), .val (.int v37), .val (.long v39), .second, .unset, .unset, .unset, .unset, .unset, .unset] [(.int (32 : Int32)), (.long v39)]))
                  refine OutW.back (fun t k => XS.lushr X38.here hx rfl (hb hby at_280) rfl k) ?_
                  show OutW _ _ _ _ _ _ _ (T38.setTop (mkF m 281 #[.val (.int p1), .val (.int p2), .val (.int p3), .val (.int v1), .val (.ref b2), .val (.ref b19), .val (.ref b28), .val (.int v31), .val (.int v33), .val (.int v35), .val (.int v37), .val (.long v39), .second, .unset, .unset, .unset, .unset, .unset, .unset] [(.long ((v39.toUInt64 >>> ((32 : Int32) &&& 0x3f).toInt64.toUInt64).toInt64))]))
                  refine OutW.back (fun t k => XS.l2i X38.here hx rfl (hb hby at_281) rfl k) ?_
                  show OutW _ _ _ _ _ _ _ (T38.setTop (mkF m 282 #[.val (.int p1), .val (.int p2), .val (.int p3), .val (.int v1), .val (.ref b2), .val (.ref b19), .val (.ref b28), .val (.int v31), .val (.int v33), .val (.int v35), .val (.int v37), .val (.long v39), .second, .unset, .unset, .unset, .unset, .unset, .unset] [(.int ((v39.toUInt64 >>> ((32 : Int32) &&& 0x3f).toInt64.toUInt64).toInt64).toInt32)]))
                  generalize hv_v40 : ((v39.toUInt64 >>> ((32 : Int32) &&& 0x3f).toInt64.toUInt64).toInt64).toInt32 = v40
                  refine OutW.back (fun t k => XS.istore X38.here hx rfl (hb hby at_282) rfl (l' := #[.val (.int p1), .val (.int p2), .val (.int p3), .val (.int v1), .val (.ref b2), .val (.ref b19), .val (.ref b28), .val (.int v31), .val (.int v33), .val (.int v35), .val (.int v37), .val (.long v39), .second, .val (.int v40), .unset, .unset, .unset, .unset, .unset]) rfl k) ?_
                  show OutW _ _ _ _ _ _ _ (T38.setTop (mkF m 284 #[.val (.int p1), .val (.int p2), .val (.int p3), .val (.int v1), .val (.ref b2), .val (.ref b19), .val (.ref b28), .val (.int v31), .val (.int v33), .val (.int v35), .val (.int v37), .val (.long v39), .second, .val (.int v40), .unset, .unset, .unset, .unset, .unset] []))
                  refine OutW.back (fun t k => XS.lload X38.here hx rfl (hb hby at_284) rfl  k) ?_
                  show OutW _ _ _ _ _ _ _ (T38.setTop (mkF m 286 #[.val (.int p1), .val (.int p2), .val (.int p3), .val (.int v1), .val (.ref b2), .val (.ref b19), .val (.ref b28), .val (.int v31), .val (.int v33), .val (.int v35), .val (.int v37), .val (.long v39), .second, .val (.int v40), .unset, .unset, .unset, .unset, .unset] [(.long v39)]))
                  refine OutW.back (fun t k => XS.l2i X38.here hx rfl (hb hby at_286) rfl k) ?_
                  show OutW _ _ _ _ _ _ _ (T38.setTop (mkF m 287 #[.val (.int p1), .val (.int p2), .val (.int p3), .val (.int v1), .val (.ref b2), .val (.ref b19), .val (.ref b28), .val (.int v31), .val (.int v33), .val (.int v35), .val (.int v37), .val (.long v39), .second, .val (.int v40), .unset, .unset, .unset, .unset, .unset] [(.int v39.toInt32)]))
                  generalize hv_v41 : v39.toInt32 = v41
                  refine OutW.back (fun t k => XS.istore X38.here hx rfl (hb hby at_287) rfl (l' := #[.val (.int p1), .val (.int p2), .val (.int p3), .val (.int v1), .val (.ref b2), .val (.ref b19), .val (.ref b28), .val (.int v31), .val (.int v33), .val (.int v35), .val (.int v37), .val (.long v39), .second, .val (.int v40), .val (.int v41), .unset, .unset, .unset, .unset]) rfl k) ?_
                  show OutW _ _ _ _ _ _ _ (T38.setTop (mkF m 289 #[.val (.int p1), .val (.int p2), .val (.int p3), .val (.int v1), .val (.ref b2), .val (.ref b19), .val (.ref b28), .val (.int v31), .val (.int v33), .val (.int v35), .val (.int v37), .val (.long v39), .second, .val (.int v40), .val (.int v41), .unset, .unset, .unset, .unset] []))
                  have un := own_unp c1 (rF (Bn [v3, v5, v7, v9, v11, v13, v15, v17, (0 : Int32), (0 : Int32), (0 : Int32), (0 : Int32), (0 : Int32), (0 : Int32), (0 : Int32), (0 : Int32)]) (0 : Int32) v1) kc.1 kc.2.2
                  rw [hc1] at hv_v39
                  rw [hv_v39] at un
                  rw [hv_v40, hv_v41] at un
                  have kr1 : ¬ v40 < 0 ∧ ¬ v1 < v40 := by rw [un.1]; exact ⟨kc.1, kc.2.1⟩
                  refine OutW.back (fun t k => XS.aload X38.here hx rfl (hb hby at_289) rfl rfl  k) ?_
                  show OutW _ _ _ _ _ _ _ (T38.setTop (mkF m 291 #[.val (.int p1), .val (.int p2), .val (.int p3), .val (.int v1), .val (.ref b2), .val (.ref b19), .val (.ref b28), .val (.int v31), .val (.int v33), .val (.int v35), .val (.int v37), .val (.long v39), .second, .val (.int v40), .val (.int v41), .unset, .unset, .unset, .unset] [(.ref b2)]))
                  refine OutW.back (fun t k => XS.iload X38.here hx rfl (hb hby at_291) rfl  k) ?_
                  show OutW _ _ _ _ _ _ _ (T38.setTop (mkF m 293 #[.val (.int p1), .val (.int p2), .val (.int p3), .val (.int v1), .val (.ref b2), .val (.ref b19), .val (.ref b28), .val (.int v31), .val (.int v33), .val (.int v35), .val (.int v37), .val (.long v39), .second, .val (.int v40), .val (.int v41), .unset, .unset, .unset, .unset] [(.int v40), (.ref b2)]))
                  refine OutW.back (fun t k => XS.iloadN X38.here hx rfl (hb hby at_293) rfl  k) ?_
                  show OutW _ _ _ _ _ _ _ (T38.setTop (mkF m 294 #[.val (.int p1), .val (.int p2), .val (.int p3), .val (.int v1), .val (.ref b2), .val (.ref b19), .val (.ref b28), .val (.int v31), .val (.int v33), .val (.int v35), .val (.int v37), .val (.long v39), .second, .val (.int v40), .val (.int v41), .unset, .unset, .unset, .unset] [(.int v1), (.int v40), (.ref b2)]))
                  obtain ⟨_, _, ⟨T42, L42, k42, n42⟩, -, X42, ⟨Lc42, hQ42, l42, y42, z42⟩, st42⟩ := Jvm.LawKit.callS X38 hx (y := (⟨"com/example/fulltext_workbench/fulltextworkbench/index/VarintReaderNextPinLaw", "expected", "([III)J"⟩ : MethodName)) hown (mvT hZ (hw _ (List.mem_of_getElem? (i := 25) rfl))) (mvT hZ (hw _ (List.mem_of_getElem? (i := 26) rfl))) (mvT hZ (hw _ (List.mem_of_getElem? (i := 27) rfl))) (mvT hZ (hw _ (List.mem_of_getElem? (i := 28) rfl))) (by decide) (backOf (W := 0) (rm5 l Z a0 hw [] b2 v40 v1 [(.int v3), (.int v5), (.int v7), (.int v9), (.int v11), (.int v13), (.int v15), (.int v17), (.int (0 : Int32)), (.int (0 : Int32)), (.int (0 : Int32)), (.int (0 : Int32)), (.int (0 : Int32)), (.int (0 : Int32)), (.int (0 : Int32)), (.int (0 : Int32))] k2 (Bn [v3, v5, v7, v9, v11, v13, v15, v17, (0 : Int32), (0 : Int32), (0 : Int32), (0 : Int32), (0 : Int32), (0 : Int32), (0 : Int32), (0 : Int32)]) h34 n0 Z34 V_b2_18 (fun j _ _ => own_getD [v3, v5, v7, v9, v11, v13, v15, v17, (0 : Int32), (0 : Int32), (0 : Int32), (0 : Int32), (0 : Int32), (0 : Int32), (0 : Int32), (0 : Int32)] _ 0) kr1.1 kr1.2 hn8.2) hZ (hw _ (List.mem_of_getElem? (i := 28) rfl)) (hw _ (List.mem_of_getElem? (i := 27) rfl)) (by decide) (by decide)) (g := (mkF m 294 #[.val (.int p1), .val (.int p2), .val (.int p3), .val (.int v1), .val (.ref b2), .val (.ref b19), .val (.ref b28), .val (.int v31), .val (.int v33), .val (.int v35), .val (.int v37), .val (.long v39), .second, .val (.int v40), .val (.int v41), .unset, .unset, .unset, .unset] [(.int v1), (.int v40), (.ref b2)])) rfl (by rw [hml]; rfl) (argsL := [(.ref b2), (.int v40), (.int v1)]) (rest := []) (lenOf pd_4 rfl) rfl (by show 2 * 0 + _ ≤ _; exact Nat.le_of_eq rfl) (hb hby at_294) (fun _ _ => ⟨rfl, e38, (by decide : 3 + 0 ≤ _), (by decide : 26 + 0 ≤ _)⟩)
                  dsimp only [Pt.U, Pt.locs, Pt.cells, Pt.slots] at X42 l42 y42 z42 st42 hQ42
                  subst l42 y42 z42
                  obtain ⟨rfl, Nq42, e42⟩ := hQ42
                  have N42 := Fr.app N38 Nq42
                  obtain ⟨lc42, X42, N42⟩ : ∃ lc, Stand p l e room_1 s m #[(.int p1), (.int p2), (.int p3)] below meth c T42 lc 3 26 ∧ Fr n0 lc := ⟨_, X42, N42⟩
                  refine OutW.back st42 ?_
                  show OutW _ _ _ _ _ _ _ (T42.setTop (mkF m 297 #[.val (.int p1), .val (.int p2), .val (.int p3), .val (.int v1), .val (.ref b2), .val (.ref b19), .val (.ref b28), .val (.int v31), .val (.int v33), .val (.int v35), .val (.int v37), .val (.long v39), .second, .val (.int v40), .val (.int v41), .unset, .unset, .unset, .unset] [(.long (pack (cF (Bn [v3, v5, v7, v9, v11, v13, v15, v17, (0 : Int32), (0 : Int32), (0 : Int32), (0 : Int32), (0 : Int32), (0 : Int32), (0 : Int32), (0 : Int32)]) v40 v1) (rF (Bn [v3, v5, v7, v9, v11, v13, v15, v17, (0 : Int32), (0 : Int32), (0 : Int32), (0 : Int32), (0 : Int32), (0 : Int32), (0 : Int32), (0 : Int32)]) v40 v1)))]))
                  generalize hv_v43 : (pack (cF (Bn [v3, v5, v7, v9, v11, v13, v15, v17, (0 : Int32), (0 : Int32), (0 : Int32), (0 : Int32), (0 : Int32), (0 : Int32), (0 : Int32), (0 : Int32)]) v40 v1) (rF (Bn [v3, v5, v7, v9, v11, v13, v15, v17, (0 : Int32), (0 : Int32), (0 : Int32), (0 : Int32), (0 : Int32), (0 : Int32), (0 : Int32), (0 : Int32)]) v40 v1)) = v43
                  refine OutW.back (fun t k => XS.lstore X42.here hx rfl (hb hby at_297) rfl (l' := #[.val (.int p1), .val (.int p2), .val (.int p3), .val (.int v1), .val (.ref b2), .val (.ref b19), .val (.ref b28), .val (.int v31), .val (.int v33), .val (.int v35), .val (.int v37), .val (.long v39), .second, .val (.int v40), .val (.int v41), .val (.long v43), .second, .unset, .unset]) rfl k) ?_
                  show OutW _ _ _ _ _ _ _ (T42.setTop (mkF m 299 #[.val (.int p1), .val (.int p2), .val (.int p3), .val (.int v1), .val (.ref b2), .val (.ref b19), .val (.ref b28), .val (.int v31), .val (.int v33), .val (.int v35), .val (.int v37), .val (.long v39), .second, .val (.int v40), .val (.int v41), .val (.long v43), .second, .unset, .unset] []))
                  refine OutW.back (fun t k => XS.lload X42.here hx rfl (hb hby at_299) rfl  k) ?_
                  show OutW _ _ _ _ _ _ _ (T42.setTop (mkF m 301 #[.val (.int p1), .val (.int p2), .val (.int p3), .val (.int v1), .val (.ref b2), .val (.ref b19), .val (.ref b28), .val (.int v31), .val (.int v33), .val (.int v35), .val (.int v37), .val (.long v39), .second, .val (.int v40), .val (.int v41), .val (.long v43), .second, .unset, .unset] [(.long v43)]))
                  refine OutW.back (fun t k => XS.bipush X42.here hx rfl (hb hby at_301) k) ?_
                  show OutW _ _ _ _ _ _ _ (T42.setTop (mkF m 303 #[.val (.int p1), .val (.int p2), .val (.int p3), .val (.int v1), .val (.ref b2), .val (.ref b19), .val (.ref b28), .val (.int v31), .val (.int v33), .val (.int v35), .val (.int v37), .val (.long v39), .second, .val (.int v40), .val (.int v41), .val (.long v43), .second, .unset, .unset] [(.int (32 : Int32)), (.long v43)]))
                  refine OutW.back (fun t k => XS.lushr X42.here hx rfl (hb hby at_303) rfl k) ?_
                  show OutW _ _ _ _ _ _ _ (T42.setTop (mkF m 304 #[.val (.int p1), .val (.int p2), .val (.int p3), .val (.int v1), .val (.ref b2), .val (.ref b19), .val (.ref b28), .val (.int v31), .val (.int v33), .val (.int v35), .val (.int v37), .val (.long v39), .second, .val (.int v40), .val (.int v41), .val (.long v43), .second, .unset, .unset] [(.long ((v43.toUInt64 >>> ((32 : Int32) &&& 0x3f).toInt64.toUInt64).toInt64))]))
                  refine OutW.back (fun t k => XS.l2i X42.here hx rfl (hb hby at_304) rfl k) ?_
                  show OutW _ _ _ _ _ _ _ (T42.setTop (mkF m 305 #[.val (.int p1), .val (.int p2), .val (.int p3), .val (.int v1), .val (.ref b2), .val (.ref b19), .val (.ref b28), .val (.int v31), .val (.int v33), .val (.int v35), .val (.int v37), .val (.long v39), .second, .val (.int v40), .val (.int v41), .val (.long v43), .second, .unset, .unset] [(.int ((v43.toUInt64 >>> ((32 : Int32) &&& 0x3f).toInt64.toUInt64).toInt64).toInt32)]))
                  generalize hv_v44 : ((v43.toUInt64 >>> ((32 : Int32) &&& 0x3f).toInt64.toUInt64).toInt64).toInt32 = v44
                  refine OutW.back (fun t k => XS.istore X42.here hx rfl (hb hby at_305) rfl (l' := #[.val (.int p1), .val (.int p2), .val (.int p3), .val (.int v1), .val (.ref b2), .val (.ref b19), .val (.ref b28), .val (.int v31), .val (.int v33), .val (.int v35), .val (.int v37), .val (.long v39), .second, .val (.int v40), .val (.int v41), .val (.long v43), .second, .val (.int v44), .unset]) rfl k) ?_
                  show OutW _ _ _ _ _ _ _ (T42.setTop (mkF m 307 #[.val (.int p1), .val (.int p2), .val (.int p3), .val (.int v1), .val (.ref b2), .val (.ref b19), .val (.ref b28), .val (.int v31), .val (.int v33), .val (.int v35), .val (.int v37), .val (.long v39), .second, .val (.int v40), .val (.int v41), .val (.long v43), .second, .val (.int v44), .unset] []))
                  refine OutW.back (fun t k => XS.lload X42.here hx rfl (hb hby at_307) rfl  k) ?_
                  show OutW _ _ _ _ _ _ _ (T42.setTop (mkF m 309 #[.val (.int p1), .val (.int p2), .val (.int p3), .val (.int v1), .val (.ref b2), .val (.ref b19), .val (.ref b28), .val (.int v31), .val (.int v33), .val (.int v35), .val (.int v37), .val (.long v39), .second, .val (.int v40), .val (.int v41), .val (.long v43), .second, .val (.int v44), .unset] [(.long v43)]))
                  refine OutW.back (fun t k => XS.l2i X42.here hx rfl (hb hby at_309) rfl k) ?_
                  show OutW _ _ _ _ _ _ _ (T42.setTop (mkF m 310 #[.val (.int p1), .val (.int p2), .val (.int p3), .val (.int v1), .val (.ref b2), .val (.ref b19), .val (.ref b28), .val (.int v31), .val (.int v33), .val (.int v35), .val (.int v37), .val (.long v39), .second, .val (.int v40), .val (.int v41), .val (.long v43), .second, .val (.int v44), .unset] [(.int v43.toInt32)]))
                  generalize hv_v45 : v43.toInt32 = v45
                  refine OutW.back (fun t k => XS.istore X42.here hx rfl (hb hby at_310) rfl (l' := #[.val (.int p1), .val (.int p2), .val (.int p3), .val (.int v1), .val (.ref b2), .val (.ref b19), .val (.ref b28), .val (.int v31), .val (.int v33), .val (.int v35), .val (.int v37), .val (.long v39), .second, .val (.int v40), .val (.int v41), .val (.long v43), .second, .val (.int v44), .val (.int v45)]) rfl k) ?_
                  show OutW _ _ _ _ _ _ _ (T42.setTop (mkF m 312 #[.val (.int p1), .val (.int p2), .val (.int p3), .val (.int v1), .val (.ref b2), .val (.ref b19), .val (.ref b28), .val (.int v31), .val (.int v33), .val (.int v35), .val (.int v37), .val (.long v39), .second, .val (.int v40), .val (.int v41), .val (.long v43), .second, .val (.int v44), .val (.int v45)] []))
                  rw [un.1, hc2] at hv_v43
                  have un2 := own_unp c2 (rF (Bn [v3, v5, v7, v9, v11, v13, v15, v17, (0 : Int32), (0 : Int32), (0 : Int32), (0 : Int32), (0 : Int32), (0 : Int32), (0 : Int32), (0 : Int32)]) c1 v1) kr2.2.2.1 kr2.2.2.2.2
                  rw [hv_v43] at un2
                  rw [hv_v44, hv_v45] at un2
                  have qa : v31 = v41 := by rw [← hv_v31, un.2]; exact kr0.1
                  have qb : v35 = v45 := by rw [← hv_v35, un2.2]; exact kr2.1
                  refine OutW.back (fun t k => XS.iload X42.here hx rfl (hb hby at_312) rfl  k) ?_
                  show OutW _ _ _ _ _ _ _ (T42.setTop (mkF m 314 #[.val (.int p1), .val (.int p2), .val (.int p3), .val (.int v1), .val (.ref b2), .val (.ref b19), .val (.ref b28), .val (.int v31), .val (.int v33), .val (.int v35), .val (.int v37), .val (.long v39), .second, .val (.int v40), .val (.int v41), .val (.long v43), .second, .val (.int v44), .val (.int v45)] [(.int v31)]))
                  refine OutW.back (fun t k => XS.iload X42.here hx rfl (hb hby at_314) rfl  k) ?_
                  show OutW _ _ _ _ _ _ _ (T42.setTop (mkF m 316 #[.val (.int p1), .val (.int p2), .val (.int p3), .val (.int v1), .val (.ref b2), .val (.ref b19), .val (.ref b28), .val (.int v31), .val (.int v33), .val (.int v35), .val (.int v37), .val (.long v39), .second, .val (.int v40), .val (.int v41), .val (.long v43), .second, .val (.int v44), .val (.int v45)] [(.int v41), (.int v31)]))
                  refine OutW.back (fun t k => XS.icmpNo X42.here hx rfl (hb hby at_316) rfl (teq qa).2 k) ?_
                  show OutW _ _ _ _ _ _ _ (T42.setTop (mkF m 319 #[.val (.int p1), .val (.int p2), .val (.int p3), .val (.int v1), .val (.ref b2), .val (.ref b19), .val (.ref b28), .val (.int v31), .val (.int v33), .val (.int v35), .val (.int v37), .val (.long v39), .second, .val (.int v40), .val (.int v41), .val (.long v43), .second, .val (.int v44), .val (.int v45)] []))
                  refine OutW.back (fun t k => XS.iload X42.here hx rfl (hb hby at_319) rfl  k) ?_
                  show OutW _ _ _ _ _ _ _ (T42.setTop (mkF m 321 #[.val (.int p1), .val (.int p2), .val (.int p3), .val (.int v1), .val (.ref b2), .val (.ref b19), .val (.ref b28), .val (.int v31), .val (.int v33), .val (.int v35), .val (.int v37), .val (.long v39), .second, .val (.int v40), .val (.int v41), .val (.long v43), .second, .val (.int v44), .val (.int v45)] [(.int v33)]))
                  refine OutW.back (fun t k => XS.iload X42.here hx rfl (hb hby at_321) rfl  k) ?_
                  show OutW _ _ _ _ _ _ _ (T42.setTop (mkF m 323 #[.val (.int p1), .val (.int p2), .val (.int p3), .val (.int v1), .val (.ref b2), .val (.ref b19), .val (.ref b28), .val (.int v31), .val (.int v33), .val (.int v35), .val (.int v37), .val (.long v39), .second, .val (.int v40), .val (.int v41), .val (.long v43), .second, .val (.int v44), .val (.int v45)] [(.int v40), (.int v33)]))
                  refine OutW.back (fun t k => XS.iloadN X42.here hx rfl (hb hby at_323) rfl  k) ?_
                  show OutW _ _ _ _ _ _ _ (T42.setTop (mkF m 324 #[.val (.int p1), .val (.int p2), .val (.int p3), .val (.int v1), .val (.ref b2), .val (.ref b19), .val (.ref b28), .val (.int v31), .val (.int v33), .val (.int v35), .val (.int v37), .val (.long v39), .second, .val (.int v40), .val (.int v41), .val (.long v43), .second, .val (.int v44), .val (.int v45)] [(.int v1), (.int v40), (.int v33)]))
                  obtain ⟨v47, hv_v47⟩ : ∃ z : Int32, z = (if v40 = v1 then (1 : Int32) else (0 : Int32)) := ⟨_, rfl⟩
                  have j48 : ∀ t, Steps p.tables e below (T42.setTop (mkF m 332 #[.val (.int p1), .val (.int p2), .val (.int p3), .val (.int v1), .val (.ref b2), .val (.ref b19), .val (.ref b28), .val (.int v31), .val (.int v33), .val (.int v35), .val (.int v37), .val (.long v39), .second, .val (.int v40), .val (.int v41), .val (.long v43), .second, .val (.int v44), .val (.int v45)] [(.int v47), (.int v33)])) t → Steps p.tables e below (T42.setTop (mkF m 324 #[.val (.int p1), .val (.int p2), .val (.int p3), .val (.int v1), .val (.ref b2), .val (.ref b19), .val (.ref b28), .val (.int v31), .val (.int v33), .val (.int v35), .val (.int v37), .val (.long v39), .second, .val (.int v40), .val (.int v41), .val (.long v43), .second, .val (.int v44), .val (.int v45)] [(.int v1), (.int v40), (.int v33)])) t := by
                    intro t k
                    by_cases c324_49 : v40 = v1
                    · skip
                      refine XS.icmpNo X42.here hx rfl (hb hby at_324) rfl (teq c324_49).2 ?_
                      show Steps p.tables e below (T42.setTop (mkF m 327 #[.val (.int p1), .val (.int p2), .val (.int p3), .val (.int v1), .val (.ref b2), .val (.ref b19), .val (.ref b28), .val (.int v31), .val (.int v33), .val (.int v35), .val (.int v37), .val (.long v39), .second, .val (.int v40), .val (.int v41), .val (.long v43), .second, .val (.int v44), .val (.int v45)] [(.int v33)])) t
                      refine XS.iconst X42.here hx rfl (hb hby at_327) ?_
                      show Steps p.tables e below (T42.setTop (mkF m 328 #[.val (.int p1), .val (.int p2), .val (.int p3), .val (.int v1), .val (.ref b2), .val (.ref b19), .val (.ref b28), .val (.int v31), .val (.int v33), .val (.int v35), .val (.int v37), .val (.long v39), .second, .val (.int v40), .val (.int v41), .val (.long v43), .second, .val (.int v44), .val (.int v45)] [(.int (1 : Int32)), (.int v33)])) t
                      refine XS.goto X42.here hx rfl (pc0 := 328) (pc' := 332) rfl (hb hby at_328) (by decide) (by decide) ?_
                      show Steps p.tables e below (T42.setTop (mkF m 332 #[.val (.int p1), .val (.int p2), .val (.int p3), .val (.int v1), .val (.ref b2), .val (.ref b19), .val (.ref b28), .val (.int v31), .val (.int v33), .val (.int v35), .val (.int v37), .val (.long v39), .second, .val (.int v40), .val (.int v41), .val (.long v43), .second, .val (.int v44), .val (.int v45)] [(.int (1 : Int32)), (.int v33)])) t
                      have q_v47 : v47 = (1 : Int32) := by rw [hv_v47, if_pos c324_49]
                      rw [q_v47] at k
                      exact k
                    · skip
                      refine XS.icmpYes X42.here hx rfl (pc0 := 324) (pc' := 331) rfl (hb hby at_324) rfl (feq c324_49).2 (by decide) (by decide) ?_
                      show Steps p.tables e below (T42.setTop (mkF m 331 #[.val (.int p1), .val (.int p2), .val (.int p3), .val (.int v1), .val (.ref b2), .val (.ref b19), .val (.ref b28), .val (.int v31), .val (.int v33), .val (.int v35), .val (.int v37), .val (.long v39), .second, .val (.int v40), .val (.int v41), .val (.long v43), .second, .val (.int v44), .val (.int v45)] [(.int v33)])) t
                      refine XS.iconst X42.here hx rfl (hb hby at_331) ?_
                      show Steps p.tables e below (T42.setTop (mkF m 332 #[.val (.int p1), .val (.int p2), .val (.int p3), .val (.int v1), .val (.ref b2), .val (.ref b19), .val (.ref b28), .val (.int v31), .val (.int v33), .val (.int v35), .val (.int v37), .val (.long v39), .second, .val (.int v40), .val (.int v41), .val (.long v43), .second, .val (.int v44), .val (.int v45)] [(.int (0 : Int32)), (.int v33)])) t
                      have q_v47 : v47 = (0 : Int32) := by rw [hv_v47, if_neg c324_49]
                      rw [q_v47] at k
                      exact k
                  refine OutW.back j48 ?_
                  show OutW _ _ _ _ _ _ _ (T42.setTop (mkF m 332 #[.val (.int p1), .val (.int p2), .val (.int p3), .val (.int v1), .val (.ref b2), .val (.ref b19), .val (.ref b28), .val (.int v31), .val (.int v33), .val (.int v35), .val (.int v37), .val (.long v39), .second, .val (.int v40), .val (.int v41), .val (.long v43), .second, .val (.int v44), .val (.int v45)] [(.int v47), (.int v33)]))
                  have qc : v33 = v47 := by rw [← hv_v33, hv_v47, un.1]; rfl
                  refine OutW.back (fun t k => XS.icmpNo X42.here hx rfl (hb hby at_332) rfl (teq qc).2 k) ?_
                  show OutW _ _ _ _ _ _ _ (T42.setTop (mkF m 335 #[.val (.int p1), .val (.int p2), .val (.int p3), .val (.int v1), .val (.ref b2), .val (.ref b19), .val (.ref b28), .val (.int v31), .val (.int v33), .val (.int v35), .val (.int v37), .val (.long v39), .second, .val (.int v40), .val (.int v41), .val (.long v43), .second, .val (.int v44), .val (.int v45)] []))
                  refine OutW.back (fun t k => XS.iload X42.here hx rfl (hb hby at_335) rfl  k) ?_
                  show OutW _ _ _ _ _ _ _ (T42.setTop (mkF m 337 #[.val (.int p1), .val (.int p2), .val (.int p3), .val (.int v1), .val (.ref b2), .val (.ref b19), .val (.ref b28), .val (.int v31), .val (.int v33), .val (.int v35), .val (.int v37), .val (.long v39), .second, .val (.int v40), .val (.int v41), .val (.long v43), .second, .val (.int v44), .val (.int v45)] [(.int v35)]))
                  refine OutW.back (fun t k => XS.iload X42.here hx rfl (hb hby at_337) rfl  k) ?_
                  show OutW _ _ _ _ _ _ _ (T42.setTop (mkF m 339 #[.val (.int p1), .val (.int p2), .val (.int p3), .val (.int v1), .val (.ref b2), .val (.ref b19), .val (.ref b28), .val (.int v31), .val (.int v33), .val (.int v35), .val (.int v37), .val (.long v39), .second, .val (.int v40), .val (.int v41), .val (.long v43), .second, .val (.int v44), .val (.int v45)] [(.int v45), (.int v35)]))
                  refine OutW.back (fun t k => XS.icmpNo X42.here hx rfl (hb hby at_339) rfl (teq qb).2 k) ?_
                  show OutW _ _ _ _ _ _ _ (T42.setTop (mkF m 342 #[.val (.int p1), .val (.int p2), .val (.int p3), .val (.int v1), .val (.ref b2), .val (.ref b19), .val (.ref b28), .val (.int v31), .val (.int v33), .val (.int v35), .val (.int v37), .val (.long v39), .second, .val (.int v40), .val (.int v41), .val (.long v43), .second, .val (.int v44), .val (.int v45)] []))
                  refine OutW.back (fun t k => XS.iload X42.here hx rfl (hb hby at_342) rfl  k) ?_
                  show OutW _ _ _ _ _ _ _ (T42.setTop (mkF m 344 #[.val (.int p1), .val (.int p2), .val (.int p3), .val (.int v1), .val (.ref b2), .val (.ref b19), .val (.ref b28), .val (.int v31), .val (.int v33), .val (.int v35), .val (.int v37), .val (.long v39), .second, .val (.int v40), .val (.int v41), .val (.long v43), .second, .val (.int v44), .val (.int v45)] [(.int v37)]))
                  refine OutW.back (fun t k => XS.iload X42.here hx rfl (hb hby at_344) rfl  k) ?_
                  show OutW _ _ _ _ _ _ _ (T42.setTop (mkF m 346 #[.val (.int p1), .val (.int p2), .val (.int p3), .val (.int v1), .val (.ref b2), .val (.ref b19), .val (.ref b28), .val (.int v31), .val (.int v33), .val (.int v35), .val (.int v37), .val (.long v39), .second, .val (.int v40), .val (.int v41), .val (.long v43), .second, .val (.int v44), .val (.int v45)] [(.int v40), (.int v37)]))
                  refine OutW.back (fun t k => XS.iload X42.here hx rfl (hb hby at_346) rfl  k) ?_
                  show OutW _ _ _ _ _ _ _ (T42.setTop (mkF m 348 #[.val (.int p1), .val (.int p2), .val (.int p3), .val (.int v1), .val (.ref b2), .val (.ref b19), .val (.ref b28), .val (.int v31), .val (.int v33), .val (.int v35), .val (.int v37), .val (.long v39), .second, .val (.int v40), .val (.int v41), .val (.long v43), .second, .val (.int v44), .val (.int v45)] [(.int v44), (.int v40), (.int v37)]))
                  refine OutW.back (fun t k => XS.iadd X42.here hx rfl (hb hby at_348) rfl k) ?_
                  show OutW _ _ _ _ _ _ _ (T42.setTop (mkF m 349 #[.val (.int p1), .val (.int p2), .val (.int p3), .val (.int v1), .val (.ref b2), .val (.ref b19), .val (.ref b28), .val (.int v31), .val (.int v33), .val (.int v35), .val (.int v37), .val (.long v39), .second, .val (.int v40), .val (.int v41), .val (.long v43), .second, .val (.int v44), .val (.int v45)] [(.int (v40 + v44)), (.int v37)]))
                  refine OutW.back (fun t k => XS.iloadN X42.here hx rfl (hb hby at_349) rfl  k) ?_
                  show OutW _ _ _ _ _ _ _ (T42.setTop (mkF m 350 #[.val (.int p1), .val (.int p2), .val (.int p3), .val (.int v1), .val (.ref b2), .val (.ref b19), .val (.ref b28), .val (.int v31), .val (.int v33), .val (.int v35), .val (.int v37), .val (.long v39), .second, .val (.int v40), .val (.int v41), .val (.long v43), .second, .val (.int v44), .val (.int v45)] [(.int v1), (.int (v40 + v44)), (.int v37)]))
                  obtain ⟨v51, hv_v51⟩ : ∃ z : Int32, z = (if (v40 + v44) = v1 then (1 : Int32) else (0 : Int32)) := ⟨_, rfl⟩
                  have j52 : ∀ t, Steps p.tables e below (T42.setTop (mkF m 358 #[.val (.int p1), .val (.int p2), .val (.int p3), .val (.int v1), .val (.ref b2), .val (.ref b19), .val (.ref b28), .val (.int v31), .val (.int v33), .val (.int v35), .val (.int v37), .val (.long v39), .second, .val (.int v40), .val (.int v41), .val (.long v43), .second, .val (.int v44), .val (.int v45)] [(.int v51), (.int v37)])) t → Steps p.tables e below (T42.setTop (mkF m 350 #[.val (.int p1), .val (.int p2), .val (.int p3), .val (.int v1), .val (.ref b2), .val (.ref b19), .val (.ref b28), .val (.int v31), .val (.int v33), .val (.int v35), .val (.int v37), .val (.long v39), .second, .val (.int v40), .val (.int v41), .val (.long v43), .second, .val (.int v44), .val (.int v45)] [(.int v1), (.int (v40 + v44)), (.int v37)])) t := by
                    intro t k
                    by_cases c350_53 : (v40 + v44) = v1
                    · skip
                      refine XS.icmpNo X42.here hx rfl (hb hby at_350) rfl (teq c350_53).2 ?_
                      show Steps p.tables e below (T42.setTop (mkF m 353 #[.val (.int p1), .val (.int p2), .val (.int p3), .val (.int v1), .val (.ref b2), .val (.ref b19), .val (.ref b28), .val (.int v31), .val (.int v33), .val (.int v35), .val (.int v37), .val (.long v39), .second, .val (.int v40), .val (.int v41), .val (.long v43), .second, .val (.int v44), .val (.int v45)] [(.int v37)])) t
                      refine XS.iconst X42.here hx rfl (hb hby at_353) ?_
                      show Steps p.tables e below (T42.setTop (mkF m 354 #[.val (.int p1), .val (.int p2), .val (.int p3), .val (.int v1), .val (.ref b2), .val (.ref b19), .val (.ref b28), .val (.int v31), .val (.int v33), .val (.int v35), .val (.int v37), .val (.long v39), .second, .val (.int v40), .val (.int v41), .val (.long v43), .second, .val (.int v44), .val (.int v45)] [(.int (1 : Int32)), (.int v37)])) t
                      refine XS.goto X42.here hx rfl (pc0 := 354) (pc' := 358) rfl (hb hby at_354) (by decide) (by decide) ?_
                      show Steps p.tables e below (T42.setTop (mkF m 358 #[.val (.int p1), .val (.int p2), .val (.int p3), .val (.int v1), .val (.ref b2), .val (.ref b19), .val (.ref b28), .val (.int v31), .val (.int v33), .val (.int v35), .val (.int v37), .val (.long v39), .second, .val (.int v40), .val (.int v41), .val (.long v43), .second, .val (.int v44), .val (.int v45)] [(.int (1 : Int32)), (.int v37)])) t
                      have q_v51 : v51 = (1 : Int32) := by rw [hv_v51, if_pos c350_53]
                      rw [q_v51] at k
                      exact k
                    · skip
                      refine XS.icmpYes X42.here hx rfl (pc0 := 350) (pc' := 357) rfl (hb hby at_350) rfl (feq c350_53).2 (by decide) (by decide) ?_
                      show Steps p.tables e below (T42.setTop (mkF m 357 #[.val (.int p1), .val (.int p2), .val (.int p3), .val (.int v1), .val (.ref b2), .val (.ref b19), .val (.ref b28), .val (.int v31), .val (.int v33), .val (.int v35), .val (.int v37), .val (.long v39), .second, .val (.int v40), .val (.int v41), .val (.long v43), .second, .val (.int v44), .val (.int v45)] [(.int v37)])) t
                      refine XS.iconst X42.here hx rfl (hb hby at_357) ?_
                      show Steps p.tables e below (T42.setTop (mkF m 358 #[.val (.int p1), .val (.int p2), .val (.int p3), .val (.int v1), .val (.ref b2), .val (.ref b19), .val (.ref b28), .val (.int v31), .val (.int v33), .val (.int v35), .val (.int v37), .val (.long v39), .second, .val (.int v40), .val (.int v41), .val (.long v43), .second, .val (.int v44), .val (.int v45)] [(.int (0 : Int32)), (.int v37)])) t
                      have q_v51 : v51 = (0 : Int32) := by rw [hv_v51, if_neg c350_53]
                      rw [q_v51] at k
                      exact k
                  refine OutW.back j52 ?_
                  show OutW _ _ _ _ _ _ _ (T42.setTop (mkF m 358 #[.val (.int p1), .val (.int p2), .val (.int p3), .val (.int v1), .val (.ref b2), .val (.ref b19), .val (.ref b28), .val (.int v31), .val (.int v33), .val (.int v35), .val (.int v37), .val (.long v39), .second, .val (.int v40), .val (.int v41), .val (.long v43), .second, .val (.int v44), .val (.int v45)] [(.int v51), (.int v37)]))
                  have qd : v37 = v51 := by rw [← hv_v37, hv_v51, un.1, un2.1]; rfl
                  refine OutW.back (fun t k => XS.icmpNo X42.here hx rfl (hb hby at_358) rfl (teq qd).2 k) ?_
                  show OutW _ _ _ _ _ _ _ (T42.setTop (mkF m 361 #[.val (.int p1), .val (.int p2), .val (.int p3), .val (.int v1), .val (.ref b2), .val (.ref b19), .val (.ref b28), .val (.int v31), .val (.int v33), .val (.int v35), .val (.int v37), .val (.long v39), .second, .val (.int v40), .val (.int v41), .val (.long v43), .second, .val (.int v44), .val (.int v45)] []))
                  refine OutW.back (fun t k => XS.iconst X42.here hx rfl (hb hby at_361) k) ?_
                  show OutW _ _ _ _ _ _ _ (T42.setTop (mkF m 362 #[.val (.int p1), .val (.int p2), .val (.int p3), .val (.int v1), .val (.ref b2), .val (.ref b19), .val (.ref b28), .val (.int v31), .val (.int v33), .val (.int v35), .val (.int v37), .val (.long v39), .second, .val (.int v40), .val (.int v41), .val (.long v43), .second, .val (.int v44), .val (.int v45)] [(.int (1 : Int32))]))
                  refine OutW.back (fun t k => XS.goto X42.here hx rfl (pc0 := 362) (pc' := 366) rfl (hb hby at_362) (by decide) (by decide) k) ?_
                  show OutW _ _ _ _ _ _ _ (T42.setTop (mkF m 366 #[.val (.int p1), .val (.int p2), .val (.int p3), .val (.int v1), .val (.ref b2), .val (.ref b19), .val (.ref b28), .val (.int v31), .val (.int v33), .val (.int v35), .val (.int v37), .val (.long v39), .second, .val (.int v40), .val (.int v41), .val (.long v43), .second, .val (.int v44), .val (.int v45)] [(.int (1 : Int32))]))
                  refine OutW.retN X42 hx (t := .boolean) (z' := 1) Bd.returns (by simp) hlk (hb hby at_366) ?hz (by decide) (by decide) ?_
                  case hz =>
                    rfl
                  show Q0 Z p1 p2 p3 h0 n0 _ T42.heap _
                  rw [e42]
                  exact ⟨rfl, N42⟩
                by_cases c214_54 : (7 : Int32) < v1
                · skip
                  refine OutW.back (fun t k => XS.icmpNo X26.here hx rfl (hb hby at_214) rfl (tlt c214_54).2.2.2 k) ?_
                  show OutW _ _ _ _ _ _ _ (T26.setTop (mkF m 217 #[.val (.int p1), .val (.int p2), .val (.int p3), .val (.int v1), .val (.ref b2), .val (.ref b19), .unset, .unset, .unset, .unset, .unset, .unset, .unset, .unset, .unset, .unset, .unset, .unset, .unset] []))
                  refine OutW.back (fun t k => XS.aload X26.here hx rfl (hb hby at_217) rfl rfl  k) ?_
                  show OutW _ _ _ _ _ _ _ (T26.setTop (mkF m 219 #[.val (.int p1), .val (.int p2), .val (.int p3), .val (.int v1), .val (.ref b2), .val (.ref b19), .unset, .unset, .unset, .unset, .unset, .unset, .unset, .unset, .unset, .unset, .unset, .unset, .unset] [(.ref b19)]))
                  refine OutW.back (fun t k => XS.bipush X26.here hx rfl (hb hby at_219) k) ?_
                  show OutW _ _ _ _ _ _ _ (T26.setTop (mkF m 221 #[.val (.int p1), .val (.int p2), .val (.int p3), .val (.int v1), .val (.ref b2), .val (.ref b19), .unset, .unset, .unset, .unset, .unset, .unset, .unset, .unset, .unset, .unset, .unset, .unset, .unset] [(.int (7 : Int32)), (.ref b19)]))
                  refine OutW.back (fun t k => XS.aload X26.here hx rfl (hb hby at_221) rfl rfl  k) ?_
                  show OutW _ _ _ _ _ _ _ (T26.setTop (mkF m 223 #[.val (.int p1), .val (.int p2), .val (.int p3), .val (.int v1), .val (.ref b2), .val (.ref b19), .unset, .unset, .unset, .unset, .unset, .unset, .unset, .unset, .unset, .unset, .unset, .unset, .unset] [(.ref b2), (.int (7 : Int32)), (.ref b19)]))
                  refine OutW.back (fun t k => XS.bipush X26.here hx rfl (hb hby at_223) k) ?_
                  show OutW _ _ _ _ _ _ _ (T26.setTop (mkF m 225 #[.val (.int p1), .val (.int p2), .val (.int p3), .val (.int v1), .val (.ref b2), .val (.ref b19), .unset, .unset, .unset, .unset, .unset, .unset, .unset, .unset, .unset, .unset, .unset, .unset, .unset] [(.int (7 : Int32)), (.ref b2), (.int (7 : Int32)), (.ref b19)]))
                  obtain ⟨cl55, Ar55, Qk55, Sz55, Nn55, Hh55, Gg55⟩ := id V_b2_18
                  have hin55 : ¬ ((7 : Int32) < 0 ∨ cl55.slots.size ≤ ((7 : Int32)).toNatClampNeg) := inb_of Sz55 ⟨by decide, by decide⟩
                  refine OutW.back (X26.iaload hx (j := (7 : Int32)) (v := (.int v17)) (by rw [e26]; exact Ar55.1) (State.isArrayOf_alike hZ.alike Ar55.2.1) Ar55.2.2 hin55 (Hh55.at hin55 (by rfl)) (g := (mkF m 225 #[.val (.int p1), .val (.int p2), .val (.int p3), .val (.int v1), .val (.ref b2), .val (.ref b19), .unset, .unset, .unset, .unset, .unset, .unset, .unset, .unset, .unset, .unset, .unset, .unset, .unset] [(.int (7 : Int32)), (.ref b2), (.int (7 : Int32)), (.ref b19)])) rfl rfl (hb hby at_225)) ?_
                  show OutW _ _ _ _ _ _ _ (T26.setTop (mkF m 226 #[.val (.int p1), .val (.int p2), .val (.int p3), .val (.int v1), .val (.ref b2), .val (.ref b19), .unset, .unset, .unset, .unset, .unset, .unset, .unset, .unset, .unset, .unset, .unset, .unset, .unset] [(.int v17), (.int (7 : Int32)), (.ref b19)]))
                  refine OutW.back (fun t k => XS.i2b X26.here hx rfl (hb hby at_226) rfl k) ?_
                  show OutW _ _ _ _ _ _ _ (T26.setTop (mkF m 227 #[.val (.int p1), .val (.int p2), .val (.int p3), .val (.int v1), .val (.ref b2), .val (.ref b19), .unset, .unset, .unset, .unset, .unset, .unset, .unset, .unset, .unset, .unset, .unset, .unset, .unset] [(.int v17.toInt8.toInt32), (.int (7 : Int32)), (.ref b19)]))
                  have hin_227 : ¬ (7 : Int32) < 0 ∧ (7 : Int32) < v1 := ⟨by decide, c214_54⟩
                  obtain ⟨cl56, Ar56, Qk56, Sz56, Nn56, Hh56, Gg56⟩ := id V_b19_c
                  have hin56 : ¬ ((7 : Int32) < 0 ∨ cl56.slots.size ≤ ((7 : Int32)).toNatClampNeg) := inb_of Sz56 hin_227
                  obtain ⟨T56, h56, X56, e56, W56, st56⟩ := stB X26 hx hZ e26 Ar56 (j := (7 : Int32)) hin56 (g := (mkF m 227 #[.val (.int p1), .val (.int p2), .val (.int p3), .val (.int v1), .val (.ref b2), .val (.ref b19), .unset, .unset, .unset, .unset, .unset, .unset, .unset, .unset, .unset, .unset, .unset, .unset, .unset] [(.int v17.toInt8.toInt32), (.int (7 : Int32)), (.ref b19)])) rfl rfl (hb hby at_227)
                  have V_b19_56 : Arv Z h56 b19 k19 .byte v1 [(.int (nar .byte v3.toInt8.toInt32)), (.int (nar .byte v5.toInt8.toInt32)), (.int (nar .byte v7.toInt8.toInt32)), (.int (nar .byte v9.toInt8.toInt32)), (.int (nar .byte v11.toInt8.toInt32)), (.int (nar .byte v13.toInt8.toInt32)), (.int (nar .byte v15.toInt8.toInt32)), (.int (nar .byte v17.toInt8.toInt32))] (.int (0 : Int32)) := Arv.set Ar56 Qk56 Sz56 Nn56 Hh56 Gg56 (fits_nar_byte _) W56 7 rfl (Nat.le_of_ble_eq_true rfl)
                  have V_b2_18 := V_b2_18.other W56 ne_b2_b19
                  have N56 := Fr.snoc X56 N26 g_b19
                  have Z56 : n0 ≤ h56.size := Nat.le_trans Z26 (Keep.of_wr W56).1
                  have K56 := K26.wr W56 (Or.inr sz_b19)
                  obtain ⟨lc56, X56, N56⟩ : ∃ lc, Stand p l e room_1 s m #[(.int p1), (.int p2), (.int p3)] below meth c T56 lc 2 24 ∧ Fr n0 lc := ⟨_, X56, N56⟩
                  refine OutW.back st56 ?_
                  show OutW _ _ _ _ _ _ _ (T56.setTop (mkF m 228 #[.val (.int p1), .val (.int p2), .val (.int p3), .val (.int v1), .val (.ref b2), .val (.ref b19), .unset, .unset, .unset, .unset, .unset, .unset, .unset, .unset, .unset, .unset, .unset, .unset, .unset] []))
                  exact cont27 _ _ _ X56 e56 N56 Z56 K56 V_b2_18 V_b19_56
                · skip
                  refine OutW.back (fun t k => XS.icmpYes X26.here hx rfl (pc0 := 214) (pc' := 228) rfl (hb hby at_214) rfl (flt c214_54).2.2.2 (by decide) (by decide) k) ?_
                  show OutW _ _ _ _ _ _ _ (T26.setTop (mkF m 228 #[.val (.int p1), .val (.int p2), .val (.int p3), .val (.int v1), .val (.ref b2), .val (.ref b19), .unset, .unset, .unset, .unset, .unset, .unset, .unset, .unset, .unset, .unset, .unset, .unset, .unset] []))
                  exact cont27 _ _ _ X26 e26 N26 Z26 K26 V_b2_18 (own_skip (i := 7) (v := (.int (nar .byte v17.toInt8.toInt32))) V_b19_c (own_clamp c214_54))
              by_cases c197_57 : (6 : Int32) < v1
              · skip
                refine OutW.back (fun t k => XS.icmpNo X25.here hx rfl (hb hby at_197) rfl (tlt c197_57).2.2.2 k) ?_
                show OutW _ _ _ _ _ _ _ (T25.setTop (mkF m 200 #[.val (.int p1), .val (.int p2), .val (.int p3), .val (.int v1), .val (.ref b2), .val (.ref b19), .unset, .unset, .unset, .unset, .unset, .unset, .unset, .unset, .unset, .unset, .unset, .unset, .unset] []))
                refine OutW.back (fun t k => XS.aload X25.here hx rfl (hb hby at_200) rfl rfl  k) ?_
                show OutW _ _ _ _ _ _ _ (T25.setTop (mkF m 202 #[.val (.int p1), .val (.int p2), .val (.int p3), .val (.int v1), .val (.ref b2), .val (.ref b19), .unset, .unset, .unset, .unset, .unset, .unset, .unset, .unset, .unset, .unset, .unset, .unset, .unset] [(.ref b19)]))
                refine OutW.back (fun t k => XS.bipush X25.here hx rfl (hb hby at_202) k) ?_
                show OutW _ _ _ _ _ _ _ (T25.setTop (mkF m 204 #[.val (.int p1), .val (.int p2), .val (.int p3), .val (.int v1), .val (.ref b2), .val (.ref b19), .unset, .unset, .unset, .unset, .unset, .unset, .unset, .unset, .unset, .unset, .unset, .unset, .unset] [(.int (6 : Int32)), (.ref b19)]))
                refine OutW.back (fun t k => XS.aload X25.here hx rfl (hb hby at_204) rfl rfl  k) ?_
                show OutW _ _ _ _ _ _ _ (T25.setTop (mkF m 206 #[.val (.int p1), .val (.int p2), .val (.int p3), .val (.int v1), .val (.ref b2), .val (.ref b19), .unset, .unset, .unset, .unset, .unset, .unset, .unset, .unset, .unset, .unset, .unset, .unset, .unset] [(.ref b2), (.int (6 : Int32)), (.ref b19)]))
                refine OutW.back (fun t k => XS.bipush X25.here hx rfl (hb hby at_206) k) ?_
                show OutW _ _ _ _ _ _ _ (T25.setTop (mkF m 208 #[.val (.int p1), .val (.int p2), .val (.int p3), .val (.int v1), .val (.ref b2), .val (.ref b19), .unset, .unset, .unset, .unset, .unset, .unset, .unset, .unset, .unset, .unset, .unset, .unset, .unset] [(.int (6 : Int32)), (.ref b2), (.int (6 : Int32)), (.ref b19)]))
                obtain ⟨cl58, Ar58, Qk58, Sz58, Nn58, Hh58, Gg58⟩ := id V_b2_18
                have hin58 : ¬ ((6 : Int32) < 0 ∨ cl58.slots.size ≤ ((6 : Int32)).toNatClampNeg) := inb_of Sz58 ⟨by decide, by decide⟩
                refine OutW.back (X25.iaload hx (j := (6 : Int32)) (v := (.int v15)) (by rw [e25]; exact Ar58.1) (State.isArrayOf_alike hZ.alike Ar58.2.1) Ar58.2.2 hin58 (Hh58.at hin58 (by rfl)) (g := (mkF m 208 #[.val (.int p1), .val (.int p2), .val (.int p3), .val (.int v1), .val (.ref b2), .val (.ref b19), .unset, .unset, .unset, .unset, .unset, .unset, .unset, .unset, .unset, .unset, .unset, .unset, .unset] [(.int (6 : Int32)), (.ref b2), (.int (6 : Int32)), (.ref b19)])) rfl rfl (hb hby at_208)) ?_
                show OutW _ _ _ _ _ _ _ (T25.setTop (mkF m 209 #[.val (.int p1), .val (.int p2), .val (.int p3), .val (.int v1), .val (.ref b2), .val (.ref b19), .unset, .unset, .unset, .unset, .unset, .unset, .unset, .unset, .unset, .unset, .unset, .unset, .unset] [(.int v15), (.int (6 : Int32)), (.ref b19)]))
                refine OutW.back (fun t k => XS.i2b X25.here hx rfl (hb hby at_209) rfl k) ?_
                show OutW _ _ _ _ _ _ _ (T25.setTop (mkF m 210 #[.val (.int p1), .val (.int p2), .val (.int p3), .val (.int v1), .val (.ref b2), .val (.ref b19), .unset, .unset, .unset, .unset, .unset, .unset, .unset, .unset, .unset, .unset, .unset, .unset, .unset] [(.int v15.toInt8.toInt32), (.int (6 : Int32)), (.ref b19)]))
                have hin_210 : ¬ (6 : Int32) < 0 ∧ (6 : Int32) < v1 := ⟨by decide, c197_57⟩
                obtain ⟨cl59, Ar59, Qk59, Sz59, Nn59, Hh59, Gg59⟩ := id V_b19_c
                have hin59 : ¬ ((6 : Int32) < 0 ∨ cl59.slots.size ≤ ((6 : Int32)).toNatClampNeg) := inb_of Sz59 hin_210
                obtain ⟨T59, h59, X59, e59, W59, st59⟩ := stB X25 hx hZ e25 Ar59 (j := (6 : Int32)) hin59 (g := (mkF m 210 #[.val (.int p1), .val (.int p2), .val (.int p3), .val (.int v1), .val (.ref b2), .val (.ref b19), .unset, .unset, .unset, .unset, .unset, .unset, .unset, .unset, .unset, .unset, .unset, .unset, .unset] [(.int v15.toInt8.toInt32), (.int (6 : Int32)), (.ref b19)])) rfl rfl (hb hby at_210)
                have V_b19_59 : Arv Z h59 b19 k19 .byte v1 [(.int (nar .byte v3.toInt8.toInt32)), (.int (nar .byte v5.toInt8.toInt32)), (.int (nar .byte v7.toInt8.toInt32)), (.int (nar .byte v9.toInt8.toInt32)), (.int (nar .byte v11.toInt8.toInt32)), (.int (nar .byte v13.toInt8.toInt32)), (.int (nar .byte v15.toInt8.toInt32)), (.int (0 : Int32))] (.int (0 : Int32)) := Arv.set Ar59 Qk59 Sz59 Nn59 Hh59 Gg59 (fits_nar_byte _) W59 6 rfl (Nat.le_of_ble_eq_true rfl)
                have V_b2_18 := V_b2_18.other W59 ne_b2_b19
                have N59 := Fr.snoc X59 N25 g_b19
                have Z59 : n0 ≤ h59.size := Nat.le_trans Z25 (Keep.of_wr W59).1
                have K59 := K25.wr W59 (Or.inr sz_b19)
                obtain ⟨lc59, X59, N59⟩ : ∃ lc, Stand p l e room_1 s m #[(.int p1), (.int p2), (.int p3)] below meth c T59 lc 2 24 ∧ Fr n0 lc := ⟨_, X59, N59⟩
                refine OutW.back st59 ?_
                show OutW _ _ _ _ _ _ _ (T59.setTop (mkF m 211 #[.val (.int p1), .val (.int p2), .val (.int p3), .val (.int v1), .val (.ref b2), .val (.ref b19), .unset, .unset, .unset, .unset, .unset, .unset, .unset, .unset, .unset, .unset, .unset, .unset, .unset] []))
                exact cont26 _ _ _ X59 e59 N59 Z59 K59 V_b2_18 V_b19_59
              · skip
                refine OutW.back (fun t k => XS.icmpYes X25.here hx rfl (pc0 := 197) (pc' := 211) rfl (hb hby at_197) rfl (flt c197_57).2.2.2 (by decide) (by decide) k) ?_
                show OutW _ _ _ _ _ _ _ (T25.setTop (mkF m 211 #[.val (.int p1), .val (.int p2), .val (.int p3), .val (.int v1), .val (.ref b2), .val (.ref b19), .unset, .unset, .unset, .unset, .unset, .unset, .unset, .unset, .unset, .unset, .unset, .unset, .unset] []))
                exact cont26 _ _ _ X25 e25 N25 Z25 K25 V_b2_18 (own_skip (i := 6) (v := (.int (nar .byte v15.toInt8.toInt32))) V_b19_c (own_clamp c197_57))
            by_cases c182_60 : (5 : Int32) < v1
            · skip
              refine OutW.back (fun t k => XS.icmpNo X24.here hx rfl (hb hby at_182) rfl (tlt c182_60).2.2.2 k) ?_
              show OutW _ _ _ _ _ _ _ (T24.setTop (mkF m 185 #[.val (.int p1), .val (.int p2), .val (.int p3), .val (.int v1), .val (.ref b2), .val (.ref b19), .unset, .unset, .unset, .unset, .unset, .unset, .unset, .unset, .unset, .unset, .unset, .unset, .unset] []))
              refine OutW.back (fun t k => XS.aload X24.here hx rfl (hb hby at_185) rfl rfl  k) ?_
              show OutW _ _ _ _ _ _ _ (T24.setTop (mkF m 187 #[.val (.int p1), .val (.int p2), .val (.int p3), .val (.int v1), .val (.ref b2), .val (.ref b19), .unset, .unset, .unset, .unset, .unset, .unset, .unset, .unset, .unset, .unset, .unset, .unset, .unset] [(.ref b19)]))
              refine OutW.back (fun t k => XS.iconst X24.here hx rfl (hb hby at_187) k) ?_
              show OutW _ _ _ _ _ _ _ (T24.setTop (mkF m 188 #[.val (.int p1), .val (.int p2), .val (.int p3), .val (.int v1), .val (.ref b2), .val (.ref b19), .unset, .unset, .unset, .unset, .unset, .unset, .unset, .unset, .unset, .unset, .unset, .unset, .unset] [(.int (5 : Int32)), (.ref b19)]))
              refine OutW.back (fun t k => XS.aload X24.here hx rfl (hb hby at_188) rfl rfl  k) ?_
              show OutW _ _ _ _ _ _ _ (T24.setTop (mkF m 190 #[.val (.int p1), .val (.int p2), .val (.int p3), .val (.int v1), .val (.ref b2), .val (.ref b19), .unset, .unset, .unset, .unset, .unset, .unset, .unset, .unset, .unset, .unset, .unset, .unset, .unset] [(.ref b2), (.int (5 : Int32)), (.ref b19)]))
              refine OutW.back (fun t k => XS.iconst X24.here hx rfl (hb hby at_190) k) ?_
              show OutW _ _ _ _ _ _ _ (T24.setTop (mkF m 191 #[.val (.int p1), .val (.int p2), .val (.int p3), .val (.int v1), .val (.ref b2), .val (.ref b19), .unset, .unset, .unset, .unset, .unset, .unset, .unset, .unset, .unset, .unset, .unset, .unset, .unset] [(.int (5 : Int32)), (.ref b2), (.int (5 : Int32)), (.ref b19)]))
              obtain ⟨cl61, Ar61, Qk61, Sz61, Nn61, Hh61, Gg61⟩ := id V_b2_18
              have hin61 : ¬ ((5 : Int32) < 0 ∨ cl61.slots.size ≤ ((5 : Int32)).toNatClampNeg) := inb_of Sz61 ⟨by decide, by decide⟩
              refine OutW.back (X24.iaload hx (j := (5 : Int32)) (v := (.int v13)) (by rw [e24]; exact Ar61.1) (State.isArrayOf_alike hZ.alike Ar61.2.1) Ar61.2.2 hin61 (Hh61.at hin61 (by rfl)) (g := (mkF m 191 #[.val (.int p1), .val (.int p2), .val (.int p3), .val (.int v1), .val (.ref b2), .val (.ref b19), .unset, .unset, .unset, .unset, .unset, .unset, .unset, .unset, .unset, .unset, .unset, .unset, .unset] [(.int (5 : Int32)), (.ref b2), (.int (5 : Int32)), (.ref b19)])) rfl rfl (hb hby at_191)) ?_
              show OutW _ _ _ _ _ _ _ (T24.setTop (mkF m 192 #[.val (.int p1), .val (.int p2), .val (.int p3), .val (.int v1), .val (.ref b2), .val (.ref b19), .unset, .unset, .unset, .unset, .unset, .unset, .unset, .unset, .unset, .unset, .unset, .unset, .unset] [(.int v13), (.int (5 : Int32)), (.ref b19)]))
              refine OutW.back (fun t k => XS.i2b X24.here hx rfl (hb hby at_192) rfl k) ?_
              show OutW _ _ _ _ _ _ _ (T24.setTop (mkF m 193 #[.val (.int p1), .val (.int p2), .val (.int p3), .val (.int v1), .val (.ref b2), .val (.ref b19), .unset, .unset, .unset, .unset, .unset, .unset, .unset, .unset, .unset, .unset, .unset, .unset, .unset] [(.int v13.toInt8.toInt32), (.int (5 : Int32)), (.ref b19)]))
              have hin_193 : ¬ (5 : Int32) < 0 ∧ (5 : Int32) < v1 := ⟨by decide, c182_60⟩
              obtain ⟨cl62, Ar62, Qk62, Sz62, Nn62, Hh62, Gg62⟩ := id V_b19_c
              have hin62 : ¬ ((5 : Int32) < 0 ∨ cl62.slots.size ≤ ((5 : Int32)).toNatClampNeg) := inb_of Sz62 hin_193
              obtain ⟨T62, h62, X62, e62, W62, st62⟩ := stB X24 hx hZ e24 Ar62 (j := (5 : Int32)) hin62 (g := (mkF m 193 #[.val (.int p1), .val (.int p2), .val (.int p3), .val (.int v1), .val (.ref b2), .val (.ref b19), .unset, .unset, .unset, .unset, .unset, .unset, .unset, .unset, .unset, .unset, .unset, .unset, .unset] [(.int v13.toInt8.toInt32), (.int (5 : Int32)), (.ref b19)])) rfl rfl (hb hby at_193)
              have V_b19_62 : Arv Z h62 b19 k19 .byte v1 [(.int (nar .byte v3.toInt8.toInt32)), (.int (nar .byte v5.toInt8.toInt32)), (.int (nar .byte v7.toInt8.toInt32)), (.int (nar .byte v9.toInt8.toInt32)), (.int (nar .byte v11.toInt8.toInt32)), (.int (nar .byte v13.toInt8.toInt32)), (.int (0 : Int32)), (.int (0 : Int32))] (.int (0 : Int32)) := Arv.set Ar62 Qk62 Sz62 Nn62 Hh62 Gg62 (fits_nar_byte _) W62 5 rfl (Nat.le_of_ble_eq_true rfl)
              have V_b2_18 := V_b2_18.other W62 ne_b2_b19
              have N62 := Fr.snoc X62 N24 g_b19
              have Z62 : n0 ≤ h62.size := Nat.le_trans Z24 (Keep.of_wr W62).1
              have K62 := K24.wr W62 (Or.inr sz_b19)
              obtain ⟨lc62, X62, N62⟩ : ∃ lc, Stand p l e room_1 s m #[(.int p1), (.int p2), (.int p3)] below meth c T62 lc 2 24 ∧ Fr n0 lc := ⟨_, X62, N62⟩
              refine OutW.back st62 ?_
              show OutW _ _ _ _ _ _ _ (T62.setTop (mkF m 194 #[.val (.int p1), .val (.int p2), .val (.int p3), .val (.int v1), .val (.ref b2), .val (.ref b19), .unset, .unset, .unset, .unset, .unset, .unset, .unset, .unset, .unset, .unset, .unset, .unset, .unset] []))
              exact cont25 _ _ _ X62 e62 N62 Z62 K62 V_b2_18 V_b19_62
            · skip
              refine OutW.back (fun t k => XS.icmpYes X24.here hx rfl (pc0 := 182) (pc' := 194) rfl (hb hby at_182) rfl (flt c182_60).2.2.2 (by decide) (by decide) k) ?_
              show OutW _ _ _ _ _ _ _ (T24.setTop (mkF m 194 #[.val (.int p1), .val (.int p2), .val (.int p3), .val (.int v1), .val (.ref b2), .val (.ref b19), .unset, .unset, .unset, .unset, .unset, .unset, .unset, .unset, .unset, .unset, .unset, .unset, .unset] []))
              exact cont25 _ _ _ X24 e24 N24 Z24 K24 V_b2_18 (own_skip (i := 5) (v := (.int (nar .byte v13.toInt8.toInt32))) V_b19_c (own_clamp c182_60))
          by_cases c168_63 : (4 : Int32) < v1
          · skip
            refine OutW.back (fun t k => XS.icmpNo X23.here hx rfl (hb hby at_168) rfl (tlt c168_63).2.2.2 k) ?_
            show OutW _ _ _ _ _ _ _ (T23.setTop (mkF m 171 #[.val (.int p1), .val (.int p2), .val (.int p3), .val (.int v1), .val (.ref b2), .val (.ref b19), .unset, .unset, .unset, .unset, .unset, .unset, .unset, .unset, .unset, .unset, .unset, .unset, .unset] []))
            refine OutW.back (fun t k => XS.aload X23.here hx rfl (hb hby at_171) rfl rfl  k) ?_
            show OutW _ _ _ _ _ _ _ (T23.setTop (mkF m 173 #[.val (.int p1), .val (.int p2), .val (.int p3), .val (.int v1), .val (.ref b2), .val (.ref b19), .unset, .unset, .unset, .unset, .unset, .unset, .unset, .unset, .unset, .unset, .unset, .unset, .unset] [(.ref b19)]))
            refine OutW.back (fun t k => XS.iconst X23.here hx rfl (hb hby at_173) k) ?_
            show OutW _ _ _ _ _ _ _ (T23.setTop (mkF m 174 #[.val (.int p1), .val (.int p2), .val (.int p3), .val (.int v1), .val (.ref b2), .val (.ref b19), .unset, .unset, .unset, .unset, .unset, .unset, .unset, .unset, .unset, .unset, .unset, .unset, .unset] [(.int (4 : Int32)), (.ref b19)]))
            refine OutW.back (fun t k => XS.aload X23.here hx rfl (hb hby at_174) rfl rfl  k) ?_
            show OutW _ _ _ _ _ _ _ (T23.setTop (mkF m 176 #[.val (.int p1), .val (.int p2), .val (.int p3), .val (.int v1), .val (.ref b2), .val (.ref b19), .unset, .unset, .unset, .unset, .unset, .unset, .unset, .unset, .unset, .unset, .unset, .unset, .unset] [(.ref b2), (.int (4 : Int32)), (.ref b19)]))
            refine OutW.back (fun t k => XS.iconst X23.here hx rfl (hb hby at_176) k) ?_
            show OutW _ _ _ _ _ _ _ (T23.setTop (mkF m 177 #[.val (.int p1), .val (.int p2), .val (.int p3), .val (.int v1), .val (.ref b2), .val (.ref b19), .unset, .unset, .unset, .unset, .unset, .unset, .unset, .unset, .unset, .unset, .unset, .unset, .unset] [(.int (4 : Int32)), (.ref b2), (.int (4 : Int32)), (.ref b19)]))
            obtain ⟨cl64, Ar64, Qk64, Sz64, Nn64, Hh64, Gg64⟩ := id V_b2_18
            have hin64 : ¬ ((4 : Int32) < 0 ∨ cl64.slots.size ≤ ((4 : Int32)).toNatClampNeg) := inb_of Sz64 ⟨by decide, by decide⟩
            refine OutW.back (X23.iaload hx (j := (4 : Int32)) (v := (.int v11)) (by rw [e23]; exact Ar64.1) (State.isArrayOf_alike hZ.alike Ar64.2.1) Ar64.2.2 hin64 (Hh64.at hin64 (by rfl)) (g := (mkF m 177 #[.val (.int p1), .val (.int p2), .val (.int p3), .val (.int v1), .val (.ref b2), .val (.ref b19), .unset, .unset, .unset, .unset, .unset, .unset, .unset, .unset, .unset, .unset, .unset, .unset, .unset] [(.int (4 : Int32)), (.ref b2), (.int (4 : Int32)), (.ref b19)])) rfl rfl (hb hby at_177)) ?_
            show OutW _ _ _ _ _ _ _ (T23.setTop (mkF m 178 #[.val (.int p1), .val (.int p2), .val (.int p3), .val (.int v1), .val (.ref b2), .val (.ref b19), .unset, .unset, .unset, .unset, .unset, .unset, .unset, .unset, .unset, .unset, .unset, .unset, .unset] [(.int v11), (.int (4 : Int32)), (.ref b19)]))
            refine OutW.back (fun t k => XS.i2b X23.here hx rfl (hb hby at_178) rfl k) ?_
            show OutW _ _ _ _ _ _ _ (T23.setTop (mkF m 179 #[.val (.int p1), .val (.int p2), .val (.int p3), .val (.int v1), .val (.ref b2), .val (.ref b19), .unset, .unset, .unset, .unset, .unset, .unset, .unset, .unset, .unset, .unset, .unset, .unset, .unset] [(.int v11.toInt8.toInt32), (.int (4 : Int32)), (.ref b19)]))
            have hin_179 : ¬ (4 : Int32) < 0 ∧ (4 : Int32) < v1 := ⟨by decide, c168_63⟩
            obtain ⟨cl65, Ar65, Qk65, Sz65, Nn65, Hh65, Gg65⟩ := id V_b19_c
            have hin65 : ¬ ((4 : Int32) < 0 ∨ cl65.slots.size ≤ ((4 : Int32)).toNatClampNeg) := inb_of Sz65 hin_179
            obtain ⟨T65, h65, X65, e65, W65, st65⟩ := stB X23 hx hZ e23 Ar65 (j := (4 : Int32)) hin65 (g := (mkF m 179 #[.val (.int p1), .val (.int p2), .val (.int p3), .val (.int v1), .val (.ref b2), .val (.ref b19), .unset, .unset, .unset, .unset, .unset, .unset, .unset, .unset, .unset, .unset, .unset, .unset, .unset] [(.int v11.toInt8.toInt32), (.int (4 : Int32)), (.ref b19)])) rfl rfl (hb hby at_179)
            have V_b19_65 : Arv Z h65 b19 k19 .byte v1 [(.int (nar .byte v3.toInt8.toInt32)), (.int (nar .byte v5.toInt8.toInt32)), (.int (nar .byte v7.toInt8.toInt32)), (.int (nar .byte v9.toInt8.toInt32)), (.int (nar .byte v11.toInt8.toInt32)), (.int (0 : Int32)), (.int (0 : Int32)), (.int (0 : Int32))] (.int (0 : Int32)) := Arv.set Ar65 Qk65 Sz65 Nn65 Hh65 Gg65 (fits_nar_byte _) W65 4 rfl (Nat.le_of_ble_eq_true rfl)
            have V_b2_18 := V_b2_18.other W65 ne_b2_b19
            have N65 := Fr.snoc X65 N23 g_b19
            have Z65 : n0 ≤ h65.size := Nat.le_trans Z23 (Keep.of_wr W65).1
            have K65 := K23.wr W65 (Or.inr sz_b19)
            obtain ⟨lc65, X65, N65⟩ : ∃ lc, Stand p l e room_1 s m #[(.int p1), (.int p2), (.int p3)] below meth c T65 lc 2 24 ∧ Fr n0 lc := ⟨_, X65, N65⟩
            refine OutW.back st65 ?_
            show OutW _ _ _ _ _ _ _ (T65.setTop (mkF m 180 #[.val (.int p1), .val (.int p2), .val (.int p3), .val (.int v1), .val (.ref b2), .val (.ref b19), .unset, .unset, .unset, .unset, .unset, .unset, .unset, .unset, .unset, .unset, .unset, .unset, .unset] []))
            exact cont24 _ _ _ X65 e65 N65 Z65 K65 V_b2_18 V_b19_65
          · skip
            refine OutW.back (fun t k => XS.icmpYes X23.here hx rfl (pc0 := 168) (pc' := 180) rfl (hb hby at_168) rfl (flt c168_63).2.2.2 (by decide) (by decide) k) ?_
            show OutW _ _ _ _ _ _ _ (T23.setTop (mkF m 180 #[.val (.int p1), .val (.int p2), .val (.int p3), .val (.int v1), .val (.ref b2), .val (.ref b19), .unset, .unset, .unset, .unset, .unset, .unset, .unset, .unset, .unset, .unset, .unset, .unset, .unset] []))
            exact cont24 _ _ _ X23 e23 N23 Z23 K23 V_b2_18 (own_skip (i := 4) (v := (.int (nar .byte v11.toInt8.toInt32))) V_b19_c (own_clamp c168_63))
        by_cases c154_66 : (3 : Int32) < v1
        · skip
          refine OutW.back (fun t k => XS.icmpNo X22.here hx rfl (hb hby at_154) rfl (tlt c154_66).2.2.2 k) ?_
          show OutW _ _ _ _ _ _ _ (T22.setTop (mkF m 157 #[.val (.int p1), .val (.int p2), .val (.int p3), .val (.int v1), .val (.ref b2), .val (.ref b19), .unset, .unset, .unset, .unset, .unset, .unset, .unset, .unset, .unset, .unset, .unset, .unset, .unset] []))
          refine OutW.back (fun t k => XS.aload X22.here hx rfl (hb hby at_157) rfl rfl  k) ?_
          show OutW _ _ _ _ _ _ _ (T22.setTop (mkF m 159 #[.val (.int p1), .val (.int p2), .val (.int p3), .val (.int v1), .val (.ref b2), .val (.ref b19), .unset, .unset, .unset, .unset, .unset, .unset, .unset, .unset, .unset, .unset, .unset, .unset, .unset] [(.ref b19)]))
          refine OutW.back (fun t k => XS.iconst X22.here hx rfl (hb hby at_159) k) ?_
          show OutW _ _ _ _ _ _ _ (T22.setTop (mkF m 160 #[.val (.int p1), .val (.int p2), .val (.int p3), .val (.int v1), .val (.ref b2), .val (.ref b19), .unset, .unset, .unset, .unset, .unset, .unset, .unset, .unset, .unset, .unset, .unset, .unset, .unset] [(.int (3 : Int32)), (.ref b19)]))
          refine OutW.back (fun t k => XS.aload X22.here hx rfl (hb hby at_160) rfl rfl  k) ?_
          show OutW _ _ _ _ _ _ _ (T22.setTop (mkF m 162 #[.val (.int p1), .val (.int p2), .val (.int p3), .val (.int v1), .val (.ref b2), .val (.ref b19), .unset, .unset, .unset, .unset, .unset, .unset, .unset, .unset, .unset, .unset, .unset, .unset, .unset] [(.ref b2), (.int (3 : Int32)), (.ref b19)]))
          refine OutW.back (fun t k => XS.iconst X22.here hx rfl (hb hby at_162) k) ?_
          show OutW _ _ _ _ _ _ _ (T22.setTop (mkF m 163 #[.val (.int p1), .val (.int p2), .val (.int p3), .val (.int v1), .val (.ref b2), .val (.ref b19), .unset, .unset, .unset, .unset, .unset, .unset, .unset, .unset, .unset, .unset, .unset, .unset, .unset] [(.int (3 : Int32)), (.ref b2), (.int (3 : Int32)), (.ref b19)]))
          obtain ⟨cl67, Ar67, Qk67, Sz67, Nn67, Hh67, Gg67⟩ := id V_b2_18
          have hin67 : ¬ ((3 : Int32) < 0 ∨ cl67.slots.size ≤ ((3 : Int32)).toNatClampNeg) := inb_of Sz67 ⟨by decide, by decide⟩
          refine OutW.back (X22.iaload hx (j := (3 : Int32)) (v := (.int v9)) (by rw [e22]; exact Ar67.1) (State.isArrayOf_alike hZ.alike Ar67.2.1) Ar67.2.2 hin67 (Hh67.at hin67 (by rfl)) (g := (mkF m 163 #[.val (.int p1), .val (.int p2), .val (.int p3), .val (.int v1), .val (.ref b2), .val (.ref b19), .unset, .unset, .unset, .unset, .unset, .unset, .unset, .unset, .unset, .unset, .unset, .unset, .unset] [(.int (3 : Int32)), (.ref b2), (.int (3 : Int32)), (.ref b19)])) rfl rfl (hb hby at_163)) ?_
          show OutW _ _ _ _ _ _ _ (T22.setTop (mkF m 164 #[.val (.int p1), .val (.int p2), .val (.int p3), .val (.int v1), .val (.ref b2), .val (.ref b19), .unset, .unset, .unset, .unset, .unset, .unset, .unset, .unset, .unset, .unset, .unset, .unset, .unset] [(.int v9), (.int (3 : Int32)), (.ref b19)]))
          refine OutW.back (fun t k => XS.i2b X22.here hx rfl (hb hby at_164) rfl k) ?_
          show OutW _ _ _ _ _ _ _ (T22.setTop (mkF m 165 #[.val (.int p1), .val (.int p2), .val (.int p3), .val (.int v1), .val (.ref b2), .val (.ref b19), .unset, .unset, .unset, .unset, .unset, .unset, .unset, .unset, .unset, .unset, .unset, .unset, .unset] [(.int v9.toInt8.toInt32), (.int (3 : Int32)), (.ref b19)]))
          have hin_165 : ¬ (3 : Int32) < 0 ∧ (3 : Int32) < v1 := ⟨by decide, c154_66⟩
          obtain ⟨cl68, Ar68, Qk68, Sz68, Nn68, Hh68, Gg68⟩ := id V_b19_c
          have hin68 : ¬ ((3 : Int32) < 0 ∨ cl68.slots.size ≤ ((3 : Int32)).toNatClampNeg) := inb_of Sz68 hin_165
          obtain ⟨T68, h68, X68, e68, W68, st68⟩ := stB X22 hx hZ e22 Ar68 (j := (3 : Int32)) hin68 (g := (mkF m 165 #[.val (.int p1), .val (.int p2), .val (.int p3), .val (.int v1), .val (.ref b2), .val (.ref b19), .unset, .unset, .unset, .unset, .unset, .unset, .unset, .unset, .unset, .unset, .unset, .unset, .unset] [(.int v9.toInt8.toInt32), (.int (3 : Int32)), (.ref b19)])) rfl rfl (hb hby at_165)
          have V_b19_68 : Arv Z h68 b19 k19 .byte v1 [(.int (nar .byte v3.toInt8.toInt32)), (.int (nar .byte v5.toInt8.toInt32)), (.int (nar .byte v7.toInt8.toInt32)), (.int (nar .byte v9.toInt8.toInt32)), (.int (0 : Int32)), (.int (0 : Int32)), (.int (0 : Int32)), (.int (0 : Int32))] (.int (0 : Int32)) := Arv.set Ar68 Qk68 Sz68 Nn68 Hh68 Gg68 (fits_nar_byte _) W68 3 rfl (Nat.le_of_ble_eq_true rfl)
          have V_b2_18 := V_b2_18.other W68 ne_b2_b19
          have N68 := Fr.snoc X68 N22 g_b19
          have Z68 : n0 ≤ h68.size := Nat.le_trans Z22 (Keep.of_wr W68).1
          have K68 := K22.wr W68 (Or.inr sz_b19)
          obtain ⟨lc68, X68, N68⟩ : ∃ lc, Stand p l e room_1 s m #[(.int p1), (.int p2), (.int p3)] below meth c T68 lc 2 24 ∧ Fr n0 lc := ⟨_, X68, N68⟩
          refine OutW.back st68 ?_
          show OutW _ _ _ _ _ _ _ (T68.setTop (mkF m 166 #[.val (.int p1), .val (.int p2), .val (.int p3), .val (.int v1), .val (.ref b2), .val (.ref b19), .unset, .unset, .unset, .unset, .unset, .unset, .unset, .unset, .unset, .unset, .unset, .unset, .unset] []))
          exact cont23 _ _ _ X68 e68 N68 Z68 K68 V_b2_18 V_b19_68
        · skip
          refine OutW.back (fun t k => XS.icmpYes X22.here hx rfl (pc0 := 154) (pc' := 166) rfl (hb hby at_154) rfl (flt c154_66).2.2.2 (by decide) (by decide) k) ?_
          show OutW _ _ _ _ _ _ _ (T22.setTop (mkF m 166 #[.val (.int p1), .val (.int p2), .val (.int p3), .val (.int v1), .val (.ref b2), .val (.ref b19), .unset, .unset, .unset, .unset, .unset, .unset, .unset, .unset, .unset, .unset, .unset, .unset, .unset] []))
          exact cont23 _ _ _ X22 e22 N22 Z22 K22 V_b2_18 (own_skip (i := 3) (v := (.int (nar .byte v9.toInt8.toInt32))) V_b19_c (own_clamp c154_66))
      by_cases c140_69 : (2 : Int32) < v1
      · skip
        refine OutW.back (fun t k => XS.icmpNo X21.here hx rfl (hb hby at_140) rfl (tlt c140_69).2.2.2 k) ?_
        show OutW _ _ _ _ _ _ _ (T21.setTop (mkF m 143 #[.val (.int p1), .val (.int p2), .val (.int p3), .val (.int v1), .val (.ref b2), .val (.ref b19), .unset, .unset, .unset, .unset, .unset, .unset, .unset, .unset, .unset, .unset, .unset, .unset, .unset] []))
        refine OutW.back (fun t k => XS.aload X21.here hx rfl (hb hby at_143) rfl rfl  k) ?_
        show OutW _ _ _ _ _ _ _ (T21.setTop (mkF m 145 #[.val (.int p1), .val (.int p2), .val (.int p3), .val (.int v1), .val (.ref b2), .val (.ref b19), .unset, .unset, .unset, .unset, .unset, .unset, .unset, .unset, .unset, .unset, .unset, .unset, .unset] [(.ref b19)]))
        refine OutW.back (fun t k => XS.iconst X21.here hx rfl (hb hby at_145) k) ?_
        show OutW _ _ _ _ _ _ _ (T21.setTop (mkF m 146 #[.val (.int p1), .val (.int p2), .val (.int p3), .val (.int v1), .val (.ref b2), .val (.ref b19), .unset, .unset, .unset, .unset, .unset, .unset, .unset, .unset, .unset, .unset, .unset, .unset, .unset] [(.int (2 : Int32)), (.ref b19)]))
        refine OutW.back (fun t k => XS.aload X21.here hx rfl (hb hby at_146) rfl rfl  k) ?_
        show OutW _ _ _ _ _ _ _ (T21.setTop (mkF m 148 #[.val (.int p1), .val (.int p2), .val (.int p3), .val (.int v1), .val (.ref b2), .val (.ref b19), .unset, .unset, .unset, .unset, .unset, .unset, .unset, .unset, .unset, .unset, .unset, .unset, .unset] [(.ref b2), (.int (2 : Int32)), (.ref b19)]))
        refine OutW.back (fun t k => XS.iconst X21.here hx rfl (hb hby at_148) k) ?_
        show OutW _ _ _ _ _ _ _ (T21.setTop (mkF m 149 #[.val (.int p1), .val (.int p2), .val (.int p3), .val (.int v1), .val (.ref b2), .val (.ref b19), .unset, .unset, .unset, .unset, .unset, .unset, .unset, .unset, .unset, .unset, .unset, .unset, .unset] [(.int (2 : Int32)), (.ref b2), (.int (2 : Int32)), (.ref b19)]))
        obtain ⟨cl70, Ar70, Qk70, Sz70, Nn70, Hh70, Gg70⟩ := id V_b2_18
        have hin70 : ¬ ((2 : Int32) < 0 ∨ cl70.slots.size ≤ ((2 : Int32)).toNatClampNeg) := inb_of Sz70 ⟨by decide, by decide⟩
        refine OutW.back (X21.iaload hx (j := (2 : Int32)) (v := (.int v7)) (by rw [e21]; exact Ar70.1) (State.isArrayOf_alike hZ.alike Ar70.2.1) Ar70.2.2 hin70 (Hh70.at hin70 (by rfl)) (g := (mkF m 149 #[.val (.int p1), .val (.int p2), .val (.int p3), .val (.int v1), .val (.ref b2), .val (.ref b19), .unset, .unset, .unset, .unset, .unset, .unset, .unset, .unset, .unset, .unset, .unset, .unset, .unset] [(.int (2 : Int32)), (.ref b2), (.int (2 : Int32)), (.ref b19)])) rfl rfl (hb hby at_149)) ?_
        show OutW _ _ _ _ _ _ _ (T21.setTop (mkF m 150 #[.val (.int p1), .val (.int p2), .val (.int p3), .val (.int v1), .val (.ref b2), .val (.ref b19), .unset, .unset, .unset, .unset, .unset, .unset, .unset, .unset, .unset, .unset, .unset, .unset, .unset] [(.int v7), (.int (2 : Int32)), (.ref b19)]))
        refine OutW.back (fun t k => XS.i2b X21.here hx rfl (hb hby at_150) rfl k) ?_
        show OutW _ _ _ _ _ _ _ (T21.setTop (mkF m 151 #[.val (.int p1), .val (.int p2), .val (.int p3), .val (.int v1), .val (.ref b2), .val (.ref b19), .unset, .unset, .unset, .unset, .unset, .unset, .unset, .unset, .unset, .unset, .unset, .unset, .unset] [(.int v7.toInt8.toInt32), (.int (2 : Int32)), (.ref b19)]))
        have hin_151 : ¬ (2 : Int32) < 0 ∧ (2 : Int32) < v1 := ⟨by decide, c140_69⟩
        obtain ⟨cl71, Ar71, Qk71, Sz71, Nn71, Hh71, Gg71⟩ := id V_b19_c
        have hin71 : ¬ ((2 : Int32) < 0 ∨ cl71.slots.size ≤ ((2 : Int32)).toNatClampNeg) := inb_of Sz71 hin_151
        obtain ⟨T71, h71, X71, e71, W71, st71⟩ := stB X21 hx hZ e21 Ar71 (j := (2 : Int32)) hin71 (g := (mkF m 151 #[.val (.int p1), .val (.int p2), .val (.int p3), .val (.int v1), .val (.ref b2), .val (.ref b19), .unset, .unset, .unset, .unset, .unset, .unset, .unset, .unset, .unset, .unset, .unset, .unset, .unset] [(.int v7.toInt8.toInt32), (.int (2 : Int32)), (.ref b19)])) rfl rfl (hb hby at_151)
        have V_b19_71 : Arv Z h71 b19 k19 .byte v1 [(.int (nar .byte v3.toInt8.toInt32)), (.int (nar .byte v5.toInt8.toInt32)), (.int (nar .byte v7.toInt8.toInt32)), (.int (0 : Int32)), (.int (0 : Int32)), (.int (0 : Int32)), (.int (0 : Int32)), (.int (0 : Int32))] (.int (0 : Int32)) := Arv.set Ar71 Qk71 Sz71 Nn71 Hh71 Gg71 (fits_nar_byte _) W71 2 rfl (Nat.le_of_ble_eq_true rfl)
        have V_b2_18 := V_b2_18.other W71 ne_b2_b19
        have N71 := Fr.snoc X71 N21 g_b19
        have Z71 : n0 ≤ h71.size := Nat.le_trans Z21 (Keep.of_wr W71).1
        have K71 := K21.wr W71 (Or.inr sz_b19)
        obtain ⟨lc71, X71, N71⟩ : ∃ lc, Stand p l e room_1 s m #[(.int p1), (.int p2), (.int p3)] below meth c T71 lc 2 24 ∧ Fr n0 lc := ⟨_, X71, N71⟩
        refine OutW.back st71 ?_
        show OutW _ _ _ _ _ _ _ (T71.setTop (mkF m 152 #[.val (.int p1), .val (.int p2), .val (.int p3), .val (.int v1), .val (.ref b2), .val (.ref b19), .unset, .unset, .unset, .unset, .unset, .unset, .unset, .unset, .unset, .unset, .unset, .unset, .unset] []))
        exact cont22 _ _ _ X71 e71 N71 Z71 K71 V_b2_18 V_b19_71
      · skip
        refine OutW.back (fun t k => XS.icmpYes X21.here hx rfl (pc0 := 140) (pc' := 152) rfl (hb hby at_140) rfl (flt c140_69).2.2.2 (by decide) (by decide) k) ?_
        show OutW _ _ _ _ _ _ _ (T21.setTop (mkF m 152 #[.val (.int p1), .val (.int p2), .val (.int p3), .val (.int v1), .val (.ref b2), .val (.ref b19), .unset, .unset, .unset, .unset, .unset, .unset, .unset, .unset, .unset, .unset, .unset, .unset, .unset] []))
        exact cont22 _ _ _ X21 e21 N21 Z21 K21 V_b2_18 (own_skip (i := 2) (v := (.int (nar .byte v7.toInt8.toInt32))) V_b19_c (own_clamp c140_69))
    by_cases c126_72 : (1 : Int32) < v1
    · skip
      refine OutW.back (fun t k => XS.icmpNo X20.here hx rfl (hb hby at_126) rfl (tlt c126_72).2.2.2 k) ?_
      show OutW _ _ _ _ _ _ _ (T20.setTop (mkF m 129 #[.val (.int p1), .val (.int p2), .val (.int p3), .val (.int v1), .val (.ref b2), .val (.ref b19), .unset, .unset, .unset, .unset, .unset, .unset, .unset, .unset, .unset, .unset, .unset, .unset, .unset] []))
      refine OutW.back (fun t k => XS.aload X20.here hx rfl (hb hby at_129) rfl rfl  k) ?_
      show OutW _ _ _ _ _ _ _ (T20.setTop (mkF m 131 #[.val (.int p1), .val (.int p2), .val (.int p3), .val (.int v1), .val (.ref b2), .val (.ref b19), .unset, .unset, .unset, .unset, .unset, .unset, .unset, .unset, .unset, .unset, .unset, .unset, .unset] [(.ref b19)]))
      refine OutW.back (fun t k => XS.iconst X20.here hx rfl (hb hby at_131) k) ?_
      show OutW _ _ _ _ _ _ _ (T20.setTop (mkF m 132 #[.val (.int p1), .val (.int p2), .val (.int p3), .val (.int v1), .val (.ref b2), .val (.ref b19), .unset, .unset, .unset, .unset, .unset, .unset, .unset, .unset, .unset, .unset, .unset, .unset, .unset] [(.int (1 : Int32)), (.ref b19)]))
      refine OutW.back (fun t k => XS.aload X20.here hx rfl (hb hby at_132) rfl rfl  k) ?_
      show OutW _ _ _ _ _ _ _ (T20.setTop (mkF m 134 #[.val (.int p1), .val (.int p2), .val (.int p3), .val (.int v1), .val (.ref b2), .val (.ref b19), .unset, .unset, .unset, .unset, .unset, .unset, .unset, .unset, .unset, .unset, .unset, .unset, .unset] [(.ref b2), (.int (1 : Int32)), (.ref b19)]))
      refine OutW.back (fun t k => XS.iconst X20.here hx rfl (hb hby at_134) k) ?_
      show OutW _ _ _ _ _ _ _ (T20.setTop (mkF m 135 #[.val (.int p1), .val (.int p2), .val (.int p3), .val (.int v1), .val (.ref b2), .val (.ref b19), .unset, .unset, .unset, .unset, .unset, .unset, .unset, .unset, .unset, .unset, .unset, .unset, .unset] [(.int (1 : Int32)), (.ref b2), (.int (1 : Int32)), (.ref b19)]))
      obtain ⟨cl73, Ar73, Qk73, Sz73, Nn73, Hh73, Gg73⟩ := id V_b2_18
      have hin73 : ¬ ((1 : Int32) < 0 ∨ cl73.slots.size ≤ ((1 : Int32)).toNatClampNeg) := inb_of Sz73 ⟨by decide, by decide⟩
      refine OutW.back (X20.iaload hx (j := (1 : Int32)) (v := (.int v5)) (by rw [e20]; exact Ar73.1) (State.isArrayOf_alike hZ.alike Ar73.2.1) Ar73.2.2 hin73 (Hh73.at hin73 (by rfl)) (g := (mkF m 135 #[.val (.int p1), .val (.int p2), .val (.int p3), .val (.int v1), .val (.ref b2), .val (.ref b19), .unset, .unset, .unset, .unset, .unset, .unset, .unset, .unset, .unset, .unset, .unset, .unset, .unset] [(.int (1 : Int32)), (.ref b2), (.int (1 : Int32)), (.ref b19)])) rfl rfl (hb hby at_135)) ?_
      show OutW _ _ _ _ _ _ _ (T20.setTop (mkF m 136 #[.val (.int p1), .val (.int p2), .val (.int p3), .val (.int v1), .val (.ref b2), .val (.ref b19), .unset, .unset, .unset, .unset, .unset, .unset, .unset, .unset, .unset, .unset, .unset, .unset, .unset] [(.int v5), (.int (1 : Int32)), (.ref b19)]))
      refine OutW.back (fun t k => XS.i2b X20.here hx rfl (hb hby at_136) rfl k) ?_
      show OutW _ _ _ _ _ _ _ (T20.setTop (mkF m 137 #[.val (.int p1), .val (.int p2), .val (.int p3), .val (.int v1), .val (.ref b2), .val (.ref b19), .unset, .unset, .unset, .unset, .unset, .unset, .unset, .unset, .unset, .unset, .unset, .unset, .unset] [(.int v5.toInt8.toInt32), (.int (1 : Int32)), (.ref b19)]))
      have hin_137 : ¬ (1 : Int32) < 0 ∧ (1 : Int32) < v1 := ⟨by decide, c126_72⟩
      obtain ⟨cl74, Ar74, Qk74, Sz74, Nn74, Hh74, Gg74⟩ := id V_b19_c
      have hin74 : ¬ ((1 : Int32) < 0 ∨ cl74.slots.size ≤ ((1 : Int32)).toNatClampNeg) := inb_of Sz74 hin_137
      obtain ⟨T74, h74, X74, e74, W74, st74⟩ := stB X20 hx hZ e20 Ar74 (j := (1 : Int32)) hin74 (g := (mkF m 137 #[.val (.int p1), .val (.int p2), .val (.int p3), .val (.int v1), .val (.ref b2), .val (.ref b19), .unset, .unset, .unset, .unset, .unset, .unset, .unset, .unset, .unset, .unset, .unset, .unset, .unset] [(.int v5.toInt8.toInt32), (.int (1 : Int32)), (.ref b19)])) rfl rfl (hb hby at_137)
      have V_b19_74 : Arv Z h74 b19 k19 .byte v1 [(.int (nar .byte v3.toInt8.toInt32)), (.int (nar .byte v5.toInt8.toInt32)), (.int (0 : Int32)), (.int (0 : Int32)), (.int (0 : Int32)), (.int (0 : Int32)), (.int (0 : Int32)), (.int (0 : Int32))] (.int (0 : Int32)) := Arv.set Ar74 Qk74 Sz74 Nn74 Hh74 Gg74 (fits_nar_byte _) W74 1 rfl (Nat.le_of_ble_eq_true rfl)
      have V_b2_18 := V_b2_18.other W74 ne_b2_b19
      have N74 := Fr.snoc X74 N20 g_b19
      have Z74 : n0 ≤ h74.size := Nat.le_trans Z20 (Keep.of_wr W74).1
      have K74 := K20.wr W74 (Or.inr sz_b19)
      obtain ⟨lc74, X74, N74⟩ : ∃ lc, Stand p l e room_1 s m #[(.int p1), (.int p2), (.int p3)] below meth c T74 lc 2 24 ∧ Fr n0 lc := ⟨_, X74, N74⟩
      refine OutW.back st74 ?_
      show OutW _ _ _ _ _ _ _ (T74.setTop (mkF m 138 #[.val (.int p1), .val (.int p2), .val (.int p3), .val (.int v1), .val (.ref b2), .val (.ref b19), .unset, .unset, .unset, .unset, .unset, .unset, .unset, .unset, .unset, .unset, .unset, .unset, .unset] []))
      exact cont21 _ _ _ X74 e74 N74 Z74 K74 V_b2_18 V_b19_74
    · skip
      refine OutW.back (fun t k => XS.icmpYes X20.here hx rfl (pc0 := 126) (pc' := 138) rfl (hb hby at_126) rfl (flt c126_72).2.2.2 (by decide) (by decide) k) ?_
      show OutW _ _ _ _ _ _ _ (T20.setTop (mkF m 138 #[.val (.int p1), .val (.int p2), .val (.int p3), .val (.int v1), .val (.ref b2), .val (.ref b19), .unset, .unset, .unset, .unset, .unset, .unset, .unset, .unset, .unset, .unset, .unset, .unset, .unset] []))
      exact cont21 _ _ _ X20 e20 N20 Z20 K20 V_b2_18 (own_skip (i := 1) (v := (.int (nar .byte v5.toInt8.toInt32))) V_b19_c (own_clamp c126_72))
  by_cases c112_75 : (0 : Int32) < v1
  · skip
    refine OutW.back (fun t k => XS.ifNo X19.here hx rfl (hb hby at_112) rfl ((if0 _ _).trans (tlt c112_75).2.2.2) k) ?_
    show OutW _ _ _ _ _ _ _ (T19.setTop (mkF m 115 #[.val (.int p1), .val (.int p2), .val (.int p3), .val (.int v1), .val (.ref b2), .val (.ref b19), .unset, .unset, .unset, .unset, .unset, .unset, .unset, .unset, .unset, .unset, .unset, .unset, .unset] []))
    refine OutW.back (fun t k => XS.aload X19.here hx rfl (hb hby at_115) rfl rfl  k) ?_
    show OutW _ _ _ _ _ _ _ (T19.setTop (mkF m 117 #[.val (.int p1), .val (.int p2), .val (.int p3), .val (.int v1), .val (.ref b2), .val (.ref b19), .unset, .unset, .unset, .unset, .unset, .unset, .unset, .unset, .unset, .unset, .unset, .unset, .unset] [(.ref b19)]))
    refine OutW.back (fun t k => XS.iconst X19.here hx rfl (hb hby at_117) k) ?_
    show OutW _ _ _ _ _ _ _ (T19.setTop (mkF m 118 #[.val (.int p1), .val (.int p2), .val (.int p3), .val (.int v1), .val (.ref b2), .val (.ref b19), .unset, .unset, .unset, .unset, .unset, .unset, .unset, .unset, .unset, .unset, .unset, .unset, .unset] [(.int (0 : Int32)), (.ref b19)]))
    refine OutW.back (fun t k => XS.aload X19.here hx rfl (hb hby at_118) rfl rfl  k) ?_
    show OutW _ _ _ _ _ _ _ (T19.setTop (mkF m 120 #[.val (.int p1), .val (.int p2), .val (.int p3), .val (.int v1), .val (.ref b2), .val (.ref b19), .unset, .unset, .unset, .unset, .unset, .unset, .unset, .unset, .unset, .unset, .unset, .unset, .unset] [(.ref b2), (.int (0 : Int32)), (.ref b19)]))
    refine OutW.back (fun t k => XS.iconst X19.here hx rfl (hb hby at_120) k) ?_
    show OutW _ _ _ _ _ _ _ (T19.setTop (mkF m 121 #[.val (.int p1), .val (.int p2), .val (.int p3), .val (.int v1), .val (.ref b2), .val (.ref b19), .unset, .unset, .unset, .unset, .unset, .unset, .unset, .unset, .unset, .unset, .unset, .unset, .unset] [(.int (0 : Int32)), (.ref b2), (.int (0 : Int32)), (.ref b19)]))
    obtain ⟨cl76, Ar76, Qk76, Sz76, Nn76, Hh76, Gg76⟩ := id V_b2_18
    have hin76 : ¬ ((0 : Int32) < 0 ∨ cl76.slots.size ≤ ((0 : Int32)).toNatClampNeg) := inb_of Sz76 ⟨by decide, by decide⟩
    refine OutW.back (X19.iaload hx (j := (0 : Int32)) (v := (.int v3)) (by rw [e19]; exact Ar76.1) (State.isArrayOf_alike hZ.alike Ar76.2.1) Ar76.2.2 hin76 (Hh76.at hin76 (by rfl)) (g := (mkF m 121 #[.val (.int p1), .val (.int p2), .val (.int p3), .val (.int v1), .val (.ref b2), .val (.ref b19), .unset, .unset, .unset, .unset, .unset, .unset, .unset, .unset, .unset, .unset, .unset, .unset, .unset] [(.int (0 : Int32)), (.ref b2), (.int (0 : Int32)), (.ref b19)])) rfl rfl (hb hby at_121)) ?_
    show OutW _ _ _ _ _ _ _ (T19.setTop (mkF m 122 #[.val (.int p1), .val (.int p2), .val (.int p3), .val (.int v1), .val (.ref b2), .val (.ref b19), .unset, .unset, .unset, .unset, .unset, .unset, .unset, .unset, .unset, .unset, .unset, .unset, .unset] [(.int v3), (.int (0 : Int32)), (.ref b19)]))
    refine OutW.back (fun t k => XS.i2b X19.here hx rfl (hb hby at_122) rfl k) ?_
    show OutW _ _ _ _ _ _ _ (T19.setTop (mkF m 123 #[.val (.int p1), .val (.int p2), .val (.int p3), .val (.int v1), .val (.ref b2), .val (.ref b19), .unset, .unset, .unset, .unset, .unset, .unset, .unset, .unset, .unset, .unset, .unset, .unset, .unset] [(.int v3.toInt8.toInt32), (.int (0 : Int32)), (.ref b19)]))
    have hin_123 : ¬ (0 : Int32) < 0 ∧ (0 : Int32) < v1 := ⟨by decide, c112_75⟩
    obtain ⟨cl77, Ar77, Qk77, Sz77, Nn77, Hh77, Gg77⟩ := id V_b19
    have hin77 : ¬ ((0 : Int32) < 0 ∨ cl77.slots.size ≤ ((0 : Int32)).toNatClampNeg) := inb_of Sz77 hin_123
    obtain ⟨T77, h77, X77, e77, W77, st77⟩ := stB X19 hx hZ e19 Ar77 (j := (0 : Int32)) hin77 (g := (mkF m 123 #[.val (.int p1), .val (.int p2), .val (.int p3), .val (.int v1), .val (.ref b2), .val (.ref b19), .unset, .unset, .unset, .unset, .unset, .unset, .unset, .unset, .unset, .unset, .unset, .unset, .unset] [(.int v3.toInt8.toInt32), (.int (0 : Int32)), (.ref b19)])) rfl rfl (hb hby at_123)
    have V_b19_77 : Arv Z h77 b19 k19 .byte v1 [(.int (nar .byte v3.toInt8.toInt32)), (.int (0 : Int32)), (.int (0 : Int32)), (.int (0 : Int32)), (.int (0 : Int32)), (.int (0 : Int32)), (.int (0 : Int32)), (.int (0 : Int32))] (.int (0 : Int32)) := Arv.set Ar77 Qk77 Sz77 Nn77 Hh77 Gg77 (fits_nar_byte _) W77 0 rfl (Nat.le_of_ble_eq_true rfl)
    have V_b2_18 := V_b2_18.other W77 ne_b2_b19
    have N77 := Fr.snoc X77 N18 g_b19
    have Z77 : n0 ≤ h77.size := Nat.le_trans Z19 (Keep.of_wr W77).1
    have K77 := K19.wr W77 (Or.inr sz_b19)
    obtain ⟨lc77, X77, N77⟩ : ∃ lc, Stand p l e room_1 s m #[(.int p1), (.int p2), (.int p3)] below meth c T77 lc 2 24 ∧ Fr n0 lc := ⟨_, X77, N77⟩
    refine OutW.back st77 ?_
    show OutW _ _ _ _ _ _ _ (T77.setTop (mkF m 124 #[.val (.int p1), .val (.int p2), .val (.int p3), .val (.int v1), .val (.ref b2), .val (.ref b19), .unset, .unset, .unset, .unset, .unset, .unset, .unset, .unset, .unset, .unset, .unset, .unset, .unset] []))
    exact cont20 _ _ _ X77 e77 N77 Z77 K77 V_b2_18 V_b19_77
  · skip
    refine OutW.back (fun t k => XS.ifYes X19.here hx rfl (pc0 := 112) (pc' := 124) rfl (hb hby at_112) rfl ((if0 _ _).trans (flt c112_75).2.2.2) (by decide) (by decide) k) ?_
    show OutW _ _ _ _ _ _ _ (T19.setTop (mkF m 124 #[.val (.int p1), .val (.int p2), .val (.int p3), .val (.int v1), .val (.ref b2), .val (.ref b19), .unset, .unset, .unset, .unset, .unset, .unset, .unset, .unset, .unset, .unset, .unset, .unset, .unset] []))
    exact cont20 _ _ _ X19 e19 N18 Z19 K19 V_b2_18 (own_skip (i := 0) (v := (.int (nar .byte v3.toInt8.toInt32))) V_b19 (own_clamp c112_75))
set_option maxRecDepth 65536 in
set_option maxHeartbeats 40000000 in
theorem comes_1 {Post : Tables → Env → Array Value → State → Outcome → State → Prop} (hpost : ∀ tb e args s v u, (limb_1_1.after args s (.returned v) u = true ∧ limb_1_2.after args s (.returned v) u = true ∧ True) → FrameEnd s (.returned v) u (Jvm.fieldLocs frame_1_writes args s ++ Jvm.arrayLocs frame_1_arrays args s ++ Jvm.staticLocs frame_1_statics s) 16 128 → Post tb e args s (.returned v) u) :
    ArmFor flags0 classFile x code maxLocals ret World_1 tables_1 room_1 Calls_1 rest_1 Pre_1 Post := by
  intro l hfl _ _ p e ha hc hk s m args below hf hA hF happ hP
  obtain ⟨hcalls, hrest, hpre⟩ := hP
  obtain ⟨-, -, -, hnamed, -, -, -, hat⟩ := (Spec.applies_iff hf).mp happ
  obtain ⟨hg, hn⟩ := and_e (Cond.before_iff.mp (show (Jvm.Cond.and given_1 narrow_1).before args s = true from hpre))
  obtain ⟨hcount, hg0⟩ := and_e hg
  obtain ⟨ga0, hg1⟩ := and_e hg0
  obtain ⟨ga1, hg2⟩ := and_e hg1
  have ga2 := hg2
  obtain ⟨w0, w1, w2, rfl⟩ : ∃ w0 w1 w2 : Value, args = #[w0, w1, w2] := by
    have hs : args.size = 3 := by simpa [Cond.value, given_1] using hcount
    obtain ⟨L⟩ := args
    match L, hs with
    | [w0, w1, w2], _ => exact ⟨w0, w1, w2, rfl⟩
  have hw := fun d (hd : d ∈ tables_1) => atoms_spec (ws := Jvm.Cond.code x code maxLocals ret :: tables_1) hat d (List.mem_cons_of_mem _ hd)
  obtain ⟨i0, ei0⟩ := is_v ga0
  obtain rfl : w0 = (.int i0) := Option.some.inj ei0
  obtain ⟨i1, ei1⟩ := is_v ga1
  obtain rfl : w1 = (.int i1) := Option.some.inj ei1
  obtain ⟨i2, ei2⟩ := is_v ga2
  obtain rfl : w2 = (.int i2) := Option.some.inj ei2
  obtain ⟨n, o, h1, h2, h3, _, L, rfl, ⟨rfl, N⟩, hq⟩ := rm0 l s _ hw tables_1 i0 i1 i2  s.heap s.heap.size (Nat.le_refl _)  p e ha hc hk s m _ below hf ((Spec.applies_iff_loose hf).mp happ).1 ⟨rfl, State.Warmed39.refl s, rfl⟩ trivial
  refine ⟨n, _, h1, h2, h3, hpost _ _ _ _ _ _ ⟨Cond.after_iff.mpr rfl, Cond.after_iff.mpr (eq_i res_at (Term.int_eval (1)) rfl), trivial⟩ ⟨hq.1, hq.2.1, (hq.2.2.sift fun y hy => Or.inr (N y hy)).mono (by decide) (by decide)⟩⟩
theorem main_1_1 : Claimed_1_1 := comes_1 fun _ _ _ _ _ _ h hF => ⟨h.1, hF⟩
theorem main_1_2 : Claimed_1_2 := comes_1 fun _ _ _ _ _ _ h hF => ⟨h.2.1, hF⟩
end Jvm.Pilot.@@N@@
namespace Jvm.Pilot.@@N@@
open Jvm Jvm.ClassFile Sem Op Lib Jvm.Free Jvm.Stand Jvm.Pilot.@@N@@.Jvm.D
/-! MADE BY PROGRAM (witnessworld.py) out of the Statement's table words and the real class files: 10 classes; the members and pool entries that the words name. The judged class is class 1, her method 2. -/
namespace start1
open Jvm.ClassFile
def u (s : String) : CpInfo := .utf8 (stringToUtf16 s)
/-- a pool by its gaps: so many unusable entries, then the entry; so many at the end -/
def gap : Nat → List CpInfo → List CpInfo
  | 0, r => r
  | n + 1, r => .unusable :: gap n r
def poolList (es : List (Nat × CpInfo)) (last : Nat) : List CpInfo := es.foldr (fun e r => gap e.1 (e.2 :: r)) (gap last [])
def pool (es : List (Nat × CpInfo)) (last : Nat) : Array CpInfo := ⟨poolList es last⟩
def fileOf (pool : Array CpInfo) (this : Nat) (attrs : Array Attribute := #[]) (ms : Array MethodInfo := #[]) (fl : Nat := 33) (sup : Nat := 0) (ifs : Array Nat := #[]) (fds : Array FieldInfo := #[]) : ClassFile where
  minorVersion := 0
  majorVersion := 65
  constantPool := pool
  accessFlags := fl
  thisClass := this
  superClass := sup
  interfaces := ifs
  fields := fds
  methods := ms
  attributes := attrs
def plain (name : String) (sup : Option ClassId) : Class where
  name := name
  kind := .ordinary
  loader := none
  accessFlags := 33
  super := sup
  interfaces := #[]
  cf := none
  fields := #[]
  methods := #[]
  instanceTypes := #[]
  staticTypes := #[]
  resolved := #[]
  callSites := []
  init := .initialized
  statics := none
  mirror := none

def pool0 : Array CpInfo := pool [(5, u "<init>"), (0, u "()V"), (1, .class_ 10), (1, u "java/lang/Object")] 113

def k0c0 : Code := { maxStack := 0, maxLocals := 1, code := object_method_1_code, exceptionTable := #[], attributes := #[] }
def k0m0 : Method := { name := "<init>", desc := "()V", sig := { parameters := [], returnType := none }, accessFlags := 1, code := some k0c0 }
/-- java/lang/Object -/
def k0 : Class := { plain "java/lang/Object" none with
  accessFlags := 33
  interfaces := #[]
  cf := some (fileOf pool0 8 #[] #[{ accessFlags := 1, nameIndex := 5, descriptorIndex := 6, attributes := #[] }] 33 0 #[] #[])
  fields := #[]
  methods := #[k0m0]
  instanceTypes := #[]
  staticTypes := #[]
  resolved := Array.replicate 124 none
  statics := none }

def pool1 : Array CpInfo := pool [(2, .class_ 4), (1, u "java/lang/Object"), (0, u "<init>"), (0, u "()V"), (0, .methodref 8 9), (0, .class_ 10), (0, .nameAndType 11 12), (0, u "java/lang/Math"), (0, u "min"), (0, u "(II)I"), (0, .long 128), (1, .long 16384), (1, .long 2097152), (1, .long 268435456), (1, .long 2147483647), (1, .long 4294967295), (1, .class_ 26), (0, u "com/example/fulltext_workbench/fulltextworkbench/index/VarintReader"), (0, .methodref 25 28), (0, .nameAndType 5 29), (0, u "([B)V"), (0, .methodref 25 31), (0, .nameAndType 32 33), (0, u "next"), (0, u "()I"), (0, .methodref 25 35), (0, .nameAndType 36 37), (0, u "atEnd"), (0, u "()Z"), (0, .methodref 39 40), (0, .class_ 41), (0, .nameAndType 42 43), (0, u "com/example/fulltext_workbench/fulltextworkbench/index/VarintReaderNextPinLaw"), (0, u "expected"), (0, u "([III)J"), (5, u "law"), (0, u "(III)Z")] 4

def k1m0 : Method := { name := "<init>", desc := "()V", sig := { parameters := [], returnType := none }, accessFlags := 1, code := none }
def k1c1 : Code := { maxStack := 6, maxLocals := 9, code := method_2_code, exceptionTable := #[], attributes := #[] }
def k1m1 : Method := { name := "expected", desc := "([III)J", sig := { parameters := [(.array .int), .int, .int], returnType := some .long }, accessFlags := 10, code := some k1c1 }
def k1c2 : Code := { maxStack := 4, maxLocals := 19, code := code, exceptionTable := #[], attributes := #[] }
def k1m2 : Method := { name := "law", desc := "(III)Z", sig := { parameters := [.int, .int, .int], returnType := some .boolean }, accessFlags := 9, code := some k1c2 }
/-- com/example/fulltext_workbench/fulltextworkbench/index/VarintReaderNextPinLaw -/
def k1 : Class := { plain "com/example/fulltext_workbench/fulltextworkbench/index/VarintReaderNextPinLaw" (some 0) with
  accessFlags := 49
  interfaces := #[]
  cf := some (fileOf pool1 39 #[] #[{ accessFlags := 1, nameIndex := 5, descriptorIndex := 6, attributes := #[] }, { accessFlags := 10, nameIndex := 42, descriptorIndex := 43, attributes := #[] }, { accessFlags := 9, nameIndex := 49, descriptorIndex := 50, attributes := #[] }] 49 2 #[] #[])
  fields := #[]
  methods := #[k1m0, k1m1, k1m2]
  instanceTypes := #[]
  staticTypes := #[]
  resolved := Array.replicate 55 none
  statics := none }

def pool2 : Array CpInfo := pool [(1, .methodref 2 3), (0, .class_ 4), (0, .nameAndType 5 6), (0, u "java/lang/Object"), (0, u "<init>"), (0, u "()V"), (0, .fieldref 8 9), (0, .class_ 10), (0, .nameAndType 11 12), (0, u "com/example/fulltext_workbench/fulltextworkbench/index/VarintReader"), (0, u "bytes"), (0, u "[B"), (2, .fieldref 8 16), (0, .nameAndType 17 18), (0, u "position"), (0, u "I"), (2, .long 2147483647), (3, u "next"), (0, u "()I"), (6, u "([B)V"), (5, u "atEnd"), (0, u "()Z")] 2

def k2c0 : Code := { maxStack := 2, maxLocals := 2, code := prog_38_method_1_code, exceptionTable := #[], attributes := #[] }
def k2m0 : Method := { name := "<init>", desc := "([B)V", sig := { parameters := [(.array .byte)], returnType := none }, accessFlags := 0, code := some k2c0 }
def k2c1 : Code := { maxStack := 6, maxLocals := 5, code := prog_38_method_2_code, exceptionTable := #[], attributes := #[] }
def k2m1 : Method := { name := "next", desc := "()I", sig := { parameters := [], returnType := some .int }, accessFlags := 0, code := some k2c1 }
def k2c2 : Code := { maxStack := 2, maxLocals := 1, code := prog_38_method_4_code, exceptionTable := #[], attributes := #[] }
def k2m2 : Method := { name := "atEnd", desc := "()Z", sig := { parameters := [], returnType := some .boolean }, accessFlags := 0, code := some k2c2 }
/-- com/example/fulltext_workbench/fulltextworkbench/index/VarintReader -/
def k2 : Class := { plain "com/example/fulltext_workbench/fulltextworkbench/index/VarintReader" (some 0) with
  accessFlags := 48
  interfaces := #[]
  cf := some (fileOf pool2 8 #[] #[{ accessFlags := 0, nameIndex := 5, descriptorIndex := 33, attributes := #[] }, { accessFlags := 0, nameIndex := 25, descriptorIndex := 26, attributes := #[] }, { accessFlags := 0, nameIndex := 39, descriptorIndex := 40, attributes := #[] }] 48 2 #[] #[{ accessFlags := 18, nameIndex := 11, descriptorIndex := 12, attributes := #[] }, { accessFlags := 2, nameIndex := 17, descriptorIndex := 18, attributes := #[] }])
  fields := #[{ name := "bytes", type := (.array .byte), accessFlags := 18, slot := 0, constantValue := 0 }, { name := "position", type := .int, accessFlags := 2, slot := 1, constantValue := 0 }]
  methods := #[k2m0, k2m1, k2m2]
  instanceTypes := #[(.array .byte), .int]
  staticTypes := #[]
  resolved := Array.replicate 43 none
  statics := none }

def pool3 : Array CpInfo := pool [(1, .class_ 2), (0, u "java/lang/Math"), (1, .class_ 6), (1, u "java/lang/Object"), (0, u "<init>"), (0, u "()V"), (89, .class_ 100), (1, u "java/lang/Math$RandomNumberGeneratorHolder"), (71, u "negativeZeroFloatBits"), (0, u "J"), (2, u "negativeZeroDoubleBits"), (24, u "min"), (43, u "$assertionsDisabled"), (0, u "Z"), (88, u "(II)I"), (2, u "twoToTheDoubleScaleDown"), (0, u "D"), (4, u "twoToTheDoubleScaleUp"), (9, u "E"), (3, u "PI"), (2, u "TAU"), (2, u "DEGREES_TO_RADIANS"), (0, u "RADIANS_TO_DEGREES")] 94

def k3m0 : Method := { name := "<init>", desc := "()V", sig := { parameters := [], returnType := none }, accessFlags := 2, code := none }
def k3c1 : Code := { maxStack := 2, maxLocals := 2, code := jdk_29_method_69_code, exceptionTable := #[], attributes := #[] }
def k3m1 : Method := { name := "min", desc := "(II)I", sig := { parameters := [.int, .int], returnType := some .int }, accessFlags := 9, code := some k3c1 }
/-- java/lang/Math -/
def k3 : Class := { plain "java/lang/Math" (some 0) with
  accessFlags := 49
  interfaces := #[]
  cf := some (fileOf pool3 1 #[.nestMembers #[98]] #[{ accessFlags := 2, nameIndex := 7, descriptorIndex := 8, attributes := #[] }, { accessFlags := 9, nameIndex := 201, descriptorIndex := 335, attributes := #[] }] 49 4 #[] #[{ accessFlags := 25, nameIndex := 354, descriptorIndex := 339, attributes := #[] }, { accessFlags := 25, nameIndex := 358, descriptorIndex := 339, attributes := #[] }, { accessFlags := 25, nameIndex := 361, descriptorIndex := 339, attributes := #[] }, { accessFlags := 26, nameIndex := 364, descriptorIndex := 339, attributes := #[] }, { accessFlags := 26, nameIndex := 365, descriptorIndex := 339, attributes := #[] }, { accessFlags := 26, nameIndex := 172, descriptorIndex := 173, attributes := #[] }, { accessFlags := 26, nameIndex := 176, descriptorIndex := 173, attributes := #[] }, { accessFlags := 8, nameIndex := 344, descriptorIndex := 339, attributes := #[] }, { accessFlags := 8, nameIndex := 338, descriptorIndex := 339, attributes := #[] }, { accessFlags := 4120, nameIndex := 245, descriptorIndex := 246, attributes := #[] }])
  fields := #[{ name := "E", type := .double, accessFlags := 25, slot := 0, constantValue := 0 }, { name := "PI", type := .double, accessFlags := 25, slot := 1, constantValue := 0 }, { name := "TAU", type := .double, accessFlags := 25, slot := 2, constantValue := 0 }, { name := "DEGREES_TO_RADIANS", type := .double, accessFlags := 26, slot := 3, constantValue := 0 }, { name := "RADIANS_TO_DEGREES", type := .double, accessFlags := 26, slot := 4, constantValue := 0 }, { name := "negativeZeroFloatBits", type := .long, accessFlags := 26, slot := 5, constantValue := 0 }, { name := "negativeZeroDoubleBits", type := .long, accessFlags := 26, slot := 6, constantValue := 0 }, { name := "twoToTheDoubleScaleUp", type := .double, accessFlags := 8, slot := 7, constantValue := 0 }, { name := "twoToTheDoubleScaleDown", type := .double, accessFlags := 8, slot := 8, constantValue := 0 }, { name := "$assertionsDisabled", type := .boolean, accessFlags := 4120, slot := 9, constantValue := 0 }]
  methods := #[k3m0, k3m1]
  instanceTypes := #[]
  staticTypes := #[.double, .double, .double, .double, .double, .long, .long, .double, .double, .boolean]
  resolved := Array.replicate 460 none
  statics := none }

def pool4 : Array CpInfo := pool [(1, u "java/lang/Cloneable"), (0, .class_ 1), (0, u "java/lang/Object"), (0, .class_ 3)] 3

/-- java/lang/Cloneable -/
def k4 : Class := { plain "java/lang/Cloneable" (some 0) with
  accessFlags := 1537
  interfaces := #[]
  cf := some (fileOf pool4 2 #[] #[] 1537 4 #[] #[])
  fields := #[]
  methods := #[]
  instanceTypes := #[]
  staticTypes := #[]
  resolved := Array.replicate 8 none
  statics := none }

def pool5 : Array CpInfo := pool [(1, u "java/io/Serializable"), (0, .class_ 1), (0, u "java/lang/Object"), (0, .class_ 3)] 3

/-- java/io/Serializable -/
def k5 : Class := { plain "java/io/Serializable" (some 0) with
  accessFlags := 1537
  interfaces := #[]
  cf := some (fileOf pool5 2 #[] #[] 1537 4 #[] #[])
  fields := #[]
  methods := #[]
  instanceTypes := #[]
  staticTypes := #[]
  resolved := Array.replicate 8 none
  statics := none }

/-- the primitive byte -/
def k6 : Class := { plain "byte" none with kind := .primitive 'B', accessFlags := 0x411 }
/-- [B -/
def k7 : Class := { plain "[B" (some 0) with kind := .array 6 .byte, interfaces := #[4, 5], accessFlags := 1041 }

/-- the primitive int -/
def k8 : Class := { plain "int" none with kind := .primitive 'I', accessFlags := 0x411 }
/-- [I -/
def k9 : Class := { plain "[I" (some 0) with kind := .array 8 .int, interfaces := #[4, 5], accessFlags := 1041 }

def heap : Heap := #[]
def classes : Array Class := #[k0, k1, k2, k3, k4, k5, k6, k7, k8, k9]
def interned : List (Array UInt16 × Addr) := []
def slotsUsed : Nat := 0
def theMethod : MethodId := ⟨1, 2⟩
def args0 : Array Value := #[.int 5, .int 6, .int 7]
def aboutOver (below : List Frame) : State where
  vm := { classes := classes, interned := interned.toArray }
  heap := heap
  slotsUsed := slotsUsed
  threads := #[{ frames := .invoking theMethod args0 :: below }]
def below0 : List Frame := [.native { method := ⟨0, 0⟩, args := #[] }]
def about1 : State := aboutOver below0
def p0 : Program := .bare "" "" ""
def e0 : Env := launch0.env 0 0 0
theorem w_frames : about1.frames = Frame.invoking theMethod args0 :: below0 := rfl
set_option maxRecDepth 65536 in
theorem w_args : argsFit about1.vm theMethod args0 = true := by decide +kernel
set_option maxRecDepth 65536 in
theorem w_heap : heapFits about1 = true := by decide +kernel
set_option maxRecDepth 65536 in
theorem w_runnable : about1.curStatus? = some .runnable := by decide +kernel
set_option maxRecDepth 65536 in
theorem w_alone : about1.alone = true := by decide +kernel
set_option maxRecDepth 65536 in
theorem w_named : about1.methodNamed? x = some theMethod := by decide +kernel
set_option maxRecDepth 65536 in
theorem w_hears : about1.hears theMethod below0 = true := by decide +kernel
set_option maxRecDepth 65536 in
theorem w_ripe : about1.ripe theMethod args0 below0 = true := by decide +kernel
theorem w_running : about1.status = .running := rfl
set_option maxRecDepth 65536 in
theorem w_room : about1.hasRoom e0.platform room_1 = true :=
  launch0.hasRoom_least _ room_1 (by decide +kernel) (by decide +kernel) (by decide +kernel) (by decide +kernel) (by decide +kernel) (by decide +kernel)
theorem allAtoms_all (ts : List Jvm.Cond) (a : Array Jvm.Value) (st : Jvm.State) : (allAtoms ts).before a st = ts.all (fun c => c.before a st) := by
  induction ts with
  | nil => rfl
  | cons c t ih =>
    show (Jvm.Cond.and c (allAtoms t)).before a st = _
    rw [Jvm.Cond.before_and, ih, List.all_cons]
def words1 : List Jvm.Cond := Jvm.Cond.code x code maxLocals ret :: tables_1
/-- a 'code' word, met by the world's own term for the bytes: nothing is compared byte by byte -/
theorem code_word {y : MethodName} {bytes : ByteArray} {mx : Nat} {rt : Option FieldType} {a : Array Value} {s : State} {m : MethodId} {meth : Method} {c : Code} (h1 : s.methodNamed? y = some m) (h2 : s.vm.method? m = some meth) (h3 : meth.code = some c) (h4 : c.code = bytes)
    (h5 : (c.maxLocals == mx && c.exceptionTable.isEmpty && decide (c.maxStack ≤ mostOperands) && decide (meth.sig.returnType = rt) && !meth.locks && decide (parseMethodDescriptor y.desc = some meth.sig)) = true) : (Jvm.Cond.code y bytes mx rt).before a s = true := by
  simp only [Bool.and_eq_true, beq_iff_eq, Bool.not_eq_true', decide_eq_true_eq] at h5
  obtain ⟨⟨⟨⟨⟨g1, g2⟩, g3⟩, g4⟩, g5⟩, g6⟩ := h5
  simp [Cond.before, Cond.holds, Cond.value, h1, h2, h3, h4, g1, g2, g3, g4, g5, g6]
def isCode : Jvm.Cond → Bool
  | .code _ _ _ _ => true
  | _ => false
theorem all_split {L : List Jvm.Cond} {P : Jvm.Cond → Bool} (h1 : L.all (fun c => isCode c || P c) = true) (h2 : ∀ c ∈ L.filter isCode, P c = true) : L.all P = true := by
  refine List.all_eq_true.mpr fun c hc => ?_
  have h := List.all_eq_true.mp h1 c hc
  rcases Bool.eq_false_or_eq_true (isCode c) with hi | hi
  · exact h2 c (List.mem_filter.mpr ⟨hc, hi⟩)
  · simpa [hi] using h
set_option maxRecDepth 65536 in
theorem w_c0 : (Jvm.Cond.code x code maxLocals ret).before args0 about1 = true := code_word (m := ⟨1, 2⟩) (meth := k1m2) (c := k1c2) (by decide +kernel) rfl rfl rfl (by decide +kernel)
set_option maxRecDepth 65536 in
theorem w_c1 : (Jvm.Cond.code ({ cls := "com/example/fulltext_workbench/fulltextworkbench/index/VarintReader", name := "<init>", desc := "([B)V" } : Jvm.MethodName) prog_38_method_1_code (2 : Nat) (Option.none : Option Jvm.ClassFile.FieldType)).before args0 about1 = true := code_word (m := ⟨2, 0⟩) (meth := k2m0) (c := k2c0) (by decide +kernel) rfl rfl rfl (by decide +kernel)
set_option maxRecDepth 65536 in
theorem w_c2 : (Jvm.Cond.code ({ cls := "java/lang/Object", name := "<init>", desc := "()V" } : Jvm.MethodName) object_method_1_code (1 : Nat) (Option.none : Option Jvm.ClassFile.FieldType)).before args0 about1 = true := code_word (m := ⟨0, 0⟩) (meth := k0m0) (c := k0c0) (by decide +kernel) rfl rfl rfl (by decide +kernel)
set_option maxRecDepth 65536 in
theorem w_c3 : (Jvm.Cond.code ({ cls := "com/example/fulltext_workbench/fulltextworkbench/index/VarintReader", name := "next", desc := "()I" } : Jvm.MethodName) prog_38_method_2_code (5 : Nat) (Option.some Jvm.ClassFile.FieldType.int)).before args0 about1 = true := code_word (m := ⟨2, 1⟩) (meth := k2m1) (c := k2c1) (by decide +kernel) rfl rfl rfl (by decide +kernel)
set_option maxRecDepth 65536 in
theorem w_c4 : (Jvm.Cond.code ({ cls := "com/example/fulltext_workbench/fulltextworkbench/index/VarintReader", name := "atEnd", desc := "()Z" } : Jvm.MethodName) prog_38_method_4_code (1 : Nat) (Option.some Jvm.ClassFile.FieldType.boolean)).before args0 about1 = true := code_word (m := ⟨2, 2⟩) (meth := k2m2) (c := k2c2) (by decide +kernel) rfl rfl rfl (by decide +kernel)
set_option maxRecDepth 65536 in
theorem w_c5 : (Jvm.Cond.code ({ cls := "com/example/fulltext_workbench/fulltextworkbench/index/VarintReaderNextPinLaw", name := "expected", desc := "([III)J" } : Jvm.MethodName) method_2_code (9 : Nat) (Option.some Jvm.ClassFile.FieldType.long)).before args0 about1 = true := code_word (m := ⟨1, 1⟩) (meth := k1m1) (c := k1c1) (by decide +kernel) rfl rfl rfl (by decide +kernel)
set_option maxRecDepth 65536 in
theorem w_c6 : (Jvm.Cond.code ({ cls := "java/lang/Math", name := "min", desc := "(II)I" } : Jvm.MethodName) jdk_29_method_69_code (2 : Nat) (Option.some Jvm.ClassFile.FieldType.int)).before args0 about1 = true := code_word (m := ⟨3, 1⟩) (meth := k3m1) (c := k3c1) (by decide +kernel) rfl rfl rfl (by decide +kernel)
def codes1 : List Jvm.Cond := [Jvm.Cond.code x code maxLocals ret, Jvm.Cond.code ({ cls := "com/example/fulltext_workbench/fulltextworkbench/index/VarintReader", name := "<init>", desc := "([B)V" } : Jvm.MethodName) prog_38_method_1_code (2 : Nat) (Option.none : Option Jvm.ClassFile.FieldType), Jvm.Cond.code ({ cls := "java/lang/Object", name := "<init>", desc := "()V" } : Jvm.MethodName) object_method_1_code (1 : Nat) (Option.none : Option Jvm.ClassFile.FieldType), Jvm.Cond.code ({ cls := "com/example/fulltext_workbench/fulltextworkbench/index/VarintReader", name := "next", desc := "()I" } : Jvm.MethodName) prog_38_method_2_code (5 : Nat) (Option.some Jvm.ClassFile.FieldType.int), Jvm.Cond.code ({ cls := "com/example/fulltext_workbench/fulltextworkbench/index/VarintReader", name := "atEnd", desc := "()Z" } : Jvm.MethodName) prog_38_method_4_code (1 : Nat) (Option.some Jvm.ClassFile.FieldType.boolean), Jvm.Cond.code ({ cls := "com/example/fulltext_workbench/fulltextworkbench/index/VarintReaderNextPinLaw", name := "expected", desc := "([III)J" } : Jvm.MethodName) method_2_code (9 : Nat) (Option.some Jvm.ClassFile.FieldType.long), Jvm.Cond.code ({ cls := "java/lang/Math", name := "min", desc := "(II)I" } : Jvm.MethodName) jdk_29_method_69_code (2 : Nat) (Option.some Jvm.ClassFile.FieldType.int)]
set_option maxRecDepth 65536 in
theorem codes_eq : words1.filter isCode = codes1 := rfl
theorem w_codes : ∀ c ∈ words1.filter isCode, c.before args0 about1 = true := by
  rw [codes_eq]
  intro c hc
  simp only [codes1, List.mem_cons, List.not_mem_nil, or_false] at hc
  rcases hc with rfl | rfl | rfl | rfl | rfl | rfl | rfl
  · exact w_c0
  · exact w_c1
  · exact w_c2
  · exact w_c3
  · exact w_c4
  · exact w_c5
  · exact w_c6
set_option maxRecDepth 65536 in
theorem w_t1 : (words1.take 24).all (fun c => isCode c || c.before args0 about1) = true := by decide +kernel
set_option maxRecDepth 65536 in
theorem w_t2 : (words1.drop 24).all (fun c => isCode c || c.before args0 about1) = true := by decide +kernel
theorem w_tables : (allAtoms (Jvm.Cond.code x code maxLocals ret :: tables_1)).before args0 about1 = true := by
  rw [allAtoms_all]
  show words1.all (fun c => c.before args0 about1) = true
  refine all_split ?_ w_codes
  rw [← List.take_append_drop 24 words1, List.all_append, w_t1, w_t2]
  rfl
set_option maxRecDepth 65536 in
theorem w_case : (Jvm.Cond.and given_1 narrow_1).before args0 about1 = true := by decide +kernel
theorem w_applies : (headSpec (Jvm.Cond.code x code maxLocals ret :: tables_1) room_1).applies x e0.platform about1 = true :=
  (Spec.applies_iff w_frames).mpr ⟨w_running, w_runnable, w_alone, w_named, w_hears, w_ripe, w_room, w_tables⟩
theorem atStart : AtStart classFile x code maxLocals ret World_1 tables_1 room_1 Calls_1 rest_1 Pre_1 launch0 p0 e0 about1 theMethod args0 below0 :=
  ⟨lists_1, trivial, launch0.admits_env _ _ _, launch0.least_env, fairChoices_fair.cas, fairChoices_fair.clock, w_frames, w_args, w_heap, w_applies, trivial, trivial, w_case⟩
end start1
theorem witness_1 : WitnessClaimed_1 := ⟨start1.p0, start1.e0, start1.about1, start1.theMethod, start1.args0, start1.below0, start1.atStart⟩
end Jvm.Pilot.@@N@@
