import JvmDerived
import JvmDerived.Pilot.@@N@@Statement
import JvmDerived.Pilot.@@N@@Code
set_option linter.unusedVariables false
set_option linter.unusedSimpArgs false
namespace Jvm.RoadKit
open Sem ClassFile Op Lib Jvm.Stand Jvm.Free Jvm.LawKit
section Own
variable {p : Program} {l : Launch} {e : Env} {R : Room} {s : State} {m : MethodId} {args : Array Value} {below : List Frame} {meth : Method} {c : Code} {T A B : State} {locs : List Loc} {cells slots K N : Nat} {Q : Option Value → Heap → List Loc → Prop}
/-- from A the walk comes to its end, and Q holds there -/
def OutW (p : Program) (e : Env) (below : List Frame) (s : State) (K N : Nat) (Q : Option Value → Heap → List Loc → Prop) (A : State) : Prop :=
  ∃ s₂ o, Steps p.tables e below A s₂ ∧ s₂.status = .running ∧ Ended s₂ below o ∧ ∃ v L, o = .returned v ∧ Q v s₂.heap L ∧ FrameEnd s o s₂ L K N
/-- a body that writes nothing: what it returns -/
def Qpure (h0 : Heap) (n0 : Nat) (r : Value) (v : Option Value) (h : Heap) (L : List Loc) : Prop := v = some r ∧ Fr n0 L ∧ h = h0
theorem OutW.back (h : ∀ t, Steps p.tables e below B t → Steps p.tables e below A t) (k : OutW p e below s K N Q B) : OutW p e below s K N Q A := by
  obtain ⟨t, o, h1, h2⟩ := k
  exact ⟨t, o, h t h1, h2⟩
theorem OutW.via (h : Steps p.tables e below A B) (k : OutW p e below s K N Q B) : OutW p e below s K N Q A := by
  obtain ⟨t, o, h1, h2⟩ := k
  exact ⟨t, o, h.trans h1, h2⟩
theorem OutW.retV (X : Stand p l e R s m args below meth c T locs cells slots) (hx : p.tables.exec = Jvm.exec) {pc : Nat} {Ls : Array Slot} (hret : meth.sig.returnType = none) (hlk : meth.locks = false) (hd : decode c.code pc = .ok (.return_, 1))
    (hK : cells ≤ K) (hN : slots ≤ N) (hq : Q none T.heap locs) : OutW p e below s K N Q (T.setTop (mkF m pc Ls [])) := by
  obtain ⟨fs, hr, hrun, hended, hW, hsame⟩ := X.leave (v := none) (fun _ => rfl) hlk
  exact ⟨_, _, X.returnOut hx hret hd hr, hrun, hended, _, _, rfl, hq, ⟨_, rfl⟩, hW, hsame.mono hK hN⟩
theorem OutW.retI (X : Stand p l e R s m args below meth c T locs cells slots) (hx : p.tables.exec = Jvm.exec) {pc : Nat} {Ls : Array Slot} {z : Int32} {rest : List Value} (hret : meth.sig.returnType = some .int) (hlk : meth.locks = false) (hd : decode c.code pc = .ok (.ireturn, 1))
    (hK : cells ≤ K) (hN : slots ≤ N) (hq : Q (some (.int z)) T.heap locs) : OutW p e below s K N Q (T.setTop (mkF m pc Ls (.int z :: rest))) := by
  obtain ⟨fs, hr, hrun, hended, hW, hsame⟩ := X.leave (v := some (.int z)) (fun h => by rw [hret] at h; cases h) hlk
  exact ⟨_, _, retOut X hx hret rfl (Or.inl ⟨rfl, Or.inl rfl, z, rfl⟩) hd hr, hrun, hended, _, _, rfl, hq, ⟨_, rfl⟩, hW, hsame.mono hK hN⟩
theorem OutW.retJ (X : Stand p l e R s m args below meth c T locs cells slots) (hx : p.tables.exec = Jvm.exec) {pc : Nat} {Ls : Array Slot} {z : Int64} {rest : List Value} (hret : meth.sig.returnType = some .long) (hlk : meth.locks = false) (hd : decode c.code pc = .ok (.lreturn, 1))
    (hK : cells ≤ K) (hN : slots ≤ N) (hq : Q (some (.long z)) T.heap locs) : OutW p e below s K N Q (T.setTop (mkF m pc Ls (.long z :: rest))) := by
  obtain ⟨fs, hr, hrun, hended, hW, hsame⟩ := X.leave (v := some (.long z)) (fun h => by rw [hret] at h; cases h) hlk
  exact ⟨_, _, retOut X hx hret rfl (Or.inr (Or.inl ⟨rfl, rfl, z, rfl⟩)) hd hr, hrun, hended, _, _, rfl, hq, ⟨_, rfl⟩, hW, hsame.mono hK hN⟩
theorem nar_ref {t : FieldType} {v : Value} (h : v.isRef = true) : narrow t v = v := by
  rcases ref_cases h with rfl | ⟨a, rfl⟩ <;> cases t <;> rfl
theorem cat_ref {v : Value} (h : v.isRef = true) : v.category = 1 := by
  rcases ref_cases h with rfl | ⟨a, rfl⟩ <;> rfl
theorem fit_ref {t : FieldType} {v : Value} (ht : refKind t = true) (h : v.isRef = true) : fits t v = true := by
  rcases ref_cases h with rfl | ⟨a, rfl⟩ <;> cases t <;> first | rfl | (simp [refKind] at ht)
theorem OutW.retA (X : Stand p l e R s m args below meth c T locs cells slots) (hx : p.tables.exec = Jvm.exec) {pc : Nat} {Ls : Array Slot} {w : Value} {t : FieldType} {rest : List Value} (hret : meth.sig.returnType = some t) (ht : t.isReference = true) (hw : w.isRef = true) (hlk : meth.locks = false) (hd : decode c.code pc = .ok (.areturn, 1))
    (hK : cells ≤ K) (hN : slots ≤ N) (hq : Q (some w) T.heap locs) : OutW p e below s K N Q (T.setTop (mkF m pc Ls (w :: rest))) := by
  obtain ⟨fs, hr, hrun, hended, hW, hsame⟩ := X.leave (v := some w) (fun h => by rw [hret] at h; cases h) hlk
  exact ⟨_, _, retOut X hx hret (nar_ref hw) (Or.inr (Or.inr (Or.inr (Or.inr ⟨rfl, ht, hw⟩)))) hd hr, hrun, hended, _, _, rfl, hq, ⟨_, rfl⟩, hW, hsame.mono hK hN⟩
theorem OutW.retN (X : Stand p l e R s m args below meth c T locs cells slots) (hx : p.tables.exec = Jvm.exec) {pc : Nat} {Ls : Array Slot} {z z' : Int32} {t : FieldType} {rest : List Value} (hret : meth.sig.returnType = some t) (ht : t = .boolean ∨ t = .byte ∨ t = .char ∨ t = .short) (hlk : meth.locks = false) (hd : decode c.code pc = .ok (.ireturn, 1)) (hz : nar t z = z')
    (hK : cells ≤ K) (hN : slots ≤ N) (hq : Q (some (.int z')) T.heap locs) : OutW p e below s K N Q (T.setTop (mkF m pc Ls (.int z :: rest))) := by
  subst hz
  obtain ⟨fs, hr, hrun, hended, hW, hsame⟩ := X.leave (v := some (.int (nar t z))) (fun h => by rw [hret] at h; cases h) hlk
  exact ⟨_, _, Jvm.RoadKit.retN X hx hret ht hd hr, hrun, hended, _, _, rfl, hq, ⟨_, rfl⟩, hW, hsame.mono hK hN⟩
theorem store1' {L L' : Array Slot} {i : Nat} {v : Value} {o : Slot} (hold : L[i]? = some o) (ho : One o) (hv : v.category = 1) (h : L.setIfInBounds i (.val v) = L') : storeLocals L i v = some L' := h ▸ XS.store1 hold ho hv
theorem own_lt_mono {x a b : Int32} (h : x < a) (q : a ≤ b) : x < b := by
  rw [Int32.lt_iff_toInt_lt] at *
  rw [Int32.le_iff_toInt_le] at q
  omega
theorem own_nlt_mono {x a b : Int32} (h : ¬ x < a) (q : b ≤ a) : ¬ x < b := by
  rw [Int32.lt_iff_toInt_lt] at *
  rw [Int32.le_iff_toInt_le] at q
  omega
/-- every element of the array's cell is an object of exactly that class -/
def Els (Z : State) (h : Heap) (cl : Cell) (C : String) : Prop := ∀ j : Int32, ¬ (j < 0 ∨ cl.slots.size ≤ j.toNatClampNeg) → ∃ y : Addr, cl.slots[j.toNatClampNeg]? = some (.ref y) ∧ Exa Z h y C
theorem own_Uext {Z : State} {h h' : Heap} {cl : Cell} {C : String} (U : Els Z h cl C) (E : Ext h h') : Els Z h' cl C := fun j hj => by
  obtain ⟨y, a, b⟩ := U j hj
  exact ⟨y, a, b.ext E⟩
theorem own_Uwr {Z : State} {h h' : Heap} {cl : Cell} {C : String} {a : Addr} {sl : Nat} {v : Value} (U : Els Z h cl C) (W : Wr h h' a sl v) : Els Z h' cl C := fun j hj => by
  obtain ⟨y, q, b⟩ := U j hj
  exact ⟨y, q, b.wr W⟩
theorem own_Ukeep {Z : State} {h h' : Heap} {cl : Cell} {C : String} {ws : List Addr} (U : Els Z h cl C) (K : Keep h h' ws) : Els Z h' cl C := fun j hj => by
  obtain ⟨y, a, b⟩ := U j hj
  exact ⟨y, a, b.keep K⟩
theorem own_Akeep {Z : State} {h h' : Heap} {a : Addr} {c : Cell} {ty : FieldType} {ws : List Addr} (A : Arr Z h a c ty) (K : Keep h h' ws) (q : a ∉ ws) : Arr Z h' a c ty := ⟨K.2.1 a c A.1 q, A.2⟩
theorem own_keepS {Z : State} {h h' : Heap} {C n d : String} {v : Value} {ws : List Addr} (F : Sta Z h C n d v) (K : Keep h h' ws) (q : ∀ x ∈ ws, ∃ C', Exa Z h x C') : Sta Z h' C n d v := by
  obtain ⟨cf, i, k, f, st, cell, h1, h2, h3, h4, h5, h6, h7⟩ := F
  have ne : st ∉ ws := fun hm => by
    obtain ⟨C', c', k', e1, -, -, e4, -⟩ := q st hm
    cases h5.symm.trans e1
    rw [h6] at e4; cases e4
  exact ⟨cf, i, k, f, st, cell, h1, h2, h3, h4, K.2.1 _ _ h5 ne, h6, h7⟩
end Own
end Jvm.RoadKit
namespace Jvm.Pilot.@@N@@
open Jvm Jvm.ClassFile Sem Op Lib Jvm.Free Jvm.Stand Jvm.LawKit Jvm.RoadKit Bundle Jvm.Pilot.@@N@@.Jvm.D
theorem own_fldI {args : Array Value} {s : State} {t : Term} {x : Addr} {C n dd : String} {k : Int32} (ht : t.eval args s none [] s = some (.ref x)) (h : (Jvm.Cond.eq (.field t C n dd) (.int k)).value args s none s [] = some true) : Fld s s.heap x C n dd (.int k) := by
  simp only [Cond.value, fld_at ht, Term.int_eval] at h
  cases hf : s.fieldOf? x C n dd with
  | none => simp [hf] at h
  | some u =>
    cases u <;> simp [hf] at h
    subst h
    exact Fld.start hf
theorem own_fldR {args : Array Value} {s : State} {t t' : Term} {x y : Addr} {C n dd : String} (ht : t.eval args s none [] s = some (.ref x)) (ht' : t'.eval args s none [] s = some (.ref y)) (h : (Jvm.Cond.eq (.field t C n dd) t').value args s none s [] = some true) : Fld s s.heap x C n dd (.ref y) := by
  simp only [Cond.value, fld_at ht, ht'] at h
  cases hf : s.fieldOf? x C n dd with
  | none => simp [hf] at h
  | some u =>
    cases u <;> simp [hf] at h
    subst h
    exact Fld.start hf
theorem own_fldN {args : Array Value} {s : State} {t : Term} {x : Addr} {C n dd : String} (ht : t.eval args s none [] s = some (.ref x)) (h : (Jvm.Cond.eq (.field t C n dd) .null).value args s none s [] = some true) : Fld s s.heap x C n dd .null := by
  have q := null_v h
  rw [fld_at ht] at q
  exact Fld.start q
theorem d2_0 : decode jdk_30_method_1_code 0 = .ok (.aload_n 0, 1) := by decide +kernel
theorem d2_1 : decode jdk_30_method_1_code 1 = .ok (.invokespecial 1, 3) := by decide +kernel
theorem d2_4 : decode jdk_30_method_1_code 4 = .ok (.return_, 1) := by decide +kernel
theorem pn_2 : plainName "java/lang/Record" = true := by first | (simp [plainName, overriddenIn]; done) | decide +kernel
theorem ef_2 (m : MethodId) (x0 : Addr) : entryFrame m #[(.ref x0)] 1 = mkF m 0 #[.val (.ref x0)] [] := by first | (simp [entryFrame, mkF, argsToLocals, Value.category]; done) | rfl
def Q2 (Z : State) (a1 : Addr)  (h0 : Heap) (n0 : Nat) (v : Option Value) (h : Heap) (L : List Loc) : Prop := v = none ∧ Fr n0 L ∧ h = h0
set_option maxRecDepth 65536 in
set_option maxHeartbeats 40000000 in
theorem rm2 (l : Launch) (Z : State) (a0 : Array Value) (hw : ∀ d ∈ tables_1, d.before a0 Z = true) (ws : List Jvm.Cond) (a1 : Addr)  (h0 : Heap) (n0 : Nat) (Z0 : n0 ≤ h0.size) :
    MetFree l (⟨"java/lang/Record", "<init>", "()V"⟩ : MethodName) (head1 (Jvm.Cond.code (⟨"java/lang/Record", "<init>", "()V"⟩ : MethodName) jdk_30_method_1_code 1 none :: ws) ({ frames := 1, cells := 0, slots := 0, locals := 12 } : Room)) (fun a U => a = #[(.ref a1)] ∧ Z.Warmed39 U.vm ∧ U.heap = h0) (fun _ _ _ _ _ => True) (fun _ U o U' => ∃ v L, o = .returned v ∧ Q2 Z a1 h0 n0 v U'.heap L ∧ FrameEnd U o U' L ({ frames := 1, cells := 0, slots := 0, locals := 12 } : Room).cells ({ frames := 1, cells := 0, slots := 0, locals := 12 } : Room).slots) := by
  refine MetFree.of_bodySF (plainFor_of_name pn_2) hisR ?_
  intro p e s m args below meth c s₁ Bd hml0 hP hK
  obtain ⟨rfl, hZ, hh⟩ := hP
  have hx := Bd.exec
  have hby := Bd.bytes
  have hlk := Bd.notSynchronized
  have hml : c.maxLocals = 1 := hml0
  have hown : s.vm.findClass "java/lang/Record" = some m.cls := findClass_of_methodNamed Bd.named
  have hnm := (name_of_methodNamed Bd.named Bd.method).1
  have X0 : Stand p l e ({ frames := 1, cells := 0, slots := 0, locals := 12 } : Room) s m #[(.ref a1)] below meth c s₁ [] 0 0 := Stand.of_body Bd
  have e0 : s₁.heap = h0 := by rw [← hh, Bd.state]; rfl
  have N0 := Fr.nil n0
  have K0 : Keep h0 h0 [] := Keep.refl h0 _
  show OutW p e below s ({ frames := 1, cells := 0, slots := 0, locals := 12 } : Room).cells ({ frames := 1, cells := 0, slots := 0, locals := 12 } : Room).slots (Q2 Z a1 h0 n0) _
  refine OutW.back (fun t k => castTop (ef_2 m a1) k) ?_
  show OutW _ _ _ _ _ _ _ (s₁.setTop (mkF m 0 #[.val (.ref a1)] []))
  refine OutW.back (fun t k => XS.aloadN X0.here hx rfl (hb hby d2_0) rfl rfl  k) ?_
  show OutW _ _ _ _ _ _ _ (s₁.setTop (mkF m 1 #[.val (.ref a1)] [(.ref a1)]))
  obtain ⟨T1, X1, e1, st1⟩ := initO X0 hx hZ hown (hw _ (List.mem_of_getElem? (i := 15) rfl)) (hw _ (List.mem_of_getElem? (i := 16) rfl)) (hw _ (List.mem_of_getElem? (i := 17) rfl)) e0 (g := (mkF m 1 #[.val (.ref a1)] [(.ref a1)])) rfl (by rw [hml]; rfl) rfl (hb hby d2_1) (by decide) (W := 0) (by show 2 * 0 + _ ≤ _; exact Nat.le_of_eq rfl) (by decide)
  refine OutW.back st1 ?_
  show OutW _ _ _ _ _ _ _ (T1.setTop (mkF m 4 #[.val (.ref a1)] []))
  refine OutW.retV X1 hx Bd.returns hlk (hb hby d2_4) (by decide) (by decide) ?_
  show Q2 Z a1 h0 n0 _ T1.heap _
  rw [e1]
  exact ⟨rfl, N0, rfl⟩
theorem pd_0 : parseMethodDescriptor "()V" = some ⟨[], none⟩ := by decide +kernel
theorem d1_0 : decode prog_1_method_1_code 0 = .ok (.aload_n 0, 1) := by decide +kernel
theorem d1_1 : decode prog_1_method_1_code 1 = .ok (.invokespecial 1, 3) := by decide +kernel
theorem d1_4 : decode prog_1_method_1_code 4 = .ok (.aload_n 0, 1) := by decide +kernel
theorem d1_5 : decode prog_1_method_1_code 5 = .ok (.aload_n 1, 1) := by decide +kernel
theorem d1_6 : decode prog_1_method_1_code 6 = .ok (.putfield 7, 3) := by decide +kernel
theorem d1_9 : decode prog_1_method_1_code 9 = .ok (.aload_n 0, 1) := by decide +kernel
theorem d1_10 : decode prog_1_method_1_code 10 = .ok (.lload_n 2, 1) := by decide +kernel
theorem d1_11 : decode prog_1_method_1_code 11 = .ok (.putfield 13, 3) := by decide +kernel
theorem d1_14 : decode prog_1_method_1_code 14 = .ok (.aload_n 0, 1) := by decide +kernel
theorem d1_15 : decode prog_1_method_1_code 15 = .ok (.lload 4, 2) := by decide +kernel
theorem d1_17 : decode prog_1_method_1_code 17 = .ok (.putfield 17, 3) := by decide +kernel
theorem d1_20 : decode prog_1_method_1_code 20 = .ok (.return_, 1) := by decide +kernel
theorem pn_1 : plainName "com/example/nearpath/nearpath/Address" = true := by first | (simp [plainName, overriddenIn]; done) | decide +kernel
theorem ef_1 (m : MethodId) (x0 : Addr) (x1 : Addr) (x2 : Int64) (x3 : Int64) : entryFrame m #[(.ref x0), (.ref x1), (.long x2), (.long x3)] 6 = mkF m 0 #[.val (.ref x0), .val (.ref x1), .val (.long x2), .second, .val (.long x3), .second] [] := by first | (simp [entryFrame, mkF, argsToLocals, Value.category]; done) | rfl
def Q1 (Z : State) (a1 : Addr) (a2 : Addr) (q3 : Int64) (q4 : Int64)  (h0 : Heap) (n0 : Nat) (v : Option Value) (h : Heap) (L : List Loc) : Prop := v = none ∧ Fr n0 L ∧ Keep h0 h [a1] ∧ Fld Z h a1 "com/example/nearpath/nearpath/Address" "type" "Lcom/example/nearpath/nearpath/AddressType;" (.ref a2) ∧ Fld Z h a1 "com/example/nearpath/nearpath/Address" "high" "J" (.long q3) ∧ Fld Z h a1 "com/example/nearpath/nearpath/Address" "low" "J" (.long q4)
set_option maxRecDepth 65536 in
set_option maxHeartbeats 40000000 in
theorem rm1 (l : Launch) (Z : State) (a0 : Array Value) (hw : ∀ d ∈ tables_1, d.before a0 Z = true) (ws : List Jvm.Cond) (a1 : Addr) (a2 : Addr) (q3 : Int64) (q4 : Int64)  (h0 : Heap) (n0 : Nat) (Z0 : n0 ≤ h0.size) (E_a1 : Exa Z h0 a1 "com/example/nearpath/nearpath/Address") (g_a1 : n0 ≤ a1) (F_type_a1 : Fld Z h0 a1 "com/example/nearpath/nearpath/Address" "type" "Lcom/example/nearpath/nearpath/AddressType;" .null) (F_high_a1 : Fld Z h0 a1 "com/example/nearpath/nearpath/Address" "high" "J" (.long (0 : Int64))) (F_low_a1 : Fld Z h0 a1 "com/example/nearpath/nearpath/Address" "low" "J" (.long (0 : Int64))) :
    MetFree l (⟨"com/example/nearpath/nearpath/Address", "<init>", "(Lcom/example/nearpath/nearpath/AddressType;JJ)V"⟩ : MethodName) (head1 (Jvm.Cond.code (⟨"com/example/nearpath/nearpath/Address", "<init>", "(Lcom/example/nearpath/nearpath/AddressType;JJ)V"⟩ : MethodName) prog_1_method_1_code 6 none :: ws) ({ frames := 2, cells := 0, slots := 0, locals := 24 } : Room)) (fun a U => a = #[(.ref a1), (.ref a2), (.long q3), (.long q4)] ∧ Z.Warmed39 U.vm ∧ U.heap = h0) (fun _ _ _ _ _ => True) (fun _ U o U' => ∃ v L, o = .returned v ∧ Q1 Z a1 a2 q3 q4 h0 n0 v U'.heap L ∧ FrameEnd U o U' L ({ frames := 2, cells := 0, slots := 0, locals := 24 } : Room).cells ({ frames := 2, cells := 0, slots := 0, locals := 24 } : Room).slots) := by
  refine MetFree.of_bodySF (plainFor_of_name pn_1) hisR ?_
  intro p e s m args below meth c s₁ Bd hml0 hP hK
  obtain ⟨rfl, hZ, hh⟩ := hP
  have hx := Bd.exec
  have hby := Bd.bytes
  have hlk := Bd.notSynchronized
  have hml : c.maxLocals = 6 := hml0
  have hown : s.vm.findClass "com/example/nearpath/nearpath/Address" = some m.cls := findClass_of_methodNamed Bd.named
  have hnm := (name_of_methodNamed Bd.named Bd.method).1
  have X0 : Stand p l e ({ frames := 2, cells := 0, slots := 0, locals := 24 } : Room) s m #[(.ref a1), (.ref a2), (.long q3), (.long q4)] below meth c s₁ [] 0 0 := Stand.of_body Bd
  have e0 : s₁.heap = h0 := by rw [← hh, Bd.state]; rfl
  have N0 := Fr.nil n0
  have K0 : Keep h0 h0 [a1] := Keep.refl h0 _
  show OutW p e below s ({ frames := 2, cells := 0, slots := 0, locals := 24 } : Room).cells ({ frames := 2, cells := 0, slots := 0, locals := 24 } : Room).slots (Q1 Z a1 a2 q3 q4 h0 n0) _
  refine OutW.back (fun t k => castTop (ef_1 m a1 a2 q3 q4) k) ?_
  show OutW _ _ _ _ _ _ _ (s₁.setTop (mkF m 0 #[.val (.ref a1), .val (.ref a2), .val (.long q3), .second, .val (.long q4), .second] []))
  refine OutW.back (fun t k => XS.aloadN X0.here hx rfl (hb hby d1_0) rfl rfl  k) ?_
  show OutW _ _ _ _ _ _ _ (s₁.setTop (mkF m 1 #[.val (.ref a1), .val (.ref a2), .val (.long q3), .second, .val (.long q4), .second] [(.ref a1)]))
  obtain ⟨_, _, ⟨T1, L1, k1, n1⟩, -, X1, ⟨Lc1, hQ1, l1, y1, z1⟩, st1⟩ := X0.specialBack hx (y := (⟨"java/lang/Record", "<init>", "()V"⟩ : MethodName)) rfl hown (mvT hZ (hw _ (List.mem_of_getElem? (i := 10) rfl))) (mvT hZ (hw _ (List.mem_of_getElem? (i := 11) rfl))) (mvT hZ (hw _ (List.mem_of_getElem? (i := 14) rfl))) (by decide) (backOf (W := 0) (rm2 l Z a0 hw [] a1 h0 n0 Z0 ) hZ (hw _ (List.mem_of_getElem? (i := 14) rfl)) (hw _ (List.mem_of_getElem? (i := 13) rfl)) (by decide) (by decide)) (g := (mkF m 1 #[.val (.ref a1), .val (.ref a2), .val (.long q3), .second, .val (.long q4), .second] [(.ref a1)])) rfl (by rw [hml]; rfl) (Steps.refl _) (a := a1) (argsL := []) (rest := []) (lenOf pd_0 rfl) rfl (by show 2 * 0 + _ ≤ _; exact Nat.le_of_eq rfl) (hb hby d1_1) (fun _ _ => ⟨rfl, e0, (by decide : 0 + 0 ≤ _), (by decide : 0 + 0 ≤ _)⟩)
  dsimp only [Pt.U, Pt.locs, Pt.cells, Pt.slots] at X1 l1 y1 z1 st1 hQ1
  subst l1 y1 z1
  obtain ⟨rfl, Nq1, e1⟩ := hQ1
  have N1 := Fr.app N0 Nq1
  refine OutW.via st1 ?_
  show OutW _ _ _ _ _ _ _ (T1.setTop (mkF m 4 #[.val (.ref a1), .val (.ref a2), .val (.long q3), .second, .val (.long q4), .second] []))
  refine OutW.back (fun t k => XS.aloadN X1.here hx rfl (hb hby d1_4) rfl rfl  k) ?_
  show OutW _ _ _ _ _ _ _ (T1.setTop (mkF m 5 #[.val (.ref a1), .val (.ref a2), .val (.long q3), .second, .val (.long q4), .second] [(.ref a1)]))
  refine OutW.back (fun t k => XS.aloadN X1.here hx rfl (hb hby d1_5) rfl rfl  k) ?_
  show OutW _ _ _ _ _ _ _ (T1.setTop (mkF m 6 #[.val (.ref a1), .val (.ref a2), .val (.long q3), .second, .val (.long q4), .second] [(.ref a2), (.ref a1)]))
  obtain ⟨T2, h2, X2, e2, W2, st2⟩ := putF X1 hx hZ hown (host := "") (Or.inl (hw _ (List.mem_of_getElem? (i := 18) rfl))) Via.refl e1 F_type_a1 E_a1 (Or.inr ⟨(hw _ (List.mem_of_getElem? (i := 19) rfl)), rfl, hnm⟩) (hw _ (List.mem_of_getElem? (i := 5) rfl)) (ty := (.object "com/example/nearpath/nearpath/AddressType")) (by decide) rfl rfl (g := (mkF m 6 #[.val (.ref a1), .val (.ref a2), .val (.long q3), .second, .val (.long q4), .second] [(.ref a2), (.ref a1)])) rfl rfl (hb hby d1_6)
  have E_a1 := E_a1.wr W2
  have F_type_a1 := F_type_a1.same W2
  have F_high_a1 := F_high_a1.other W2 (Or.inr (slot_ne (Or.inr (hw _ (List.mem_of_getElem? (i := 21) rfl))) (Or.inr (hw _ (List.mem_of_getElem? (i := 19) rfl))) (by decide) (t := .long) (t' := (.object "com/example/nearpath/nearpath/AddressType")) (by decide) (by decide)))
  have F_low_a1 := F_low_a1.other W2 (Or.inr (slot_ne (Or.inr (hw _ (List.mem_of_getElem? (i := 23) rfl))) (Or.inr (hw _ (List.mem_of_getElem? (i := 19) rfl))) (by decide) (t := .long) (t' := (.object "com/example/nearpath/nearpath/AddressType")) (by decide) (by decide)))
  have N2 := Fr.snoc X2 N1 g_a1
  have Z2 : n0 ≤ h2.size := Nat.le_trans Z0 (Keep.of_wr W2).1
  have K2 := K0.wr W2 (Or.inl (List.mem_of_getElem? (i := 0) rfl))
  refine OutW.back st2 ?_
  show OutW _ _ _ _ _ _ _ (T2.setTop (mkF m 9 #[.val (.ref a1), .val (.ref a2), .val (.long q3), .second, .val (.long q4), .second] []))
  refine OutW.back (fun t k => XS.aloadN X2.here hx rfl (hb hby d1_9) rfl rfl  k) ?_
  show OutW _ _ _ _ _ _ _ (T2.setTop (mkF m 10 #[.val (.ref a1), .val (.ref a2), .val (.long q3), .second, .val (.long q4), .second] [(.ref a1)]))
  refine OutW.back (fun t k => XS.lloadN X2.here hx rfl (hb hby d1_10) rfl  k) ?_
  show OutW _ _ _ _ _ _ _ (T2.setTop (mkF m 11 #[.val (.ref a1), .val (.ref a2), .val (.long q3), .second, .val (.long q4), .second] [(.long q3), (.ref a1)]))
  obtain ⟨T3, h3, X3, e3, W3, st3⟩ := putF X2 hx hZ hown (host := "") (Or.inl (hw _ (List.mem_of_getElem? (i := 20) rfl))) Via.refl e2 F_high_a1 E_a1 (Or.inr ⟨(hw _ (List.mem_of_getElem? (i := 21) rfl)), rfl, hnm⟩) (hw _ (List.mem_of_getElem? (i := 5) rfl)) (ty := .long) (by decide) rfl rfl (g := (mkF m 11 #[.val (.ref a1), .val (.ref a2), .val (.long q3), .second, .val (.long q4), .second] [(.long q3), (.ref a1)])) rfl rfl (hb hby d1_11)
  have E_a1 := E_a1.wr W3
  have F_type_a1 := F_type_a1.other W3 (Or.inr (slot_ne (Or.inr (hw _ (List.mem_of_getElem? (i := 19) rfl))) (Or.inr (hw _ (List.mem_of_getElem? (i := 21) rfl))) (by decide) (t := (.object "com/example/nearpath/nearpath/AddressType")) (t' := .long) (by decide) (by decide)))
  have F_high_a1 := F_high_a1.same W3
  have F_low_a1 := F_low_a1.other W3 (Or.inr (slot_ne (Or.inr (hw _ (List.mem_of_getElem? (i := 23) rfl))) (Or.inr (hw _ (List.mem_of_getElem? (i := 21) rfl))) (by decide) (t := .long) (t' := .long) (by decide) (by decide)))
  have N3 := Fr.snoc X3 N2 g_a1
  have Z3 : n0 ≤ h3.size := Nat.le_trans Z2 (Keep.of_wr W3).1
  have K3 := K2.wr W3 (Or.inl (List.mem_of_getElem? (i := 0) rfl))
  refine OutW.back st3 ?_
  show OutW _ _ _ _ _ _ _ (T3.setTop (mkF m 14 #[.val (.ref a1), .val (.ref a2), .val (.long q3), .second, .val (.long q4), .second] []))
  refine OutW.back (fun t k => XS.aloadN X3.here hx rfl (hb hby d1_14) rfl rfl  k) ?_
  show OutW _ _ _ _ _ _ _ (T3.setTop (mkF m 15 #[.val (.ref a1), .val (.ref a2), .val (.long q3), .second, .val (.long q4), .second] [(.ref a1)]))
  refine OutW.back (fun t k => XS.lload X3.here hx rfl (hb hby d1_15) rfl  k) ?_
  show OutW _ _ _ _ _ _ _ (T3.setTop (mkF m 17 #[.val (.ref a1), .val (.ref a2), .val (.long q3), .second, .val (.long q4), .second] [(.long q4), (.ref a1)]))
  obtain ⟨T4, h4, X4, e4, W4, st4⟩ := putF X3 hx hZ hown (host := "") (Or.inl (hw _ (List.mem_of_getElem? (i := 22) rfl))) Via.refl e3 F_low_a1 E_a1 (Or.inr ⟨(hw _ (List.mem_of_getElem? (i := 23) rfl)), rfl, hnm⟩) (hw _ (List.mem_of_getElem? (i := 5) rfl)) (ty := .long) (by decide) rfl rfl (g := (mkF m 17 #[.val (.ref a1), .val (.ref a2), .val (.long q3), .second, .val (.long q4), .second] [(.long q4), (.ref a1)])) rfl rfl (hb hby d1_17)
  have E_a1 := E_a1.wr W4
  have F_type_a1 := F_type_a1.other W4 (Or.inr (slot_ne (Or.inr (hw _ (List.mem_of_getElem? (i := 19) rfl))) (Or.inr (hw _ (List.mem_of_getElem? (i := 23) rfl))) (by decide) (t := (.object "com/example/nearpath/nearpath/AddressType")) (t' := .long) (by decide) (by decide)))
  have F_high_a1 := F_high_a1.other W4 (Or.inr (slot_ne (Or.inr (hw _ (List.mem_of_getElem? (i := 21) rfl))) (Or.inr (hw _ (List.mem_of_getElem? (i := 23) rfl))) (by decide) (t := .long) (t' := .long) (by decide) (by decide)))
  have F_low_a1 := F_low_a1.same W4
  have N4 := Fr.snoc X4 N3 g_a1
  have Z4 : n0 ≤ h4.size := Nat.le_trans Z3 (Keep.of_wr W4).1
  have K4 := K3.wr W4 (Or.inl (List.mem_of_getElem? (i := 0) rfl))
  refine OutW.back st4 ?_
  show OutW _ _ _ _ _ _ _ (T4.setTop (mkF m 20 #[.val (.ref a1), .val (.ref a2), .val (.long q3), .second, .val (.long q4), .second] []))
  refine OutW.retV X4 hx Bd.returns hlk (hb hby d1_20) (by decide) (by decide) ?_
  show Q1 Z a1 a2 q3 q4 h0 n0 _ T4.heap _
  rw [e4]
  exact ⟨rfl, N4, K4, F_type_a1, F_high_a1, F_low_a1⟩
def highM_0 (p1 : Int32) : Int64 := (if p1 = (0 : Int32) then (0 : Int64) else (if p1 < (64 : Int32) then ((-1 : Int64) <<< (((64 : Int32) - p1) &&& 0x3f).toInt64) else (-1 : Int64)))
theorem d5_0 : decode prog_1_method_9_code 0 = .ok (.iload_n 0, 1) := by decide +kernel
theorem d5_1 : decode prog_1_method_9_code 1 = .ok (.ifCond .ne 8, 3) := by decide +kernel
theorem d5_4 : decode prog_1_method_9_code 4 = .ok (.lconst 0, 1) := by decide +kernel
theorem d5_5 : decode prog_1_method_9_code 5 = .ok (.lstore_n 1, 1) := by decide +kernel
theorem d5_6 : decode prog_1_method_9_code 6 = .ok (.goto 25, 3) := by decide +kernel
theorem d5_9 : decode prog_1_method_9_code 9 = .ok (.iload_n 0, 1) := by decide +kernel
theorem d5_10 : decode prog_1_method_9_code 10 = .ok (.bipush 64, 2) := by decide +kernel
theorem d5_12 : decode prog_1_method_9_code 12 = .ok (.if_icmp .ge 15, 3) := by decide +kernel
theorem d5_15 : decode prog_1_method_9_code 15 = .ok (.ldc2_w 112, 3) := by decide +kernel
theorem d5_18 : decode prog_1_method_9_code 18 = .ok (.bipush 64, 2) := by decide +kernel
theorem d5_20 : decode prog_1_method_9_code 20 = .ok (.iload_n 0, 1) := by decide +kernel
theorem d5_21 : decode prog_1_method_9_code 21 = .ok (.isub, 1) := by decide +kernel
theorem d5_22 : decode prog_1_method_9_code 22 = .ok (.lshl, 1) := by decide +kernel
theorem d5_23 : decode prog_1_method_9_code 23 = .ok (.lstore_n 1, 1) := by decide +kernel
theorem d5_24 : decode prog_1_method_9_code 24 = .ok (.goto 7, 3) := by decide +kernel
theorem d5_27 : decode prog_1_method_9_code 27 = .ok (.ldc2_w 112, 3) := by decide +kernel
theorem d5_30 : decode prog_1_method_9_code 30 = .ok (.lstore_n 1, 1) := by decide +kernel
theorem d5_31 : decode prog_1_method_9_code 31 = .ok (.lload_n 1, 1) := by decide +kernel
theorem d5_32 : decode prog_1_method_9_code 32 = .ok (.lreturn, 1) := by decide +kernel
theorem pn_5 : plainName "com/example/nearpath/nearpath/Address" = true := by first | (simp [plainName, overriddenIn]; done) | decide +kernel
theorem ef_5 (m : MethodId) (x0 : Int32) : entryFrame m #[(.int x0)] 3 = mkF m 0 #[.val (.int x0), .unset, .unset] [] := by first | (simp [entryFrame, mkF, argsToLocals, Value.category]; done) | rfl
def Q5 (Z : State) (p1 : Int32)  (h0 : Heap) (n0 : Nat) (v : Option Value) (h : Heap) (L : List Loc) : Prop := v = some (.long (highM_0 p1)) ∧ Fr n0 L ∧ h = h0
set_option maxRecDepth 65536 in
set_option maxHeartbeats 40000000 in
theorem rm5 (l : Launch) (Z : State) (a0 : Array Value) (hw : ∀ d ∈ tables_1, d.before a0 Z = true) (ws : List Jvm.Cond) (p1 : Int32)  (h0 : Heap) (n0 : Nat) (Z0 : n0 ≤ h0.size) :
    MetFree l (⟨"com/example/nearpath/nearpath/Address", "highMask", "(I)J"⟩ : MethodName) (head1 (Jvm.Cond.code (⟨"com/example/nearpath/nearpath/Address", "highMask", "(I)J"⟩ : MethodName) prog_1_method_9_code 3 (some .long) :: ws) ({ frames := 0, cells := 0, slots := 0, locals := 0 } : Room)) (fun a U => a = #[(.int p1)] ∧ Z.Warmed39 U.vm ∧ U.heap = h0) (fun _ _ _ _ _ => True) (fun _ U o U' => ∃ v L, o = .returned v ∧ Q5 Z p1 h0 n0 v U'.heap L ∧ FrameEnd U o U' L ({ frames := 0, cells := 0, slots := 0, locals := 0 } : Room).cells ({ frames := 0, cells := 0, slots := 0, locals := 0 } : Room).slots) := by
  refine MetFree.of_bodySF (plainFor_of_name pn_5) hisR ?_
  intro p e s m args below meth c s₁ Bd hml0 hP hK
  obtain ⟨rfl, hZ, hh⟩ := hP
  have hx := Bd.exec
  have hby := Bd.bytes
  have hlk := Bd.notSynchronized
  have hml : c.maxLocals = 3 := hml0
  have hown : s.vm.findClass "com/example/nearpath/nearpath/Address" = some m.cls := findClass_of_methodNamed Bd.named
  have hnm := (name_of_methodNamed Bd.named Bd.method).1
  have X0 : Stand p l e ({ frames := 0, cells := 0, slots := 0, locals := 0 } : Room) s m #[(.int p1)] below meth c s₁ [] 0 0 := Stand.of_body Bd
  have e0 : s₁.heap = h0 := by rw [← hh, Bd.state]; rfl
  have N0 := Fr.nil n0
  have K0 : Keep h0 h0 [] := Keep.refl h0 _
  show OutW p e below s ({ frames := 0, cells := 0, slots := 0, locals := 0 } : Room).cells ({ frames := 0, cells := 0, slots := 0, locals := 0 } : Room).slots (Q5 Z p1 h0 n0) _
  refine OutW.back (fun t k => castTop (ef_5 m p1) k) ?_
  show OutW _ _ _ _ _ _ _ (s₁.setTop (mkF m 0 #[.val (.int p1), .unset, .unset] []))
  refine OutW.back (fun t k => XS.iloadN X0.here hx rfl (hb hby d5_0) rfl  k) ?_
  show OutW _ _ _ _ _ _ _ (s₁.setTop (mkF m 1 #[.val (.int p1), .unset, .unset] [(.int p1)]))
  by_cases c1_1 : p1 = (0 : Int32)
  · skip
    refine OutW.back (fun t k => XS.ifNo X0.here hx rfl (hb hby d5_1) rfl ((if0 _ _).trans (teq c1_1).2) k) ?_
    show OutW _ _ _ _ _ _ _ (s₁.setTop (mkF m 4 #[.val (.int p1), .unset, .unset] []))
    refine OutW.back (fun t k => XS.lconst X0.here hx rfl (hb hby d5_4) k) ?_
    show OutW _ _ _ _ _ _ _ (s₁.setTop (mkF m 5 #[.val (.int p1), .unset, .unset] [(.long (0 : Int64))]))
    refine OutW.back (fun t k => XS.lstoreN X0.here hx rfl (hb hby d5_5) rfl (l' := #[.val (.int p1), .val (.long (0 : Int64)), .second]) rfl k) ?_
    show OutW _ _ _ _ _ _ _ (s₁.setTop (mkF m 6 #[.val (.int p1), .val (.long (0 : Int64)), .second] []))
    refine OutW.back (fun t k => XS.goto X0.here hx rfl (pc0 := 6) (pc' := 31) rfl (hb hby d5_6) (by decide) (by decide) k) ?_
    show OutW _ _ _ _ _ _ _ (s₁.setTop (mkF m 31 #[.val (.int p1), .val (.long (0 : Int64)), .second] []))
    refine OutW.back (fun t k => XS.lloadN X0.here hx rfl (hb hby d5_31) rfl  k) ?_
    show OutW _ _ _ _ _ _ _ (s₁.setTop (mkF m 32 #[.val (.int p1), .val (.long (0 : Int64)), .second] [(.long (0 : Int64))]))
    refine OutW.retJ X0 hx Bd.returns hlk (hb hby d5_32) (by decide) (by decide) ?_
    show Q5 Z p1 h0 n0 _ s₁.heap _
    rw [e0]
    exact ⟨by rw [highM_0, if_pos c1_1], N0, rfl⟩
  · skip
    refine OutW.back (fun t k => XS.ifYes X0.here hx rfl (pc0 := 1) (pc' := 9) rfl (hb hby d5_1) rfl ((if0 _ _).trans (feq c1_1).2) (by decide) (by decide) k) ?_
    show OutW _ _ _ _ _ _ _ (s₁.setTop (mkF m 9 #[.val (.int p1), .unset, .unset] []))
    refine OutW.back (fun t k => XS.iloadN X0.here hx rfl (hb hby d5_9) rfl  k) ?_
    show OutW _ _ _ _ _ _ _ (s₁.setTop (mkF m 10 #[.val (.int p1), .unset, .unset] [(.int p1)]))
    refine OutW.back (fun t k => XS.bipush X0.here hx rfl (hb hby d5_10) k) ?_
    show OutW _ _ _ _ _ _ _ (s₁.setTop (mkF m 12 #[.val (.int p1), .unset, .unset] [(.int (64 : Int32)), (.int p1)]))
    by_cases c12_2 : p1 < (64 : Int32)
    · skip
      refine OutW.back (fun t k => XS.icmpNo X0.here hx rfl (hb hby d5_12) rfl (tlt c12_2).2.1 k) ?_
      show OutW _ _ _ _ _ _ _ (s₁.setTop (mkF m 15 #[.val (.int p1), .unset, .unset] []))
      refine OutW.back (X0.ldc2Long hx hown (mvT hZ (hw _ (List.mem_of_getElem? (i := 58) rfl))) (g := (mkF m 15 #[.val (.int p1), .unset, .unset] [])) rfl (hb hby d5_15)) ?_
      show OutW _ _ _ _ _ _ _ (s₁.setTop (mkF m 18 #[.val (.int p1), .unset, .unset] [(.long (-1 : Int64))]))
      refine OutW.back (fun t k => XS.bipush X0.here hx rfl (hb hby d5_18) k) ?_
      show OutW _ _ _ _ _ _ _ (s₁.setTop (mkF m 20 #[.val (.int p1), .unset, .unset] [(.int (64 : Int32)), (.long (-1 : Int64))]))
      refine OutW.back (fun t k => XS.iloadN X0.here hx rfl (hb hby d5_20) rfl  k) ?_
      show OutW _ _ _ _ _ _ _ (s₁.setTop (mkF m 21 #[.val (.int p1), .unset, .unset] [(.int p1), (.int (64 : Int32)), (.long (-1 : Int64))]))
      refine OutW.back (fun t k => XS.isub X0.here hx rfl (hb hby d5_21) rfl k) ?_
      show OutW _ _ _ _ _ _ _ (s₁.setTop (mkF m 22 #[.val (.int p1), .unset, .unset] [(.int ((64 : Int32) - p1)), (.long (-1 : Int64))]))
      refine OutW.back (fun t k => XS.lshl X0.here hx rfl (hb hby d5_22) rfl k) ?_
      show OutW _ _ _ _ _ _ _ (s₁.setTop (mkF m 23 #[.val (.int p1), .unset, .unset] [(.long ((-1 : Int64) <<< (((64 : Int32) - p1) &&& 0x3f).toInt64))]))
      refine OutW.back (fun t k => XS.lstoreN X0.here hx rfl (hb hby d5_23) rfl (l' := #[.val (.int p1), .val (.long ((-1 : Int64) <<< (((64 : Int32) - p1) &&& 0x3f).toInt64)), .second]) rfl k) ?_
      show OutW _ _ _ _ _ _ _ (s₁.setTop (mkF m 24 #[.val (.int p1), .val (.long ((-1 : Int64) <<< (((64 : Int32) - p1) &&& 0x3f).toInt64)), .second] []))
      refine OutW.back (fun t k => XS.goto X0.here hx rfl (pc0 := 24) (pc' := 31) rfl (hb hby d5_24) (by decide) (by decide) k) ?_
      show OutW _ _ _ _ _ _ _ (s₁.setTop (mkF m 31 #[.val (.int p1), .val (.long ((-1 : Int64) <<< (((64 : Int32) - p1) &&& 0x3f).toInt64)), .second] []))
      refine OutW.back (fun t k => XS.lloadN X0.here hx rfl (hb hby d5_31) rfl  k) ?_
      show OutW _ _ _ _ _ _ _ (s₁.setTop (mkF m 32 #[.val (.int p1), .val (.long ((-1 : Int64) <<< (((64 : Int32) - p1) &&& 0x3f).toInt64)), .second] [(.long ((-1 : Int64) <<< (((64 : Int32) - p1) &&& 0x3f).toInt64))]))
      refine OutW.retJ X0 hx Bd.returns hlk (hb hby d5_32) (by decide) (by decide) ?_
      show Q5 Z p1 h0 n0 _ s₁.heap _
      rw [e0]
      exact ⟨by rw [highM_0, if_neg c1_1, if_pos c12_2], N0, rfl⟩
    · skip
      refine OutW.back (fun t k => XS.icmpYes X0.here hx rfl (pc0 := 12) (pc' := 27) rfl (hb hby d5_12) rfl (flt c12_2).2.1 (by decide) (by decide) k) ?_
      show OutW _ _ _ _ _ _ _ (s₁.setTop (mkF m 27 #[.val (.int p1), .unset, .unset] []))
      refine OutW.back (X0.ldc2Long hx hown (mvT hZ (hw _ (List.mem_of_getElem? (i := 58) rfl))) (g := (mkF m 27 #[.val (.int p1), .unset, .unset] [])) rfl (hb hby d5_27)) ?_
      show OutW _ _ _ _ _ _ _ (s₁.setTop (mkF m 30 #[.val (.int p1), .unset, .unset] [(.long (-1 : Int64))]))
      refine OutW.back (fun t k => XS.lstoreN X0.here hx rfl (hb hby d5_30) rfl (l' := #[.val (.int p1), .val (.long (-1 : Int64)), .second]) rfl k) ?_
      show OutW _ _ _ _ _ _ _ (s₁.setTop (mkF m 31 #[.val (.int p1), .val (.long (-1 : Int64)), .second] []))
      refine OutW.back (fun t k => XS.lloadN X0.here hx rfl (hb hby d5_31) rfl  k) ?_
      show OutW _ _ _ _ _ _ _ (s₁.setTop (mkF m 32 #[.val (.int p1), .val (.long (-1 : Int64)), .second] [(.long (-1 : Int64))]))
      refine OutW.retJ X0 hx Bd.returns hlk (hb hby d5_32) (by decide) (by decide) ?_
      show Q5 Z p1 h0 n0 _ s₁.heap _
      rw [e0]
      exact ⟨by rw [highM_0, if_neg c1_1, if_neg c12_2], N0, rfl⟩
def lowM_0 (p1 : Int32) : Int64 := (if (64 : Int32) < p1 then ((-1 : Int64) <<< (((128 : Int32) - p1) &&& 0x3f).toInt64) else (0 : Int64))
theorem d6_0 : decode prog_1_method_10_code 0 = .ok (.iload_n 0, 1) := by decide +kernel
theorem d6_1 : decode prog_1_method_10_code 1 = .ok (.bipush 64, 2) := by decide +kernel
theorem d6_3 : decode prog_1_method_10_code 3 = .ok (.if_icmp .gt 7, 3) := by decide +kernel
theorem d6_6 : decode prog_1_method_10_code 6 = .ok (.lconst 0, 1) := by decide +kernel
theorem d6_7 : decode prog_1_method_10_code 7 = .ok (.goto 12, 3) := by decide +kernel
theorem d6_10 : decode prog_1_method_10_code 10 = .ok (.ldc2_w 112, 3) := by decide +kernel
theorem d6_13 : decode prog_1_method_10_code 13 = .ok (.sipush 128, 3) := by decide +kernel
theorem d6_16 : decode prog_1_method_10_code 16 = .ok (.iload_n 0, 1) := by decide +kernel
theorem d6_17 : decode prog_1_method_10_code 17 = .ok (.isub, 1) := by decide +kernel
theorem d6_18 : decode prog_1_method_10_code 18 = .ok (.lshl, 1) := by decide +kernel
theorem d6_19 : decode prog_1_method_10_code 19 = .ok (.lreturn, 1) := by decide +kernel
theorem pn_6 : plainName "com/example/nearpath/nearpath/Address" = true := by first | (simp [plainName, overriddenIn]; done) | decide +kernel
theorem ef_6 (m : MethodId) (x0 : Int32) : entryFrame m #[(.int x0)] 1 = mkF m 0 #[.val (.int x0)] [] := by first | (simp [entryFrame, mkF, argsToLocals, Value.category]; done) | rfl
def Q6 (Z : State) (p1 : Int32)  (h0 : Heap) (n0 : Nat) (v : Option Value) (h : Heap) (L : List Loc) : Prop := v = some (.long (lowM_0 p1)) ∧ Fr n0 L ∧ h = h0
set_option maxRecDepth 65536 in
set_option maxHeartbeats 40000000 in
theorem rm6 (l : Launch) (Z : State) (a0 : Array Value) (hw : ∀ d ∈ tables_1, d.before a0 Z = true) (ws : List Jvm.Cond) (p1 : Int32)  (h0 : Heap) (n0 : Nat) (Z0 : n0 ≤ h0.size) :
    MetFree l (⟨"com/example/nearpath/nearpath/Address", "lowMask", "(I)J"⟩ : MethodName) (head1 (Jvm.Cond.code (⟨"com/example/nearpath/nearpath/Address", "lowMask", "(I)J"⟩ : MethodName) prog_1_method_10_code 1 (some .long) :: ws) ({ frames := 0, cells := 0, slots := 0, locals := 0 } : Room)) (fun a U => a = #[(.int p1)] ∧ Z.Warmed39 U.vm ∧ U.heap = h0) (fun _ _ _ _ _ => True) (fun _ U o U' => ∃ v L, o = .returned v ∧ Q6 Z p1 h0 n0 v U'.heap L ∧ FrameEnd U o U' L ({ frames := 0, cells := 0, slots := 0, locals := 0 } : Room).cells ({ frames := 0, cells := 0, slots := 0, locals := 0 } : Room).slots) := by
  refine MetFree.of_bodySF (plainFor_of_name pn_6) hisR ?_
  intro p e s m args below meth c s₁ Bd hml0 hP hK
  obtain ⟨rfl, hZ, hh⟩ := hP
  have hx := Bd.exec
  have hby := Bd.bytes
  have hlk := Bd.notSynchronized
  have hml : c.maxLocals = 1 := hml0
  have hown : s.vm.findClass "com/example/nearpath/nearpath/Address" = some m.cls := findClass_of_methodNamed Bd.named
  have hnm := (name_of_methodNamed Bd.named Bd.method).1
  have X0 : Stand p l e ({ frames := 0, cells := 0, slots := 0, locals := 0 } : Room) s m #[(.int p1)] below meth c s₁ [] 0 0 := Stand.of_body Bd
  have e0 : s₁.heap = h0 := by rw [← hh, Bd.state]; rfl
  have N0 := Fr.nil n0
  have K0 : Keep h0 h0 [] := Keep.refl h0 _
  show OutW p e below s ({ frames := 0, cells := 0, slots := 0, locals := 0 } : Room).cells ({ frames := 0, cells := 0, slots := 0, locals := 0 } : Room).slots (Q6 Z p1 h0 n0) _
  refine OutW.back (fun t k => castTop (ef_6 m p1) k) ?_
  show OutW _ _ _ _ _ _ _ (s₁.setTop (mkF m 0 #[.val (.int p1)] []))
  refine OutW.back (fun t k => XS.iloadN X0.here hx rfl (hb hby d6_0) rfl  k) ?_
  show OutW _ _ _ _ _ _ _ (s₁.setTop (mkF m 1 #[.val (.int p1)] [(.int p1)]))
  refine OutW.back (fun t k => XS.bipush X0.here hx rfl (hb hby d6_1) k) ?_
  show OutW _ _ _ _ _ _ _ (s₁.setTop (mkF m 3 #[.val (.int p1)] [(.int (64 : Int32)), (.int p1)]))
  by_cases c3_1 : (64 : Int32) < p1
  · skip
    refine OutW.back (fun t k => XS.icmpYes X0.here hx rfl (pc0 := 3) (pc' := 10) rfl (hb hby d6_3) rfl (tlt c3_1).2.2.1 (by decide) (by decide) k) ?_
    show OutW _ _ _ _ _ _ _ (s₁.setTop (mkF m 10 #[.val (.int p1)] []))
    refine OutW.back (X0.ldc2Long hx hown (mvT hZ (hw _ (List.mem_of_getElem? (i := 58) rfl))) (g := (mkF m 10 #[.val (.int p1)] [])) rfl (hb hby d6_10)) ?_
    show OutW _ _ _ _ _ _ _ (s₁.setTop (mkF m 13 #[.val (.int p1)] [(.long (-1 : Int64))]))
    refine OutW.back (fun t k => XS.sipush X0.here hx rfl (hb hby d6_13) k) ?_
    show OutW _ _ _ _ _ _ _ (s₁.setTop (mkF m 16 #[.val (.int p1)] [(.int (128 : Int32)), (.long (-1 : Int64))]))
    refine OutW.back (fun t k => XS.iloadN X0.here hx rfl (hb hby d6_16) rfl  k) ?_
    show OutW _ _ _ _ _ _ _ (s₁.setTop (mkF m 17 #[.val (.int p1)] [(.int p1), (.int (128 : Int32)), (.long (-1 : Int64))]))
    refine OutW.back (fun t k => XS.isub X0.here hx rfl (hb hby d6_17) rfl k) ?_
    show OutW _ _ _ _ _ _ _ (s₁.setTop (mkF m 18 #[.val (.int p1)] [(.int ((128 : Int32) - p1)), (.long (-1 : Int64))]))
    refine OutW.back (fun t k => XS.lshl X0.here hx rfl (hb hby d6_18) rfl k) ?_
    show OutW _ _ _ _ _ _ _ (s₁.setTop (mkF m 19 #[.val (.int p1)] [(.long ((-1 : Int64) <<< (((128 : Int32) - p1) &&& 0x3f).toInt64))]))
    refine OutW.retJ X0 hx Bd.returns hlk (hb hby d6_19) (by decide) (by decide) ?_
    show Q6 Z p1 h0 n0 _ s₁.heap _
    rw [e0]
    exact ⟨by rw [lowM_0, if_pos c3_1], N0, rfl⟩
  · skip
    refine OutW.back (fun t k => XS.icmpNo X0.here hx rfl (hb hby d6_3) rfl (flt c3_1).2.2.1 k) ?_
    show OutW _ _ _ _ _ _ _ (s₁.setTop (mkF m 6 #[.val (.int p1)] []))
    refine OutW.back (fun t k => XS.lconst X0.here hx rfl (hb hby d6_6) k) ?_
    show OutW _ _ _ _ _ _ _ (s₁.setTop (mkF m 7 #[.val (.int p1)] [(.long (0 : Int64))]))
    refine OutW.back (fun t k => XS.goto X0.here hx rfl (pc0 := 7) (pc' := 19) rfl (hb hby d6_7) (by decide) (by decide) k) ?_
    show OutW _ _ _ _ _ _ _ (s₁.setTop (mkF m 19 #[.val (.int p1)] [(.long (0 : Int64))]))
    refine OutW.retJ X0 hx Bd.returns hlk (hb hby d6_19) (by decide) (by decide) ?_
    show Q6 Z p1 h0 n0 _ s₁.heap _
    rw [e0]
    exact ⟨by rw [lowM_0, if_neg c3_1], N0, rfl⟩
def bitF_0 (q1 : Int64) (q2 : Int64) (p3 : Int32) : Int64 := (if p3 < (64 : Int32) then (((q1.toUInt64 >>> (((63 : Int32) - p3) &&& 0x3f).toInt64.toUInt64).toInt64) &&& (1 : Int64)) else (((q2.toUInt64 >>> (((127 : Int32) - p3) &&& 0x3f).toInt64.toUInt64).toInt64) &&& (1 : Int64)))
theorem d8_0 : decode method_2_code 0 = .ok (.iload 4, 2) := by decide +kernel
theorem d8_2 : decode method_2_code 2 = .ok (.bipush 64, 2) := by decide +kernel
theorem d8_4 : decode method_2_code 4 = .ok (.if_icmp .ge 13, 3) := by decide +kernel
theorem d8_7 : decode method_2_code 7 = .ok (.lload_n 0, 1) := by decide +kernel
theorem d8_8 : decode method_2_code 8 = .ok (.bipush 63, 2) := by decide +kernel
theorem d8_10 : decode method_2_code 10 = .ok (.iload 4, 2) := by decide +kernel
theorem d8_12 : decode method_2_code 12 = .ok (.isub, 1) := by decide +kernel
theorem d8_13 : decode method_2_code 13 = .ok (.lushr, 1) := by decide +kernel
theorem d8_14 : decode method_2_code 14 = .ok (.lconst 1, 1) := by decide +kernel
theorem d8_15 : decode method_2_code 15 = .ok (.land, 1) := by decide +kernel
theorem d8_16 : decode method_2_code 16 = .ok (.lreturn, 1) := by decide +kernel
theorem d8_17 : decode method_2_code 17 = .ok (.lload_n 2, 1) := by decide +kernel
theorem d8_18 : decode method_2_code 18 = .ok (.bipush 127, 2) := by decide +kernel
theorem d8_20 : decode method_2_code 20 = .ok (.iload 4, 2) := by decide +kernel
theorem d8_22 : decode method_2_code 22 = .ok (.isub, 1) := by decide +kernel
theorem d8_23 : decode method_2_code 23 = .ok (.lushr, 1) := by decide +kernel
theorem d8_24 : decode method_2_code 24 = .ok (.lconst 1, 1) := by decide +kernel
theorem d8_25 : decode method_2_code 25 = .ok (.land, 1) := by decide +kernel
theorem d8_26 : decode method_2_code 26 = .ok (.lreturn, 1) := by decide +kernel
theorem pn_8 : plainName "com/example/nearpath/nearpath/AddressMaskedPinLaw" = true := by first | (simp [plainName, overriddenIn]; done) | decide +kernel
theorem ef_8 (m : MethodId) (x0 : Int64) (x1 : Int64) (x2 : Int32) : entryFrame m #[(.long x0), (.long x1), (.int x2)] 5 = mkF m 0 #[.val (.long x0), .second, .val (.long x1), .second, .val (.int x2)] [] := by first | (simp [entryFrame, mkF, argsToLocals, Value.category]; done) | rfl
def Q8 (Z : State) (q1 : Int64) (q2 : Int64) (p3 : Int32)  (h0 : Heap) (n0 : Nat) (v : Option Value) (h : Heap) (L : List Loc) : Prop := v = some (.long (bitF_0 q1 q2 p3)) ∧ Fr n0 L ∧ h = h0
set_option maxRecDepth 65536 in
set_option maxHeartbeats 40000000 in
theorem rm8 (l : Launch) (Z : State) (a0 : Array Value) (hw : ∀ d ∈ tables_1, d.before a0 Z = true) (ws : List Jvm.Cond) (q1 : Int64) (q2 : Int64) (p3 : Int32)  (h0 : Heap) (n0 : Nat) (Z0 : n0 ≤ h0.size) :
    MetFree l (⟨"com/example/nearpath/nearpath/AddressMaskedPinLaw", "bit", "(JJI)J"⟩ : MethodName) (head1 (Jvm.Cond.code (⟨"com/example/nearpath/nearpath/AddressMaskedPinLaw", "bit", "(JJI)J"⟩ : MethodName) method_2_code 5 (some .long) :: ws) ({ frames := 0, cells := 0, slots := 0, locals := 0 } : Room)) (fun a U => a = #[(.long q1), (.long q2), (.int p3)] ∧ Z.Warmed39 U.vm ∧ U.heap = h0) (fun _ _ _ _ _ => True) (fun _ U o U' => ∃ v L, o = .returned v ∧ Q8 Z q1 q2 p3 h0 n0 v U'.heap L ∧ FrameEnd U o U' L ({ frames := 0, cells := 0, slots := 0, locals := 0 } : Room).cells ({ frames := 0, cells := 0, slots := 0, locals := 0 } : Room).slots) := by
  refine MetFree.of_bodySF (plainFor_of_name pn_8) hisR ?_
  intro p e s m args below meth c s₁ Bd hml0 hP hK
  obtain ⟨rfl, hZ, hh⟩ := hP
  have hx := Bd.exec
  have hby := Bd.bytes
  have hlk := Bd.notSynchronized
  have hml : c.maxLocals = 5 := hml0
  have hown : s.vm.findClass "com/example/nearpath/nearpath/AddressMaskedPinLaw" = some m.cls := findClass_of_methodNamed Bd.named
  have hnm := (name_of_methodNamed Bd.named Bd.method).1
  have X0 : Stand p l e ({ frames := 0, cells := 0, slots := 0, locals := 0 } : Room) s m #[(.long q1), (.long q2), (.int p3)] below meth c s₁ [] 0 0 := Stand.of_body Bd
  have e0 : s₁.heap = h0 := by rw [← hh, Bd.state]; rfl
  have N0 := Fr.nil n0
  have K0 : Keep h0 h0 [] := Keep.refl h0 _
  show OutW p e below s ({ frames := 0, cells := 0, slots := 0, locals := 0 } : Room).cells ({ frames := 0, cells := 0, slots := 0, locals := 0 } : Room).slots (Q8 Z q1 q2 p3 h0 n0) _
  refine OutW.back (fun t k => castTop (ef_8 m q1 q2 p3) k) ?_
  show OutW _ _ _ _ _ _ _ (s₁.setTop (mkF m 0 #[.val (.long q1), .second, .val (.long q2), .second, .val (.int p3)] []))
  refine OutW.back (fun t k => XS.iload X0.here hx rfl (hb hby d8_0) rfl  k) ?_
  show OutW _ _ _ _ _ _ _ (s₁.setTop (mkF m 2 #[.val (.long q1), .second, .val (.long q2), .second, .val (.int p3)] [(.int p3)]))
  refine OutW.back (fun t k => XS.bipush X0.here hx rfl (hb hby d8_2) k) ?_
  show OutW _ _ _ _ _ _ _ (s₁.setTop (mkF m 4 #[.val (.long q1), .second, .val (.long q2), .second, .val (.int p3)] [(.int (64 : Int32)), (.int p3)]))
  by_cases c4_1 : p3 < (64 : Int32)
  · skip
    refine OutW.back (fun t k => XS.icmpNo X0.here hx rfl (hb hby d8_4) rfl (tlt c4_1).2.1 k) ?_
    show OutW _ _ _ _ _ _ _ (s₁.setTop (mkF m 7 #[.val (.long q1), .second, .val (.long q2), .second, .val (.int p3)] []))
    refine OutW.back (fun t k => XS.lloadN X0.here hx rfl (hb hby d8_7) rfl  k) ?_
    show OutW _ _ _ _ _ _ _ (s₁.setTop (mkF m 8 #[.val (.long q1), .second, .val (.long q2), .second, .val (.int p3)] [(.long q1)]))
    refine OutW.back (fun t k => XS.bipush X0.here hx rfl (hb hby d8_8) k) ?_
    show OutW _ _ _ _ _ _ _ (s₁.setTop (mkF m 10 #[.val (.long q1), .second, .val (.long q2), .second, .val (.int p3)] [(.int (63 : Int32)), (.long q1)]))
    refine OutW.back (fun t k => XS.iload X0.here hx rfl (hb hby d8_10) rfl  k) ?_
    show OutW _ _ _ _ _ _ _ (s₁.setTop (mkF m 12 #[.val (.long q1), .second, .val (.long q2), .second, .val (.int p3)] [(.int p3), (.int (63 : Int32)), (.long q1)]))
    refine OutW.back (fun t k => XS.isub X0.here hx rfl (hb hby d8_12) rfl k) ?_
    show OutW _ _ _ _ _ _ _ (s₁.setTop (mkF m 13 #[.val (.long q1), .second, .val (.long q2), .second, .val (.int p3)] [(.int ((63 : Int32) - p3)), (.long q1)]))
    refine OutW.back (fun t k => XS.lushr X0.here hx rfl (hb hby d8_13) rfl k) ?_
    show OutW _ _ _ _ _ _ _ (s₁.setTop (mkF m 14 #[.val (.long q1), .second, .val (.long q2), .second, .val (.int p3)] [(.long ((q1.toUInt64 >>> (((63 : Int32) - p3) &&& 0x3f).toInt64.toUInt64).toInt64))]))
    refine OutW.back (fun t k => XS.lconst X0.here hx rfl (hb hby d8_14) k) ?_
    show OutW _ _ _ _ _ _ _ (s₁.setTop (mkF m 15 #[.val (.long q1), .second, .val (.long q2), .second, .val (.int p3)] [(.long (1 : Int64)), (.long ((q1.toUInt64 >>> (((63 : Int32) - p3) &&& 0x3f).toInt64.toUInt64).toInt64))]))
    refine OutW.back (fun t k => XS.land X0.here hx rfl (hb hby d8_15) rfl k) ?_
    show OutW _ _ _ _ _ _ _ (s₁.setTop (mkF m 16 #[.val (.long q1), .second, .val (.long q2), .second, .val (.int p3)] [(.long (((q1.toUInt64 >>> (((63 : Int32) - p3) &&& 0x3f).toInt64.toUInt64).toInt64) &&& (1 : Int64)))]))
    refine OutW.retJ X0 hx Bd.returns hlk (hb hby d8_16) (by decide) (by decide) ?_
    show Q8 Z q1 q2 p3 h0 n0 _ s₁.heap _
    rw [e0]
    exact ⟨by rw [bitF_0, if_pos c4_1], N0, rfl⟩
  · skip
    refine OutW.back (fun t k => XS.icmpYes X0.here hx rfl (pc0 := 4) (pc' := 17) rfl (hb hby d8_4) rfl (flt c4_1).2.1 (by decide) (by decide) k) ?_
    show OutW _ _ _ _ _ _ _ (s₁.setTop (mkF m 17 #[.val (.long q1), .second, .val (.long q2), .second, .val (.int p3)] []))
    refine OutW.back (fun t k => XS.lloadN X0.here hx rfl (hb hby d8_17) rfl  k) ?_
    show OutW _ _ _ _ _ _ _ (s₁.setTop (mkF m 18 #[.val (.long q1), .second, .val (.long q2), .second, .val (.int p3)] [(.long q2)]))
    refine OutW.back (fun t k => XS.bipush X0.here hx rfl (hb hby d8_18) k) ?_
    show OutW _ _ _ _ _ _ _ (s₁.setTop (mkF m 20 #[.val (.long q1), .second, .val (.long q2), .second, .val (.int p3)] [(.int (127 : Int32)), (.long q2)]))
    refine OutW.back (fun t k => XS.iload X0.here hx rfl (hb hby d8_20) rfl  k) ?_
    show OutW _ _ _ _ _ _ _ (s₁.setTop (mkF m 22 #[.val (.long q1), .second, .val (.long q2), .second, .val (.int p3)] [(.int p3), (.int (127 : Int32)), (.long q2)]))
    refine OutW.back (fun t k => XS.isub X0.here hx rfl (hb hby d8_22) rfl k) ?_
    show OutW _ _ _ _ _ _ _ (s₁.setTop (mkF m 23 #[.val (.long q1), .second, .val (.long q2), .second, .val (.int p3)] [(.int ((127 : Int32) - p3)), (.long q2)]))
    refine OutW.back (fun t k => XS.lushr X0.here hx rfl (hb hby d8_23) rfl k) ?_
    show OutW _ _ _ _ _ _ _ (s₁.setTop (mkF m 24 #[.val (.long q1), .second, .val (.long q2), .second, .val (.int p3)] [(.long ((q2.toUInt64 >>> (((127 : Int32) - p3) &&& 0x3f).toInt64.toUInt64).toInt64))]))
    refine OutW.back (fun t k => XS.lconst X0.here hx rfl (hb hby d8_24) k) ?_
    show OutW _ _ _ _ _ _ _ (s₁.setTop (mkF m 25 #[.val (.long q1), .second, .val (.long q2), .second, .val (.int p3)] [(.long (1 : Int64)), (.long ((q2.toUInt64 >>> (((127 : Int32) - p3) &&& 0x3f).toInt64.toUInt64).toInt64))]))
    refine OutW.back (fun t k => XS.land X0.here hx rfl (hb hby d8_25) rfl k) ?_
    show OutW _ _ _ _ _ _ _ (s₁.setTop (mkF m 26 #[.val (.long q1), .second, .val (.long q2), .second, .val (.int p3)] [(.long (((q2.toUInt64 >>> (((127 : Int32) - p3) &&& 0x3f).toInt64.toUInt64).toInt64) &&& (1 : Int64)))]))
    refine OutW.retJ X0 hx Bd.returns hlk (hb hby d8_26) (by decide) (by decide) ?_
    show Q8 Z q1 q2 p3 h0 n0 _ s₁.heap _
    rw [e0]
    exact ⟨by rw [bitF_0, if_neg c4_1], N0, rfl⟩
theorem pd_1 : parseMethodDescriptor "(I)J" = some ⟨[.int], some .long⟩ := by decide +kernel
theorem pd_2 : parseMethodDescriptor "(Lcom/example/nearpath/nearpath/AddressType;JJ)V" = some ⟨[(.object "com/example/nearpath/nearpath/AddressType"), .long, .long], none⟩ := by decide +kernel
theorem d4_0 : decode prog_1_method_8_code 0 = .ok (.new 8, 3) := by decide +kernel
theorem d4_3 : decode prog_1_method_8_code 3 = .ok (.dup, 1) := by decide +kernel
theorem d4_4 : decode prog_1_method_8_code 4 = .ok (.aload_n 0, 1) := by decide +kernel
theorem d4_5 : decode prog_1_method_8_code 5 = .ok (.getfield 7, 3) := by decide +kernel
theorem d4_8 : decode prog_1_method_8_code 8 = .ok (.aload_n 0, 1) := by decide +kernel
theorem d4_9 : decode prog_1_method_8_code 9 = .ok (.getfield 13, 3) := by decide +kernel
theorem d4_12 : decode prog_1_method_8_code 12 = .ok (.iload_n 1, 1) := by decide +kernel
theorem d4_13 : decode prog_1_method_8_code 13 = .ok (.invokestatic 105, 3) := by decide +kernel
theorem d4_16 : decode prog_1_method_8_code 16 = .ok (.land, 1) := by decide +kernel
theorem d4_17 : decode prog_1_method_8_code 17 = .ok (.aload_n 0, 1) := by decide +kernel
theorem d4_18 : decode prog_1_method_8_code 18 = .ok (.getfield 17, 3) := by decide +kernel
theorem d4_21 : decode prog_1_method_8_code 21 = .ok (.iload_n 1, 1) := by decide +kernel
theorem d4_22 : decode prog_1_method_8_code 22 = .ok (.invokestatic 109, 3) := by decide +kernel
theorem d4_25 : decode prog_1_method_8_code 25 = .ok (.land, 1) := by decide +kernel
theorem d4_26 : decode prog_1_method_8_code 26 = .ok (.invokespecial 47, 3) := by decide +kernel
theorem d4_29 : decode prog_1_method_8_code 29 = .ok (.areturn, 1) := by decide +kernel
theorem pn_4 : plainName "com/example/nearpath/nearpath/Address" = true := by first | (simp [plainName, overriddenIn]; done) | decide +kernel
theorem ef_4 (m : MethodId) (x0 : Addr) (x1 : Int32) : entryFrame m #[(.ref x0), (.int x1)] 2 = mkF m 0 #[.val (.ref x0), .val (.int x1)] [] := by first | (simp [entryFrame, mkF, argsToLocals, Value.category]; done) | rfl
def Q4 (Z : State) (a1 : Addr) (p2 : Int32) (w_t : Addr) (w_h : Int64) (w_l : Int64) (h0 : Heap) (n0 : Nat) (v : Option Value) (h : Heap) (L : List Loc) : Prop := ∃ bN : Addr, v = some (.ref bN) ∧ Fr n0 L ∧ Keep h0 h [] ∧ n0 ≤ bN ∧ Exa Z h bN "com/example/nearpath/nearpath/Address" ∧ Fld Z h bN "com/example/nearpath/nearpath/Address" "type" "Lcom/example/nearpath/nearpath/AddressType;" (.ref w_t) ∧ Fld Z h bN "com/example/nearpath/nearpath/Address" "high" "J" (.long (w_h &&& (highM_0 p2))) ∧ Fld Z h bN "com/example/nearpath/nearpath/Address" "low" "J" (.long (w_l &&& (lowM_0 p2)))
set_option maxRecDepth 65536 in
set_option maxHeartbeats 40000000 in
theorem rm4 (l : Launch) (Z : State) (a0 : Array Value) (hw : ∀ d ∈ tables_1, d.before a0 Z = true) (ws : List Jvm.Cond) (a1 : Addr) (p2 : Int32) (w_t : Addr) (w_h : Int64) (w_l : Int64) (h0 : Heap) (n0 : Nat) (Z0 : n0 ≤ h0.size) (F_type_a1 : Fld Z h0 a1 "com/example/nearpath/nearpath/Address" "type" "Lcom/example/nearpath/nearpath/AddressType;" (.ref w_t)) (F_high_a1 : Fld Z h0 a1 "com/example/nearpath/nearpath/Address" "high" "J" (.long w_h)) (F_low_a1 : Fld Z h0 a1 "com/example/nearpath/nearpath/Address" "low" "J" (.long w_l)) :
    MetFree l (⟨"com/example/nearpath/nearpath/Address", "masked", "(I)Lcom/example/nearpath/nearpath/Address;"⟩ : MethodName) (head1 (Jvm.Cond.code (⟨"com/example/nearpath/nearpath/Address", "masked", "(I)Lcom/example/nearpath/nearpath/Address;"⟩ : MethodName) prog_1_method_8_code 2 (some (.object "com/example/nearpath/nearpath/Address")) :: ws) ({ frames := 3, cells := 1, slots := 3, locals := 42 } : Room)) (fun a U => a = #[(.ref a1), (.int p2)] ∧ Z.Warmed39 U.vm ∧ U.heap = h0) (fun _ _ _ _ _ => True) (fun _ U o U' => ∃ v L, o = .returned v ∧ Q4 Z a1 p2 w_t w_h w_l h0 n0 v U'.heap L ∧ FrameEnd U o U' L ({ frames := 3, cells := 1, slots := 3, locals := 42 } : Room).cells ({ frames := 3, cells := 1, slots := 3, locals := 42 } : Room).slots) := by
  refine MetFree.of_bodySF (plainFor_of_name pn_4) hisR ?_
  intro p e s m args below meth c s₁ Bd hml0 hP hK
  obtain ⟨rfl, hZ, hh⟩ := hP
  have hx := Bd.exec
  have hby := Bd.bytes
  have hlk := Bd.notSynchronized
  have hml : c.maxLocals = 2 := hml0
  have hown : s.vm.findClass "com/example/nearpath/nearpath/Address" = some m.cls := findClass_of_methodNamed Bd.named
  have hnm := (name_of_methodNamed Bd.named Bd.method).1
  have X0 : Stand p l e ({ frames := 3, cells := 1, slots := 3, locals := 42 } : Room) s m #[(.ref a1), (.int p2)] below meth c s₁ [] 0 0 := Stand.of_body Bd
  have e0 : s₁.heap = h0 := by rw [← hh, Bd.state]; rfl
  have N0 := Fr.nil n0
  have K0 : Keep h0 h0 [] := Keep.refl h0 _
  show OutW p e below s ({ frames := 3, cells := 1, slots := 3, locals := 42 } : Room).cells ({ frames := 3, cells := 1, slots := 3, locals := 42 } : Room).slots (Q4 Z a1 p2 w_t w_h w_l h0 n0) _
  refine OutW.back (fun t k => castTop (ef_4 m a1 p2) k) ?_
  show OutW _ _ _ _ _ _ _ (s₁.setTop (mkF m 0 #[.val (.ref a1), .val (.int p2)] []))
  obtain ⟨T1, h1, X1, e1, E1, A1, D1, -, st1⟩ := newO X0 hx hZ hown (hw _ (List.mem_of_getElem? (i := 29) rfl)) (hw _ (List.mem_of_getElem? (i := 5) rfl)) (hw _ (List.mem_of_getElem? (i := 6) rfl)) e0 (g := (mkF m 0 #[.val (.ref a1), .val (.int p2)] [])) rfl (hb hby d4_0) (by decide) (by decide)
  obtain ⟨b1, g1⟩ : ∃ z, z = h0.size := ⟨_, rfl⟩
  rw [← g1] at A1 D1 st1
  have ne_a1_b1 : a1 ≠ b1 := Nat.ne_of_lt (Nat.lt_of_lt_of_le F_type_a1.lt (Nat.le_of_eq g1.symm))
  have g_b1 : n0 ≤ b1 := Nat.le_trans Z0 (Nat.le_of_eq g1.symm)
  have sz_b1 : h0.size ≤ b1 := Nat.le_trans K0.1 (Nat.le_of_eq g1.symm)
  have F_type_a1 := F_type_a1.ext E1
  have F_high_a1 := F_high_a1.ext E1
  have F_low_a1 := F_low_a1.ext E1
  have Z1 : n0 ≤ h1.size := Nat.le_trans Z0 E1.1
  have K1 := K0.ext E1
  have E_b1 := A1
  have F_type_b1 : Fld Z h1 b1 "com/example/nearpath/nearpath/Address" "type" "Lcom/example/nearpath/nearpath/AddressType;" .null := D1 (Or.inr (hw _ (List.mem_of_getElem? (i := 19) rfl))) (ty := (.object "com/example/nearpath/nearpath/AddressType")) (by decide)
  have F_high_b1 : Fld Z h1 b1 "com/example/nearpath/nearpath/Address" "high" "J" (.long (0 : Int64)) := D1 (Or.inr (hw _ (List.mem_of_getElem? (i := 21) rfl))) (ty := .long) (by decide)
  have F_low_b1 : Fld Z h1 b1 "com/example/nearpath/nearpath/Address" "low" "J" (.long (0 : Int64)) := D1 (Or.inr (hw _ (List.mem_of_getElem? (i := 23) rfl))) (ty := .long) (by decide)
  refine OutW.back st1 ?_
  show OutW _ _ _ _ _ _ _ (T1.setTop (mkF m 3 #[.val (.ref a1), .val (.int p2)] [(.ref b1)]))
  refine OutW.back (fun t k => XS.dup X1.here hx rfl (hb hby d4_3) rfl rfl k) ?_
  show OutW _ _ _ _ _ _ _ (T1.setTop (mkF m 4 #[.val (.ref a1), .val (.int p2)] [(.ref b1), (.ref b1)]))
  refine OutW.back (fun t k => XS.aloadN X1.here hx rfl (hb hby d4_4) rfl rfl  k) ?_
  show OutW _ _ _ _ _ _ _ (T1.setTop (mkF m 5 #[.val (.ref a1), .val (.int p2)] [(.ref a1), (.ref b1), (.ref b1)]))
  obtain ⟨T2, X2, e2, st2⟩ := getF X1 hx hZ hown (host := "") (Or.inl (hw _ (List.mem_of_getElem? (i := 18) rfl))) Via.refl e1 F_type_a1 (g := (mkF m 5 #[.val (.ref a1), .val (.int p2)] [(.ref a1), (.ref b1), (.ref b1)])) rfl rfl (hb hby d4_5)
  refine OutW.back st2 ?_
  show OutW _ _ _ _ _ _ _ (T2.setTop (mkF m 8 #[.val (.ref a1), .val (.int p2)] [(.ref w_t), (.ref b1), (.ref b1)]))
  refine OutW.back (fun t k => XS.aloadN X2.here hx rfl (hb hby d4_8) rfl rfl  k) ?_
  show OutW _ _ _ _ _ _ _ (T2.setTop (mkF m 9 #[.val (.ref a1), .val (.int p2)] [(.ref a1), (.ref w_t), (.ref b1), (.ref b1)]))
  obtain ⟨T3, X3, e3, st3⟩ := getF X2 hx hZ hown (host := "") (Or.inl (hw _ (List.mem_of_getElem? (i := 20) rfl))) Via.refl e2 F_high_a1 (g := (mkF m 9 #[.val (.ref a1), .val (.int p2)] [(.ref a1), (.ref w_t), (.ref b1), (.ref b1)])) rfl rfl (hb hby d4_9)
  refine OutW.back st3 ?_
  show OutW _ _ _ _ _ _ _ (T3.setTop (mkF m 12 #[.val (.ref a1), .val (.int p2)] [(.long w_h), (.ref w_t), (.ref b1), (.ref b1)]))
  refine OutW.back (fun t k => XS.iloadN X3.here hx rfl (hb hby d4_12) rfl  k) ?_
  show OutW _ _ _ _ _ _ _ (T3.setTop (mkF m 13 #[.val (.ref a1), .val (.int p2)] [(.int p2), (.long w_h), (.ref w_t), (.ref b1), (.ref b1)]))
  obtain ⟨_, _, ⟨T4, L4, k4, n4⟩, -, X4, ⟨Lc4, hQ4, l4, y4, z4⟩, st4⟩ := Jvm.LawKit.callS X3 hx (y := (⟨"com/example/nearpath/nearpath/Address", "highMask", "(I)J"⟩ : MethodName)) hown (mvT hZ (hw _ (List.mem_of_getElem? (i := 30) rfl))) (mvT hZ (hw _ (List.mem_of_getElem? (i := 31) rfl))) (mvT hZ (hw _ (List.mem_of_getElem? (i := 6) rfl))) (mvT hZ (hw _ (List.mem_of_getElem? (i := 32) rfl))) (by decide) (backOf (W := 5) (rm5 l Z a0 hw [] p2 h1 n0 Z1) hZ (hw _ (List.mem_of_getElem? (i := 32) rfl)) (hw _ (List.mem_of_getElem? (i := 6) rfl)) (by decide) (by decide)) (g := (mkF m 13 #[.val (.ref a1), .val (.int p2)] [(.int p2), (.long w_h), (.ref w_t), (.ref b1), (.ref b1)])) rfl (by rw [hml]; rfl) (argsL := [(.int p2)]) (rest := [(.long w_h), (.ref w_t), (.ref b1), (.ref b1)]) (lenOf pd_1 rfl) rfl (by show 2 * 0 + _ ≤ _; exact Nat.le_of_eq rfl) (hb hby d4_13) (fun _ _ => ⟨rfl, e3, (by decide : 1 + 0 ≤ _), (by decide : 3 + 0 ≤ _)⟩)
  dsimp only [Pt.U, Pt.locs, Pt.cells, Pt.slots] at X4 l4 y4 z4 st4 hQ4
  subst l4 y4 z4
  obtain ⟨rfl, Nq4, e4⟩ := hQ4
  have N4 := Fr.app N0 Nq4
  refine OutW.back st4 ?_
  show OutW _ _ _ _ _ _ _ (T4.setTop (mkF m 16 #[.val (.ref a1), .val (.int p2)] [(.long (highM_0 p2)), (.long w_h), (.ref w_t), (.ref b1), (.ref b1)]))
  refine OutW.back (fun t k => XS.land X4.here hx rfl (hb hby d4_16) rfl k) ?_
  show OutW _ _ _ _ _ _ _ (T4.setTop (mkF m 17 #[.val (.ref a1), .val (.int p2)] [(.long (w_h &&& (highM_0 p2))), (.ref w_t), (.ref b1), (.ref b1)]))
  refine OutW.back (fun t k => XS.aloadN X4.here hx rfl (hb hby d4_17) rfl rfl  k) ?_
  show OutW _ _ _ _ _ _ _ (T4.setTop (mkF m 18 #[.val (.ref a1), .val (.int p2)] [(.ref a1), (.long (w_h &&& (highM_0 p2))), (.ref w_t), (.ref b1), (.ref b1)]))
  obtain ⟨T5, X5, e5, st5⟩ := getF X4 hx hZ hown (host := "") (Or.inl (hw _ (List.mem_of_getElem? (i := 22) rfl))) Via.refl e4 F_low_a1 (g := (mkF m 18 #[.val (.ref a1), .val (.int p2)] [(.ref a1), (.long (w_h &&& (highM_0 p2))), (.ref w_t), (.ref b1), (.ref b1)])) rfl rfl (hb hby d4_18)
  refine OutW.back st5 ?_
  show OutW _ _ _ _ _ _ _ (T5.setTop (mkF m 21 #[.val (.ref a1), .val (.int p2)] [(.long w_l), (.long (w_h &&& (highM_0 p2))), (.ref w_t), (.ref b1), (.ref b1)]))
  refine OutW.back (fun t k => XS.iloadN X5.here hx rfl (hb hby d4_21) rfl  k) ?_
  show OutW _ _ _ _ _ _ _ (T5.setTop (mkF m 22 #[.val (.ref a1), .val (.int p2)] [(.int p2), (.long w_l), (.long (w_h &&& (highM_0 p2))), (.ref w_t), (.ref b1), (.ref b1)]))
  obtain ⟨_, _, ⟨T6, L6, k6, n6⟩, -, X6, ⟨Lc6, hQ6, l6, y6, z6⟩, st6⟩ := Jvm.LawKit.callS X5 hx (y := (⟨"com/example/nearpath/nearpath/Address", "lowMask", "(I)J"⟩ : MethodName)) hown (mvT hZ (hw _ (List.mem_of_getElem? (i := 33) rfl))) (mvT hZ (hw _ (List.mem_of_getElem? (i := 34) rfl))) (mvT hZ (hw _ (List.mem_of_getElem? (i := 6) rfl))) (mvT hZ (hw _ (List.mem_of_getElem? (i := 35) rfl))) (by decide) (backOf (W := 7) (rm6 l Z a0 hw [] p2 h1 n0 Z1) hZ (hw _ (List.mem_of_getElem? (i := 35) rfl)) (hw _ (List.mem_of_getElem? (i := 6) rfl)) (by decide) (by decide)) (g := (mkF m 22 #[.val (.ref a1), .val (.int p2)] [(.int p2), (.long w_l), (.long (w_h &&& (highM_0 p2))), (.ref w_t), (.ref b1), (.ref b1)])) rfl (by rw [hml]; rfl) (argsL := [(.int p2)]) (rest := [(.long w_l), (.long (w_h &&& (highM_0 p2))), (.ref w_t), (.ref b1), (.ref b1)]) (lenOf pd_1 rfl) rfl (by show 2 * 0 + _ ≤ _; exact Nat.le_of_eq rfl) (hb hby d4_22) (fun _ _ => ⟨rfl, e5, (by decide : 1 + 0 ≤ _), (by decide : 3 + 0 ≤ _)⟩)
  dsimp only [Pt.U, Pt.locs, Pt.cells, Pt.slots] at X6 l6 y6 z6 st6 hQ6
  subst l6 y6 z6
  obtain ⟨rfl, Nq6, e6⟩ := hQ6
  have N6 := Fr.app N4 Nq6
  refine OutW.back st6 ?_
  show OutW _ _ _ _ _ _ _ (T6.setTop (mkF m 25 #[.val (.ref a1), .val (.int p2)] [(.long (lowM_0 p2)), (.long w_l), (.long (w_h &&& (highM_0 p2))), (.ref w_t), (.ref b1), (.ref b1)]))
  refine OutW.back (fun t k => XS.land X6.here hx rfl (hb hby d4_25) rfl k) ?_
  show OutW _ _ _ _ _ _ _ (T6.setTop (mkF m 26 #[.val (.ref a1), .val (.int p2)] [(.long (w_l &&& (lowM_0 p2))), (.long (w_h &&& (highM_0 p2))), (.ref w_t), (.ref b1), (.ref b1)]))
  obtain ⟨_, _, ⟨T7, L7, k7, n7⟩, -, X7, ⟨Lc7, hQ7, l7, y7, z7⟩, st7⟩ := X6.specialBack hx (y := (⟨"com/example/nearpath/nearpath/Address", "<init>", "(Lcom/example/nearpath/nearpath/AddressType;JJ)V"⟩ : MethodName)) rfl hown (mvT hZ (hw _ (List.mem_of_getElem? (i := 36) rfl))) (mvT hZ (hw _ (List.mem_of_getElem? (i := 8) rfl))) (mvT hZ (hw _ (List.mem_of_getElem? (i := 9) rfl))) (by decide) (backOf (W := 1) (rm1 l Z a0 hw [] b1 w_t (w_h &&& (highM_0 p2)) (w_l &&& (lowM_0 p2)) h1 n0 Z1 E_b1 g_b1 F_type_b1 F_high_b1 F_low_b1) hZ (hw _ (List.mem_of_getElem? (i := 9) rfl)) (hw _ (List.mem_of_getElem? (i := 6) rfl)) (by decide) (by decide)) (g := (mkF m 26 #[.val (.ref a1), .val (.int p2)] [(.long (w_l &&& (lowM_0 p2))), (.long (w_h &&& (highM_0 p2))), (.ref w_t), (.ref b1), (.ref b1)])) rfl (by rw [hml]; rfl) (Steps.refl _) (a := b1) (argsL := [(.ref w_t), (.long (w_h &&& (highM_0 p2))), (.long (w_l &&& (lowM_0 p2)))]) (rest := [(.ref b1)]) (lenOf pd_2 rfl) rfl (by show 2 * 0 + _ ≤ _; exact Nat.le_of_eq rfl) (hb hby d4_26) (fun _ _ => ⟨rfl, e6, (by decide : 1 + 0 ≤ _), (by decide : 3 + 0 ≤ _)⟩)
  dsimp only [Pt.U, Pt.locs, Pt.cells, Pt.slots] at X7 l7 y7 z7 st7 hQ7
  subst l7 y7 z7
  obtain ⟨h7, eh7⟩ : ∃ z, z = T7.heap := ⟨_, rfl⟩
  rw [← eh7] at hQ7
  have e7 : T7.heap = h7 := eh7.symm
  obtain ⟨rfl, Nq7, Kq7, F_type_b1, F_high_b1, F_low_b1⟩ := hQ7
  have F_type_a1 := F_type_a1.keep Kq7 (ninS ne_a1_b1 nin0)
  have F_high_a1 := F_high_a1.keep Kq7 (ninS ne_a1_b1 nin0)
  have F_low_a1 := F_low_a1.keep Kq7 (ninS ne_a1_b1 nin0)
  have E_b1 := E_b1.keep Kq7
  have Z7 : n0 ≤ h7.size := Nat.le_trans Z1 Kq7.1
  have K7 := K1.trans Kq7 (allS (Or.inr sz_b1) all0)
  have N7 := Fr.app N6 Nq7
  refine OutW.via st7 ?_
  show OutW _ _ _ _ _ _ _ (T7.setTop (mkF m 29 #[.val (.ref a1), .val (.int p2)] [(.ref b1)]))
  refine OutW.retA X7 hx Bd.returns rfl rfl hlk (hb hby d4_29) (by decide) (by decide) ?_
  show Q4 Z a1 p2 w_t w_h w_l h0 n0 _ T7.heap _
  rw [e7]
  exact ⟨b1, rfl, N7, K7, g_b1, E_b1, F_type_b1, F_high_b1, F_low_b1⟩
theorem d7_0 : decode prog_1_method_18_code 0 = .ok (.aload_n 0, 1) := by decide +kernel
theorem d7_1 : decode prog_1_method_18_code 1 = .ok (.getfield 7, 3) := by decide +kernel
theorem d7_4 : decode prog_1_method_18_code 4 = .ok (.areturn, 1) := by decide +kernel
theorem pn_7 : plainName "com/example/nearpath/nearpath/Address" = true := by first | (simp [plainName, overriddenIn]; done) | decide +kernel
theorem ef_7 (m : MethodId) (x0 : Addr) : entryFrame m #[(.ref x0)] 1 = mkF m 0 #[.val (.ref x0)] [] := by first | (simp [entryFrame, mkF, argsToLocals, Value.category]; done) | rfl
def Q7 (Z : State) (a1 : Addr) (w_f : Addr) (h0 : Heap) (n0 : Nat) (v : Option Value) (h : Heap) (L : List Loc) : Prop := v = some (.ref w_f) ∧ Fr n0 L ∧ h = h0
set_option maxRecDepth 65536 in
set_option maxHeartbeats 40000000 in
theorem rm7 (l : Launch) (Z : State) (a0 : Array Value) (hw : ∀ d ∈ tables_1, d.before a0 Z = true) (ws : List Jvm.Cond) (a1 : Addr) (w_f : Addr) (h0 : Heap) (n0 : Nat) (Z0 : n0 ≤ h0.size) (F_type_a1 : Fld Z h0 a1 "com/example/nearpath/nearpath/Address" "type" "Lcom/example/nearpath/nearpath/AddressType;" (.ref w_f)) :
    MetFree l (⟨"com/example/nearpath/nearpath/Address", "type", "()Lcom/example/nearpath/nearpath/AddressType;"⟩ : MethodName) (head1 (Jvm.Cond.code (⟨"com/example/nearpath/nearpath/Address", "type", "()Lcom/example/nearpath/nearpath/AddressType;"⟩ : MethodName) prog_1_method_18_code 1 (some (.object "com/example/nearpath/nearpath/AddressType")) :: ws) ({ frames := 0, cells := 0, slots := 0, locals := 0 } : Room)) (fun a U => a = #[(.ref a1)] ∧ Z.Warmed39 U.vm ∧ U.heap = h0) (fun _ _ _ _ _ => True) (fun _ U o U' => ∃ v L, o = .returned v ∧ Q7 Z a1 w_f h0 n0 v U'.heap L ∧ FrameEnd U o U' L ({ frames := 0, cells := 0, slots := 0, locals := 0 } : Room).cells ({ frames := 0, cells := 0, slots := 0, locals := 0 } : Room).slots) := by
  refine MetFree.of_bodySF (plainFor_of_name pn_7) hisR ?_
  intro p e s m args below meth c s₁ Bd hml0 hP hK
  obtain ⟨rfl, hZ, hh⟩ := hP
  have hx := Bd.exec
  have hby := Bd.bytes
  have hlk := Bd.notSynchronized
  have hml : c.maxLocals = 1 := hml0
  have hown : s.vm.findClass "com/example/nearpath/nearpath/Address" = some m.cls := findClass_of_methodNamed Bd.named
  have hnm := (name_of_methodNamed Bd.named Bd.method).1
  have X0 : Stand p l e ({ frames := 0, cells := 0, slots := 0, locals := 0 } : Room) s m #[(.ref a1)] below meth c s₁ [] 0 0 := Stand.of_body Bd
  have e0 : s₁.heap = h0 := by rw [← hh, Bd.state]; rfl
  have N0 := Fr.nil n0
  have K0 : Keep h0 h0 [] := Keep.refl h0 _
  show OutW p e below s ({ frames := 0, cells := 0, slots := 0, locals := 0 } : Room).cells ({ frames := 0, cells := 0, slots := 0, locals := 0 } : Room).slots (Q7 Z a1 w_f h0 n0) _
  refine OutW.back (fun t k => castTop (ef_7 m a1) k) ?_
  show OutW _ _ _ _ _ _ _ (s₁.setTop (mkF m 0 #[.val (.ref a1)] []))
  refine OutW.back (fun t k => XS.aloadN X0.here hx rfl (hb hby d7_0) rfl rfl  k) ?_
  show OutW _ _ _ _ _ _ _ (s₁.setTop (mkF m 1 #[.val (.ref a1)] [(.ref a1)]))
  obtain ⟨T1, X1, e1, st1⟩ := getF X0 hx hZ hown (host := "") (Or.inl (hw _ (List.mem_of_getElem? (i := 18) rfl))) Via.refl e0 F_type_a1 (g := (mkF m 1 #[.val (.ref a1)] [(.ref a1)])) rfl rfl (hb hby d7_1)
  refine OutW.back st1 ?_
  show OutW _ _ _ _ _ _ _ (T1.setTop (mkF m 4 #[.val (.ref a1)] [(.ref w_f)]))
  refine OutW.retA X1 hx Bd.returns rfl rfl hlk (hb hby d7_4) (by decide) (by decide) ?_
  show Q7 Z a1 w_f h0 n0 _ T1.heap _
  rw [e1]
  exact ⟨rfl, N0, rfl⟩
theorem d9_0 : decode prog_1_method_19_code 0 = .ok (.aload_n 0, 1) := by decide +kernel
theorem d9_1 : decode prog_1_method_19_code 1 = .ok (.getfield 13, 3) := by decide +kernel
theorem d9_4 : decode prog_1_method_19_code 4 = .ok (.lreturn, 1) := by decide +kernel
theorem pn_9 : plainName "com/example/nearpath/nearpath/Address" = true := by first | (simp [plainName, overriddenIn]; done) | decide +kernel
theorem ef_9 (m : MethodId) (x0 : Addr) : entryFrame m #[(.ref x0)] 1 = mkF m 0 #[.val (.ref x0)] [] := by first | (simp [entryFrame, mkF, argsToLocals, Value.category]; done) | rfl
def Q9 (Z : State) (a1 : Addr) (w_f : Int64) (h0 : Heap) (n0 : Nat) (v : Option Value) (h : Heap) (L : List Loc) : Prop := v = some (.long w_f) ∧ Fr n0 L ∧ h = h0
set_option maxRecDepth 65536 in
set_option maxHeartbeats 40000000 in
theorem rm9 (l : Launch) (Z : State) (a0 : Array Value) (hw : ∀ d ∈ tables_1, d.before a0 Z = true) (ws : List Jvm.Cond) (a1 : Addr) (w_f : Int64) (h0 : Heap) (n0 : Nat) (Z0 : n0 ≤ h0.size) (F_high_a1 : Fld Z h0 a1 "com/example/nearpath/nearpath/Address" "high" "J" (.long w_f)) :
    MetFree l (⟨"com/example/nearpath/nearpath/Address", "high", "()J"⟩ : MethodName) (head1 (Jvm.Cond.code (⟨"com/example/nearpath/nearpath/Address", "high", "()J"⟩ : MethodName) prog_1_method_19_code 1 (some .long) :: ws) ({ frames := 0, cells := 0, slots := 0, locals := 0 } : Room)) (fun a U => a = #[(.ref a1)] ∧ Z.Warmed39 U.vm ∧ U.heap = h0) (fun _ _ _ _ _ => True) (fun _ U o U' => ∃ v L, o = .returned v ∧ Q9 Z a1 w_f h0 n0 v U'.heap L ∧ FrameEnd U o U' L ({ frames := 0, cells := 0, slots := 0, locals := 0 } : Room).cells ({ frames := 0, cells := 0, slots := 0, locals := 0 } : Room).slots) := by
  refine MetFree.of_bodySF (plainFor_of_name pn_9) hisR ?_
  intro p e s m args below meth c s₁ Bd hml0 hP hK
  obtain ⟨rfl, hZ, hh⟩ := hP
  have hx := Bd.exec
  have hby := Bd.bytes
  have hlk := Bd.notSynchronized
  have hml : c.maxLocals = 1 := hml0
  have hown : s.vm.findClass "com/example/nearpath/nearpath/Address" = some m.cls := findClass_of_methodNamed Bd.named
  have hnm := (name_of_methodNamed Bd.named Bd.method).1
  have X0 : Stand p l e ({ frames := 0, cells := 0, slots := 0, locals := 0 } : Room) s m #[(.ref a1)] below meth c s₁ [] 0 0 := Stand.of_body Bd
  have e0 : s₁.heap = h0 := by rw [← hh, Bd.state]; rfl
  have N0 := Fr.nil n0
  have K0 : Keep h0 h0 [] := Keep.refl h0 _
  show OutW p e below s ({ frames := 0, cells := 0, slots := 0, locals := 0 } : Room).cells ({ frames := 0, cells := 0, slots := 0, locals := 0 } : Room).slots (Q9 Z a1 w_f h0 n0) _
  refine OutW.back (fun t k => castTop (ef_9 m a1) k) ?_
  show OutW _ _ _ _ _ _ _ (s₁.setTop (mkF m 0 #[.val (.ref a1)] []))
  refine OutW.back (fun t k => XS.aloadN X0.here hx rfl (hb hby d9_0) rfl rfl  k) ?_
  show OutW _ _ _ _ _ _ _ (s₁.setTop (mkF m 1 #[.val (.ref a1)] [(.ref a1)]))
  obtain ⟨T1, X1, e1, st1⟩ := getF X0 hx hZ hown (host := "") (Or.inl (hw _ (List.mem_of_getElem? (i := 20) rfl))) Via.refl e0 F_high_a1 (g := (mkF m 1 #[.val (.ref a1)] [(.ref a1)])) rfl rfl (hb hby d9_1)
  refine OutW.back st1 ?_
  show OutW _ _ _ _ _ _ _ (T1.setTop (mkF m 4 #[.val (.ref a1)] [(.long w_f)]))
  refine OutW.retJ X1 hx Bd.returns hlk (hb hby d9_4) (by decide) (by decide) ?_
  show Q9 Z a1 w_f h0 n0 _ T1.heap _
  rw [e1]
  exact ⟨rfl, N0, rfl⟩
theorem d10_0 : decode prog_1_method_20_code 0 = .ok (.aload_n 0, 1) := by decide +kernel
theorem d10_1 : decode prog_1_method_20_code 1 = .ok (.getfield 17, 3) := by decide +kernel
theorem d10_4 : decode prog_1_method_20_code 4 = .ok (.lreturn, 1) := by decide +kernel
theorem pn_10 : plainName "com/example/nearpath/nearpath/Address" = true := by first | (simp [plainName, overriddenIn]; done) | decide +kernel
theorem ef_10 (m : MethodId) (x0 : Addr) : entryFrame m #[(.ref x0)] 1 = mkF m 0 #[.val (.ref x0)] [] := by first | (simp [entryFrame, mkF, argsToLocals, Value.category]; done) | rfl
def Q10 (Z : State) (a1 : Addr) (w_f : Int64) (h0 : Heap) (n0 : Nat) (v : Option Value) (h : Heap) (L : List Loc) : Prop := v = some (.long w_f) ∧ Fr n0 L ∧ h = h0
set_option maxRecDepth 65536 in
set_option maxHeartbeats 40000000 in
theorem rm10 (l : Launch) (Z : State) (a0 : Array Value) (hw : ∀ d ∈ tables_1, d.before a0 Z = true) (ws : List Jvm.Cond) (a1 : Addr) (w_f : Int64) (h0 : Heap) (n0 : Nat) (Z0 : n0 ≤ h0.size) (F_low_a1 : Fld Z h0 a1 "com/example/nearpath/nearpath/Address" "low" "J" (.long w_f)) :
    MetFree l (⟨"com/example/nearpath/nearpath/Address", "low", "()J"⟩ : MethodName) (head1 (Jvm.Cond.code (⟨"com/example/nearpath/nearpath/Address", "low", "()J"⟩ : MethodName) prog_1_method_20_code 1 (some .long) :: ws) ({ frames := 0, cells := 0, slots := 0, locals := 0 } : Room)) (fun a U => a = #[(.ref a1)] ∧ Z.Warmed39 U.vm ∧ U.heap = h0) (fun _ _ _ _ _ => True) (fun _ U o U' => ∃ v L, o = .returned v ∧ Q10 Z a1 w_f h0 n0 v U'.heap L ∧ FrameEnd U o U' L ({ frames := 0, cells := 0, slots := 0, locals := 0 } : Room).cells ({ frames := 0, cells := 0, slots := 0, locals := 0 } : Room).slots) := by
  refine MetFree.of_bodySF (plainFor_of_name pn_10) hisR ?_
  intro p e s m args below meth c s₁ Bd hml0 hP hK
  obtain ⟨rfl, hZ, hh⟩ := hP
  have hx := Bd.exec
  have hby := Bd.bytes
  have hlk := Bd.notSynchronized
  have hml : c.maxLocals = 1 := hml0
  have hown : s.vm.findClass "com/example/nearpath/nearpath/Address" = some m.cls := findClass_of_methodNamed Bd.named
  have hnm := (name_of_methodNamed Bd.named Bd.method).1
  have X0 : Stand p l e ({ frames := 0, cells := 0, slots := 0, locals := 0 } : Room) s m #[(.ref a1)] below meth c s₁ [] 0 0 := Stand.of_body Bd
  have e0 : s₁.heap = h0 := by rw [← hh, Bd.state]; rfl
  have N0 := Fr.nil n0
  have K0 : Keep h0 h0 [] := Keep.refl h0 _
  show OutW p e below s ({ frames := 0, cells := 0, slots := 0, locals := 0 } : Room).cells ({ frames := 0, cells := 0, slots := 0, locals := 0 } : Room).slots (Q10 Z a1 w_f h0 n0) _
  refine OutW.back (fun t k => castTop (ef_10 m a1) k) ?_
  show OutW _ _ _ _ _ _ _ (s₁.setTop (mkF m 0 #[.val (.ref a1)] []))
  refine OutW.back (fun t k => XS.aloadN X0.here hx rfl (hb hby d10_0) rfl rfl  k) ?_
  show OutW _ _ _ _ _ _ _ (s₁.setTop (mkF m 1 #[.val (.ref a1)] [(.ref a1)]))
  obtain ⟨T1, X1, e1, st1⟩ := getF X0 hx hZ hown (host := "") (Or.inl (hw _ (List.mem_of_getElem? (i := 22) rfl))) Via.refl e0 F_low_a1 (g := (mkF m 1 #[.val (.ref a1)] [(.ref a1)])) rfl rfl (hb hby d10_1)
  refine OutW.back st1 ?_
  show OutW _ _ _ _ _ _ _ (T1.setTop (mkF m 4 #[.val (.ref a1)] [(.long w_f)]))
  refine OutW.retJ X1 hx Bd.returns hlk (hb hby d10_4) (by decide) (by decide) ?_
  show Q10 Z a1 w_f h0 n0 _ T1.heap _
  rw [e1]
  exact ⟨rfl, N0, rfl⟩
theorem own_fin {n : Nat} (x : Int32) (h0 : 0 ≤ x.toInt) (h1 : x.toInt < n) : ∃ k : Fin n, x = Int32.ofInt ((k.1 : Nat) : Int) :=
  ⟨⟨x.toInt.toNat, by omega⟩, by
    have e : ((x.toInt.toNat : Nat) : Int) = x.toInt := by omega
    show x = Int32.ofInt ((x.toInt.toNat : Nat) : Int)
    rw [e, Int32.ofInt_toInt]⟩
def sh (x : Int64) (k : Int32) : Int64 := ((x.toUInt64 >>> (k &&& 0x3f).toInt64.toUInt64).toInt64) &&& (1 : Int64)
set_option maxRecDepth 65536 in
theorem own_tabH : ∀ a : Fin 129, ∀ b : Fin 64, sh (highM_0 (Int32.ofInt ((a.1 : Nat) : Int))) ((63 : Int32) - (Int32.ofInt ((b.1 : Nat) : Int))) = if (Int32.ofInt ((b.1 : Nat) : Int)) < (Int32.ofInt ((a.1 : Nat) : Int)) then 1 else 0 := by decide +kernel
set_option maxRecDepth 65536 in
theorem own_tabL : ∀ a : Fin 129, ∀ b : Fin 128, ¬ (Int32.ofInt ((b.1 : Nat) : Int)) < (64 : Int32) → sh (lowM_0 (Int32.ofInt ((a.1 : Nat) : Int))) ((127 : Int32) - (Int32.ofInt ((b.1 : Nat) : Int))) = if (Int32.ofInt ((b.1 : Nat) : Int)) < (Int32.ofInt ((a.1 : Nat) : Int)) then 1 else 0 := by decide +kernel
theorem own_and (x y : Int64) (k : Int32) : sh (x &&& y) k = sh x k &&& sh y k := by
  unfold sh
  apply Int64.toBitVec_inj.mp
  apply BitVec.eq_of_getElem_eq
  intro i hi
  simp
  cases (x.toBitVec.getLsbD _) <;> cases (y.toBitVec.getLsbD _) <;> simp
theorem own_plain (p3 pp n v : Int32) (len pos : Int32) (hi lo : Int64) (i o ex : Int64) (hn : ((len &&& (2147483647 : Int32)) % (129 : Int32)) = n) (hp : (pos &&& (127 : Int32)) = pp) (h1 : (bitF_0 hi lo pp) = i) (h2 : (bitF_0 (hi &&& (highM_0 n)) (lo &&& (lowM_0 n)) pp) = o)
    (h3 : ex = (if pp < n then i else (0 : Int64))) (h4 : v = (if o = ex then (1 : Int32) else (0 : Int32))) : v = 1 := by
  have m1 := c_and len (2147483647 : Int32) (by decide)
  have r1 := (c_irem (len &&& (2147483647 : Int32)) (129 : Int32) 129 (by decide)).1 m1.1
  rw [hn] at r1
  have m2 := c_and pos (127 : Int32) (by decide)
  rw [hp] at m2
  have e127 : (127 : Int32).toInt = 127 := by decide
  have e64 : (64 : Int32).toInt = 64 := by decide
  obtain ⟨a, ea⟩ := own_fin (n := 129) n (by omega) (by omega)
  have e : o = ex := by
    rw [← h2, h3, ← h1]
    unfold bitF_0
    by_cases q : pp < (64 : Int32)
    · obtain ⟨b, eb⟩ := own_fin (n := 64) pp (by omega) (by rw [Int32.lt_iff_toInt_lt] at q; omega)
      have t := own_tabH a b
      rw [← ea, ← eb] at t
      rw [if_pos q, if_pos q]
      have w := own_and hi (highM_0 n) ((63 : Int32) - pp)
      rw [t] at w
      unfold sh at w
      rw [w]
      split
      · apply Int64.toBitVec_inj.mp
        simp [BitVec.and_assoc]
      · simp
    · obtain ⟨b, eb⟩ := own_fin (n := 128) pp (by omega) (by omega)
      have t := own_tabL a b (by rw [← eb]; exact q)
      rw [← ea, ← eb] at t
      rw [if_neg q, if_neg q]
      have w := own_and lo (lowM_0 n) ((127 : Int32) - pp)
      rw [t] at w
      unfold sh at w
      rw [w]
      split
      · apply Int64.toBitVec_inj.mp
        simp [BitVec.and_assoc]
      · simp
  rw [h4, if_pos e]

theorem pd_3 : parseMethodDescriptor "(I)Lcom/example/nearpath/nearpath/Address;" = some ⟨[.int], some (.object "com/example/nearpath/nearpath/Address")⟩ := by decide +kernel
theorem pd_4 : parseMethodDescriptor "()Lcom/example/nearpath/nearpath/AddressType;" = some ⟨[], some (.object "com/example/nearpath/nearpath/AddressType")⟩ := by decide +kernel
theorem pd_5 : parseMethodDescriptor "(JJI)J" = some ⟨[.long, .long, .int], some .long⟩ := by decide +kernel
theorem pd_6 : parseMethodDescriptor "()J" = some ⟨[], some .long⟩ := by decide +kernel
theorem pn_0 : plainName "com/example/nearpath/nearpath/AddressMaskedPinLaw" = true := by first | (simp [plainName, overriddenIn]; done) | decide +kernel
theorem ef_0 (m : MethodId) (x0 : Int32) (x1 : Int64) (x2 : Int64) (x3 : Int32) (x4 : Int32) : entryFrame m #[(.int x0), (.long x1), (.long x2), (.int x3), (.int x4)] maxLocals = mkF m 0 #[.val (.int x0), .val (.long x1), .second, .val (.long x2), .second, .val (.int x3), .val (.int x4), .unset, .unset, .unset, .unset, .unset, .unset, .unset, .unset, .unset, .unset, .unset] [] := by first | (simp [entryFrame, mkF, argsToLocals, Value.category, maxLocals]; done) | rfl
def Q0 (Z : State) (p1 : Int32) (q2 : Int64) (q3 : Int64) (p4 : Int32) (p5 : Int32) (s_IPV4 : Addr) (s_IPV6 : Addr) (h0 : Heap) (n0 : Nat) (v : Option Value) (h : Heap) (L : List Loc) : Prop := v = some (.int 1) ∧ Fr n0 L
set_option maxRecDepth 65536 in
set_option maxHeartbeats 40000000 in
theorem rm0 (l : Launch) (Z : State) (a0 : Array Value) (hw : ∀ d ∈ tables_1, d.before a0 Z = true) (ws : List Jvm.Cond) (p1 : Int32) (q2 : Int64) (q3 : Int64) (p4 : Int32) (p5 : Int32) (s_IPV4 : Addr) (s_IPV6 : Addr) (h0 : Heap) (n0 : Nat) (Z0 : n0 ≤ h0.size) (S_IPV4 : Sta Z h0 "com/example/nearpath/nearpath/AddressType" "IPV4" "Lcom/example/nearpath/nearpath/AddressType;" (.ref s_IPV4)) (S_IPV6 : Sta Z h0 "com/example/nearpath/nearpath/AddressType" "IPV6" "Lcom/example/nearpath/nearpath/AddressType;" (.ref s_IPV6)) (E_s_IPV4 : Exa Z h0 s_IPV4 "com/example/nearpath/nearpath/AddressType") (E_s_IPV6 : Exa Z h0 s_IPV6 "com/example/nearpath/nearpath/AddressType") :
    MetFree l x (head1 (Jvm.Cond.code x code maxLocals ret :: ws) room_1) (fun a U => a = #[(.int p1), (.long q2), (.long q3), (.int p4), (.int p5)] ∧ Z.Warmed39 U.vm ∧ U.heap = h0) (fun _ _ _ _ _ => True) (fun _ U o U' => ∃ v L, o = .returned v ∧ Q0 Z p1 q2 q3 p4 p5 s_IPV4 s_IPV6 h0 n0 v U'.heap L ∧ FrameEnd U o U' L room_1.cells room_1.slots) := by
  refine MetFree.of_bodySF (plainFor_of_name pn_0) hisR ?_
  intro p e s m args below meth c s₁ Bd hml0 hP hK
  obtain ⟨rfl, hZ, hh⟩ := hP
  have hx := Bd.exec
  have hby := Bd.bytes
  have hlk := Bd.notSynchronized
  have hml : c.maxLocals = 18 := hml0
  have hown : s.vm.findClass "com/example/nearpath/nearpath/AddressMaskedPinLaw" = some m.cls := findClass_of_methodNamed Bd.named
  have hnm := (name_of_methodNamed Bd.named Bd.method).1
  have X0 : Stand p l e room_1 s m #[(.int p1), (.long q2), (.long q3), (.int p4), (.int p5)] below meth c s₁ [] 0 0 := Stand.of_body Bd
  have e0 : s₁.heap = h0 := by rw [← hh, Bd.state]; rfl
  have N0 := Fr.nil n0
  have K0 : Keep h0 h0 [] := Keep.refl h0 _
  show OutW p e below s room_1.cells room_1.slots (Q0 Z p1 q2 q3 p4 p5 s_IPV4 s_IPV6 h0 n0) _
  refine OutW.back (fun t k => castTop (ef_0 m p1 q2 q3 p4 p5) k) ?_
  show OutW _ _ _ _ _ _ _ (s₁.setTop (mkF m 0 #[.val (.int p1), .val (.long q2), .second, .val (.long q3), .second, .val (.int p4), .val (.int p5), .unset, .unset, .unset, .unset, .unset, .unset, .unset, .unset, .unset, .unset, .unset] []))
  refine OutW.back (fun t k => XS.iloadN X0.here hx rfl (hb hby at_0) rfl  k) ?_
  show OutW _ _ _ _ _ _ _ (s₁.setTop (mkF m 1 #[.val (.int p1), .val (.long q2), .second, .val (.long q3), .second, .val (.int p4), .val (.int p5), .unset, .unset, .unset, .unset, .unset, .unset, .unset, .unset, .unset, .unset, .unset] [(.int p1)]))
  refine OutW.back (fun t k => XS.iconst X0.here hx rfl (hb hby at_1) k) ?_
  show OutW _ _ _ _ _ _ _ (s₁.setTop (mkF m 2 #[.val (.int p1), .val (.long q2), .second, .val (.long q3), .second, .val (.int p4), .val (.int p5), .unset, .unset, .unset, .unset, .unset, .unset, .unset, .unset, .unset, .unset, .unset] [(.int (1 : Int32)), (.int p1)]))
  refine OutW.back (fun t k => XS.iand X0.here hx rfl (hb hby at_2) rfl k) ?_
  show OutW _ _ _ _ _ _ _ (s₁.setTop (mkF m 3 #[.val (.int p1), .val (.long q2), .second, .val (.long q3), .second, .val (.int p4), .val (.int p5), .unset, .unset, .unset, .unset, .unset, .unset, .unset, .unset, .unset, .unset, .unset] [(.int (p1 &&& (1 : Int32)))]))
  by_cases c3_1 : (p1 &&& (1 : Int32)) = (0 : Int32)
  · skip
    refine OutW.back (fun t k => XS.ifNo X0.here hx rfl (hb hby at_3) rfl ((if0 _ _).trans (teq c3_1).2) k) ?_
    show OutW _ _ _ _ _ _ _ (s₁.setTop (mkF m 6 #[.val (.int p1), .val (.long q2), .second, .val (.long q3), .second, .val (.int p4), .val (.int p5), .unset, .unset, .unset, .unset, .unset, .unset, .unset, .unset, .unset, .unset, .unset] []))
    obtain ⟨T2, X2, e2, st2⟩ := getS2 X0 hx hZ hown (host := "") (Or.inl (hw _ (List.mem_of_getElem? (i := 0) rfl))) Via.refl e0 S_IPV4 (g := (mkF m 6 #[.val (.int p1), .val (.long q2), .second, .val (.long q3), .second, .val (.int p4), .val (.int p5), .unset, .unset, .unset, .unset, .unset, .unset, .unset, .unset, .unset, .unset, .unset] [])) rfl (hb hby at_6)
    refine OutW.back st2 ?_
    show OutW _ _ _ _ _ _ _ (T2.setTop (mkF m 9 #[.val (.int p1), .val (.long q2), .second, .val (.long q3), .second, .val (.int p4), .val (.int p5), .unset, .unset, .unset, .unset, .unset, .unset, .unset, .unset, .unset, .unset, .unset] [(.ref s_IPV4)]))
    refine OutW.back (fun t k => XS.goto X2.here hx rfl (pc0 := 9) (pc' := 15) rfl (hb hby at_9) (by decide) (by decide) k) ?_
    show OutW _ _ _ _ _ _ _ (T2.setTop (mkF m 15 #[.val (.int p1), .val (.long q2), .second, .val (.long q3), .second, .val (.int p4), .val (.int p5), .unset, .unset, .unset, .unset, .unset, .unset, .unset, .unset, .unset, .unset, .unset] [(.ref s_IPV4)]))
    refine OutW.back (fun t k => XS.astore X2.here hx rfl (hb hby at_15) rfl rfl (l' := #[.val (.int p1), .val (.long q2), .second, .val (.long q3), .second, .val (.int p4), .val (.int p5), .val (.ref s_IPV4), .unset, .unset, .unset, .unset, .unset, .unset, .unset, .unset, .unset, .unset]) rfl k) ?_
    show OutW _ _ _ _ _ _ _ (T2.setTop (mkF m 17 #[.val (.int p1), .val (.long q2), .second, .val (.long q3), .second, .val (.int p4), .val (.int p5), .val (.ref s_IPV4), .unset, .unset, .unset, .unset, .unset, .unset, .unset, .unset, .unset, .unset] []))
    refine OutW.back (fun t k => XS.iload X2.here hx rfl (hb hby at_17) rfl  k) ?_
    show OutW _ _ _ _ _ _ _ (T2.setTop (mkF m 19 #[.val (.int p1), .val (.long q2), .second, .val (.long q3), .second, .val (.int p4), .val (.int p5), .val (.ref s_IPV4), .unset, .unset, .unset, .unset, .unset, .unset, .unset, .unset, .unset, .unset] [(.int p4)]))
    refine OutW.back (X2.ldcInt hx hown (mvT hZ (hw _ (List.mem_of_getElem? (i := 3) rfl))) (g := (mkF m 19 #[.val (.int p1), .val (.long q2), .second, .val (.long q3), .second, .val (.int p4), .val (.int p5), .val (.ref s_IPV4), .unset, .unset, .unset, .unset, .unset, .unset, .unset, .unset, .unset, .unset] [(.int p4)])) rfl (hb hby at_19)) ?_
    show OutW _ _ _ _ _ _ _ (T2.setTop (mkF m 21 #[.val (.int p1), .val (.long q2), .second, .val (.long q3), .second, .val (.int p4), .val (.int p5), .val (.ref s_IPV4), .unset, .unset, .unset, .unset, .unset, .unset, .unset, .unset, .unset, .unset] [(.int (2147483647 : Int32)), (.int p4)]))
    refine OutW.back (fun t k => XS.iand X2.here hx rfl (hb hby at_21) rfl k) ?_
    show OutW _ _ _ _ _ _ _ (T2.setTop (mkF m 22 #[.val (.int p1), .val (.long q2), .second, .val (.long q3), .second, .val (.int p4), .val (.int p5), .val (.ref s_IPV4), .unset, .unset, .unset, .unset, .unset, .unset, .unset, .unset, .unset, .unset] [(.int (p4 &&& (2147483647 : Int32)))]))
    refine OutW.back (fun t k => XS.sipush X2.here hx rfl (hb hby at_22) k) ?_
    show OutW _ _ _ _ _ _ _ (T2.setTop (mkF m 25 #[.val (.int p1), .val (.long q2), .second, .val (.long q3), .second, .val (.int p4), .val (.int p5), .val (.ref s_IPV4), .unset, .unset, .unset, .unset, .unset, .unset, .unset, .unset, .unset, .unset] [(.int (129 : Int32)), (.int (p4 &&& (2147483647 : Int32)))]))
    refine OutW.back (fun t k => iremM X2 hx rfl (hb hby at_25) rfl (by decide) k) ?_
    show OutW _ _ _ _ _ _ _ (T2.setTop (mkF m 26 #[.val (.int p1), .val (.long q2), .second, .val (.long q3), .second, .val (.int p4), .val (.int p5), .val (.ref s_IPV4), .unset, .unset, .unset, .unset, .unset, .unset, .unset, .unset, .unset, .unset] [(.int ((p4 &&& (2147483647 : Int32)) % (129 : Int32)))]))
    generalize hv_v3 : ((p4 &&& (2147483647 : Int32)) % (129 : Int32)) = v3
    refine OutW.back (fun t k => XS.istore X2.here hx rfl (hb hby at_26) rfl (l' := #[.val (.int p1), .val (.long q2), .second, .val (.long q3), .second, .val (.int p4), .val (.int p5), .val (.ref s_IPV4), .val (.int v3), .unset, .unset, .unset, .unset, .unset, .unset, .unset, .unset, .unset]) rfl k) ?_
    show OutW _ _ _ _ _ _ _ (T2.setTop (mkF m 28 #[.val (.int p1), .val (.long q2), .second, .val (.long q3), .second, .val (.int p4), .val (.int p5), .val (.ref s_IPV4), .val (.int v3), .unset, .unset, .unset, .unset, .unset, .unset, .unset, .unset, .unset] []))
    refine OutW.back (fun t k => XS.iload X2.here hx rfl (hb hby at_28) rfl  k) ?_
    show OutW _ _ _ _ _ _ _ (T2.setTop (mkF m 30 #[.val (.int p1), .val (.long q2), .second, .val (.long q3), .second, .val (.int p4), .val (.int p5), .val (.ref s_IPV4), .val (.int v3), .unset, .unset, .unset, .unset, .unset, .unset, .unset, .unset, .unset] [(.int p5)]))
    refine OutW.back (fun t k => XS.bipush X2.here hx rfl (hb hby at_30) k) ?_
    show OutW _ _ _ _ _ _ _ (T2.setTop (mkF m 32 #[.val (.int p1), .val (.long q2), .second, .val (.long q3), .second, .val (.int p4), .val (.int p5), .val (.ref s_IPV4), .val (.int v3), .unset, .unset, .unset, .unset, .unset, .unset, .unset, .unset, .unset] [(.int (127 : Int32)), (.int p5)]))
    refine OutW.back (fun t k => XS.iand X2.here hx rfl (hb hby at_32) rfl k) ?_
    show OutW _ _ _ _ _ _ _ (T2.setTop (mkF m 33 #[.val (.int p1), .val (.long q2), .second, .val (.long q3), .second, .val (.int p4), .val (.int p5), .val (.ref s_IPV4), .val (.int v3), .unset, .unset, .unset, .unset, .unset, .unset, .unset, .unset, .unset] [(.int (p5 &&& (127 : Int32)))]))
    generalize hv_v4 : (p5 &&& (127 : Int32)) = v4
    refine OutW.back (fun t k => XS.istore X2.here hx rfl (hb hby at_33) rfl (l' := #[.val (.int p1), .val (.long q2), .second, .val (.long q3), .second, .val (.int p4), .val (.int p5), .val (.ref s_IPV4), .val (.int v3), .val (.int v4), .unset, .unset, .unset, .unset, .unset, .unset, .unset, .unset]) rfl k) ?_
    show OutW _ _ _ _ _ _ _ (T2.setTop (mkF m 35 #[.val (.int p1), .val (.long q2), .second, .val (.long q3), .second, .val (.int p4), .val (.int p5), .val (.ref s_IPV4), .val (.int v3), .val (.int v4), .unset, .unset, .unset, .unset, .unset, .unset, .unset, .unset] []))
    obtain ⟨T5, h5, X5, e5, E5, A5, D5, -, st5⟩ := newO X2 hx hZ hown (hw _ (List.mem_of_getElem? (i := 4) rfl)) (hw _ (List.mem_of_getElem? (i := 5) rfl)) (hw _ (List.mem_of_getElem? (i := 6) rfl)) e2 (g := (mkF m 35 #[.val (.int p1), .val (.long q2), .second, .val (.long q3), .second, .val (.int p4), .val (.int p5), .val (.ref s_IPV4), .val (.int v3), .val (.int v4), .unset, .unset, .unset, .unset, .unset, .unset, .unset, .unset] [])) rfl (hb hby at_35) (by decide) (by decide)
    obtain ⟨b5, g5⟩ : ∃ z, z = h0.size := ⟨_, rfl⟩
    rw [← g5] at A5 D5 st5
    have ne_s_IPV4_b5 : s_IPV4 ≠ b5 := Nat.ne_of_lt (Nat.lt_of_lt_of_le E_s_IPV4.lt (Nat.le_of_eq g5.symm))
    have ne_s_IPV6_b5 : s_IPV6 ≠ b5 := Nat.ne_of_lt (Nat.lt_of_lt_of_le E_s_IPV6.lt (Nat.le_of_eq g5.symm))
    have g_b5 : n0 ≤ b5 := Nat.le_trans Z0 (Nat.le_of_eq g5.symm)
    have sz_b5 : h0.size ≤ b5 := Nat.le_trans K0.1 (Nat.le_of_eq g5.symm)
    have S_IPV4 := S_IPV4.ext E5
    have S_IPV6 := S_IPV6.ext E5
    have E_s_IPV4 := E_s_IPV4.ext E5
    have E_s_IPV6 := E_s_IPV6.ext E5
    have Z5 : n0 ≤ h5.size := Nat.le_trans Z0 E5.1
    have K5 := K0.ext E5
    have E_b5 := A5
    have F_type_b5 : Fld Z h5 b5 "com/example/nearpath/nearpath/Address" "type" "Lcom/example/nearpath/nearpath/AddressType;" .null := D5 (Or.inr (hw _ (List.mem_of_getElem? (i := 19) rfl))) (ty := (.object "com/example/nearpath/nearpath/AddressType")) (by decide)
    have F_high_b5 : Fld Z h5 b5 "com/example/nearpath/nearpath/Address" "high" "J" (.long (0 : Int64)) := D5 (Or.inr (hw _ (List.mem_of_getElem? (i := 21) rfl))) (ty := .long) (by decide)
    have F_low_b5 : Fld Z h5 b5 "com/example/nearpath/nearpath/Address" "low" "J" (.long (0 : Int64)) := D5 (Or.inr (hw _ (List.mem_of_getElem? (i := 23) rfl))) (ty := .long) (by decide)
    refine OutW.back st5 ?_
    show OutW _ _ _ _ _ _ _ (T5.setTop (mkF m 38 #[.val (.int p1), .val (.long q2), .second, .val (.long q3), .second, .val (.int p4), .val (.int p5), .val (.ref s_IPV4), .val (.int v3), .val (.int v4), .unset, .unset, .unset, .unset, .unset, .unset, .unset, .unset] [(.ref b5)]))
    refine OutW.back (fun t k => XS.dup X5.here hx rfl (hb hby at_38) rfl rfl k) ?_
    show OutW _ _ _ _ _ _ _ (T5.setTop (mkF m 39 #[.val (.int p1), .val (.long q2), .second, .val (.long q3), .second, .val (.int p4), .val (.int p5), .val (.ref s_IPV4), .val (.int v3), .val (.int v4), .unset, .unset, .unset, .unset, .unset, .unset, .unset, .unset] [(.ref b5), (.ref b5)]))
    refine OutW.back (fun t k => XS.aload X5.here hx rfl (hb hby at_39) rfl rfl  k) ?_
    show OutW _ _ _ _ _ _ _ (T5.setTop (mkF m 41 #[.val (.int p1), .val (.long q2), .second, .val (.long q3), .second, .val (.int p4), .val (.int p5), .val (.ref s_IPV4), .val (.int v3), .val (.int v4), .unset, .unset, .unset, .unset, .unset, .unset, .unset, .unset] [(.ref s_IPV4), (.ref b5), (.ref b5)]))
    refine OutW.back (fun t k => XS.lloadN X5.here hx rfl (hb hby at_41) rfl  k) ?_
    show OutW _ _ _ _ _ _ _ (T5.setTop (mkF m 42 #[.val (.int p1), .val (.long q2), .second, .val (.long q3), .second, .val (.int p4), .val (.int p5), .val (.ref s_IPV4), .val (.int v3), .val (.int v4), .unset, .unset, .unset, .unset, .unset, .unset, .unset, .unset] [(.long q2), (.ref s_IPV4), (.ref b5), (.ref b5)]))
    refine OutW.back (fun t k => XS.lloadN X5.here hx rfl (hb hby at_42) rfl  k) ?_
    show OutW _ _ _ _ _ _ _ (T5.setTop (mkF m 43 #[.val (.int p1), .val (.long q2), .second, .val (.long q3), .second, .val (.int p4), .val (.int p5), .val (.ref s_IPV4), .val (.int v3), .val (.int v4), .unset, .unset, .unset, .unset, .unset, .unset, .unset, .unset] [(.long q3), (.long q2), (.ref s_IPV4), (.ref b5), (.ref b5)]))
    obtain ⟨_, _, ⟨T6, L6, k6, n6⟩, -, X6, ⟨Lc6, hQ6, l6, y6, z6⟩, st6⟩ := X5.specialBack hx (y := (⟨"com/example/nearpath/nearpath/Address", "<init>", "(Lcom/example/nearpath/nearpath/AddressType;JJ)V"⟩ : MethodName)) rfl hown (mvT hZ (hw _ (List.mem_of_getElem? (i := 7) rfl))) (mvT hZ (hw _ (List.mem_of_getElem? (i := 8) rfl))) (mvT hZ (hw _ (List.mem_of_getElem? (i := 9) rfl))) (by decide) (backOf (W := 1) (rm1 l Z a0 hw [] b5 s_IPV4 q2 q3 h5 n0 Z5 E_b5 g_b5 F_type_b5 F_high_b5 F_low_b5) hZ (hw _ (List.mem_of_getElem? (i := 9) rfl)) (hw _ (List.mem_of_getElem? (i := 6) rfl)) (by decide) (by decide)) (g := (mkF m 43 #[.val (.int p1), .val (.long q2), .second, .val (.long q3), .second, .val (.int p4), .val (.int p5), .val (.ref s_IPV4), .val (.int v3), .val (.int v4), .unset, .unset, .unset, .unset, .unset, .unset, .unset, .unset] [(.long q3), (.long q2), (.ref s_IPV4), (.ref b5), (.ref b5)])) rfl (by rw [hml]; rfl) (Steps.refl _) (a := b5) (argsL := [(.ref s_IPV4), (.long q2), (.long q3)]) (rest := [(.ref b5)]) (lenOf pd_2 rfl) rfl (by show 2 * 0 + _ ≤ _; exact Nat.le_of_eq rfl) (hb hby at_43) (fun _ _ => ⟨rfl, e5, (by decide : 1 + 0 ≤ _), (by decide : 3 + 0 ≤ _)⟩)
    dsimp only [Pt.U, Pt.locs, Pt.cells, Pt.slots] at X6 l6 y6 z6 st6 hQ6
    subst l6 y6 z6
    obtain ⟨h6, eh6⟩ : ∃ z, z = T6.heap := ⟨_, rfl⟩
    rw [← eh6] at hQ6
    have e6 : T6.heap = h6 := eh6.symm
    obtain ⟨rfl, Nq6, Kq6, F_type_b5, F_high_b5, F_low_b5⟩ := hQ6
    have S_IPV4 := own_keepS S_IPV4 Kq6 (allS ⟨_, E_b5⟩ all0)
    have S_IPV6 := own_keepS S_IPV6 Kq6 (allS ⟨_, E_b5⟩ all0)
    have E_s_IPV4 := E_s_IPV4.keep Kq6
    have E_s_IPV6 := E_s_IPV6.keep Kq6
    have E_b5 := E_b5.keep Kq6
    have Z6 : n0 ≤ h6.size := Nat.le_trans Z5 Kq6.1
    have K6 := K5.trans Kq6 (allS (Or.inr sz_b5) all0)
    have N6 := Fr.app N0 Nq6
    refine OutW.via st6 ?_
    show OutW _ _ _ _ _ _ _ (T6.setTop (mkF m 46 #[.val (.int p1), .val (.long q2), .second, .val (.long q3), .second, .val (.int p4), .val (.int p5), .val (.ref s_IPV4), .val (.int v3), .val (.int v4), .unset, .unset, .unset, .unset, .unset, .unset, .unset, .unset] [(.ref b5)]))
    refine OutW.back (fun t k => XS.astore X6.here hx rfl (hb hby at_46) rfl rfl (l' := #[.val (.int p1), .val (.long q2), .second, .val (.long q3), .second, .val (.int p4), .val (.int p5), .val (.ref s_IPV4), .val (.int v3), .val (.int v4), .val (.ref b5), .unset, .unset, .unset, .unset, .unset, .unset, .unset]) rfl k) ?_
    show OutW _ _ _ _ _ _ _ (T6.setTop (mkF m 48 #[.val (.int p1), .val (.long q2), .second, .val (.long q3), .second, .val (.int p4), .val (.int p5), .val (.ref s_IPV4), .val (.int v3), .val (.int v4), .val (.ref b5), .unset, .unset, .unset, .unset, .unset, .unset, .unset] []))
    refine OutW.back (fun t k => XS.aload X6.here hx rfl (hb hby at_48) rfl rfl  k) ?_
    show OutW _ _ _ _ _ _ _ (T6.setTop (mkF m 50 #[.val (.int p1), .val (.long q2), .second, .val (.long q3), .second, .val (.int p4), .val (.int p5), .val (.ref s_IPV4), .val (.int v3), .val (.int v4), .val (.ref b5), .unset, .unset, .unset, .unset, .unset, .unset, .unset] [(.ref b5)]))
    refine OutW.back (fun t k => XS.iload X6.here hx rfl (hb hby at_50) rfl  k) ?_
    show OutW _ _ _ _ _ _ _ (T6.setTop (mkF m 52 #[.val (.int p1), .val (.long q2), .second, .val (.long q3), .second, .val (.int p4), .val (.int p5), .val (.ref s_IPV4), .val (.int v3), .val (.int v4), .val (.ref b5), .unset, .unset, .unset, .unset, .unset, .unset, .unset] [(.int v3), (.ref b5)]))
    obtain ⟨cq7, kq7, qa7, qb7, qc7⟩ := isOf hZ e6 E_b5
    obtain ⟨_, _, ⟨T7, L7, k7, n7⟩, -, X7, ⟨Lc7, hQ7, l7, y7, z7⟩, st7⟩ := X6.virtualBack hx (y := (⟨"com/example/nearpath/nearpath/Address", "masked", "(I)Lcom/example/nearpath/nearpath/Address;"⟩ : MethodName)) (z := (⟨"com/example/nearpath/nearpath/Address", "masked", "(I)Lcom/example/nearpath/nearpath/Address;"⟩ : MethodName)) hown (mvT hZ (hw _ (List.mem_of_getElem? (i := 24) rfl))) (mvT hZ (hw _ (List.mem_of_getElem? (i := 25) rfl))) (notFace_of_selects (args := #[]) (mvT hZ (hw _ (List.mem_of_getElem? (i := 27) rfl)))) (mvT hZ (hw _ (List.mem_of_getElem? (i := 27) rfl))) (mvT hZ (hw _ (List.mem_of_getElem? (i := 26) rfl))) (by decide) (backOf (W := 0) (rm4 l Z a0 hw [] b5 v3 s_IPV4 q2 q3 h6 n0 Z6 F_type_b5 F_high_b5 F_low_b5) hZ (hw _ (List.mem_of_getElem? (i := 28) rfl)) (hw _ (List.mem_of_getElem? (i := 6) rfl)) (by decide) (by decide)) qa7 qc7 (g := (mkF m 52 #[.val (.int p1), .val (.long q2), .second, .val (.long q3), .second, .val (.int p4), .val (.int p5), .val (.ref s_IPV4), .val (.int v3), .val (.int v4), .val (.ref b5), .unset, .unset, .unset, .unset, .unset, .unset, .unset] [(.int v3), (.ref b5)])) rfl (by rw [hml]; rfl) (Steps.refl _) (argsL := [(.int v3)]) (rest := []) (lenOf pd_3 rfl) rfl (by show 2 * 0 + _ ≤ _; exact Nat.le_of_eq rfl) (hb hby at_52) (fun _ _ => ⟨rfl, e6, (by decide : 1 + 1 ≤ _), (by decide : 3 + 3 ≤ _)⟩)
    dsimp only [Pt.U, Pt.locs, Pt.cells, Pt.slots] at X7 l7 y7 z7 st7 hQ7
    subst l7 y7 z7
    obtain ⟨h7, eh7⟩ : ∃ z, z = T7.heap := ⟨_, rfl⟩
    rw [← eh7] at hQ7
    have e7 : T7.heap = h7 := eh7.symm
    obtain ⟨bN_7, rfl, Nq7, Kq7, g_bN_7, E_bN_7, F_type_bN_7, F_high_bN_7, F_low_bN_7⟩ := hQ7
    have S_IPV4 := own_keepS S_IPV4 Kq7 all0
    have S_IPV6 := own_keepS S_IPV6 Kq7 all0
    have E_s_IPV4 := E_s_IPV4.keep Kq7
    have E_s_IPV6 := E_s_IPV6.keep Kq7
    have E_b5 := E_b5.keep Kq7
    have F_type_b5 := F_type_b5.keep Kq7 nin0
    have F_high_b5 := F_high_b5.keep Kq7 nin0
    have F_low_b5 := F_low_b5.keep Kq7 nin0
    have Z7 : n0 ≤ h7.size := Nat.le_trans Z6 Kq7.1
    have K7 := K6.trans Kq7 all0
    have N7 := Fr.app N6 Nq7
    refine OutW.via st7 ?_
    show OutW _ _ _ _ _ _ _ (T7.setTop (mkF m 55 #[.val (.int p1), .val (.long q2), .second, .val (.long q3), .second, .val (.int p4), .val (.int p5), .val (.ref s_IPV4), .val (.int v3), .val (.int v4), .val (.ref b5), .unset, .unset, .unset, .unset, .unset, .unset, .unset] [(.ref bN_7)]))
    refine OutW.back (fun t k => XS.astore X7.here hx rfl (hb hby at_55) rfl rfl (l' := #[.val (.int p1), .val (.long q2), .second, .val (.long q3), .second, .val (.int p4), .val (.int p5), .val (.ref s_IPV4), .val (.int v3), .val (.int v4), .val (.ref b5), .val (.ref bN_7), .unset, .unset, .unset, .unset, .unset, .unset]) rfl k) ?_
    show OutW _ _ _ _ _ _ _ (T7.setTop (mkF m 57 #[.val (.int p1), .val (.long q2), .second, .val (.long q3), .second, .val (.int p4), .val (.int p5), .val (.ref s_IPV4), .val (.int v3), .val (.int v4), .val (.ref b5), .val (.ref bN_7), .unset, .unset, .unset, .unset, .unset, .unset] []))
    refine OutW.back (fun t k => XS.aload X7.here hx rfl (hb hby at_57) rfl rfl  k) ?_
    show OutW _ _ _ _ _ _ _ (T7.setTop (mkF m 59 #[.val (.int p1), .val (.long q2), .second, .val (.long q3), .second, .val (.int p4), .val (.int p5), .val (.ref s_IPV4), .val (.int v3), .val (.int v4), .val (.ref b5), .val (.ref bN_7), .unset, .unset, .unset, .unset, .unset, .unset] [(.ref bN_7)]))
    obtain ⟨cq8, kq8, qa8, qb8, qc8⟩ := isOf hZ e7 E_bN_7
    obtain ⟨_, _, ⟨T8, L8, k8, n8⟩, -, X8, ⟨Lc8, hQ8, l8, y8, z8⟩, st8⟩ := X7.virtualBack hx (y := (⟨"com/example/nearpath/nearpath/Address", "type", "()Lcom/example/nearpath/nearpath/AddressType;"⟩ : MethodName)) (z := (⟨"com/example/nearpath/nearpath/Address", "type", "()Lcom/example/nearpath/nearpath/AddressType;"⟩ : MethodName)) hown (mvT hZ (hw _ (List.mem_of_getElem? (i := 37) rfl))) (mvT hZ (hw _ (List.mem_of_getElem? (i := 38) rfl))) (notFace_of_selects (args := #[]) (mvT hZ (hw _ (List.mem_of_getElem? (i := 40) rfl)))) (mvT hZ (hw _ (List.mem_of_getElem? (i := 40) rfl))) (mvT hZ (hw _ (List.mem_of_getElem? (i := 39) rfl))) (by decide) (backOf (W := 0) (rm7 l Z a0 hw [] bN_7 s_IPV4 h7 n0 Z7 F_type_bN_7) hZ (hw _ (List.mem_of_getElem? (i := 41) rfl)) (hw _ (List.mem_of_getElem? (i := 6) rfl)) (by decide) (by decide)) qa8 qc8 (g := (mkF m 59 #[.val (.int p1), .val (.long q2), .second, .val (.long q3), .second, .val (.int p4), .val (.int p5), .val (.ref s_IPV4), .val (.int v3), .val (.int v4), .val (.ref b5), .val (.ref bN_7), .unset, .unset, .unset, .unset, .unset, .unset] [(.ref bN_7)])) rfl (by rw [hml]; rfl) (Steps.refl _) (argsL := []) (rest := []) (lenOf pd_4 rfl) rfl (by show 2 * 0 + _ ≤ _; exact Nat.le_of_eq rfl) (hb hby at_59) (fun _ _ => ⟨rfl, e7, (by decide : 2 + 0 ≤ _), (by decide : 6 + 0 ≤ _)⟩)
    dsimp only [Pt.U, Pt.locs, Pt.cells, Pt.slots] at X8 l8 y8 z8 st8 hQ8
    subst l8 y8 z8
    obtain ⟨rfl, Nq8, e8⟩ := hQ8
    have N8 := Fr.app N7 Nq8
    refine OutW.via st8 ?_
    show OutW _ _ _ _ _ _ _ (T8.setTop (mkF m 62 #[.val (.int p1), .val (.long q2), .second, .val (.long q3), .second, .val (.int p4), .val (.int p5), .val (.ref s_IPV4), .val (.int v3), .val (.int v4), .val (.ref b5), .val (.ref bN_7), .unset, .unset, .unset, .unset, .unset, .unset] [(.ref s_IPV4)]))
    refine OutW.back (fun t k => XS.aload X8.here hx rfl (hb hby at_62) rfl rfl  k) ?_
    show OutW _ _ _ _ _ _ _ (T8.setTop (mkF m 64 #[.val (.int p1), .val (.long q2), .second, .val (.long q3), .second, .val (.int p4), .val (.int p5), .val (.ref s_IPV4), .val (.int v3), .val (.int v4), .val (.ref b5), .val (.ref bN_7), .unset, .unset, .unset, .unset, .unset, .unset] [(.ref s_IPV4), (.ref s_IPV4)]))
    refine OutW.back (fun t k => Jvm.RoadKit.acmp (g := (mkF m 64 #[.val (.int p1), .val (.long q2), .second, .val (.long q3), .second, .val (.int p4), .val (.int p5), .val (.ref s_IPV4), .val (.int v3), .val (.int v4), .val (.ref b5), .val (.ref bN_7), .unset, .unset, .unset, .unset, .unset, .unset] [(.ref s_IPV4), (.ref s_IPV4)])) X8 hx rfl rfl rfl (pc0 := 64) (pc' := 69) (same := true) rfl (hb hby at_64) rfl (decide_eq_true rfl) (by decide) (by decide) k) ?_
    show OutW _ _ _ _ _ _ _ (T8.setTop (mkF m 69 #[.val (.int p1), .val (.long q2), .second, .val (.long q3), .second, .val (.int p4), .val (.int p5), .val (.ref s_IPV4), .val (.int v3), .val (.int v4), .val (.ref b5), .val (.ref bN_7), .unset, .unset, .unset, .unset, .unset, .unset] []))
    refine OutW.back (fun t k => XS.lloadN X8.here hx rfl (hb hby at_69) rfl  k) ?_
    show OutW _ _ _ _ _ _ _ (T8.setTop (mkF m 70 #[.val (.int p1), .val (.long q2), .second, .val (.long q3), .second, .val (.int p4), .val (.int p5), .val (.ref s_IPV4), .val (.int v3), .val (.int v4), .val (.ref b5), .val (.ref bN_7), .unset, .unset, .unset, .unset, .unset, .unset] [(.long q2)]))
    refine OutW.back (fun t k => XS.lloadN X8.here hx rfl (hb hby at_70) rfl  k) ?_
    show OutW _ _ _ _ _ _ _ (T8.setTop (mkF m 71 #[.val (.int p1), .val (.long q2), .second, .val (.long q3), .second, .val (.int p4), .val (.int p5), .val (.ref s_IPV4), .val (.int v3), .val (.int v4), .val (.ref b5), .val (.ref bN_7), .unset, .unset, .unset, .unset, .unset, .unset] [(.long q3), (.long q2)]))
    refine OutW.back (fun t k => XS.iload X8.here hx rfl (hb hby at_71) rfl  k) ?_
    show OutW _ _ _ _ _ _ _ (T8.setTop (mkF m 73 #[.val (.int p1), .val (.long q2), .second, .val (.long q3), .second, .val (.int p4), .val (.int p5), .val (.ref s_IPV4), .val (.int v3), .val (.int v4), .val (.ref b5), .val (.ref bN_7), .unset, .unset, .unset, .unset, .unset, .unset] [(.int v4), (.long q3), (.long q2)]))
    obtain ⟨_, _, ⟨T9, L9, k9, n9⟩, -, X9, ⟨Lc9, hQ9, l9, y9, z9⟩, st9⟩ := Jvm.LawKit.callS X8 hx (y := (⟨"com/example/nearpath/nearpath/AddressMaskedPinLaw", "bit", "(JJI)J"⟩ : MethodName)) hown (mvT hZ (hw _ (List.mem_of_getElem? (i := 42) rfl))) (mvT hZ (hw _ (List.mem_of_getElem? (i := 43) rfl))) (mvT hZ (hw _ (List.mem_of_getElem? (i := 44) rfl))) (mvT hZ (hw _ (List.mem_of_getElem? (i := 45) rfl))) (by decide) (backOf (W := 0) (rm8 l Z a0 hw [] q2 q3 v4 h7 n0 Z7) hZ (hw _ (List.mem_of_getElem? (i := 45) rfl)) (hw _ (List.mem_of_getElem? (i := 44) rfl)) (by decide) (by decide)) (g := (mkF m 73 #[.val (.int p1), .val (.long q2), .second, .val (.long q3), .second, .val (.int p4), .val (.int p5), .val (.ref s_IPV4), .val (.int v3), .val (.int v4), .val (.ref b5), .val (.ref bN_7), .unset, .unset, .unset, .unset, .unset, .unset] [(.int v4), (.long q3), (.long q2)])) rfl (by rw [hml]; rfl) (argsL := [(.long q2), (.long q3), (.int v4)]) (rest := []) (lenOf pd_5 rfl) rfl (by show 2 * 0 + _ ≤ _; exact Nat.le_of_eq rfl) (hb hby at_73) (fun _ _ => ⟨rfl, e8, (by decide : 2 + 0 ≤ _), (by decide : 6 + 0 ≤ _)⟩)
    dsimp only [Pt.U, Pt.locs, Pt.cells, Pt.slots] at X9 l9 y9 z9 st9 hQ9
    subst l9 y9 z9
    obtain ⟨rfl, Nq9, e9⟩ := hQ9
    have N9 := Fr.app N8 Nq9
    refine OutW.back st9 ?_
    show OutW _ _ _ _ _ _ _ (T9.setTop (mkF m 76 #[.val (.int p1), .val (.long q2), .second, .val (.long q3), .second, .val (.int p4), .val (.int p5), .val (.ref s_IPV4), .val (.int v3), .val (.int v4), .val (.ref b5), .val (.ref bN_7), .unset, .unset, .unset, .unset, .unset, .unset] [(.long (bitF_0 q2 q3 v4))]))
    generalize hv_v10 : (bitF_0 q2 q3 v4) = v10
    refine OutW.back (fun t k => XS.lstore X9.here hx rfl (hb hby at_76) rfl (l' := #[.val (.int p1), .val (.long q2), .second, .val (.long q3), .second, .val (.int p4), .val (.int p5), .val (.ref s_IPV4), .val (.int v3), .val (.int v4), .val (.ref b5), .val (.ref bN_7), .val (.long v10), .second, .unset, .unset, .unset, .unset]) rfl k) ?_
    show OutW _ _ _ _ _ _ _ (T9.setTop (mkF m 78 #[.val (.int p1), .val (.long q2), .second, .val (.long q3), .second, .val (.int p4), .val (.int p5), .val (.ref s_IPV4), .val (.int v3), .val (.int v4), .val (.ref b5), .val (.ref bN_7), .val (.long v10), .second, .unset, .unset, .unset, .unset] []))
    refine OutW.back (fun t k => XS.aload X9.here hx rfl (hb hby at_78) rfl rfl  k) ?_
    show OutW _ _ _ _ _ _ _ (T9.setTop (mkF m 80 #[.val (.int p1), .val (.long q2), .second, .val (.long q3), .second, .val (.int p4), .val (.int p5), .val (.ref s_IPV4), .val (.int v3), .val (.int v4), .val (.ref b5), .val (.ref bN_7), .val (.long v10), .second, .unset, .unset, .unset, .unset] [(.ref bN_7)]))
    obtain ⟨cq11, kq11, qa11, qb11, qc11⟩ := isOf hZ e9 E_bN_7
    obtain ⟨_, _, ⟨T11, L11, k11, n11⟩, -, X11, ⟨Lc11, hQ11, l11, y11, z11⟩, st11⟩ := X9.virtualBack hx (y := (⟨"com/example/nearpath/nearpath/Address", "high", "()J"⟩ : MethodName)) (z := (⟨"com/example/nearpath/nearpath/Address", "high", "()J"⟩ : MethodName)) hown (mvT hZ (hw _ (List.mem_of_getElem? (i := 46) rfl))) (mvT hZ (hw _ (List.mem_of_getElem? (i := 47) rfl))) (notFace_of_selects (args := #[]) (mvT hZ (hw _ (List.mem_of_getElem? (i := 49) rfl)))) (mvT hZ (hw _ (List.mem_of_getElem? (i := 49) rfl))) (mvT hZ (hw _ (List.mem_of_getElem? (i := 48) rfl))) (by decide) (backOf (W := 0) (rm9 l Z a0 hw [] bN_7 (q2 &&& (highM_0 v3)) h7 n0 Z7 F_high_bN_7) hZ (hw _ (List.mem_of_getElem? (i := 50) rfl)) (hw _ (List.mem_of_getElem? (i := 6) rfl)) (by decide) (by decide)) qa11 qc11 (g := (mkF m 80 #[.val (.int p1), .val (.long q2), .second, .val (.long q3), .second, .val (.int p4), .val (.int p5), .val (.ref s_IPV4), .val (.int v3), .val (.int v4), .val (.ref b5), .val (.ref bN_7), .val (.long v10), .second, .unset, .unset, .unset, .unset] [(.ref bN_7)])) rfl (by rw [hml]; rfl) (Steps.refl _) (argsL := []) (rest := []) (lenOf pd_6 rfl) rfl (by show 2 * 0 + _ ≤ _; exact Nat.le_of_eq rfl) (hb hby at_80) (fun _ _ => ⟨rfl, e9, (by decide : 2 + 0 ≤ _), (by decide : 6 + 0 ≤ _)⟩)
    dsimp only [Pt.U, Pt.locs, Pt.cells, Pt.slots] at X11 l11 y11 z11 st11 hQ11
    subst l11 y11 z11
    obtain ⟨rfl, Nq11, e11⟩ := hQ11
    have N11 := Fr.app N9 Nq11
    refine OutW.via st11 ?_
    show OutW _ _ _ _ _ _ _ (T11.setTop (mkF m 83 #[.val (.int p1), .val (.long q2), .second, .val (.long q3), .second, .val (.int p4), .val (.int p5), .val (.ref s_IPV4), .val (.int v3), .val (.int v4), .val (.ref b5), .val (.ref bN_7), .val (.long v10), .second, .unset, .unset, .unset, .unset] [(.long (q2 &&& (highM_0 v3)))]))
    refine OutW.back (fun t k => XS.aload X11.here hx rfl (hb hby at_83) rfl rfl  k) ?_
    show OutW _ _ _ _ _ _ _ (T11.setTop (mkF m 85 #[.val (.int p1), .val (.long q2), .second, .val (.long q3), .second, .val (.int p4), .val (.int p5), .val (.ref s_IPV4), .val (.int v3), .val (.int v4), .val (.ref b5), .val (.ref bN_7), .val (.long v10), .second, .unset, .unset, .unset, .unset] [(.ref bN_7), (.long (q2 &&& (highM_0 v3)))]))
    obtain ⟨cq12, kq12, qa12, qb12, qc12⟩ := isOf hZ e11 E_bN_7
    obtain ⟨_, _, ⟨T12, L12, k12, n12⟩, -, X12, ⟨Lc12, hQ12, l12, y12, z12⟩, st12⟩ := X11.virtualBack hx (y := (⟨"com/example/nearpath/nearpath/Address", "low", "()J"⟩ : MethodName)) (z := (⟨"com/example/nearpath/nearpath/Address", "low", "()J"⟩ : MethodName)) hown (mvT hZ (hw _ (List.mem_of_getElem? (i := 51) rfl))) (mvT hZ (hw _ (List.mem_of_getElem? (i := 52) rfl))) (notFace_of_selects (args := #[]) (mvT hZ (hw _ (List.mem_of_getElem? (i := 54) rfl)))) (mvT hZ (hw _ (List.mem_of_getElem? (i := 54) rfl))) (mvT hZ (hw _ (List.mem_of_getElem? (i := 53) rfl))) (by decide) (backOf (W := 2) (rm10 l Z a0 hw [] bN_7 (q3 &&& (lowM_0 v3)) h7 n0 Z7 F_low_bN_7) hZ (hw _ (List.mem_of_getElem? (i := 55) rfl)) (hw _ (List.mem_of_getElem? (i := 6) rfl)) (by decide) (by decide)) qa12 qc12 (g := (mkF m 85 #[.val (.int p1), .val (.long q2), .second, .val (.long q3), .second, .val (.int p4), .val (.int p5), .val (.ref s_IPV4), .val (.int v3), .val (.int v4), .val (.ref b5), .val (.ref bN_7), .val (.long v10), .second, .unset, .unset, .unset, .unset] [(.ref bN_7), (.long (q2 &&& (highM_0 v3)))])) rfl (by rw [hml]; rfl) (Steps.refl _) (argsL := []) (rest := [(.long (q2 &&& (highM_0 v3)))]) (lenOf pd_6 rfl) rfl (by show 2 * 0 + _ ≤ _; exact Nat.le_of_eq rfl) (hb hby at_85) (fun _ _ => ⟨rfl, e11, (by decide : 2 + 0 ≤ _), (by decide : 6 + 0 ≤ _)⟩)
    dsimp only [Pt.U, Pt.locs, Pt.cells, Pt.slots] at X12 l12 y12 z12 st12 hQ12
    subst l12 y12 z12
    obtain ⟨rfl, Nq12, e12⟩ := hQ12
    have N12 := Fr.app N11 Nq12
    refine OutW.via st12 ?_
    show OutW _ _ _ _ _ _ _ (T12.setTop (mkF m 88 #[.val (.int p1), .val (.long q2), .second, .val (.long q3), .second, .val (.int p4), .val (.int p5), .val (.ref s_IPV4), .val (.int v3), .val (.int v4), .val (.ref b5), .val (.ref bN_7), .val (.long v10), .second, .unset, .unset, .unset, .unset] [(.long (q3 &&& (lowM_0 v3))), (.long (q2 &&& (highM_0 v3)))]))
    refine OutW.back (fun t k => XS.iload X12.here hx rfl (hb hby at_88) rfl  k) ?_
    show OutW _ _ _ _ _ _ _ (T12.setTop (mkF m 90 #[.val (.int p1), .val (.long q2), .second, .val (.long q3), .second, .val (.int p4), .val (.int p5), .val (.ref s_IPV4), .val (.int v3), .val (.int v4), .val (.ref b5), .val (.ref bN_7), .val (.long v10), .second, .unset, .unset, .unset, .unset] [(.int v4), (.long (q3 &&& (lowM_0 v3))), (.long (q2 &&& (highM_0 v3)))]))
    obtain ⟨_, _, ⟨T13, L13, k13, n13⟩, -, X13, ⟨Lc13, hQ13, l13, y13, z13⟩, st13⟩ := Jvm.LawKit.callS X12 hx (y := (⟨"com/example/nearpath/nearpath/AddressMaskedPinLaw", "bit", "(JJI)J"⟩ : MethodName)) hown (mvT hZ (hw _ (List.mem_of_getElem? (i := 42) rfl))) (mvT hZ (hw _ (List.mem_of_getElem? (i := 43) rfl))) (mvT hZ (hw _ (List.mem_of_getElem? (i := 44) rfl))) (mvT hZ (hw _ (List.mem_of_getElem? (i := 45) rfl))) (by decide) (backOf (W := 0) (rm8 l Z a0 hw [] (q2 &&& (highM_0 v3)) (q3 &&& (lowM_0 v3)) v4 h7 n0 Z7) hZ (hw _ (List.mem_of_getElem? (i := 45) rfl)) (hw _ (List.mem_of_getElem? (i := 44) rfl)) (by decide) (by decide)) (g := (mkF m 90 #[.val (.int p1), .val (.long q2), .second, .val (.long q3), .second, .val (.int p4), .val (.int p5), .val (.ref s_IPV4), .val (.int v3), .val (.int v4), .val (.ref b5), .val (.ref bN_7), .val (.long v10), .second, .unset, .unset, .unset, .unset] [(.int v4), (.long (q3 &&& (lowM_0 v3))), (.long (q2 &&& (highM_0 v3)))])) rfl (by rw [hml]; rfl) (argsL := [(.long (q2 &&& (highM_0 v3))), (.long (q3 &&& (lowM_0 v3))), (.int v4)]) (rest := []) (lenOf pd_5 rfl) rfl (by show 2 * 0 + _ ≤ _; exact Nat.le_of_eq rfl) (hb hby at_90) (fun _ _ => ⟨rfl, e12, (by decide : 2 + 0 ≤ _), (by decide : 6 + 0 ≤ _)⟩)
    dsimp only [Pt.U, Pt.locs, Pt.cells, Pt.slots] at X13 l13 y13 z13 st13 hQ13
    subst l13 y13 z13
    obtain ⟨rfl, Nq13, e13⟩ := hQ13
    have N13 := Fr.app N12 Nq13
    refine OutW.back st13 ?_
    show OutW _ _ _ _ _ _ _ (T13.setTop (mkF m 93 #[.val (.int p1), .val (.long q2), .second, .val (.long q3), .second, .val (.int p4), .val (.int p5), .val (.ref s_IPV4), .val (.int v3), .val (.int v4), .val (.ref b5), .val (.ref bN_7), .val (.long v10), .second, .unset, .unset, .unset, .unset] [(.long (bitF_0 (q2 &&& (highM_0 v3)) (q3 &&& (lowM_0 v3)) v4))]))
    generalize hv_v14 : (bitF_0 (q2 &&& (highM_0 v3)) (q3 &&& (lowM_0 v3)) v4) = v14
    refine OutW.back (fun t k => XS.lstore X13.here hx rfl (hb hby at_93) rfl (l' := #[.val (.int p1), .val (.long q2), .second, .val (.long q3), .second, .val (.int p4), .val (.int p5), .val (.ref s_IPV4), .val (.int v3), .val (.int v4), .val (.ref b5), .val (.ref bN_7), .val (.long v10), .second, .val (.long v14), .second, .unset, .unset]) rfl k) ?_
    show OutW _ _ _ _ _ _ _ (T13.setTop (mkF m 95 #[.val (.int p1), .val (.long q2), .second, .val (.long q3), .second, .val (.int p4), .val (.int p5), .val (.ref s_IPV4), .val (.int v3), .val (.int v4), .val (.ref b5), .val (.ref bN_7), .val (.long v10), .second, .val (.long v14), .second, .unset, .unset] []))
    refine OutW.back (fun t k => XS.iload X13.here hx rfl (hb hby at_95) rfl  k) ?_
    show OutW _ _ _ _ _ _ _ (T13.setTop (mkF m 97 #[.val (.int p1), .val (.long q2), .second, .val (.long q3), .second, .val (.int p4), .val (.int p5), .val (.ref s_IPV4), .val (.int v3), .val (.int v4), .val (.ref b5), .val (.ref bN_7), .val (.long v10), .second, .val (.long v14), .second, .unset, .unset] [(.int v4)]))
    refine OutW.back (fun t k => XS.iload X13.here hx rfl (hb hby at_97) rfl  k) ?_
    show OutW _ _ _ _ _ _ _ (T13.setTop (mkF m 99 #[.val (.int p1), .val (.long q2), .second, .val (.long q3), .second, .val (.int p4), .val (.int p5), .val (.ref s_IPV4), .val (.int v3), .val (.int v4), .val (.ref b5), .val (.ref bN_7), .val (.long v10), .second, .val (.long v14), .second, .unset, .unset] [(.int v3), (.int v4)]))
    obtain ⟨v16, hv_v16⟩ : ∃ z : Int64, z = (if v4 < v3 then v10 else (0 : Int64)) := ⟨_, rfl⟩
    have j17 : ∀ t, Steps p.tables e below (T13.setTop (mkF m 108 #[.val (.int p1), .val (.long q2), .second, .val (.long q3), .second, .val (.int p4), .val (.int p5), .val (.ref s_IPV4), .val (.int v3), .val (.int v4), .val (.ref b5), .val (.ref bN_7), .val (.long v10), .second, .val (.long v14), .second, .unset, .unset] [(.long v16)])) t → Steps p.tables e below (T13.setTop (mkF m 99 #[.val (.int p1), .val (.long q2), .second, .val (.long q3), .second, .val (.int p4), .val (.int p5), .val (.ref s_IPV4), .val (.int v3), .val (.int v4), .val (.ref b5), .val (.ref bN_7), .val (.long v10), .second, .val (.long v14), .second, .unset, .unset] [(.int v3), (.int v4)])) t := by
      intro t k
      by_cases c99_18 : v4 < v3
      · skip
        refine XS.icmpNo X13.here hx rfl (hb hby at_99) rfl (tlt c99_18).2.1 ?_
        show Steps p.tables e below (T13.setTop (mkF m 102 #[.val (.int p1), .val (.long q2), .second, .val (.long q3), .second, .val (.int p4), .val (.int p5), .val (.ref s_IPV4), .val (.int v3), .val (.int v4), .val (.ref b5), .val (.ref bN_7), .val (.long v10), .second, .val (.long v14), .second, .unset, .unset] [])) t
        refine XS.lload X13.here hx rfl (hb hby at_102) rfl  ?_
        show Steps p.tables e below (T13.setTop (mkF m 104 #[.val (.int p1), .val (.long q2), .second, .val (.long q3), .second, .val (.int p4), .val (.int p5), .val (.ref s_IPV4), .val (.int v3), .val (.int v4), .val (.ref b5), .val (.ref bN_7), .val (.long v10), .second, .val (.long v14), .second, .unset, .unset] [(.long v10)])) t
        refine XS.goto X13.here hx rfl (pc0 := 104) (pc' := 108) rfl (hb hby at_104) (by decide) (by decide) ?_
        show Steps p.tables e below (T13.setTop (mkF m 108 #[.val (.int p1), .val (.long q2), .second, .val (.long q3), .second, .val (.int p4), .val (.int p5), .val (.ref s_IPV4), .val (.int v3), .val (.int v4), .val (.ref b5), .val (.ref bN_7), .val (.long v10), .second, .val (.long v14), .second, .unset, .unset] [(.long v10)])) t
        have q_v16 : v16 = v10 := by rw [hv_v16, if_pos c99_18]
        rw [q_v16] at k
        exact k
      · skip
        refine XS.icmpYes X13.here hx rfl (pc0 := 99) (pc' := 107) rfl (hb hby at_99) rfl (flt c99_18).2.1 (by decide) (by decide) ?_
        show Steps p.tables e below (T13.setTop (mkF m 107 #[.val (.int p1), .val (.long q2), .second, .val (.long q3), .second, .val (.int p4), .val (.int p5), .val (.ref s_IPV4), .val (.int v3), .val (.int v4), .val (.ref b5), .val (.ref bN_7), .val (.long v10), .second, .val (.long v14), .second, .unset, .unset] [])) t
        refine XS.lconst X13.here hx rfl (hb hby at_107) ?_
        show Steps p.tables e below (T13.setTop (mkF m 108 #[.val (.int p1), .val (.long q2), .second, .val (.long q3), .second, .val (.int p4), .val (.int p5), .val (.ref s_IPV4), .val (.int v3), .val (.int v4), .val (.ref b5), .val (.ref bN_7), .val (.long v10), .second, .val (.long v14), .second, .unset, .unset] [(.long (0 : Int64))])) t
        have q_v16 : v16 = (0 : Int64) := by rw [hv_v16, if_neg c99_18]
        rw [q_v16] at k
        exact k
    refine OutW.back j17 ?_
    show OutW _ _ _ _ _ _ _ (T13.setTop (mkF m 108 #[.val (.int p1), .val (.long q2), .second, .val (.long q3), .second, .val (.int p4), .val (.int p5), .val (.ref s_IPV4), .val (.int v3), .val (.int v4), .val (.ref b5), .val (.ref bN_7), .val (.long v10), .second, .val (.long v14), .second, .unset, .unset] [(.long v16)]))
    refine OutW.back (fun t k => XS.lstore X13.here hx rfl (hb hby at_108) rfl (l' := #[.val (.int p1), .val (.long q2), .second, .val (.long q3), .second, .val (.int p4), .val (.int p5), .val (.ref s_IPV4), .val (.int v3), .val (.int v4), .val (.ref b5), .val (.ref bN_7), .val (.long v10), .second, .val (.long v14), .second, .val (.long v16), .second]) rfl k) ?_
    show OutW _ _ _ _ _ _ _ (T13.setTop (mkF m 110 #[.val (.int p1), .val (.long q2), .second, .val (.long q3), .second, .val (.int p4), .val (.int p5), .val (.ref s_IPV4), .val (.int v3), .val (.int v4), .val (.ref b5), .val (.ref bN_7), .val (.long v10), .second, .val (.long v14), .second, .val (.long v16), .second] []))
    refine OutW.back (fun t k => XS.lload X13.here hx rfl (hb hby at_110) rfl  k) ?_
    show OutW _ _ _ _ _ _ _ (T13.setTop (mkF m 112 #[.val (.int p1), .val (.long q2), .second, .val (.long q3), .second, .val (.int p4), .val (.int p5), .val (.ref s_IPV4), .val (.int v3), .val (.int v4), .val (.ref b5), .val (.ref bN_7), .val (.long v10), .second, .val (.long v14), .second, .val (.long v16), .second] [(.long v14)]))
    refine OutW.back (fun t k => XS.lload X13.here hx rfl (hb hby at_112) rfl  k) ?_
    show OutW _ _ _ _ _ _ _ (T13.setTop (mkF m 114 #[.val (.int p1), .val (.long q2), .second, .val (.long q3), .second, .val (.int p4), .val (.int p5), .val (.ref s_IPV4), .val (.int v3), .val (.int v4), .val (.ref b5), .val (.ref bN_7), .val (.long v10), .second, .val (.long v14), .second, .val (.long v16), .second] [(.long v16), (.long v14)]))
    refine OutW.back (fun t k => XS.lcmp X13.here hx rfl (hb hby at_114) rfl k) ?_
    show OutW _ _ _ _ _ _ _ (T13.setTop (mkF m 115 #[.val (.int p1), .val (.long q2), .second, .val (.long q3), .second, .val (.int p4), .val (.int p5), .val (.ref s_IPV4), .val (.int v3), .val (.int v4), .val (.ref b5), .val (.ref bN_7), .val (.long v10), .second, .val (.long v14), .second, .val (.long v16), .second] [(.int (lcmpW v14 v16))]))
    obtain ⟨v20, hv_v20⟩ : ∃ z : Int32, z = (if v14 = v16 then (1 : Int32) else (0 : Int32)) := ⟨_, rfl⟩
    have j21 : ∀ t, Steps p.tables e below (T13.setTop (mkF m 123 #[.val (.int p1), .val (.long q2), .second, .val (.long q3), .second, .val (.int p4), .val (.int p5), .val (.ref s_IPV4), .val (.int v3), .val (.int v4), .val (.ref b5), .val (.ref bN_7), .val (.long v10), .second, .val (.long v14), .second, .val (.long v16), .second] [(.int v20)])) t → Steps p.tables e below (T13.setTop (mkF m 115 #[.val (.int p1), .val (.long q2), .second, .val (.long q3), .second, .val (.int p4), .val (.int p5), .val (.ref s_IPV4), .val (.int v3), .val (.int v4), .val (.ref b5), .val (.ref bN_7), .val (.long v10), .second, .val (.long v14), .second, .val (.long v16), .second] [(.int (lcmpW v14 v16))])) t := by
      intro t k
      by_cases c115_22 : v14 = v16
      · skip
        refine XS.ifNo X13.here hx rfl (hb hby at_115) rfl ((if0 _ _).trans (teq ((lw_eq _ _).mpr c115_22)).2) ?_
        show Steps p.tables e below (T13.setTop (mkF m 118 #[.val (.int p1), .val (.long q2), .second, .val (.long q3), .second, .val (.int p4), .val (.int p5), .val (.ref s_IPV4), .val (.int v3), .val (.int v4), .val (.ref b5), .val (.ref bN_7), .val (.long v10), .second, .val (.long v14), .second, .val (.long v16), .second] [])) t
        refine XS.iconst X13.here hx rfl (hb hby at_118) ?_
        show Steps p.tables e below (T13.setTop (mkF m 119 #[.val (.int p1), .val (.long q2), .second, .val (.long q3), .second, .val (.int p4), .val (.int p5), .val (.ref s_IPV4), .val (.int v3), .val (.int v4), .val (.ref b5), .val (.ref bN_7), .val (.long v10), .second, .val (.long v14), .second, .val (.long v16), .second] [(.int (1 : Int32))])) t
        refine XS.goto X13.here hx rfl (pc0 := 119) (pc' := 123) rfl (hb hby at_119) (by decide) (by decide) ?_
        show Steps p.tables e below (T13.setTop (mkF m 123 #[.val (.int p1), .val (.long q2), .second, .val (.long q3), .second, .val (.int p4), .val (.int p5), .val (.ref s_IPV4), .val (.int v3), .val (.int v4), .val (.ref b5), .val (.ref bN_7), .val (.long v10), .second, .val (.long v14), .second, .val (.long v16), .second] [(.int (1 : Int32))])) t
        have q_v20 : v20 = (1 : Int32) := by rw [hv_v20, if_pos c115_22]
        rw [q_v20] at k
        exact k
      · skip
        refine XS.ifYes X13.here hx rfl (pc0 := 115) (pc' := 122) rfl (hb hby at_115) rfl ((if0 _ _).trans (feq (fun q => c115_22 ((lw_eq _ _).mp q))).2) (by decide) (by decide) ?_
        show Steps p.tables e below (T13.setTop (mkF m 122 #[.val (.int p1), .val (.long q2), .second, .val (.long q3), .second, .val (.int p4), .val (.int p5), .val (.ref s_IPV4), .val (.int v3), .val (.int v4), .val (.ref b5), .val (.ref bN_7), .val (.long v10), .second, .val (.long v14), .second, .val (.long v16), .second] [])) t
        refine XS.iconst X13.here hx rfl (hb hby at_122) ?_
        show Steps p.tables e below (T13.setTop (mkF m 123 #[.val (.int p1), .val (.long q2), .second, .val (.long q3), .second, .val (.int p4), .val (.int p5), .val (.ref s_IPV4), .val (.int v3), .val (.int v4), .val (.ref b5), .val (.ref bN_7), .val (.long v10), .second, .val (.long v14), .second, .val (.long v16), .second] [(.int (0 : Int32))])) t
        have q_v20 : v20 = (0 : Int32) := by rw [hv_v20, if_neg c115_22]
        rw [q_v20] at k
        exact k
    refine OutW.back j21 ?_
    show OutW _ _ _ _ _ _ _ (T13.setTop (mkF m 123 #[.val (.int p1), .val (.long q2), .second, .val (.long q3), .second, .val (.int p4), .val (.int p5), .val (.ref s_IPV4), .val (.int v3), .val (.int v4), .val (.ref b5), .val (.ref bN_7), .val (.long v10), .second, .val (.long v14), .second, .val (.long v16), .second] [(.int v20)]))
    refine OutW.retN X13 hx (t := .boolean) (z' := 1) Bd.returns (by simp) hlk (hb hby at_123) ?hz (by decide) (by decide) ?_
    case hz =>
      have hfin : v20 = (1 : Int32) := by
        exact own_plain 0 v4 v3 v20 p4 p5 q2 q3 v10 v14 v16 hv_v3 hv_v4 hv_v10 hv_v14 hv_v16 hv_v20
      rw [hfin]; rfl
    show Q0 Z p1 q2 q3 p4 p5 s_IPV4 s_IPV6 h0 n0 _ T13.heap _
    rw [e13]
    exact ⟨rfl, N13⟩
  · skip
    refine OutW.back (fun t k => XS.ifYes X0.here hx rfl (pc0 := 3) (pc' := 12) rfl (hb hby at_3) rfl ((if0 _ _).trans (feq c3_1).2) (by decide) (by decide) k) ?_
    show OutW _ _ _ _ _ _ _ (s₁.setTop (mkF m 12 #[.val (.int p1), .val (.long q2), .second, .val (.long q3), .second, .val (.int p4), .val (.int p5), .unset, .unset, .unset, .unset, .unset, .unset, .unset, .unset, .unset, .unset, .unset] []))
    obtain ⟨T23, X23, e23, st23⟩ := getS2 X0 hx hZ hown (host := "") (Or.inl (hw _ (List.mem_of_getElem? (i := 56) rfl))) Via.refl e0 S_IPV6 (g := (mkF m 12 #[.val (.int p1), .val (.long q2), .second, .val (.long q3), .second, .val (.int p4), .val (.int p5), .unset, .unset, .unset, .unset, .unset, .unset, .unset, .unset, .unset, .unset, .unset] [])) rfl (hb hby at_12)
    refine OutW.back st23 ?_
    show OutW _ _ _ _ _ _ _ (T23.setTop (mkF m 15 #[.val (.int p1), .val (.long q2), .second, .val (.long q3), .second, .val (.int p4), .val (.int p5), .unset, .unset, .unset, .unset, .unset, .unset, .unset, .unset, .unset, .unset, .unset] [(.ref s_IPV6)]))
    refine OutW.back (fun t k => XS.astore X23.here hx rfl (hb hby at_15) rfl rfl (l' := #[.val (.int p1), .val (.long q2), .second, .val (.long q3), .second, .val (.int p4), .val (.int p5), .val (.ref s_IPV6), .unset, .unset, .unset, .unset, .unset, .unset, .unset, .unset, .unset, .unset]) rfl k) ?_
    show OutW _ _ _ _ _ _ _ (T23.setTop (mkF m 17 #[.val (.int p1), .val (.long q2), .second, .val (.long q3), .second, .val (.int p4), .val (.int p5), .val (.ref s_IPV6), .unset, .unset, .unset, .unset, .unset, .unset, .unset, .unset, .unset, .unset] []))
    refine OutW.back (fun t k => XS.iload X23.here hx rfl (hb hby at_17) rfl  k) ?_
    show OutW _ _ _ _ _ _ _ (T23.setTop (mkF m 19 #[.val (.int p1), .val (.long q2), .second, .val (.long q3), .second, .val (.int p4), .val (.int p5), .val (.ref s_IPV6), .unset, .unset, .unset, .unset, .unset, .unset, .unset, .unset, .unset, .unset] [(.int p4)]))
    refine OutW.back (X23.ldcInt hx hown (mvT hZ (hw _ (List.mem_of_getElem? (i := 3) rfl))) (g := (mkF m 19 #[.val (.int p1), .val (.long q2), .second, .val (.long q3), .second, .val (.int p4), .val (.int p5), .val (.ref s_IPV6), .unset, .unset, .unset, .unset, .unset, .unset, .unset, .unset, .unset, .unset] [(.int p4)])) rfl (hb hby at_19)) ?_
    show OutW _ _ _ _ _ _ _ (T23.setTop (mkF m 21 #[.val (.int p1), .val (.long q2), .second, .val (.long q3), .second, .val (.int p4), .val (.int p5), .val (.ref s_IPV6), .unset, .unset, .unset, .unset, .unset, .unset, .unset, .unset, .unset, .unset] [(.int (2147483647 : Int32)), (.int p4)]))
    refine OutW.back (fun t k => XS.iand X23.here hx rfl (hb hby at_21) rfl k) ?_
    show OutW _ _ _ _ _ _ _ (T23.setTop (mkF m 22 #[.val (.int p1), .val (.long q2), .second, .val (.long q3), .second, .val (.int p4), .val (.int p5), .val (.ref s_IPV6), .unset, .unset, .unset, .unset, .unset, .unset, .unset, .unset, .unset, .unset] [(.int (p4 &&& (2147483647 : Int32)))]))
    refine OutW.back (fun t k => XS.sipush X23.here hx rfl (hb hby at_22) k) ?_
    show OutW _ _ _ _ _ _ _ (T23.setTop (mkF m 25 #[.val (.int p1), .val (.long q2), .second, .val (.long q3), .second, .val (.int p4), .val (.int p5), .val (.ref s_IPV6), .unset, .unset, .unset, .unset, .unset, .unset, .unset, .unset, .unset, .unset] [(.int (129 : Int32)), (.int (p4 &&& (2147483647 : Int32)))]))
    refine OutW.back (fun t k => iremM X23 hx rfl (hb hby at_25) rfl (by decide) k) ?_
    show OutW _ _ _ _ _ _ _ (T23.setTop (mkF m 26 #[.val (.int p1), .val (.long q2), .second, .val (.long q3), .second, .val (.int p4), .val (.int p5), .val (.ref s_IPV6), .unset, .unset, .unset, .unset, .unset, .unset, .unset, .unset, .unset, .unset] [(.int ((p4 &&& (2147483647 : Int32)) % (129 : Int32)))]))
    generalize hv_v24 : ((p4 &&& (2147483647 : Int32)) % (129 : Int32)) = v24
    refine OutW.back (fun t k => XS.istore X23.here hx rfl (hb hby at_26) rfl (l' := #[.val (.int p1), .val (.long q2), .second, .val (.long q3), .second, .val (.int p4), .val (.int p5), .val (.ref s_IPV6), .val (.int v24), .unset, .unset, .unset, .unset, .unset, .unset, .unset, .unset, .unset]) rfl k) ?_
    show OutW _ _ _ _ _ _ _ (T23.setTop (mkF m 28 #[.val (.int p1), .val (.long q2), .second, .val (.long q3), .second, .val (.int p4), .val (.int p5), .val (.ref s_IPV6), .val (.int v24), .unset, .unset, .unset, .unset, .unset, .unset, .unset, .unset, .unset] []))
    refine OutW.back (fun t k => XS.iload X23.here hx rfl (hb hby at_28) rfl  k) ?_
    show OutW _ _ _ _ _ _ _ (T23.setTop (mkF m 30 #[.val (.int p1), .val (.long q2), .second, .val (.long q3), .second, .val (.int p4), .val (.int p5), .val (.ref s_IPV6), .val (.int v24), .unset, .unset, .unset, .unset, .unset, .unset, .unset, .unset, .unset] [(.int p5)]))
    refine OutW.back (fun t k => XS.bipush X23.here hx rfl (hb hby at_30) k) ?_
    show OutW _ _ _ _ _ _ _ (T23.setTop (mkF m 32 #[.val (.int p1), .val (.long q2), .second, .val (.long q3), .second, .val (.int p4), .val (.int p5), .val (.ref s_IPV6), .val (.int v24), .unset, .unset, .unset, .unset, .unset, .unset, .unset, .unset, .unset] [(.int (127 : Int32)), (.int p5)]))
    refine OutW.back (fun t k => XS.iand X23.here hx rfl (hb hby at_32) rfl k) ?_
    show OutW _ _ _ _ _ _ _ (T23.setTop (mkF m 33 #[.val (.int p1), .val (.long q2), .second, .val (.long q3), .second, .val (.int p4), .val (.int p5), .val (.ref s_IPV6), .val (.int v24), .unset, .unset, .unset, .unset, .unset, .unset, .unset, .unset, .unset] [(.int (p5 &&& (127 : Int32)))]))
    generalize hv_v25 : (p5 &&& (127 : Int32)) = v25
    refine OutW.back (fun t k => XS.istore X23.here hx rfl (hb hby at_33) rfl (l' := #[.val (.int p1), .val (.long q2), .second, .val (.long q3), .second, .val (.int p4), .val (.int p5), .val (.ref s_IPV6), .val (.int v24), .val (.int v25), .unset, .unset, .unset, .unset, .unset, .unset, .unset, .unset]) rfl k) ?_
    show OutW _ _ _ _ _ _ _ (T23.setTop (mkF m 35 #[.val (.int p1), .val (.long q2), .second, .val (.long q3), .second, .val (.int p4), .val (.int p5), .val (.ref s_IPV6), .val (.int v24), .val (.int v25), .unset, .unset, .unset, .unset, .unset, .unset, .unset, .unset] []))
    obtain ⟨T26, h26, X26, e26, E26, A26, D26, -, st26⟩ := newO X23 hx hZ hown (hw _ (List.mem_of_getElem? (i := 4) rfl)) (hw _ (List.mem_of_getElem? (i := 5) rfl)) (hw _ (List.mem_of_getElem? (i := 6) rfl)) e23 (g := (mkF m 35 #[.val (.int p1), .val (.long q2), .second, .val (.long q3), .second, .val (.int p4), .val (.int p5), .val (.ref s_IPV6), .val (.int v24), .val (.int v25), .unset, .unset, .unset, .unset, .unset, .unset, .unset, .unset] [])) rfl (hb hby at_35) (by decide) (by decide)
    obtain ⟨b26, g26⟩ : ∃ z, z = h0.size := ⟨_, rfl⟩
    rw [← g26] at A26 D26 st26
    have ne_s_IPV4_b26 : s_IPV4 ≠ b26 := Nat.ne_of_lt (Nat.lt_of_lt_of_le E_s_IPV4.lt (Nat.le_of_eq g26.symm))
    have ne_s_IPV6_b26 : s_IPV6 ≠ b26 := Nat.ne_of_lt (Nat.lt_of_lt_of_le E_s_IPV6.lt (Nat.le_of_eq g26.symm))
    have g_b26 : n0 ≤ b26 := Nat.le_trans Z0 (Nat.le_of_eq g26.symm)
    have sz_b26 : h0.size ≤ b26 := Nat.le_trans K0.1 (Nat.le_of_eq g26.symm)
    have S_IPV4 := S_IPV4.ext E26
    have S_IPV6 := S_IPV6.ext E26
    have E_s_IPV4 := E_s_IPV4.ext E26
    have E_s_IPV6 := E_s_IPV6.ext E26
    have Z26 : n0 ≤ h26.size := Nat.le_trans Z0 E26.1
    have K26 := K0.ext E26
    have E_b26 := A26
    have F_type_b26 : Fld Z h26 b26 "com/example/nearpath/nearpath/Address" "type" "Lcom/example/nearpath/nearpath/AddressType;" .null := D26 (Or.inr (hw _ (List.mem_of_getElem? (i := 19) rfl))) (ty := (.object "com/example/nearpath/nearpath/AddressType")) (by decide)
    have F_high_b26 : Fld Z h26 b26 "com/example/nearpath/nearpath/Address" "high" "J" (.long (0 : Int64)) := D26 (Or.inr (hw _ (List.mem_of_getElem? (i := 21) rfl))) (ty := .long) (by decide)
    have F_low_b26 : Fld Z h26 b26 "com/example/nearpath/nearpath/Address" "low" "J" (.long (0 : Int64)) := D26 (Or.inr (hw _ (List.mem_of_getElem? (i := 23) rfl))) (ty := .long) (by decide)
    refine OutW.back st26 ?_
    show OutW _ _ _ _ _ _ _ (T26.setTop (mkF m 38 #[.val (.int p1), .val (.long q2), .second, .val (.long q3), .second, .val (.int p4), .val (.int p5), .val (.ref s_IPV6), .val (.int v24), .val (.int v25), .unset, .unset, .unset, .unset, .unset, .unset, .unset, .unset] [(.ref b26)]))
    refine OutW.back (fun t k => XS.dup X26.here hx rfl (hb hby at_38) rfl rfl k) ?_
    show OutW _ _ _ _ _ _ _ (T26.setTop (mkF m 39 #[.val (.int p1), .val (.long q2), .second, .val (.long q3), .second, .val (.int p4), .val (.int p5), .val (.ref s_IPV6), .val (.int v24), .val (.int v25), .unset, .unset, .unset, .unset, .unset, .unset, .unset, .unset] [(.ref b26), (.ref b26)]))
    refine OutW.back (fun t k => XS.aload X26.here hx rfl (hb hby at_39) rfl rfl  k) ?_
    show OutW _ _ _ _ _ _ _ (T26.setTop (mkF m 41 #[.val (.int p1), .val (.long q2), .second, .val (.long q3), .second, .val (.int p4), .val (.int p5), .val (.ref s_IPV6), .val (.int v24), .val (.int v25), .unset, .unset, .unset, .unset, .unset, .unset, .unset, .unset] [(.ref s_IPV6), (.ref b26), (.ref b26)]))
    refine OutW.back (fun t k => XS.lloadN X26.here hx rfl (hb hby at_41) rfl  k) ?_
    show OutW _ _ _ _ _ _ _ (T26.setTop (mkF m 42 #[.val (.int p1), .val (.long q2), .second, .val (.long q3), .second, .val (.int p4), .val (.int p5), .val (.ref s_IPV6), .val (.int v24), .val (.int v25), .unset, .unset, .unset, .unset, .unset, .unset, .unset, .unset] [(.long q2), (.ref s_IPV6), (.ref b26), (.ref b26)]))
    refine OutW.back (fun t k => XS.lloadN X26.here hx rfl (hb hby at_42) rfl  k) ?_
    show OutW _ _ _ _ _ _ _ (T26.setTop (mkF m 43 #[.val (.int p1), .val (.long q2), .second, .val (.long q3), .second, .val (.int p4), .val (.int p5), .val (.ref s_IPV6), .val (.int v24), .val (.int v25), .unset, .unset, .unset, .unset, .unset, .unset, .unset, .unset] [(.long q3), (.long q2), (.ref s_IPV6), (.ref b26), (.ref b26)]))
    obtain ⟨_, _, ⟨T27, L27, k27, n27⟩, -, X27, ⟨Lc27, hQ27, l27, y27, z27⟩, st27⟩ := X26.specialBack hx (y := (⟨"com/example/nearpath/nearpath/Address", "<init>", "(Lcom/example/nearpath/nearpath/AddressType;JJ)V"⟩ : MethodName)) rfl hown (mvT hZ (hw _ (List.mem_of_getElem? (i := 7) rfl))) (mvT hZ (hw _ (List.mem_of_getElem? (i := 8) rfl))) (mvT hZ (hw _ (List.mem_of_getElem? (i := 9) rfl))) (by decide) (backOf (W := 1) (rm1 l Z a0 hw [] b26 s_IPV6 q2 q3 h26 n0 Z26 E_b26 g_b26 F_type_b26 F_high_b26 F_low_b26) hZ (hw _ (List.mem_of_getElem? (i := 9) rfl)) (hw _ (List.mem_of_getElem? (i := 6) rfl)) (by decide) (by decide)) (g := (mkF m 43 #[.val (.int p1), .val (.long q2), .second, .val (.long q3), .second, .val (.int p4), .val (.int p5), .val (.ref s_IPV6), .val (.int v24), .val (.int v25), .unset, .unset, .unset, .unset, .unset, .unset, .unset, .unset] [(.long q3), (.long q2), (.ref s_IPV6), (.ref b26), (.ref b26)])) rfl (by rw [hml]; rfl) (Steps.refl _) (a := b26) (argsL := [(.ref s_IPV6), (.long q2), (.long q3)]) (rest := [(.ref b26)]) (lenOf pd_2 rfl) rfl (by show 2 * 0 + _ ≤ _; exact Nat.le_of_eq rfl) (hb hby at_43) (fun _ _ => ⟨rfl, e26, (by decide : 1 + 0 ≤ _), (by decide : 3 + 0 ≤ _)⟩)
    dsimp only [Pt.U, Pt.locs, Pt.cells, Pt.slots] at X27 l27 y27 z27 st27 hQ27
    subst l27 y27 z27
    obtain ⟨h27, eh27⟩ : ∃ z, z = T27.heap := ⟨_, rfl⟩
    rw [← eh27] at hQ27
    have e27 : T27.heap = h27 := eh27.symm
    obtain ⟨rfl, Nq27, Kq27, F_type_b26, F_high_b26, F_low_b26⟩ := hQ27
    have S_IPV4 := own_keepS S_IPV4 Kq27 (allS ⟨_, E_b26⟩ all0)
    have S_IPV6 := own_keepS S_IPV6 Kq27 (allS ⟨_, E_b26⟩ all0)
    have E_s_IPV4 := E_s_IPV4.keep Kq27
    have E_s_IPV6 := E_s_IPV6.keep Kq27
    have E_b26 := E_b26.keep Kq27
    have Z27 : n0 ≤ h27.size := Nat.le_trans Z26 Kq27.1
    have K27 := K26.trans Kq27 (allS (Or.inr sz_b26) all0)
    have N27 := Fr.app N0 Nq27
    refine OutW.via st27 ?_
    show OutW _ _ _ _ _ _ _ (T27.setTop (mkF m 46 #[.val (.int p1), .val (.long q2), .second, .val (.long q3), .second, .val (.int p4), .val (.int p5), .val (.ref s_IPV6), .val (.int v24), .val (.int v25), .unset, .unset, .unset, .unset, .unset, .unset, .unset, .unset] [(.ref b26)]))
    refine OutW.back (fun t k => XS.astore X27.here hx rfl (hb hby at_46) rfl rfl (l' := #[.val (.int p1), .val (.long q2), .second, .val (.long q3), .second, .val (.int p4), .val (.int p5), .val (.ref s_IPV6), .val (.int v24), .val (.int v25), .val (.ref b26), .unset, .unset, .unset, .unset, .unset, .unset, .unset]) rfl k) ?_
    show OutW _ _ _ _ _ _ _ (T27.setTop (mkF m 48 #[.val (.int p1), .val (.long q2), .second, .val (.long q3), .second, .val (.int p4), .val (.int p5), .val (.ref s_IPV6), .val (.int v24), .val (.int v25), .val (.ref b26), .unset, .unset, .unset, .unset, .unset, .unset, .unset] []))
    refine OutW.back (fun t k => XS.aload X27.here hx rfl (hb hby at_48) rfl rfl  k) ?_
    show OutW _ _ _ _ _ _ _ (T27.setTop (mkF m 50 #[.val (.int p1), .val (.long q2), .second, .val (.long q3), .second, .val (.int p4), .val (.int p5), .val (.ref s_IPV6), .val (.int v24), .val (.int v25), .val (.ref b26), .unset, .unset, .unset, .unset, .unset, .unset, .unset] [(.ref b26)]))
    refine OutW.back (fun t k => XS.iload X27.here hx rfl (hb hby at_50) rfl  k) ?_
    show OutW _ _ _ _ _ _ _ (T27.setTop (mkF m 52 #[.val (.int p1), .val (.long q2), .second, .val (.long q3), .second, .val (.int p4), .val (.int p5), .val (.ref s_IPV6), .val (.int v24), .val (.int v25), .val (.ref b26), .unset, .unset, .unset, .unset, .unset, .unset, .unset] [(.int v24), (.ref b26)]))
    obtain ⟨cq28, kq28, qa28, qb28, qc28⟩ := isOf hZ e27 E_b26
    obtain ⟨_, _, ⟨T28, L28, k28, n28⟩, -, X28, ⟨Lc28, hQ28, l28, y28, z28⟩, st28⟩ := X27.virtualBack hx (y := (⟨"com/example/nearpath/nearpath/Address", "masked", "(I)Lcom/example/nearpath/nearpath/Address;"⟩ : MethodName)) (z := (⟨"com/example/nearpath/nearpath/Address", "masked", "(I)Lcom/example/nearpath/nearpath/Address;"⟩ : MethodName)) hown (mvT hZ (hw _ (List.mem_of_getElem? (i := 24) rfl))) (mvT hZ (hw _ (List.mem_of_getElem? (i := 25) rfl))) (notFace_of_selects (args := #[]) (mvT hZ (hw _ (List.mem_of_getElem? (i := 27) rfl)))) (mvT hZ (hw _ (List.mem_of_getElem? (i := 27) rfl))) (mvT hZ (hw _ (List.mem_of_getElem? (i := 26) rfl))) (by decide) (backOf (W := 0) (rm4 l Z a0 hw [] b26 v24 s_IPV6 q2 q3 h27 n0 Z27 F_type_b26 F_high_b26 F_low_b26) hZ (hw _ (List.mem_of_getElem? (i := 28) rfl)) (hw _ (List.mem_of_getElem? (i := 6) rfl)) (by decide) (by decide)) qa28 qc28 (g := (mkF m 52 #[.val (.int p1), .val (.long q2), .second, .val (.long q3), .second, .val (.int p4), .val (.int p5), .val (.ref s_IPV6), .val (.int v24), .val (.int v25), .val (.ref b26), .unset, .unset, .unset, .unset, .unset, .unset, .unset] [(.int v24), (.ref b26)])) rfl (by rw [hml]; rfl) (Steps.refl _) (argsL := [(.int v24)]) (rest := []) (lenOf pd_3 rfl) rfl (by show 2 * 0 + _ ≤ _; exact Nat.le_of_eq rfl) (hb hby at_52) (fun _ _ => ⟨rfl, e27, (by decide : 1 + 1 ≤ _), (by decide : 3 + 3 ≤ _)⟩)
    dsimp only [Pt.U, Pt.locs, Pt.cells, Pt.slots] at X28 l28 y28 z28 st28 hQ28
    subst l28 y28 z28
    obtain ⟨h28, eh28⟩ : ∃ z, z = T28.heap := ⟨_, rfl⟩
    rw [← eh28] at hQ28
    have e28 : T28.heap = h28 := eh28.symm
    obtain ⟨bN_28, rfl, Nq28, Kq28, g_bN_28, E_bN_28, F_type_bN_28, F_high_bN_28, F_low_bN_28⟩ := hQ28
    have S_IPV4 := own_keepS S_IPV4 Kq28 all0
    have S_IPV6 := own_keepS S_IPV6 Kq28 all0
    have E_s_IPV4 := E_s_IPV4.keep Kq28
    have E_s_IPV6 := E_s_IPV6.keep Kq28
    have E_b26 := E_b26.keep Kq28
    have F_type_b26 := F_type_b26.keep Kq28 nin0
    have F_high_b26 := F_high_b26.keep Kq28 nin0
    have F_low_b26 := F_low_b26.keep Kq28 nin0
    have Z28 : n0 ≤ h28.size := Nat.le_trans Z27 Kq28.1
    have K28 := K27.trans Kq28 all0
    have N28 := Fr.app N27 Nq28
    refine OutW.via st28 ?_
    show OutW _ _ _ _ _ _ _ (T28.setTop (mkF m 55 #[.val (.int p1), .val (.long q2), .second, .val (.long q3), .second, .val (.int p4), .val (.int p5), .val (.ref s_IPV6), .val (.int v24), .val (.int v25), .val (.ref b26), .unset, .unset, .unset, .unset, .unset, .unset, .unset] [(.ref bN_28)]))
    refine OutW.back (fun t k => XS.astore X28.here hx rfl (hb hby at_55) rfl rfl (l' := #[.val (.int p1), .val (.long q2), .second, .val (.long q3), .second, .val (.int p4), .val (.int p5), .val (.ref s_IPV6), .val (.int v24), .val (.int v25), .val (.ref b26), .val (.ref bN_28), .unset, .unset, .unset, .unset, .unset, .unset]) rfl k) ?_
    show OutW _ _ _ _ _ _ _ (T28.setTop (mkF m 57 #[.val (.int p1), .val (.long q2), .second, .val (.long q3), .second, .val (.int p4), .val (.int p5), .val (.ref s_IPV6), .val (.int v24), .val (.int v25), .val (.ref b26), .val (.ref bN_28), .unset, .unset, .unset, .unset, .unset, .unset] []))
    refine OutW.back (fun t k => XS.aload X28.here hx rfl (hb hby at_57) rfl rfl  k) ?_
    show OutW _ _ _ _ _ _ _ (T28.setTop (mkF m 59 #[.val (.int p1), .val (.long q2), .second, .val (.long q3), .second, .val (.int p4), .val (.int p5), .val (.ref s_IPV6), .val (.int v24), .val (.int v25), .val (.ref b26), .val (.ref bN_28), .unset, .unset, .unset, .unset, .unset, .unset] [(.ref bN_28)]))
    obtain ⟨cq29, kq29, qa29, qb29, qc29⟩ := isOf hZ e28 E_bN_28
    obtain ⟨_, _, ⟨T29, L29, k29, n29⟩, -, X29, ⟨Lc29, hQ29, l29, y29, z29⟩, st29⟩ := X28.virtualBack hx (y := (⟨"com/example/nearpath/nearpath/Address", "type", "()Lcom/example/nearpath/nearpath/AddressType;"⟩ : MethodName)) (z := (⟨"com/example/nearpath/nearpath/Address", "type", "()Lcom/example/nearpath/nearpath/AddressType;"⟩ : MethodName)) hown (mvT hZ (hw _ (List.mem_of_getElem? (i := 37) rfl))) (mvT hZ (hw _ (List.mem_of_getElem? (i := 38) rfl))) (notFace_of_selects (args := #[]) (mvT hZ (hw _ (List.mem_of_getElem? (i := 40) rfl)))) (mvT hZ (hw _ (List.mem_of_getElem? (i := 40) rfl))) (mvT hZ (hw _ (List.mem_of_getElem? (i := 39) rfl))) (by decide) (backOf (W := 0) (rm7 l Z a0 hw [] bN_28 s_IPV6 h28 n0 Z28 F_type_bN_28) hZ (hw _ (List.mem_of_getElem? (i := 41) rfl)) (hw _ (List.mem_of_getElem? (i := 6) rfl)) (by decide) (by decide)) qa29 qc29 (g := (mkF m 59 #[.val (.int p1), .val (.long q2), .second, .val (.long q3), .second, .val (.int p4), .val (.int p5), .val (.ref s_IPV6), .val (.int v24), .val (.int v25), .val (.ref b26), .val (.ref bN_28), .unset, .unset, .unset, .unset, .unset, .unset] [(.ref bN_28)])) rfl (by rw [hml]; rfl) (Steps.refl _) (argsL := []) (rest := []) (lenOf pd_4 rfl) rfl (by show 2 * 0 + _ ≤ _; exact Nat.le_of_eq rfl) (hb hby at_59) (fun _ _ => ⟨rfl, e28, (by decide : 2 + 0 ≤ _), (by decide : 6 + 0 ≤ _)⟩)
    dsimp only [Pt.U, Pt.locs, Pt.cells, Pt.slots] at X29 l29 y29 z29 st29 hQ29
    subst l29 y29 z29
    obtain ⟨rfl, Nq29, e29⟩ := hQ29
    have N29 := Fr.app N28 Nq29
    refine OutW.via st29 ?_
    show OutW _ _ _ _ _ _ _ (T29.setTop (mkF m 62 #[.val (.int p1), .val (.long q2), .second, .val (.long q3), .second, .val (.int p4), .val (.int p5), .val (.ref s_IPV6), .val (.int v24), .val (.int v25), .val (.ref b26), .val (.ref bN_28), .unset, .unset, .unset, .unset, .unset, .unset] [(.ref s_IPV6)]))
    refine OutW.back (fun t k => XS.aload X29.here hx rfl (hb hby at_62) rfl rfl  k) ?_
    show OutW _ _ _ _ _ _ _ (T29.setTop (mkF m 64 #[.val (.int p1), .val (.long q2), .second, .val (.long q3), .second, .val (.int p4), .val (.int p5), .val (.ref s_IPV6), .val (.int v24), .val (.int v25), .val (.ref b26), .val (.ref bN_28), .unset, .unset, .unset, .unset, .unset, .unset] [(.ref s_IPV6), (.ref s_IPV6)]))
    refine OutW.back (fun t k => Jvm.RoadKit.acmp (g := (mkF m 64 #[.val (.int p1), .val (.long q2), .second, .val (.long q3), .second, .val (.int p4), .val (.int p5), .val (.ref s_IPV6), .val (.int v24), .val (.int v25), .val (.ref b26), .val (.ref bN_28), .unset, .unset, .unset, .unset, .unset, .unset] [(.ref s_IPV6), (.ref s_IPV6)])) X29 hx rfl rfl rfl (pc0 := 64) (pc' := 69) (same := true) rfl (hb hby at_64) rfl (decide_eq_true rfl) (by decide) (by decide) k) ?_
    show OutW _ _ _ _ _ _ _ (T29.setTop (mkF m 69 #[.val (.int p1), .val (.long q2), .second, .val (.long q3), .second, .val (.int p4), .val (.int p5), .val (.ref s_IPV6), .val (.int v24), .val (.int v25), .val (.ref b26), .val (.ref bN_28), .unset, .unset, .unset, .unset, .unset, .unset] []))
    refine OutW.back (fun t k => XS.lloadN X29.here hx rfl (hb hby at_69) rfl  k) ?_
    show OutW _ _ _ _ _ _ _ (T29.setTop (mkF m 70 #[.val (.int p1), .val (.long q2), .second, .val (.long q3), .second, .val (.int p4), .val (.int p5), .val (.ref s_IPV6), .val (.int v24), .val (.int v25), .val (.ref b26), .val (.ref bN_28), .unset, .unset, .unset, .unset, .unset, .unset] [(.long q2)]))
    refine OutW.back (fun t k => XS.lloadN X29.here hx rfl (hb hby at_70) rfl  k) ?_
    show OutW _ _ _ _ _ _ _ (T29.setTop (mkF m 71 #[.val (.int p1), .val (.long q2), .second, .val (.long q3), .second, .val (.int p4), .val (.int p5), .val (.ref s_IPV6), .val (.int v24), .val (.int v25), .val (.ref b26), .val (.ref bN_28), .unset, .unset, .unset, .unset, .unset, .unset] [(.long q3), (.long q2)]))
    refine OutW.back (fun t k => XS.iload X29.here hx rfl (hb hby at_71) rfl  k) ?_
    show OutW _ _ _ _ _ _ _ (T29.setTop (mkF m 73 #[.val (.int p1), .val (.long q2), .second, .val (.long q3), .second, .val (.int p4), .val (.int p5), .val (.ref s_IPV6), .val (.int v24), .val (.int v25), .val (.ref b26), .val (.ref bN_28), .unset, .unset, .unset, .unset, .unset, .unset] [(.int v25), (.long q3), (.long q2)]))
    obtain ⟨_, _, ⟨T30, L30, k30, n30⟩, -, X30, ⟨Lc30, hQ30, l30, y30, z30⟩, st30⟩ := Jvm.LawKit.callS X29 hx (y := (⟨"com/example/nearpath/nearpath/AddressMaskedPinLaw", "bit", "(JJI)J"⟩ : MethodName)) hown (mvT hZ (hw _ (List.mem_of_getElem? (i := 42) rfl))) (mvT hZ (hw _ (List.mem_of_getElem? (i := 43) rfl))) (mvT hZ (hw _ (List.mem_of_getElem? (i := 44) rfl))) (mvT hZ (hw _ (List.mem_of_getElem? (i := 45) rfl))) (by decide) (backOf (W := 0) (rm8 l Z a0 hw [] q2 q3 v25 h28 n0 Z28) hZ (hw _ (List.mem_of_getElem? (i := 45) rfl)) (hw _ (List.mem_of_getElem? (i := 44) rfl)) (by decide) (by decide)) (g := (mkF m 73 #[.val (.int p1), .val (.long q2), .second, .val (.long q3), .second, .val (.int p4), .val (.int p5), .val (.ref s_IPV6), .val (.int v24), .val (.int v25), .val (.ref b26), .val (.ref bN_28), .unset, .unset, .unset, .unset, .unset, .unset] [(.int v25), (.long q3), (.long q2)])) rfl (by rw [hml]; rfl) (argsL := [(.long q2), (.long q3), (.int v25)]) (rest := []) (lenOf pd_5 rfl) rfl (by show 2 * 0 + _ ≤ _; exact Nat.le_of_eq rfl) (hb hby at_73) (fun _ _ => ⟨rfl, e29, (by decide : 2 + 0 ≤ _), (by decide : 6 + 0 ≤ _)⟩)
    dsimp only [Pt.U, Pt.locs, Pt.cells, Pt.slots] at X30 l30 y30 z30 st30 hQ30
    subst l30 y30 z30
    obtain ⟨rfl, Nq30, e30⟩ := hQ30
    have N30 := Fr.app N29 Nq30
    refine OutW.back st30 ?_
    show OutW _ _ _ _ _ _ _ (T30.setTop (mkF m 76 #[.val (.int p1), .val (.long q2), .second, .val (.long q3), .second, .val (.int p4), .val (.int p5), .val (.ref s_IPV6), .val (.int v24), .val (.int v25), .val (.ref b26), .val (.ref bN_28), .unset, .unset, .unset, .unset, .unset, .unset] [(.long (bitF_0 q2 q3 v25))]))
    generalize hv_v31 : (bitF_0 q2 q3 v25) = v31
    refine OutW.back (fun t k => XS.lstore X30.here hx rfl (hb hby at_76) rfl (l' := #[.val (.int p1), .val (.long q2), .second, .val (.long q3), .second, .val (.int p4), .val (.int p5), .val (.ref s_IPV6), .val (.int v24), .val (.int v25), .val (.ref b26), .val (.ref bN_28), .val (.long v31), .second, .unset, .unset, .unset, .unset]) rfl k) ?_
    show OutW _ _ _ _ _ _ _ (T30.setTop (mkF m 78 #[.val (.int p1), .val (.long q2), .second, .val (.long q3), .second, .val (.int p4), .val (.int p5), .val (.ref s_IPV6), .val (.int v24), .val (.int v25), .val (.ref b26), .val (.ref bN_28), .val (.long v31), .second, .unset, .unset, .unset, .unset] []))
    refine OutW.back (fun t k => XS.aload X30.here hx rfl (hb hby at_78) rfl rfl  k) ?_
    show OutW _ _ _ _ _ _ _ (T30.setTop (mkF m 80 #[.val (.int p1), .val (.long q2), .second, .val (.long q3), .second, .val (.int p4), .val (.int p5), .val (.ref s_IPV6), .val (.int v24), .val (.int v25), .val (.ref b26), .val (.ref bN_28), .val (.long v31), .second, .unset, .unset, .unset, .unset] [(.ref bN_28)]))
    obtain ⟨cq32, kq32, qa32, qb32, qc32⟩ := isOf hZ e30 E_bN_28
    obtain ⟨_, _, ⟨T32, L32, k32, n32⟩, -, X32, ⟨Lc32, hQ32, l32, y32, z32⟩, st32⟩ := X30.virtualBack hx (y := (⟨"com/example/nearpath/nearpath/Address", "high", "()J"⟩ : MethodName)) (z := (⟨"com/example/nearpath/nearpath/Address", "high", "()J"⟩ : MethodName)) hown (mvT hZ (hw _ (List.mem_of_getElem? (i := 46) rfl))) (mvT hZ (hw _ (List.mem_of_getElem? (i := 47) rfl))) (notFace_of_selects (args := #[]) (mvT hZ (hw _ (List.mem_of_getElem? (i := 49) rfl)))) (mvT hZ (hw _ (List.mem_of_getElem? (i := 49) rfl))) (mvT hZ (hw _ (List.mem_of_getElem? (i := 48) rfl))) (by decide) (backOf (W := 0) (rm9 l Z a0 hw [] bN_28 (q2 &&& (highM_0 v24)) h28 n0 Z28 F_high_bN_28) hZ (hw _ (List.mem_of_getElem? (i := 50) rfl)) (hw _ (List.mem_of_getElem? (i := 6) rfl)) (by decide) (by decide)) qa32 qc32 (g := (mkF m 80 #[.val (.int p1), .val (.long q2), .second, .val (.long q3), .second, .val (.int p4), .val (.int p5), .val (.ref s_IPV6), .val (.int v24), .val (.int v25), .val (.ref b26), .val (.ref bN_28), .val (.long v31), .second, .unset, .unset, .unset, .unset] [(.ref bN_28)])) rfl (by rw [hml]; rfl) (Steps.refl _) (argsL := []) (rest := []) (lenOf pd_6 rfl) rfl (by show 2 * 0 + _ ≤ _; exact Nat.le_of_eq rfl) (hb hby at_80) (fun _ _ => ⟨rfl, e30, (by decide : 2 + 0 ≤ _), (by decide : 6 + 0 ≤ _)⟩)
    dsimp only [Pt.U, Pt.locs, Pt.cells, Pt.slots] at X32 l32 y32 z32 st32 hQ32
    subst l32 y32 z32
    obtain ⟨rfl, Nq32, e32⟩ := hQ32
    have N32 := Fr.app N30 Nq32
    refine OutW.via st32 ?_
    show OutW _ _ _ _ _ _ _ (T32.setTop (mkF m 83 #[.val (.int p1), .val (.long q2), .second, .val (.long q3), .second, .val (.int p4), .val (.int p5), .val (.ref s_IPV6), .val (.int v24), .val (.int v25), .val (.ref b26), .val (.ref bN_28), .val (.long v31), .second, .unset, .unset, .unset, .unset] [(.long (q2 &&& (highM_0 v24)))]))
    refine OutW.back (fun t k => XS.aload X32.here hx rfl (hb hby at_83) rfl rfl  k) ?_
    show OutW _ _ _ _ _ _ _ (T32.setTop (mkF m 85 #[.val (.int p1), .val (.long q2), .second, .val (.long q3), .second, .val (.int p4), .val (.int p5), .val (.ref s_IPV6), .val (.int v24), .val (.int v25), .val (.ref b26), .val (.ref bN_28), .val (.long v31), .second, .unset, .unset, .unset, .unset] [(.ref bN_28), (.long (q2 &&& (highM_0 v24)))]))
    obtain ⟨cq33, kq33, qa33, qb33, qc33⟩ := isOf hZ e32 E_bN_28
    obtain ⟨_, _, ⟨T33, L33, k33, n33⟩, -, X33, ⟨Lc33, hQ33, l33, y33, z33⟩, st33⟩ := X32.virtualBack hx (y := (⟨"com/example/nearpath/nearpath/Address", "low", "()J"⟩ : MethodName)) (z := (⟨"com/example/nearpath/nearpath/Address", "low", "()J"⟩ : MethodName)) hown (mvT hZ (hw _ (List.mem_of_getElem? (i := 51) rfl))) (mvT hZ (hw _ (List.mem_of_getElem? (i := 52) rfl))) (notFace_of_selects (args := #[]) (mvT hZ (hw _ (List.mem_of_getElem? (i := 54) rfl)))) (mvT hZ (hw _ (List.mem_of_getElem? (i := 54) rfl))) (mvT hZ (hw _ (List.mem_of_getElem? (i := 53) rfl))) (by decide) (backOf (W := 2) (rm10 l Z a0 hw [] bN_28 (q3 &&& (lowM_0 v24)) h28 n0 Z28 F_low_bN_28) hZ (hw _ (List.mem_of_getElem? (i := 55) rfl)) (hw _ (List.mem_of_getElem? (i := 6) rfl)) (by decide) (by decide)) qa33 qc33 (g := (mkF m 85 #[.val (.int p1), .val (.long q2), .second, .val (.long q3), .second, .val (.int p4), .val (.int p5), .val (.ref s_IPV6), .val (.int v24), .val (.int v25), .val (.ref b26), .val (.ref bN_28), .val (.long v31), .second, .unset, .unset, .unset, .unset] [(.ref bN_28), (.long (q2 &&& (highM_0 v24)))])) rfl (by rw [hml]; rfl) (Steps.refl _) (argsL := []) (rest := [(.long (q2 &&& (highM_0 v24)))]) (lenOf pd_6 rfl) rfl (by show 2 * 0 + _ ≤ _; exact Nat.le_of_eq rfl) (hb hby at_85) (fun _ _ => ⟨rfl, e32, (by decide : 2 + 0 ≤ _), (by decide : 6 + 0 ≤ _)⟩)
    dsimp only [Pt.U, Pt.locs, Pt.cells, Pt.slots] at X33 l33 y33 z33 st33 hQ33
    subst l33 y33 z33
    obtain ⟨rfl, Nq33, e33⟩ := hQ33
    have N33 := Fr.app N32 Nq33
    refine OutW.via st33 ?_
    show OutW _ _ _ _ _ _ _ (T33.setTop (mkF m 88 #[.val (.int p1), .val (.long q2), .second, .val (.long q3), .second, .val (.int p4), .val (.int p5), .val (.ref s_IPV6), .val (.int v24), .val (.int v25), .val (.ref b26), .val (.ref bN_28), .val (.long v31), .second, .unset, .unset, .unset, .unset] [(.long (q3 &&& (lowM_0 v24))), (.long (q2 &&& (highM_0 v24)))]))
    refine OutW.back (fun t k => XS.iload X33.here hx rfl (hb hby at_88) rfl  k) ?_
    show OutW _ _ _ _ _ _ _ (T33.setTop (mkF m 90 #[.val (.int p1), .val (.long q2), .second, .val (.long q3), .second, .val (.int p4), .val (.int p5), .val (.ref s_IPV6), .val (.int v24), .val (.int v25), .val (.ref b26), .val (.ref bN_28), .val (.long v31), .second, .unset, .unset, .unset, .unset] [(.int v25), (.long (q3 &&& (lowM_0 v24))), (.long (q2 &&& (highM_0 v24)))]))
    obtain ⟨_, _, ⟨T34, L34, k34, n34⟩, -, X34, ⟨Lc34, hQ34, l34, y34, z34⟩, st34⟩ := Jvm.LawKit.callS X33 hx (y := (⟨"com/example/nearpath/nearpath/AddressMaskedPinLaw", "bit", "(JJI)J"⟩ : MethodName)) hown (mvT hZ (hw _ (List.mem_of_getElem? (i := 42) rfl))) (mvT hZ (hw _ (List.mem_of_getElem? (i := 43) rfl))) (mvT hZ (hw _ (List.mem_of_getElem? (i := 44) rfl))) (mvT hZ (hw _ (List.mem_of_getElem? (i := 45) rfl))) (by decide) (backOf (W := 0) (rm8 l Z a0 hw [] (q2 &&& (highM_0 v24)) (q3 &&& (lowM_0 v24)) v25 h28 n0 Z28) hZ (hw _ (List.mem_of_getElem? (i := 45) rfl)) (hw _ (List.mem_of_getElem? (i := 44) rfl)) (by decide) (by decide)) (g := (mkF m 90 #[.val (.int p1), .val (.long q2), .second, .val (.long q3), .second, .val (.int p4), .val (.int p5), .val (.ref s_IPV6), .val (.int v24), .val (.int v25), .val (.ref b26), .val (.ref bN_28), .val (.long v31), .second, .unset, .unset, .unset, .unset] [(.int v25), (.long (q3 &&& (lowM_0 v24))), (.long (q2 &&& (highM_0 v24)))])) rfl (by rw [hml]; rfl) (argsL := [(.long (q2 &&& (highM_0 v24))), (.long (q3 &&& (lowM_0 v24))), (.int v25)]) (rest := []) (lenOf pd_5 rfl) rfl (by show 2 * 0 + _ ≤ _; exact Nat.le_of_eq rfl) (hb hby at_90) (fun _ _ => ⟨rfl, e33, (by decide : 2 + 0 ≤ _), (by decide : 6 + 0 ≤ _)⟩)
    dsimp only [Pt.U, Pt.locs, Pt.cells, Pt.slots] at X34 l34 y34 z34 st34 hQ34
    subst l34 y34 z34
    obtain ⟨rfl, Nq34, e34⟩ := hQ34
    have N34 := Fr.app N33 Nq34
    refine OutW.back st34 ?_
    show OutW _ _ _ _ _ _ _ (T34.setTop (mkF m 93 #[.val (.int p1), .val (.long q2), .second, .val (.long q3), .second, .val (.int p4), .val (.int p5), .val (.ref s_IPV6), .val (.int v24), .val (.int v25), .val (.ref b26), .val (.ref bN_28), .val (.long v31), .second, .unset, .unset, .unset, .unset] [(.long (bitF_0 (q2 &&& (highM_0 v24)) (q3 &&& (lowM_0 v24)) v25))]))
    generalize hv_v35 : (bitF_0 (q2 &&& (highM_0 v24)) (q3 &&& (lowM_0 v24)) v25) = v35
    refine OutW.back (fun t k => XS.lstore X34.here hx rfl (hb hby at_93) rfl (l' := #[.val (.int p1), .val (.long q2), .second, .val (.long q3), .second, .val (.int p4), .val (.int p5), .val (.ref s_IPV6), .val (.int v24), .val (.int v25), .val (.ref b26), .val (.ref bN_28), .val (.long v31), .second, .val (.long v35), .second, .unset, .unset]) rfl k) ?_
    show OutW _ _ _ _ _ _ _ (T34.setTop (mkF m 95 #[.val (.int p1), .val (.long q2), .second, .val (.long q3), .second, .val (.int p4), .val (.int p5), .val (.ref s_IPV6), .val (.int v24), .val (.int v25), .val (.ref b26), .val (.ref bN_28), .val (.long v31), .second, .val (.long v35), .second, .unset, .unset] []))
    refine OutW.back (fun t k => XS.iload X34.here hx rfl (hb hby at_95) rfl  k) ?_
    show OutW _ _ _ _ _ _ _ (T34.setTop (mkF m 97 #[.val (.int p1), .val (.long q2), .second, .val (.long q3), .second, .val (.int p4), .val (.int p5), .val (.ref s_IPV6), .val (.int v24), .val (.int v25), .val (.ref b26), .val (.ref bN_28), .val (.long v31), .second, .val (.long v35), .second, .unset, .unset] [(.int v25)]))
    refine OutW.back (fun t k => XS.iload X34.here hx rfl (hb hby at_97) rfl  k) ?_
    show OutW _ _ _ _ _ _ _ (T34.setTop (mkF m 99 #[.val (.int p1), .val (.long q2), .second, .val (.long q3), .second, .val (.int p4), .val (.int p5), .val (.ref s_IPV6), .val (.int v24), .val (.int v25), .val (.ref b26), .val (.ref bN_28), .val (.long v31), .second, .val (.long v35), .second, .unset, .unset] [(.int v24), (.int v25)]))
    obtain ⟨v37, hv_v37⟩ : ∃ z : Int64, z = (if v25 < v24 then v31 else (0 : Int64)) := ⟨_, rfl⟩
    have j38 : ∀ t, Steps p.tables e below (T34.setTop (mkF m 108 #[.val (.int p1), .val (.long q2), .second, .val (.long q3), .second, .val (.int p4), .val (.int p5), .val (.ref s_IPV6), .val (.int v24), .val (.int v25), .val (.ref b26), .val (.ref bN_28), .val (.long v31), .second, .val (.long v35), .second, .unset, .unset] [(.long v37)])) t → Steps p.tables e below (T34.setTop (mkF m 99 #[.val (.int p1), .val (.long q2), .second, .val (.long q3), .second, .val (.int p4), .val (.int p5), .val (.ref s_IPV6), .val (.int v24), .val (.int v25), .val (.ref b26), .val (.ref bN_28), .val (.long v31), .second, .val (.long v35), .second, .unset, .unset] [(.int v24), (.int v25)])) t := by
      intro t k
      by_cases c99_39 : v25 < v24
      · skip
        refine XS.icmpNo X34.here hx rfl (hb hby at_99) rfl (tlt c99_39).2.1 ?_
        show Steps p.tables e below (T34.setTop (mkF m 102 #[.val (.int p1), .val (.long q2), .second, .val (.long q3), .second, .val (.int p4), .val (.int p5), .val (.ref s_IPV6), .val (.int v24), .val (.int v25), .val (.ref b26), .val (.ref bN_28), .val (.long v31), .second, .val (.long v35), .second, .unset, .unset] [])) t
        refine XS.lload X34.here hx rfl (hb hby at_102) rfl  ?_
        show Steps p.tables e below (T34.setTop (mkF m 104 #[.val (.int p1), .val (.long q2), .second, .val (.long q3), .second, .val (.int p4), .val (.int p5), .val (.ref s_IPV6), .val (.int v24), .val (.int v25), .val (.ref b26), .val (.ref bN_28), .val (.long v31), .second, .val (.long v35), .second, .unset, .unset] [(.long v31)])) t
        refine XS.goto X34.here hx rfl (pc0 := 104) (pc' := 108) rfl (hb hby at_104) (by decide) (by decide) ?_
        show Steps p.tables e below (T34.setTop (mkF m 108 #[.val (.int p1), .val (.long q2), .second, .val (.long q3), .second, .val (.int p4), .val (.int p5), .val (.ref s_IPV6), .val (.int v24), .val (.int v25), .val (.ref b26), .val (.ref bN_28), .val (.long v31), .second, .val (.long v35), .second, .unset, .unset] [(.long v31)])) t
        have q_v37 : v37 = v31 := by rw [hv_v37, if_pos c99_39]
        rw [q_v37] at k
        exact k
      · skip
        refine XS.icmpYes X34.here hx rfl (pc0 := 99) (pc' := 107) rfl (hb hby at_99) rfl (flt c99_39).2.1 (by decide) (by decide) ?_
        show Steps p.tables e below (T34.setTop (mkF m 107 #[.val (.int p1), .val (.long q2), .second, .val (.long q3), .second, .val (.int p4), .val (.int p5), .val (.ref s_IPV6), .val (.int v24), .val (.int v25), .val (.ref b26), .val (.ref bN_28), .val (.long v31), .second, .val (.long v35), .second, .unset, .unset] [])) t
        refine XS.lconst X34.here hx rfl (hb hby at_107) ?_
        show Steps p.tables e below (T34.setTop (mkF m 108 #[.val (.int p1), .val (.long q2), .second, .val (.long q3), .second, .val (.int p4), .val (.int p5), .val (.ref s_IPV6), .val (.int v24), .val (.int v25), .val (.ref b26), .val (.ref bN_28), .val (.long v31), .second, .val (.long v35), .second, .unset, .unset] [(.long (0 : Int64))])) t
        have q_v37 : v37 = (0 : Int64) := by rw [hv_v37, if_neg c99_39]
        rw [q_v37] at k
        exact k
    refine OutW.back j38 ?_
    show OutW _ _ _ _ _ _ _ (T34.setTop (mkF m 108 #[.val (.int p1), .val (.long q2), .second, .val (.long q3), .second, .val (.int p4), .val (.int p5), .val (.ref s_IPV6), .val (.int v24), .val (.int v25), .val (.ref b26), .val (.ref bN_28), .val (.long v31), .second, .val (.long v35), .second, .unset, .unset] [(.long v37)]))
    refine OutW.back (fun t k => XS.lstore X34.here hx rfl (hb hby at_108) rfl (l' := #[.val (.int p1), .val (.long q2), .second, .val (.long q3), .second, .val (.int p4), .val (.int p5), .val (.ref s_IPV6), .val (.int v24), .val (.int v25), .val (.ref b26), .val (.ref bN_28), .val (.long v31), .second, .val (.long v35), .second, .val (.long v37), .second]) rfl k) ?_
    show OutW _ _ _ _ _ _ _ (T34.setTop (mkF m 110 #[.val (.int p1), .val (.long q2), .second, .val (.long q3), .second, .val (.int p4), .val (.int p5), .val (.ref s_IPV6), .val (.int v24), .val (.int v25), .val (.ref b26), .val (.ref bN_28), .val (.long v31), .second, .val (.long v35), .second, .val (.long v37), .second] []))
    refine OutW.back (fun t k => XS.lload X34.here hx rfl (hb hby at_110) rfl  k) ?_
    show OutW _ _ _ _ _ _ _ (T34.setTop (mkF m 112 #[.val (.int p1), .val (.long q2), .second, .val (.long q3), .second, .val (.int p4), .val (.int p5), .val (.ref s_IPV6), .val (.int v24), .val (.int v25), .val (.ref b26), .val (.ref bN_28), .val (.long v31), .second, .val (.long v35), .second, .val (.long v37), .second] [(.long v35)]))
    refine OutW.back (fun t k => XS.lload X34.here hx rfl (hb hby at_112) rfl  k) ?_
    show OutW _ _ _ _ _ _ _ (T34.setTop (mkF m 114 #[.val (.int p1), .val (.long q2), .second, .val (.long q3), .second, .val (.int p4), .val (.int p5), .val (.ref s_IPV6), .val (.int v24), .val (.int v25), .val (.ref b26), .val (.ref bN_28), .val (.long v31), .second, .val (.long v35), .second, .val (.long v37), .second] [(.long v37), (.long v35)]))
    refine OutW.back (fun t k => XS.lcmp X34.here hx rfl (hb hby at_114) rfl k) ?_
    show OutW _ _ _ _ _ _ _ (T34.setTop (mkF m 115 #[.val (.int p1), .val (.long q2), .second, .val (.long q3), .second, .val (.int p4), .val (.int p5), .val (.ref s_IPV6), .val (.int v24), .val (.int v25), .val (.ref b26), .val (.ref bN_28), .val (.long v31), .second, .val (.long v35), .second, .val (.long v37), .second] [(.int (lcmpW v35 v37))]))
    obtain ⟨v41, hv_v41⟩ : ∃ z : Int32, z = (if v35 = v37 then (1 : Int32) else (0 : Int32)) := ⟨_, rfl⟩
    have j42 : ∀ t, Steps p.tables e below (T34.setTop (mkF m 123 #[.val (.int p1), .val (.long q2), .second, .val (.long q3), .second, .val (.int p4), .val (.int p5), .val (.ref s_IPV6), .val (.int v24), .val (.int v25), .val (.ref b26), .val (.ref bN_28), .val (.long v31), .second, .val (.long v35), .second, .val (.long v37), .second] [(.int v41)])) t → Steps p.tables e below (T34.setTop (mkF m 115 #[.val (.int p1), .val (.long q2), .second, .val (.long q3), .second, .val (.int p4), .val (.int p5), .val (.ref s_IPV6), .val (.int v24), .val (.int v25), .val (.ref b26), .val (.ref bN_28), .val (.long v31), .second, .val (.long v35), .second, .val (.long v37), .second] [(.int (lcmpW v35 v37))])) t := by
      intro t k
      by_cases c115_43 : v35 = v37
      · skip
        refine XS.ifNo X34.here hx rfl (hb hby at_115) rfl ((if0 _ _).trans (teq ((lw_eq _ _).mpr c115_43)).2) ?_
        show Steps p.tables e below (T34.setTop (mkF m 118 #[.val (.int p1), .val (.long q2), .second, .val (.long q3), .second, .val (.int p4), .val (.int p5), .val (.ref s_IPV6), .val (.int v24), .val (.int v25), .val (.ref b26), .val (.ref bN_28), .val (.long v31), .second, .val (.long v35), .second, .val (.long v37), .second] [])) t
        refine XS.iconst X34.here hx rfl (hb hby at_118) ?_
        show Steps p.tables e below (T34.setTop (mkF m 119 #[.val (.int p1), .val (.long q2), .second, .val (.long q3), .second, .val (.int p4), .val (.int p5), .val (.ref s_IPV6), .val (.int v24), .val (.int v25), .val (.ref b26), .val (.ref bN_28), .val (.long v31), .second, .val (.long v35), .second, .val (.long v37), .second] [(.int (1 : Int32))])) t
        refine XS.goto X34.here hx rfl (pc0 := 119) (pc' := 123) rfl (hb hby at_119) (by decide) (by decide) ?_
        show Steps p.tables e below (T34.setTop (mkF m 123 #[.val (.int p1), .val (.long q2), .second, .val (.long q3), .second, .val (.int p4), .val (.int p5), .val (.ref s_IPV6), .val (.int v24), .val (.int v25), .val (.ref b26), .val (.ref bN_28), .val (.long v31), .second, .val (.long v35), .second, .val (.long v37), .second] [(.int (1 : Int32))])) t
        have q_v41 : v41 = (1 : Int32) := by rw [hv_v41, if_pos c115_43]
        rw [q_v41] at k
        exact k
      · skip
        refine XS.ifYes X34.here hx rfl (pc0 := 115) (pc' := 122) rfl (hb hby at_115) rfl ((if0 _ _).trans (feq (fun q => c115_43 ((lw_eq _ _).mp q))).2) (by decide) (by decide) ?_
        show Steps p.tables e below (T34.setTop (mkF m 122 #[.val (.int p1), .val (.long q2), .second, .val (.long q3), .second, .val (.int p4), .val (.int p5), .val (.ref s_IPV6), .val (.int v24), .val (.int v25), .val (.ref b26), .val (.ref bN_28), .val (.long v31), .second, .val (.long v35), .second, .val (.long v37), .second] [])) t
        refine XS.iconst X34.here hx rfl (hb hby at_122) ?_
        show Steps p.tables e below (T34.setTop (mkF m 123 #[.val (.int p1), .val (.long q2), .second, .val (.long q3), .second, .val (.int p4), .val (.int p5), .val (.ref s_IPV6), .val (.int v24), .val (.int v25), .val (.ref b26), .val (.ref bN_28), .val (.long v31), .second, .val (.long v35), .second, .val (.long v37), .second] [(.int (0 : Int32))])) t
        have q_v41 : v41 = (0 : Int32) := by rw [hv_v41, if_neg c115_43]
        rw [q_v41] at k
        exact k
    refine OutW.back j42 ?_
    show OutW _ _ _ _ _ _ _ (T34.setTop (mkF m 123 #[.val (.int p1), .val (.long q2), .second, .val (.long q3), .second, .val (.int p4), .val (.int p5), .val (.ref s_IPV6), .val (.int v24), .val (.int v25), .val (.ref b26), .val (.ref bN_28), .val (.long v31), .second, .val (.long v35), .second, .val (.long v37), .second] [(.int v41)]))
    refine OutW.retN X34 hx (t := .boolean) (z' := 1) Bd.returns (by simp) hlk (hb hby at_123) ?hz (by decide) (by decide) ?_
    case hz =>
      have hfin : v41 = (1 : Int32) := by
        exact own_plain 0 v25 v24 v41 p4 p5 q2 q3 v31 v35 v37 hv_v24 hv_v25 hv_v31 hv_v35 hv_v37 hv_v41
      rw [hfin]; rfl
    show Q0 Z p1 q2 q3 p4 p5 s_IPV4 s_IPV6 h0 n0 _ T34.heap _
    rw [e34]
    exact ⟨rfl, N34⟩
set_option maxRecDepth 65536 in
set_option maxHeartbeats 40000000 in
theorem comes_1 {Post : Tables → Env → Array Value → State → Outcome → State → Prop} (hpost : ∀ tb e args s v u, (limb_1_1.after args s (.returned v) u = true ∧ limb_1_2.after args s (.returned v) u = true ∧ True) → FrameEnd s (.returned v) u (Jvm.fieldLocs frame_1_writes args s ++ Jvm.arrayLocs frame_1_arrays args s ++ Jvm.staticLocs frame_1_statics s) 16 128 → Post tb e args s (.returned v) u) :
    ArmFor flags0 classFile x code maxLocals ret World_1 tables_1 room_1 Calls_1 rest_1 Pre_1 Post := by
  intro l hfl _ _ p e ha hc hk s m args below hf hA hF happ hP
  obtain ⟨hcalls, hrest, hpre⟩ := hP
  obtain ⟨-, -, -, hnamed, -, -, -, hat⟩ := (Spec.applies_iff hf).mp happ
  obtain ⟨hg, hn⟩ := and_e (Cond.before_iff.mp (show (Jvm.Cond.and given_1 narrow_1).before args s = true from hpre))
  obtain ⟨hcount, hg0⟩ := and_e hg
  obtain ⟨ga0, hg1⟩ := and_e hg0
  obtain ⟨ga1, hg2⟩ := and_e hg1
  obtain ⟨ga2, hg3⟩ := and_e hg2
  obtain ⟨ga3, hg4⟩ := and_e hg3
  have ga4 := hg4
  obtain ⟨w0, w1, w2, w3, w4, rfl⟩ : ∃ w0 w1 w2 w3 w4 : Value, args = #[w0, w1, w2, w3, w4] := by
    have hs : args.size = 5 := by simpa [Cond.value, given_1] using hcount
    obtain ⟨L⟩ := args
    match L, hs with
    | [w0, w1, w2, w3, w4], _ => exact ⟨w0, w1, w2, w3, w4, rfl⟩
  have hw := fun d (hd : d ∈ tables_1) => atoms_spec (ws := Jvm.Cond.code x code maxLocals ret :: tables_1) hat d (List.mem_cons_of_mem _ hd)
  obtain ⟨i0, ei0⟩ := is_v ga0
  obtain rfl : w0 = (.int i0) := Option.some.inj ei0
  obtain ⟨i1, ei1⟩ := isL_v ga1
  obtain rfl : w1 = (.long i1) := Option.some.inj ei1
  obtain ⟨i2, ei2⟩ := isL_v ga2
  obtain rfl : w2 = (.long i2) := Option.some.inj ei2
  obtain ⟨i3, ei3⟩ := is_v ga3
  obtain rfl : w3 = (.int i3) := Option.some.inj ei3
  obtain ⟨i4, ei4⟩ := is_v ga4
  obtain rfl : w4 = (.int i4) := Option.some.inj ei4
  obtain ⟨na0, nr0⟩ := and_e hn
  obtain ⟨s_IPV4, es_IPV4⟩ := exa_v na0
  have Ss_IPV4 : Sta s s.heap "com/example/nearpath/nearpath/AddressType" "IPV4" "Lcom/example/nearpath/nearpath/AddressType;" (.ref s_IPV4) := Sta.start es_IPV4 (Or.inr ⟨(hw _ (List.mem_of_getElem? (i := 1) rfl)), (hw _ (List.mem_of_getElem? (i := 2) rfl))⟩)
  have Es_IPV4 : Exa s s.heap s_IPV4 "com/example/nearpath/nearpath/AddressType" := Exa.start es_IPV4 na0
  obtain ⟨s_IPV6, es_IPV6⟩ := exa_v nr0
  have Ss_IPV6 : Sta s s.heap "com/example/nearpath/nearpath/AddressType" "IPV6" "Lcom/example/nearpath/nearpath/AddressType;" (.ref s_IPV6) := Sta.start es_IPV6 (Or.inr ⟨(hw _ (List.mem_of_getElem? (i := 1) rfl)), (hw _ (List.mem_of_getElem? (i := 57) rfl))⟩)
  have Es_IPV6 : Exa s s.heap s_IPV6 "com/example/nearpath/nearpath/AddressType" := Exa.start es_IPV6 nr0
  obtain ⟨n, o, h1, h2, h3, _, L, rfl, ⟨rfl, N⟩, hq⟩ := rm0 l s _ hw tables_1 i0 i1 i2 i3 i4 s_IPV4 s_IPV6 s.heap s.heap.size (Nat.le_refl _) Ss_IPV4 Ss_IPV6 Es_IPV4 Es_IPV6 p e ha hc hk s m _ below hf ((Spec.applies_iff_loose hf).mp happ).1 ⟨rfl, State.Warmed39.refl s, rfl⟩ trivial
  refine ⟨n, _, h1, h2, h3, hpost _ _ _ _ _ _ ⟨Cond.after_iff.mpr rfl, Cond.after_iff.mpr (eq_i res_at (Term.int_eval (1)) rfl), trivial⟩ ⟨hq.1, hq.2.1, (hq.2.2.sift fun y hy => Or.inr (N y hy)).mono (by decide) (by decide)⟩⟩
theorem main_1_1 : Claimed_1_1 := comes_1 fun _ _ _ _ _ _ h hF => ⟨h.1, hF⟩
theorem main_1_2 : Claimed_1_2 := comes_1 fun _ _ _ _ _ _ h hF => ⟨h.2.1, hF⟩
end Jvm.Pilot.@@N@@
namespace Jvm.Pilot.@@N@@
open Jvm Jvm.ClassFile Sem Op Lib Jvm.Free Jvm.Stand Jvm.Pilot.@@N@@.Jvm.D
/-! MADE BY PROGRAM (witnessworld.py) out of the Statement's table words and the real class files: 14 classes; the members and pool entries that the words name. The judged class is class 1, her method 2. -/
namespace start1
open Jvm.ClassFile
def u (s : String) : CpInfo := .utf8 (stringToUtf16 s)
/-- a pool by its gaps: so many unusable entries, then the entry; so many at the end -/
def gap : Nat → List CpInfo → List CpInfo
  | 0, r => r
  | n + 1, r => .unusable :: gap n r
def poolList (es : List (Nat × CpInfo)) (last : Nat) : List CpInfo := es.foldr (fun e r => gap e.1 (e.2 :: r)) (gap last [])
def pool (es : List (Nat × CpInfo)) (last : Nat) : Array CpInfo := ⟨poolList es last⟩
def fileOf (pool : Array CpInfo) (this : Nat) (attrs : Array Attribute := #[]) (ms : Array MethodInfo := #[]) (fl : Nat := 33) (sup : Nat := 0) (ifs : Array Nat := #[]) (fds : Array FieldInfo := #[]) : ClassFile where
  minorVersion := 0
  majorVersion := 65
  constantPool := pool
  accessFlags := fl
  thisClass := this
  superClass := sup
  interfaces := ifs
  fields := fds
  methods := ms
  attributes := attrs
def plain (name : String) (sup : Option ClassId) : Class where
  name := name
  kind := .ordinary
  loader := none
  accessFlags := 33
  super := sup
  interfaces := #[]
  cf := none
  fields := #[]
  methods := #[]
  instanceTypes := #[]
  staticTypes := #[]
  resolved := #[]
  callSites := []
  init := .initialized
  statics := none
  mirror := none

def pool0 : Array CpInfo := pool [(5, u "<init>"), (0, u "()V"), (1, .class_ 10), (1, u "java/lang/Object")] 113

def k0c0 : Code := { maxStack := 0, maxLocals := 1, code := object_method_1_code, exceptionTable := #[], attributes := #[] }
def k0m0 : Method := { name := "<init>", desc := "()V", sig := { parameters := [], returnType := none }, accessFlags := 1, code := some k0c0 }
/-- java/lang/Object -/
def k0 : Class := { plain "java/lang/Object" none with
  accessFlags := 33
  interfaces := #[]
  cf := some (fileOf pool0 8 #[] #[{ accessFlags := 1, nameIndex := 5, descriptorIndex := 6, attributes := #[] }] 33 0 #[] #[])
  fields := #[]
  methods := #[k0m0]
  instanceTypes := #[]
  staticTypes := #[]
  resolved := Array.replicate 124 none
  statics := none }

def pool1 : Array CpInfo := pool [(2, .class_ 4), (1, u "java/lang/Object"), (0, u "<init>"), (0, u "()V"), (0, .fieldref 8 9), (0, .class_ 10), (0, .nameAndType 11 12), (0, u "com/example/nearpath/nearpath/AddressType"), (0, u "IPV4"), (0, u "Lcom/example/nearpath/nearpath/AddressType;"), (0, .fieldref 8 14), (0, .nameAndType 15 12), (0, u "IPV6"), (0, .integer 2147483647), (0, .class_ 18), (0, u "com/example/nearpath/nearpath/Address"), (0, .methodref 17 20), (0, .nameAndType 5 21), (0, u "(Lcom/example/nearpath/nearpath/AddressType;JJ)V"), (0, .methodref 17 23), (0, .nameAndType 24 25), (0, u "masked"), (0, u "(I)Lcom/example/nearpath/nearpath/Address;"), (0, .methodref 17 27), (0, .nameAndType 28 29), (0, u "type"), (0, u "()Lcom/example/nearpath/nearpath/AddressType;"), (0, .methodref 31 32), (0, .class_ 33), (0, .nameAndType 34 35), (0, u "com/example/nearpath/nearpath/AddressMaskedPinLaw"), (0, u "bit"), (0, u "(JJI)J"), (0, .methodref 17 37), (0, .nameAndType 38 39), (0, u "high"), (0, u "()J"), (0, .methodref 17 41), (0, .nameAndType 42 39), (0, u "low"), (3, u "law"), (0, u "(IJJII)Z")] 2

def k1m0 : Method := { name := "<init>", desc := "()V", sig := { parameters := [], returnType := none }, accessFlags := 1, code := none }
def k1c1 : Code := { maxStack := 4, maxLocals := 5, code := method_2_code, exceptionTable := #[], attributes := #[] }
def k1m1 : Method := { name := "bit", desc := "(JJI)J", sig := { parameters := [.long, .long, .int], returnType := some .long }, accessFlags := 10, code := some k1c1 }
def k1c2 : Code := { maxStack := 7, maxLocals := 18, code := code, exceptionTable := #[], attributes := #[] }
def k1m2 : Method := { name := "law", desc := "(IJJII)Z", sig := { parameters := [.int, .long, .long, .int, .int], returnType := some .boolean }, accessFlags := 9, code := some k1c2 }
/-- com/example/nearpath/nearpath/AddressMaskedPinLaw -/
def k1 : Class := { plain "com/example/nearpath/nearpath/AddressMaskedPinLaw" (some 0) with
  accessFlags := 49
  interfaces := #[]
  cf := some (fileOf pool1 31 #[] #[{ accessFlags := 1, nameIndex := 5, descriptorIndex := 6, attributes := #[] }, { accessFlags := 10, nameIndex := 34, descriptorIndex := 35, attributes := #[] }, { accessFlags := 9, nameIndex := 46, descriptorIndex := 47, attributes := #[] }] 49 2 #[] #[])
  fields := #[]
  methods := #[k1m0, k1m1, k1m2]
  instanceTypes := #[]
  staticTypes := #[]
  resolved := Array.replicate 50 none
  statics := none }

def pool2 : Array CpInfo := pool [(1, .class_ 2), (0, u "java/lang/constant/Constable"), (0, .class_ 4), (0, u "java/lang/Object")] 6

/-- java/lang/constant/Constable -/
def k2 : Class := { plain "java/lang/constant/Constable" (some 0) with
  accessFlags := 1537
  interfaces := #[]
  cf := some (fileOf pool2 1 #[] #[] 1537 3 #[] #[])
  fields := #[]
  methods := #[]
  instanceTypes := #[]
  staticTypes := #[]
  resolved := Array.replicate 11 none
  statics := none }

def pool3 : Array CpInfo := pool [(1, .class_ 2), (0, u "java/lang/Comparable"), (0, .class_ 4), (0, u "java/lang/Object")] 7

/-- java/lang/Comparable -/
def k3 : Class := { plain "java/lang/Comparable" (some 0) with
  accessFlags := 1537
  interfaces := #[]
  cf := some (fileOf pool3 1 #[] #[] 1537 3 #[] #[])
  fields := #[]
  methods := #[]
  instanceTypes := #[]
  staticTypes := #[]
  resolved := Array.replicate 12 none
  statics := none }

def pool4 : Array CpInfo := pool [(1, .class_ 2), (0, u "java/io/Serializable"), (0, .class_ 4), (0, u "java/lang/Object")] 2

/-- java/io/Serializable -/
def k4 : Class := { plain "java/io/Serializable" (some 0) with
  accessFlags := 1537
  interfaces := #[]
  cf := some (fileOf pool4 1 #[] #[] 1537 3 #[] #[])
  fields := #[]
  methods := #[]
  instanceTypes := #[]
  staticTypes := #[]
  resolved := Array.replicate 7 none
  statics := none }

def pool5 : Array CpInfo := pool [(2, .class_ 4), (1, u "java/lang/Enum"), (0, u "name"), (0, u "Ljava/lang/String;"), (2, u "ordinal"), (0, u "I"), (1, .class_ 14), (1, u "java/lang/Object"), (4, u "hash"), (86, .class_ 108), (1, u "java/lang/Enum$EnumDesc"), (2, .class_ 112), (0, u "java/lang/constant/Constable"), (0, .class_ 114), (0, u "java/lang/Comparable"), (0, .class_ 116), (0, u "java/io/Serializable")] 87

/-- java/lang/Enum -/
def k5 : Class := { plain "java/lang/Enum" (some 0) with
  accessFlags := 1057
  interfaces := #[2, 3, 4]
  cf := some (fileOf pool5 2 #[.nestMembers #[106]] #[] 1057 12 #[111, 113, 115] #[{ accessFlags := 18, nameIndex := 5, descriptorIndex := 6, attributes := #[] }, { accessFlags := 18, nameIndex := 9, descriptorIndex := 10, attributes := #[] }, { accessFlags := 2, nameIndex := 19, descriptorIndex := 10, attributes := #[] }])
  fields := #[{ name := "name", type := (.object "java/lang/String"), accessFlags := 18, slot := 0, constantValue := 0 }, { name := "ordinal", type := .int, accessFlags := 18, slot := 1, constantValue := 0 }, { name := "hash", type := .int, accessFlags := 2, slot := 2, constantValue := 0 }]
  methods := #[]
  instanceTypes := #[(.object "java/lang/String"), .int, .int]
  staticTypes := #[]
  resolved := Array.replicate 204 none
  statics := none }

def pool6 : Array CpInfo := pool [(1, .class_ 2), (0, u "com/example/nearpath/nearpath/AddressType"), (2, u "IPV4"), (0, u "Lcom/example/nearpath/nearpath/AddressType;"), (2, u "IPV6"), (2, u "$VALUES"), (0, u "[Lcom/example/nearpath/nearpath/AddressType;"), (6, .class_ 22), (1, u "java/lang/Enum"), (8, u "identifier"), (0, u "Ljava/lang/String;"), (2, u "bits"), (0, u "I"), (12, u "TYPES")] 32

/-- com/example/nearpath/nearpath/AddressType -/
def k6 : Class := { plain "com/example/nearpath/nearpath/AddressType" (some 5) with
  accessFlags := 16432
  interfaces := #[]
  cf := some (fileOf pool6 1 #[] #[] 16432 20 #[] #[{ accessFlags := 16409, nameIndex := 5, descriptorIndex := 6, attributes := #[] }, { accessFlags := 16409, nameIndex := 9, descriptorIndex := 6, attributes := #[] }, { accessFlags := 26, nameIndex := 49, descriptorIndex := 13, attributes := #[] }, { accessFlags := 18, nameIndex := 31, descriptorIndex := 32, attributes := #[] }, { accessFlags := 18, nameIndex := 35, descriptorIndex := 36, attributes := #[] }, { accessFlags := 4122, nameIndex := 12, descriptorIndex := 13, attributes := #[] }])
  fields := #[{ name := "IPV4", type := (.object "com/example/nearpath/nearpath/AddressType"), accessFlags := 16409, slot := 0, constantValue := 0 }, { name := "IPV6", type := (.object "com/example/nearpath/nearpath/AddressType"), accessFlags := 16409, slot := 1, constantValue := 0 }, { name := "TYPES", type := (.array (.object "com/example/nearpath/nearpath/AddressType")), accessFlags := 26, slot := 2, constantValue := 0 }, { name := "identifier", type := (.object "java/lang/String"), accessFlags := 18, slot := 3, constantValue := 0 }, { name := "bits", type := .int, accessFlags := 18, slot := 4, constantValue := 0 }, { name := "$VALUES", type := (.array (.object "com/example/nearpath/nearpath/AddressType")), accessFlags := 4122, slot := 3, constantValue := 0 }]
  methods := #[]
  instanceTypes := #[(.object "java/lang/String"), .int, .int, (.object "java/lang/String"), .int]
  staticTypes := #[(.object "com/example/nearpath/nearpath/AddressType"), (.object "com/example/nearpath/nearpath/AddressType"), (.array (.object "com/example/nearpath/nearpath/AddressType")), (.array (.object "com/example/nearpath/nearpath/AddressType"))]
  resolved := Array.replicate 82 none
  statics := some 0 }

def pool7 : Array CpInfo := pool [(1, .methodref 2 3), (0, .class_ 4), (0, .nameAndType 5 6), (0, u "java/lang/Object"), (0, u "<init>"), (0, u "()V"), (0, .class_ 8), (0, u "java/lang/Record")] 13

def k7c0 : Code := { maxStack := 1, maxLocals := 1, code := jdk_30_method_1_code, exceptionTable := #[], attributes := #[] }
def k7m0 : Method := { name := "<init>", desc := "()V", sig := { parameters := [], returnType := none }, accessFlags := 4, code := some k7c0 }
/-- java/lang/Record -/
def k7 : Class := { plain "java/lang/Record" (some 0) with
  accessFlags := 1057
  interfaces := #[]
  cf := some (fileOf pool7 7 #[] #[{ accessFlags := 4, nameIndex := 5, descriptorIndex := 6, attributes := #[] }] 1057 2 #[] #[])
  fields := #[]
  methods := #[k7m0]
  instanceTypes := #[]
  staticTypes := #[]
  resolved := Array.replicate 22 none
  statics := none }

def pool8 : Array CpInfo := pool [(1, .methodref 2 3), (0, .class_ 4), (0, .nameAndType 5 6), (0, u "java/lang/Record"), (0, u "<init>"), (0, u "()V"), (0, .fieldref 8 9), (0, .class_ 10), (0, .nameAndType 11 12), (0, u "com/example/nearpath/nearpath/Address"), (0, u "type"), (0, u "Lcom/example/nearpath/nearpath/AddressType;"), (0, .fieldref 8 14), (0, .nameAndType 15 16), (0, u "high"), (0, u "J"), (0, .fieldref 8 18), (0, .nameAndType 19 16), (0, u "low"), (27, .methodref 8 48), (0, .nameAndType 5 49), (0, u "(Lcom/example/nearpath/nearpath/AddressType;JJ)V"), (55, .methodref 8 106), (0, .nameAndType 107 108), (0, u "highMask"), (0, u "(I)J"), (0, .methodref 8 110), (0, .nameAndType 111 108), (0, u "lowMask"), (0, .long 18446744073709551615), (39, .class_ 153), (0, u "java/lang/Comparable"), (0, u "IPV4_OCTETS"), (0, u "I"), (2, u "IPV6_GROUPS"), (1, u "HEX_DIGITS_PER_GROUP"), (0, u "GAP"), (0, u "Ljava/lang/String;"), (9, u "masked"), (0, u "(I)Lcom/example/nearpath/nearpath/Address;"), (1, u "()Lcom/example/nearpath/nearpath/AddressType;"), (0, u "()J")] 25

def k8c0 : Code := { maxStack := 3, maxLocals := 6, code := prog_1_method_1_code, exceptionTable := #[], attributes := #[] }
def k8m0 : Method := { name := "<init>", desc := "(Lcom/example/nearpath/nearpath/AddressType;JJ)V", sig := { parameters := [(.object "com/example/nearpath/nearpath/AddressType"), .long, .long], returnType := none }, accessFlags := 0, code := some k8c0 }
def k8c1 : Code := { maxStack := 9, maxLocals := 2, code := prog_1_method_8_code, exceptionTable := #[], attributes := #[] }
def k8m1 : Method := { name := "masked", desc := "(I)Lcom/example/nearpath/nearpath/Address;", sig := { parameters := [.int], returnType := some (.object "com/example/nearpath/nearpath/Address") }, accessFlags := 0, code := some k8c1 }
def k8c2 : Code := { maxStack := 4, maxLocals := 3, code := prog_1_method_9_code, exceptionTable := #[], attributes := #[] }
def k8m2 : Method := { name := "highMask", desc := "(I)J", sig := { parameters := [.int], returnType := some .long }, accessFlags := 8, code := some k8c2 }
def k8c3 : Code := { maxStack := 4, maxLocals := 1, code := prog_1_method_10_code, exceptionTable := #[], attributes := #[] }
def k8m3 : Method := { name := "lowMask", desc := "(I)J", sig := { parameters := [.int], returnType := some .long }, accessFlags := 8, code := some k8c3 }
def k8c4 : Code := { maxStack := 1, maxLocals := 1, code := prog_1_method_18_code, exceptionTable := #[], attributes := #[] }
def k8m4 : Method := { name := "type", desc := "()Lcom/example/nearpath/nearpath/AddressType;", sig := { parameters := [], returnType := some (.object "com/example/nearpath/nearpath/AddressType") }, accessFlags := 1, code := some k8c4 }
def k8c5 : Code := { maxStack := 2, maxLocals := 1, code := prog_1_method_19_code, exceptionTable := #[], attributes := #[] }
def k8m5 : Method := { name := "high", desc := "()J", sig := { parameters := [], returnType := some .long }, accessFlags := 1, code := some k8c5 }
def k8c6 : Code := { maxStack := 2, maxLocals := 1, code := prog_1_method_20_code, exceptionTable := #[], attributes := #[] }
def k8m6 : Method := { name := "low", desc := "()J", sig := { parameters := [], returnType := some .long }, accessFlags := 1, code := some k8c6 }
/-- com/example/nearpath/nearpath/Address -/
def k8 : Class := { plain "com/example/nearpath/nearpath/Address" (some 7) with
  accessFlags := 48
  interfaces := #[3]
  cf := some (fileOf pool8 8 #[] #[{ accessFlags := 0, nameIndex := 5, descriptorIndex := 49, attributes := #[] }, { accessFlags := 0, nameIndex := 172, descriptorIndex := 173, attributes := #[] }, { accessFlags := 8, nameIndex := 107, descriptorIndex := 108, attributes := #[] }, { accessFlags := 8, nameIndex := 111, descriptorIndex := 108, attributes := #[] }, { accessFlags := 1, nameIndex := 11, descriptorIndex := 175, attributes := #[] }, { accessFlags := 1, nameIndex := 15, descriptorIndex := 176, attributes := #[] }, { accessFlags := 1, nameIndex := 19, descriptorIndex := 176, attributes := #[] }] 48 2 #[152] #[{ accessFlags := 18, nameIndex := 11, descriptorIndex := 12, attributes := #[] }, { accessFlags := 18, nameIndex := 15, descriptorIndex := 16, attributes := #[] }, { accessFlags := 18, nameIndex := 19, descriptorIndex := 16, attributes := #[] }, { accessFlags := 26, nameIndex := 154, descriptorIndex := 155, attributes := #[] }, { accessFlags := 26, nameIndex := 158, descriptorIndex := 155, attributes := #[] }, { accessFlags := 26, nameIndex := 160, descriptorIndex := 155, attributes := #[] }, { accessFlags := 26, nameIndex := 161, descriptorIndex := 162, attributes := #[] }])
  fields := #[{ name := "type", type := (.object "com/example/nearpath/nearpath/AddressType"), accessFlags := 18, slot := 0, constantValue := 0 }, { name := "high", type := .long, accessFlags := 18, slot := 1, constantValue := 0 }, { name := "low", type := .long, accessFlags := 18, slot := 2, constantValue := 0 }, { name := "IPV4_OCTETS", type := .int, accessFlags := 26, slot := 0, constantValue := 0 }, { name := "IPV6_GROUPS", type := .int, accessFlags := 26, slot := 1, constantValue := 0 }, { name := "HEX_DIGITS_PER_GROUP", type := .int, accessFlags := 26, slot := 2, constantValue := 0 }, { name := "GAP", type := (.object "java/lang/String"), accessFlags := 26, slot := 3, constantValue := 0 }]
  methods := #[k8m0, k8m1, k8m2, k8m3, k8m4, k8m5, k8m6]
  instanceTypes := #[(.object "com/example/nearpath/nearpath/AddressType"), .long, .long]
  staticTypes := #[.int, .int, .int, (.object "java/lang/String")]
  resolved := Array.replicate 202 none
  statics := none }

def pool9 : Array CpInfo := pool [(1, u "java/lang/Cloneable"), (0, .class_ 1), (0, u "java/lang/Object"), (0, .class_ 3)] 3

/-- java/lang/Cloneable -/
def k9 : Class := { plain "java/lang/Cloneable" (some 0) with
  accessFlags := 1537
  interfaces := #[]
  cf := some (fileOf pool9 2 #[] #[] 1537 4 #[] #[])
  fields := #[]
  methods := #[]
  instanceTypes := #[]
  staticTypes := #[]
  resolved := Array.replicate 8 none
  statics := none }

/-- the primitive byte -/
def k10 : Class := { plain "byte" none with kind := .primitive 'B', accessFlags := 0x411 }
/-- [B -/
def k11 : Class := { plain "[B" (some 0) with kind := .array 10 .byte, interfaces := #[9, 4], accessFlags := 1041 }

/-- the primitive int -/
def k12 : Class := { plain "int" none with kind := .primitive 'I', accessFlags := 0x411 }
/-- [I -/
def k13 : Class := { plain "[I" (some 0) with kind := .array 12 .int, interfaces := #[9, 4], accessFlags := 1041 }

def heap : Heap := #[{ cls := 6, slots := #[.ref 1, .ref 2, .null, .null], vm := .statics 6 },
  { cls := 6, slots := #[.null, .int 0, .int 0, .null, .int 32], vm := .none },
  { cls := 6, slots := #[.null, .int 1, .int 0, .null, .int 128], vm := .none }]
def classes : Array Class := #[k0, k1, k2, k3, k4, k5, k6, k7, k8, k9, k10, k11, k12, k13]
def interned : List (Array UInt16 × Addr) := []
def slotsUsed : Nat := 14
def theMethod : MethodId := ⟨1, 2⟩
def args0 : Array Value := #[.int 5, .long 8, .long 9, .int 8, .int 9]
def aboutOver (below : List Frame) : State where
  vm := { classes := classes, interned := interned.toArray }
  heap := heap
  slotsUsed := slotsUsed
  threads := #[{ frames := .invoking theMethod args0 :: below }]
def below0 : List Frame := [.native { method := ⟨0, 0⟩, args := #[] }]
def about1 : State := aboutOver below0
def p0 : Program := .bare "" "" ""
def e0 : Env := launch0.env 0 0 0
theorem w_frames : about1.frames = Frame.invoking theMethod args0 :: below0 := rfl
set_option maxRecDepth 65536 in
theorem w_args : argsFit about1.vm theMethod args0 = true := by decide +kernel
set_option maxRecDepth 65536 in
theorem w_heap : heapFits about1 = true := by decide +kernel
set_option maxRecDepth 65536 in
theorem w_runnable : about1.curStatus? = some .runnable := by decide +kernel
set_option maxRecDepth 65536 in
theorem w_alone : about1.alone = true := by decide +kernel
set_option maxRecDepth 65536 in
theorem w_named : about1.methodNamed? x = some theMethod := by decide +kernel
set_option maxRecDepth 65536 in
theorem w_hears : about1.hears theMethod below0 = true := by decide +kernel
set_option maxRecDepth 65536 in
theorem w_ripe : about1.ripe theMethod args0 below0 = true := by decide +kernel
theorem w_running : about1.status = .running := rfl
set_option maxRecDepth 65536 in
theorem w_room : about1.hasRoom e0.platform room_1 = true :=
  launch0.hasRoom_least _ room_1 (by decide +kernel) (by decide +kernel) (by decide +kernel) (by decide +kernel) (by decide +kernel) (by decide +kernel)
theorem allAtoms_all (ts : List Jvm.Cond) (a : Array Jvm.Value) (st : Jvm.State) : (allAtoms ts).before a st = ts.all (fun c => c.before a st) := by
  induction ts with
  | nil => rfl
  | cons c t ih =>
    show (Jvm.Cond.and c (allAtoms t)).before a st = _
    rw [Jvm.Cond.before_and, ih, List.all_cons]
def words1 : List Jvm.Cond := Jvm.Cond.code x code maxLocals ret :: tables_1
/-- a 'code' word, met by the world's own term for the bytes: nothing is compared byte by byte -/
theorem code_word {y : MethodName} {bytes : ByteArray} {mx : Nat} {rt : Option FieldType} {a : Array Value} {s : State} {m : MethodId} {meth : Method} {c : Code} (h1 : s.methodNamed? y = some m) (h2 : s.vm.method? m = some meth) (h3 : meth.code = some c) (h4 : c.code = bytes)
    (h5 : (c.maxLocals == mx && c.exceptionTable.isEmpty && decide (c.maxStack ≤ mostOperands) && decide (meth.sig.returnType = rt) && !meth.locks && decide (parseMethodDescriptor y.desc = some meth.sig)) = true) : (Jvm.Cond.code y bytes mx rt).before a s = true := by
  simp only [Bool.and_eq_true, beq_iff_eq, Bool.not_eq_true', decide_eq_true_eq] at h5
  obtain ⟨⟨⟨⟨⟨g1, g2⟩, g3⟩, g4⟩, g5⟩, g6⟩ := h5
  simp [Cond.before, Cond.holds, Cond.value, h1, h2, h3, h4, g1, g2, g3, g4, g5, g6]
def isCode : Jvm.Cond → Bool
  | .code _ _ _ _ => true
  | _ => false
theorem all_split {L : List Jvm.Cond} {P : Jvm.Cond → Bool} (h1 : L.all (fun c => isCode c || P c) = true) (h2 : ∀ c ∈ L.filter isCode, P c = true) : L.all P = true := by
  refine List.all_eq_true.mpr fun c hc => ?_
  have h := List.all_eq_true.mp h1 c hc
  rcases Bool.eq_false_or_eq_true (isCode c) with hi | hi
  · exact h2 c (List.mem_filter.mpr ⟨hc, hi⟩)
  · simpa [hi] using h
set_option maxRecDepth 65536 in
theorem w_c0 : (Jvm.Cond.code x code maxLocals ret).before args0 about1 = true := code_word (m := ⟨1, 2⟩) (meth := k1m2) (c := k1c2) (by decide +kernel) rfl rfl rfl (by decide +kernel)
set_option maxRecDepth 65536 in
theorem w_c1 : (Jvm.Cond.code ({ cls := "com/example/nearpath/nearpath/Address", name := "<init>", desc := "(Lcom/example/nearpath/nearpath/AddressType;JJ)V" } : Jvm.MethodName) prog_1_method_1_code (6 : Nat) (Option.none : Option Jvm.ClassFile.FieldType)).before args0 about1 = true := code_word (m := ⟨8, 0⟩) (meth := k8m0) (c := k8c0) (by decide +kernel) rfl rfl rfl (by decide +kernel)
set_option maxRecDepth 65536 in
theorem w_c2 : (Jvm.Cond.code ({ cls := "java/lang/Record", name := "<init>", desc := "()V" } : Jvm.MethodName) jdk_30_method_1_code (1 : Nat) (Option.none : Option Jvm.ClassFile.FieldType)).before args0 about1 = true := code_word (m := ⟨7, 0⟩) (meth := k7m0) (c := k7c0) (by decide +kernel) rfl rfl rfl (by decide +kernel)
set_option maxRecDepth 65536 in
theorem w_c3 : (Jvm.Cond.code ({ cls := "java/lang/Object", name := "<init>", desc := "()V" } : Jvm.MethodName) object_method_1_code (1 : Nat) (Option.none : Option Jvm.ClassFile.FieldType)).before args0 about1 = true := code_word (m := ⟨0, 0⟩) (meth := k0m0) (c := k0c0) (by decide +kernel) rfl rfl rfl (by decide +kernel)
set_option maxRecDepth 65536 in
theorem w_c4 : (Jvm.Cond.code ({ cls := "com/example/nearpath/nearpath/Address", name := "masked", desc := "(I)Lcom/example/nearpath/nearpath/Address;" } : Jvm.MethodName) prog_1_method_8_code (2 : Nat) (Option.some (Jvm.ClassFile.FieldType.object "com/example/nearpath/nearpath/Address"))).before args0 about1 = true := code_word (m := ⟨8, 1⟩) (meth := k8m1) (c := k8c1) (by decide +kernel) rfl rfl rfl (by decide +kernel)
set_option maxRecDepth 65536 in
theorem w_c5 : (Jvm.Cond.code ({ cls := "com/example/nearpath/nearpath/Address", name := "highMask", desc := "(I)J" } : Jvm.MethodName) prog_1_method_9_code (3 : Nat) (Option.some Jvm.ClassFile.FieldType.long)).before args0 about1 = true := code_word (m := ⟨8, 2⟩) (meth := k8m2) (c := k8c2) (by decide +kernel) rfl rfl rfl (by decide +kernel)
set_option maxRecDepth 65536 in
theorem w_c6 : (Jvm.Cond.code ({ cls := "com/example/nearpath/nearpath/Address", name := "lowMask", desc := "(I)J" } : Jvm.MethodName) prog_1_method_10_code (1 : Nat) (Option.some Jvm.ClassFile.FieldType.long)).before args0 about1 = true := code_word (m := ⟨8, 3⟩) (meth := k8m3) (c := k8c3) (by decide +kernel) rfl rfl rfl (by decide +kernel)
set_option maxRecDepth 65536 in
theorem w_c7 : (Jvm.Cond.code ({ cls := "com/example/nearpath/nearpath/Address", name := "type", desc := "()Lcom/example/nearpath/nearpath/AddressType;" } : Jvm.MethodName) prog_1_method_18_code (1 : Nat) (Option.some (Jvm.ClassFile.FieldType.object "com/example/nearpath/nearpath/AddressType"))).before args0 about1 = true := code_word (m := ⟨8, 4⟩) (meth := k8m4) (c := k8c4) (by decide +kernel) rfl rfl rfl (by decide +kernel)
set_option maxRecDepth 65536 in
theorem w_c8 : (Jvm.Cond.code ({ cls := "com/example/nearpath/nearpath/AddressMaskedPinLaw", name := "bit", desc := "(JJI)J" } : Jvm.MethodName) method_2_code (5 : Nat) (Option.some Jvm.ClassFile.FieldType.long)).before args0 about1 = true := code_word (m := ⟨1, 1⟩) (meth := k1m1) (c := k1c1) (by decide +kernel) rfl rfl rfl (by decide +kernel)
set_option maxRecDepth 65536 in
theorem w_c9 : (Jvm.Cond.code ({ cls := "com/example/nearpath/nearpath/Address", name := "high", desc := "()J" } : Jvm.MethodName) prog_1_method_19_code (1 : Nat) (Option.some Jvm.ClassFile.FieldType.long)).before args0 about1 = true := code_word (m := ⟨8, 5⟩) (meth := k8m5) (c := k8c5) (by decide +kernel) rfl rfl rfl (by decide +kernel)
set_option maxRecDepth 65536 in
theorem w_c10 : (Jvm.Cond.code ({ cls := "com/example/nearpath/nearpath/Address", name := "low", desc := "()J" } : Jvm.MethodName) prog_1_method_20_code (1 : Nat) (Option.some Jvm.ClassFile.FieldType.long)).before args0 about1 = true := code_word (m := ⟨8, 6⟩) (meth := k8m6) (c := k8c6) (by decide +kernel) rfl rfl rfl (by decide +kernel)
def codes1 : List Jvm.Cond := [Jvm.Cond.code x code maxLocals ret, Jvm.Cond.code ({ cls := "com/example/nearpath/nearpath/Address", name := "<init>", desc := "(Lcom/example/nearpath/nearpath/AddressType;JJ)V" } : Jvm.MethodName) prog_1_method_1_code (6 : Nat) (Option.none : Option Jvm.ClassFile.FieldType), Jvm.Cond.code ({ cls := "java/lang/Record", name := "<init>", desc := "()V" } : Jvm.MethodName) jdk_30_method_1_code (1 : Nat) (Option.none : Option Jvm.ClassFile.FieldType), Jvm.Cond.code ({ cls := "java/lang/Object", name := "<init>", desc := "()V" } : Jvm.MethodName) object_method_1_code (1 : Nat) (Option.none : Option Jvm.ClassFile.FieldType), Jvm.Cond.code ({ cls := "com/example/nearpath/nearpath/Address", name := "masked", desc := "(I)Lcom/example/nearpath/nearpath/Address;" } : Jvm.MethodName) prog_1_method_8_code (2 : Nat) (Option.some (Jvm.ClassFile.FieldType.object "com/example/nearpath/nearpath/Address")), Jvm.Cond.code ({ cls := "com/example/nearpath/nearpath/Address", name := "highMask", desc := "(I)J" } : Jvm.MethodName) prog_1_method_9_code (3 : Nat) (Option.some Jvm.ClassFile.FieldType.long), Jvm.Cond.code ({ cls := "com/example/nearpath/nearpath/Address", name := "lowMask", desc := "(I)J" } : Jvm.MethodName) prog_1_method_10_code (1 : Nat) (Option.some Jvm.ClassFile.FieldType.long), Jvm.Cond.code ({ cls := "com/example/nearpath/nearpath/Address", name := "type", desc := "()Lcom/example/nearpath/nearpath/AddressType;" } : Jvm.MethodName) prog_1_method_18_code (1 : Nat) (Option.some (Jvm.ClassFile.FieldType.object "com/example/nearpath/nearpath/AddressType")), Jvm.Cond.code ({ cls := "com/example/nearpath/nearpath/AddressMaskedPinLaw", name := "bit", desc := "(JJI)J" } : Jvm.MethodName) method_2_code (5 : Nat) (Option.some Jvm.ClassFile.FieldType.long), Jvm.Cond.code ({ cls := "com/example/nearpath/nearpath/Address", name := "high", desc := "()J" } : Jvm.MethodName) prog_1_method_19_code (1 : Nat) (Option.some Jvm.ClassFile.FieldType.long), Jvm.Cond.code ({ cls := "com/example/nearpath/nearpath/Address", name := "low", desc := "()J" } : Jvm.MethodName) prog_1_method_20_code (1 : Nat) (Option.some Jvm.ClassFile.FieldType.long)]
set_option maxRecDepth 65536 in
theorem codes_eq : words1.filter isCode = codes1 := rfl
theorem w_codes : ∀ c ∈ words1.filter isCode, c.before args0 about1 = true := by
  rw [codes_eq]
  intro c hc
  simp only [codes1, List.mem_cons, List.not_mem_nil, or_false] at hc
  rcases hc with rfl | rfl | rfl | rfl | rfl | rfl | rfl | rfl | rfl | rfl | rfl
  · exact w_c0
  · exact w_c1
  · exact w_c2
  · exact w_c3
  · exact w_c4
  · exact w_c5
  · exact w_c6
  · exact w_c7
  · exact w_c8
  · exact w_c9
  · exact w_c10
set_option maxRecDepth 65536 in
theorem w_t1 : (words1.take 24).all (fun c => isCode c || c.before args0 about1) = true := by decide +kernel
set_option maxRecDepth 65536 in
theorem w_t2 : ((words1.drop 24).take 24).all (fun c => isCode c || c.before args0 about1) = true := by decide +kernel
set_option maxRecDepth 65536 in
theorem w_t3 : ((words1.drop 24).drop 24).all (fun c => isCode c || c.before args0 about1) = true := by decide +kernel
theorem w_tables : (allAtoms (Jvm.Cond.code x code maxLocals ret :: tables_1)).before args0 about1 = true := by
  rw [allAtoms_all]
  show words1.all (fun c => c.before args0 about1) = true
  refine all_split ?_ w_codes
  rw [← List.take_append_drop 24 words1, List.all_append, w_t1, ← List.take_append_drop 24 (words1.drop 24), List.all_append, w_t2, w_t3]
  rfl
set_option maxRecDepth 65536 in
theorem w_case : (Jvm.Cond.and given_1 narrow_1).before args0 about1 = true := by decide +kernel
theorem w_applies : (headSpec (Jvm.Cond.code x code maxLocals ret :: tables_1) room_1).applies x e0.platform about1 = true :=
  (Spec.applies_iff w_frames).mpr ⟨w_running, w_runnable, w_alone, w_named, w_hears, w_ripe, w_room, w_tables⟩
theorem atStart : AtStart classFile x code maxLocals ret World_1 tables_1 room_1 Calls_1 rest_1 Pre_1 launch0 p0 e0 about1 theMethod args0 below0 :=
  ⟨lists_1, trivial, launch0.admits_env _ _ _, launch0.least_env, fairChoices_fair.cas, fairChoices_fair.clock, w_frames, w_args, w_heap, w_applies, trivial, trivial, w_case⟩
end start1
theorem witness_1 : WitnessClaimed_1 := ⟨start1.p0, start1.e0, start1.about1, start1.theMethod, start1.args0, start1.below0, start1.atStart⟩
end Jvm.Pilot.@@N@@
